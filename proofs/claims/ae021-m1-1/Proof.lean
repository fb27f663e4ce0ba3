import JvmDerived
import JvmDerived.Pilot.@@N@@Statement
import JvmDerived.Pilot.@@N@@Code
set_option linter.unusedVariables false
set_option linter.unusedSimpArgs false
/-! OWN FRAMEWORK, part 1: a walk as one predicate 'Go' (the machine's state hidden), contracts 'Met'. -/
namespace Jvm.Pilot.@@N@@
namespace Own
open Jvm Jvm.ClassFile Sem Op Lib Jvm.Free Jvm.Stand Jvm.LawKit Jvm.RoadKit
/-- what one run of a body fixes: program, env, start, method id, arguments, frames below, method, code -/
abbrev Cx := Program × Env × State × MethodId × Array Value × List Frame × Method × Code
abbrev QT := Option Value → Heap → List Addr → Prop
/-- the words of the sheet, of the start Z -/
def Wd (Z : State) (a0 : Array Value) : Prop := (∀ d ∈ tables_1, d.before a0 Z = true) ∧ EW Z a0 consts_1 ∧ (∀ a ∈ Bundle.stringAtoms, a.before a0 Z = true) ∧ (∃ cz : Int32, Sta Z Z.heap "java/lang/String" "COMPACT_STRINGS" "Z" (.int cz) ∧ ¬ cz = 0) ∧ (∃ fm : Value, Sta Z Z.heap "jdk/internal/util/Preconditions" "SIOOBE_FORMATTER" "Ljava/util/function/BiFunction;" fm ∧ fm.isRef = true) ∧ (∀ d ∈ jdkStatics_1, d.before a0 Z = true)
/-- made since the law began, and no cell of a booked literal -/
def Mine (Z : State) (vm : Vm) (h : Heap) (x : Addr) : Prop := Z.heap.size ≤ x ∧ x < h.size ∧ Safe Z consts_1 vm h x
def St (l : Launch) (Z : State) (K : Cx) (own mn : String) (b : ByteArray) (ml : Nat) (rt : Option FieldType) (R : Room) (T : State) (h : Heap) (F : List Addr) (c s : Nat) : Prop :=
  ∃ (vm : Vm) (k : Nat) (locs : List Loc), Stand K.1 l K.2.1 R (K.2.2.1.setVm vm) K.2.2.2.1 K.2.2.2.2.1 K.2.2.2.2.2.1 K.2.2.2.2.2.2.1 K.2.2.2.2.2.2.2 T locs c s ∧ T.heap = h ∧
    K.2.2.1.Since vm k ∧ k ≤ h.size ∧ Z.Warmed39 vm ∧ vm.findClass own = some K.2.2.2.1.cls ∧ Fr Z.heap.size locs ∧ CHr Z consts_1 K.2.2.1.vm K.2.2.1.heap vm h ∧ (∀ x ∈ F, Mine Z vm h x) ∧ Old Z Z.heap.size h ∧
    K.1.tables.exec = Jvm.exec ∧ K.2.2.2.2.2.2.2.code = b ∧ K.2.2.2.2.2.2.2.maxLocals = ml ∧ K.2.2.2.2.2.2.1.sig.returnType = rt ∧ K.2.2.2.2.2.2.1.name = mn ∧ K.2.2.2.2.2.2.1.locks = false
def End (Z : State) (s : State) (R : Room) (Q : QT) (o : Outcome) (U : State) : Prop :=
  ∃ v L G, o = .returned v ∧ Q v U.heap G ∧ Fr Z.heap.size L ∧ (∀ x ∈ G, Mine Z U.vm U.heap x) ∧ CHr Z consts_1 s.vm s.heap U.vm U.heap ∧ Old Z Z.heap.size U.heap ∧ ReturnedEndW s o U L R.cells R.slots
def Go (l : Launch) (Z : State) (K : Cx) (own mn : String) (b : ByteArray) (ml : Nat) (rt : Option FieldType) (R : Room) (Q : QT) (h : Heap) (F : List Addr) (c s : Nat) (pc : Nat) (L : Array Slot) (S : List Value) : Prop :=
  ∀ T, St l Z K own mn b ml rt R T h F c s → ∃ s₂ o, Steps K.1.tables K.2.1 K.2.2.2.2.2.1 (T.setTop (mkF K.2.2.2.1 pc L S)) s₂ ∧ s₂.status = .running ∧ Ended s₂ K.2.2.2.2.2.1 o ∧ End Z K.2.2.1 R Q o s₂
/-- a body's contract -/
def Met (l : Launch) (Z : State) (y : MethodName) (b : ByteArray) (ml : Nat) (rt : Option FieldType) (R : Room) (h0 : Heap) (F : List Addr) (as : Array Value) (Q : QT) : Prop :=
  MetFree l y (head1 [Cond.code y b ml rt] R) (fun a U => a = as ∧ Z.Warmed39 U.vm ∧ U.heap = h0 ∧ CHv Z consts_1 U.vm h0 ∧ (∀ x ∈ F, Mine Z U.vm h0 x) ∧ Old Z Z.heap.size h0) (fun _ _ _ _ _ => True) (fun _ U o U' => End Z U R Q o U')
section G
variable {l : Launch} {Z : State} {a0 : Array Value} {K : Cx} {own mn : String} {b : ByteArray} {ml : Nat} {rt : Option FieldType} {R : Room} {Q : QT} {h h' : Heap} {F : List Addr} {c s pc q : Nat} {L L' : Array Slot} {S S' : List Value}
theorem Met.mk {y : MethodName} {as : Array Value} (hp : plainFor y = true) (he : ∀ m, entryFrame m as ml = mkF m 0 L []) (w : ∀ K, Go l Z K y.cls y.name b ml rt R Q h F 0 0 0 L []) : Met l Z y b ml rt R h F as Q := by
  refine MetFree.of_bodySF hp hisR ?_
  intro p e s m args below meth c s₁ Bd hml hP hK
  obtain ⟨rfl, hZ, hh, hC, hF, hO⟩ := hP
  have hst : s₁.heap = h := by rw [← hh, Bd.state]; rfl
  have X0 : Stand p l e R s m args below meth c s₁ [] 0 0 := Stand.of_body Bd
  obtain ⟨s₂, o, h1, h2, h3, h4⟩ := w (p, e, s, m, args, below, meth, c) s₁ ⟨s.vm, 0, [], X0, hst, ⟨State.Warmed39.refl _, (State.WarmedH.refl s).no_new_pair _⟩, Nat.zero_le _, hZ, findClass_of_methodNamed Bd.named, Fr.nil _, by
    show CHr Z consts_1 s.vm s.heap s.vm h
    rw [hh]; exact CHr.refl hC, hF, hO, Bd.exec, Bd.bytes, hml, Bd.returns, (name_of_methodNamed Bd.named Bd.method).1, Bd.notSynchronized⟩
  exact ⟨s₂, o, by rw [he]; exact h1, h2, h3, h4⟩
/-- the law's own contract, over the sheet's words -/
def MetL (l : Launch) (Z : State) (y : MethodName) (b : ByteArray) (ml : Nat) (rt : Option FieldType) (R : Room) (h0 : Heap) (F : List Addr) (as : Array Value) (Q : QT) : Prop :=
  MetFree l y (head1 (Cond.code y b ml rt :: tables_1) R) (fun a U => a = as ∧ Z.Warmed39 U.vm ∧ U.heap = h0 ∧ CHv Z consts_1 U.vm h0 ∧ (∀ x ∈ F, Mine Z U.vm h0 x) ∧ Old Z Z.heap.size h0) (fun _ _ _ _ _ => True) (fun _ U o U' => End Z U R Q o U')
theorem MetL.mk {y : MethodName} {as : Array Value} (hp : plainFor y = true) (he : ∀ m, entryFrame m as ml = mkF m 0 L []) (w : ∀ K, Go l Z K y.cls y.name b ml rt R Q h F 0 0 0 L []) : MetL l Z y b ml rt R h F as Q := by
  refine MetFree.of_bodySF hp hisR ?_
  intro p e s m args below meth c s₁ Bd hml hP hK
  obtain ⟨rfl, hZ, hh, hC, hF, hO⟩ := hP
  have hst : s₁.heap = h := by rw [← hh, Bd.state]; rfl
  have X0 : Stand p l e R s m args below meth c s₁ [] 0 0 := Stand.of_body Bd
  obtain ⟨s₂, o, h1, h2, h3, h4⟩ := w (p, e, s, m, args, below, meth, c) s₁ ⟨s.vm, 0, [], X0, hst, ⟨State.Warmed39.refl _, (State.WarmedH.refl s).no_new_pair _⟩, Nat.zero_le _, hZ, findClass_of_methodNamed Bd.named, Fr.nil _, by
    show CHr Z consts_1 s.vm s.heap s.vm h
    rw [hh]; exact CHr.refl hC, hF, hO, Bd.exec, Bd.bytes, hml, Bd.returns, (name_of_methodNamed Bd.named Bd.method).1, Bd.notSynchronized⟩
  exact ⟨s₂, o, by rw [he]; exact h1, h2, h3, h4⟩
theorem go_of (st : ∀ T, St l Z K own mn b ml rt R T h F c s → ∀ t, Steps K.1.tables K.2.1 K.2.2.2.2.2.1 (T.setTop (mkF K.2.2.2.1 q L' S')) t → Steps K.1.tables K.2.1 K.2.2.2.2.2.1 (T.setTop (mkF K.2.2.2.1 pc L S)) t)
    (n : Go l Z K own mn b ml rt R Q h F c s q L' S') : Go l Z K own mn b ml rt R Q h F c s pc L S := fun T X => by
  obtain ⟨s₂, o, a, r⟩ := n T X
  exact ⟨s₂, o, st T X _ a, r⟩
/-- the facts at hand may be fewer; the counts higher -/
theorem go_less {F' : List Addr} {c' s' : Nat} (hF : ∀ x ∈ F', x ∈ F) (hc : c ≤ c') (hs : s ≤ s') (n : Go l Z K own mn b ml rt R Q h F' c' s' pc L S) : Go l Z K own mn b ml rt R Q h F c s pc L S := fun T X => by
  obtain ⟨vm, k, locs, Y, r1, r2, r3, r4, r5, r6, r7, r8, r9⟩ := X
  exact n T ⟨vm, k, locs, Y.mono hc hs, r1, r2, r3, r4, r5, r6, r7, fun x hx => r8 x (hF x hx), r9⟩
/-- an object of a class of its own, made since the law began, may be written -/
theorem go_claim {x : Addr} {C : String} (E : Exa Z h x C) (hC : C ≠ "java/lang/String" ∧ C ≠ "[B") (hx : Z.heap.size ≤ x) (n : Go l Z K own mn b ml rt R Q h (x :: F) c s pc L S) : Go l Z K own mn b ml rt R Q h F c s pc L S := fun T X => by
  obtain ⟨vm, k, locs, Y, r1, r2, r3, r4, r5, r6, r7, r8, r9⟩ := X
  exact n T ⟨vm, k, locs, Y, r1, r2, r3, r4, r5, r6, r7, allS ⟨hx, E.lt, Safe.exa r4.alike E hC.1 hC.2⟩ r8, r9⟩
theorem go_claimA {x : Addr} {k : ClassId} {ty : FieldType} {z : Int32} {vs : List Value} {dv : Value} (E : Arv Z h x k ty z vs dv) (hC : ty ≠ .byte) (hx : Z.heap.size ≤ x) (n : Go l Z K own mn b ml rt R Q h (x :: F) c s pc L S) : Go l Z K own mn b ml rt R Q h F c s pc L S := fun T X => by
  obtain ⟨vm, k, locs, Y, r1, r2, r3, r4, r5, r6, r7, r8, r9⟩ := X
  obtain ⟨cl, A, -⟩ := id E
  exact n T ⟨vm, k, locs, Y, r1, r2, r3, r4, r5, r6, r7, allS ⟨hx, E.lt, Safe.arr r4.alike A hC⟩ r8, r9⟩
/-- what is mine lies in the heap and above the start -/
theorem go_mine (n : (∀ x ∈ F, Z.heap.size ≤ x ∧ x < h.size) → Old Z Z.heap.size h → Go l Z K own mn b ml rt R Q h F c s pc L S) : Go l Z K own mn b ml rt R Q h F c s pc L S := fun T X => by
  obtain ⟨vm, k, locs, Y, r1, r2, r3, r4, r5, r6, r7, r8, r9⟩ := id X
  exact n (fun x hx => ⟨(r8 x hx).1, (r8 x hx).2.1⟩) r9.1 T X
/-! ### the plain steps -/
theorem go_aloadN {k : Fin 4} {v : Value} (hd : decode b pc = .ok (.aload_n k, 1)) (hl : L[k.val]? = some (.val v)) (hv : v.isRef = true) (hq : pc + 1 = q) (n : Go l Z K own mn b ml rt R Q h F c s q L (v :: S)) : Go l Z K own mn b ml rt R Q h F c s pc L S := by
  subst hq; exact go_of (fun T X t st => by obtain ⟨vm, k, locs, Y, r1, r2, r3, r4, r5, r6, r7, r8, r9, hx, hb', r⟩ := X; exact XS.aloadN Y.here hx rfl (hb hb' hd) hl hv st) n
theorem go_aload {k : Nat} {v : Value} (hd : decode b pc = .ok (.aload k, 2)) (hl : L[k]? = some (.val v)) (hv : v.isRef = true) (hq : pc + 2 = q) (n : Go l Z K own mn b ml rt R Q h F c s q L (v :: S)) : Go l Z K own mn b ml rt R Q h F c s pc L S := by
  subst hq; exact go_of (fun T X t st => by obtain ⟨vm, k, locs, Y, r1, r2, r3, r4, r5, r6, r7, r8, r9, hx, hb', r⟩ := X; exact XS.aload Y.here hx rfl (hb hb' hd) hl hv st) n
theorem go_iloadN {k : Fin 4} {v : Int32} (hd : decode b pc = .ok (.iload_n k, 1)) (hl : L[k.val]? = some (.val (.int v))) (hq : pc + 1 = q) (n : Go l Z K own mn b ml rt R Q h F c s q L (.int v :: S)) : Go l Z K own mn b ml rt R Q h F c s pc L S := by
  subst hq; exact go_of (fun T X t st => by obtain ⟨vm, k, locs, Y, r1, r2, r3, r4, r5, r6, r7, r8, r9, hx, hb', r⟩ := X; exact XS.iloadN Y.here hx rfl (hb hb' hd) hl st) n
theorem go_iload {k : Nat} {v : Int32} (hd : decode b pc = .ok (.iload k, 2)) (hl : L[k]? = some (.val (.int v))) (hq : pc + 2 = q) (n : Go l Z K own mn b ml rt R Q h F c s q L (.int v :: S)) : Go l Z K own mn b ml rt R Q h F c s pc L S := by
  subst hq; exact go_of (fun T X t st => by obtain ⟨vm, k, locs, Y, r1, r2, r3, r4, r5, r6, r7, r8, r9, hx, hb', r⟩ := X; exact XS.iload Y.here hx rfl (hb hb' hd) hl st) n
theorem go_lloadN {k : Fin 4} {v : Int64} (hd : decode b pc = .ok (.lload_n k, 1)) (hl : L[k.val]? = some (.val (.long v))) (hq : pc + 1 = q) (n : Go l Z K own mn b ml rt R Q h F c s q L (.long v :: S)) : Go l Z K own mn b ml rt R Q h F c s pc L S := by
  subst hq; exact go_of (fun T X t st => by obtain ⟨vm, k, locs, Y, r1, r2, r3, r4, r5, r6, r7, r8, r9, hx, hb', r⟩ := X; exact XS.lloadN Y.here hx rfl (hb hb' hd) hl st) n
theorem go_lload {k : Nat} {v : Int64} (hd : decode b pc = .ok (.lload k, 2)) (hl : L[k]? = some (.val (.long v))) (hq : pc + 2 = q) (n : Go l Z K own mn b ml rt R Q h F c s q L (.long v :: S)) : Go l Z K own mn b ml rt R Q h F c s pc L S := by
  subst hq; exact go_of (fun T X t st => by obtain ⟨vm, k, locs, Y, r1, r2, r3, r4, r5, r6, r7, r8, r9, hx, hb', r⟩ := X; exact XS.lload Y.here hx rfl (hb hb' hd) hl st) n
theorem go_iconst {i : Int} {x : Int32} (hd : decode b pc = .ok (.iconst i, 1)) (hv : Int32.ofInt i = x) (hq : pc + 1 = q) (n : Go l Z K own mn b ml rt R Q h F c s q L (.int x :: S)) : Go l Z K own mn b ml rt R Q h F c s pc L S := by
  subst hq hv; exact go_of (fun T X t st => by obtain ⟨vm, k, locs, Y, r1, r2, r3, r4, r5, r6, r7, r8, r9, hx, hb', r⟩ := X; exact XS.iconst Y.here hx rfl (hb hb' hd) st) n
theorem go_bipush {i : Int} {x : Int32} (hd : decode b pc = .ok (.bipush i, 2)) (hv : (Int8.ofInt i).toInt32 = x) (hq : pc + 2 = q) (n : Go l Z K own mn b ml rt R Q h F c s q L (.int x :: S)) : Go l Z K own mn b ml rt R Q h F c s pc L S := by
  subst hq hv; exact go_of (fun T X t st => by obtain ⟨vm, k, locs, Y, r1, r2, r3, r4, r5, r6, r7, r8, r9, hx, hb', r⟩ := X; exact XS.bipush Y.here hx rfl (hb hb' hd) st) n
theorem go_sipush {i : Int} {x : Int32} (hd : decode b pc = .ok (.sipush i, 3)) (hv : (Int16.ofInt i).toInt32 = x) (hq : pc + 3 = q) (n : Go l Z K own mn b ml rt R Q h F c s q L (.int x :: S)) : Go l Z K own mn b ml rt R Q h F c s pc L S := by
  subst hq hv; exact go_of (fun T X t st => by obtain ⟨vm, k, locs, Y, r1, r2, r3, r4, r5, r6, r7, r8, r9, hx, hb', r⟩ := X; exact XS.sipush Y.here hx rfl (hb hb' hd) st) n
theorem go_lconst {k : Fin 2} {x : Int64} (hd : decode b pc = .ok (.lconst k, 1)) (hv : Int64.ofNat k = x) (hq : pc + 1 = q) (n : Go l Z K own mn b ml rt R Q h F c s q L (.long x :: S)) : Go l Z K own mn b ml rt R Q h F c s pc L S := by
  subst hq hv; exact go_of (fun T X t st => by obtain ⟨vm, k, locs, Y, r1, r2, r3, r4, r5, r6, r7, r8, r9, hx, hb', r⟩ := X; exact XS.lconst Y.here hx rfl (hb hb' hd) st) n
theorem go_null (hd : decode b pc = .ok (.aconst_null, 1)) (hq : pc + 1 = q) (n : Go l Z K own mn b ml rt R Q h F c s q L (.null :: S)) : Go l Z K own mn b ml rt R Q h F c s pc L S := by
  subst hq; exact go_of (fun T X t st => by obtain ⟨vm, k, locs, Y, r1, r2, r3, r4, r5, r6, r7, r8, r9, hx, hb', r⟩ := X; exact XS.aconstNull Y.here hx rfl (hb hb' hd) st) n
theorem go_iadd {x : Int32} {y : Int32} {r : Int32} (hd : decode b pc = .ok (.iadd, 1)) (hr : x + y = r) (hq : pc + 1 = q) (n : Go l Z K own mn b ml rt R Q h F c s q L (.int r :: S)) : Go l Z K own mn b ml rt R Q h F c s pc L (.int y :: .int x :: S) := by
  subst hq hr; exact go_of (fun T X t st => by obtain ⟨vm, k, locs, Y, r1, r2, r3, r4, r5, r6, r7, r8, r9, hx, hb', rr⟩ := X; exact XS.iadd Y.here hx rfl (hb hb' hd) rfl st) n
theorem go_isub {x : Int32} {y : Int32} {r : Int32} (hd : decode b pc = .ok (.isub, 1)) (hr : x - y = r) (hq : pc + 1 = q) (n : Go l Z K own mn b ml rt R Q h F c s q L (.int r :: S)) : Go l Z K own mn b ml rt R Q h F c s pc L (.int y :: .int x :: S) := by
  subst hq hr; exact go_of (fun T X t st => by obtain ⟨vm, k, locs, Y, r1, r2, r3, r4, r5, r6, r7, r8, r9, hx, hb', rr⟩ := X; exact XS.isub Y.here hx rfl (hb hb' hd) rfl st) n
theorem go_iand {x : Int32} {y : Int32} {r : Int32} (hd : decode b pc = .ok (.iand, 1)) (hr : x &&& y = r) (hq : pc + 1 = q) (n : Go l Z K own mn b ml rt R Q h F c s q L (.int r :: S)) : Go l Z K own mn b ml rt R Q h F c s pc L (.int y :: .int x :: S) := by
  subst hq hr; exact go_of (fun T X t st => by obtain ⟨vm, k, locs, Y, r1, r2, r3, r4, r5, r6, r7, r8, r9, hx, hb', rr⟩ := X; exact XS.iand Y.here hx rfl (hb hb' hd) rfl st) n
theorem go_imul {x : Int32} {y : Int32} {r : Int32} (hd : decode b pc = .ok (.imul, 1)) (hr : x * y = r) (hq : pc + 1 = q) (n : Go l Z K own mn b ml rt R Q h F c s q L (.int r :: S)) : Go l Z K own mn b ml rt R Q h F c s pc L (.int y :: .int x :: S) := by
  subst hq hr; exact go_of (fun T X t st => by obtain ⟨vm, k, locs, Y, r1, r2, r3, r4, r5, r6, r7, r8, r9, hx, hb', rr⟩ := X; exact XS.imul Y.here hx rfl (hb hb' hd) rfl st) n
theorem go_ixor {x : Int32} {y : Int32} {r : Int32} (hd : decode b pc = .ok (.ixor, 1)) (hr : x ^^^ y = r) (hq : pc + 1 = q) (n : Go l Z K own mn b ml rt R Q h F c s q L (.int r :: S)) : Go l Z K own mn b ml rt R Q h F c s pc L (.int y :: .int x :: S) := by
  subst hq hr; exact go_of (fun T X t st => by obtain ⟨vm, k, locs, Y, r1, r2, r3, r4, r5, r6, r7, r8, r9, hx, hb', rr⟩ := X; exact XT.ixor Y.here hx rfl (hb hb' hd) rfl st) n
theorem go_ior {x : Int32} {y : Int32} {r : Int32} (hd : decode b pc = .ok (.ior, 1)) (hr : x ||| y = r) (hq : pc + 1 = q) (n : Go l Z K own mn b ml rt R Q h F c s q L (.int r :: S)) : Go l Z K own mn b ml rt R Q h F c s pc L (.int y :: .int x :: S) := by
  subst hq hr; exact go_of (fun T X t st => by obtain ⟨vm, k, locs, Y, r1, r2, r3, r4, r5, r6, r7, r8, r9, hx, hb', rr⟩ := X; exact XT.ior Y.here hx rfl (hb hb' hd) rfl st) n
theorem go_ishl {x : Int32} {y : Int32} {r : Int32} (hd : decode b pc = .ok (.ishl, 1)) (hr : x <<< (y &&& 31) = r) (hq : pc + 1 = q) (n : Go l Z K own mn b ml rt R Q h F c s q L (.int r :: S)) : Go l Z K own mn b ml rt R Q h F c s pc L (.int y :: .int x :: S) := by
  subst hq hr; exact go_of (fun T X t st => by obtain ⟨vm, k, locs, Y, r1, r2, r3, r4, r5, r6, r7, r8, r9, hx, hb', rr⟩ := X; exact XT.ishl Y.here hx rfl (hb hb' hd) rfl st) n
theorem go_ishr {x : Int32} {y : Int32} {r : Int32} (hd : decode b pc = .ok (.ishr, 1)) (hr : x >>> (y &&& 31) = r) (hq : pc + 1 = q) (n : Go l Z K own mn b ml rt R Q h F c s q L (.int r :: S)) : Go l Z K own mn b ml rt R Q h F c s pc L (.int y :: .int x :: S) := by
  subst hq hr; exact go_of (fun T X t st => by obtain ⟨vm, k, locs, Y, r1, r2, r3, r4, r5, r6, r7, r8, r9, hx, hb', rr⟩ := X; exact XT.ishr Y.here hx rfl (hb hb' hd) rfl st) n
theorem go_iushr {x : Int32} {y : Int32} {r : Int32} (hd : decode b pc = .ok (.iushr, 1)) (hr : XT.ushr x y = r) (hq : pc + 1 = q) (n : Go l Z K own mn b ml rt R Q h F c s q L (.int r :: S)) : Go l Z K own mn b ml rt R Q h F c s pc L (.int y :: .int x :: S) := by
  subst hq hr; exact go_of (fun T X t st => by obtain ⟨vm, k, locs, Y, r1, r2, r3, r4, r5, r6, r7, r8, r9, hx, hb', rr⟩ := X; exact XT.iushr Y.here hx rfl (hb hb' hd) rfl st) n
theorem go_idiv {x : Int32} {y : Int32} {r : Int32} (hd : decode b pc = .ok (.idiv, 1)) (hy : y ≠ 0) (hr : x / y = r) (hq : pc + 1 = q) (n : Go l Z K own mn b ml rt R Q h F c s q L (.int r :: S)) : Go l Z K own mn b ml rt R Q h F c s pc L (.int y :: .int x :: S) := by
  subst hq hr; exact go_of (fun T X t st => by obtain ⟨vm, k, locs, Y, r1, r2, r3, r4, r5, r6, r7, r8, r9, hx, hb', rr⟩ := X; exact XS.idiv Y.here hx rfl (hb hb' hd) rfl hy st) n
theorem go_irem0 {x : Int32} {y : Int32} {r : Int32} (hd : decode b pc = .ok (.irem, 1)) (hy : y ≠ 0) (hr : x - (x / y) * y = r) (hq : pc + 1 = q) (n : Go l Z K own mn b ml rt R Q h F c s q L (.int r :: S)) : Go l Z K own mn b ml rt R Q h F c s pc L (.int y :: .int x :: S) := by
  subst hq hr; exact go_of (fun T X t st => by obtain ⟨vm, k, locs, Y, r1, r2, r3, r4, r5, r6, r7, r8, r9, hx, hb', rr⟩ := X; exact XS.irem Y.here hx rfl (hb hb' hd) rfl hy st) n
theorem go_ladd {x : Int64} {y : Int64} {r : Int64} (hd : decode b pc = .ok (.ladd, 1)) (hr : x + y = r) (hq : pc + 1 = q) (n : Go l Z K own mn b ml rt R Q h F c s q L (.long r :: S)) : Go l Z K own mn b ml rt R Q h F c s pc L (.long y :: .long x :: S) := by
  subst hq hr; exact go_of (fun T X t st => by obtain ⟨vm, k, locs, Y, r1, r2, r3, r4, r5, r6, r7, r8, r9, hx, hb', rr⟩ := X; exact XT.ladd Y.here hx rfl (hb hb' hd) rfl st) n
theorem go_lsub {x : Int64} {y : Int64} {r : Int64} (hd : decode b pc = .ok (.lsub, 1)) (hr : x - y = r) (hq : pc + 1 = q) (n : Go l Z K own mn b ml rt R Q h F c s q L (.long r :: S)) : Go l Z K own mn b ml rt R Q h F c s pc L (.long y :: .long x :: S) := by
  subst hq hr; exact go_of (fun T X t st => by obtain ⟨vm, k, locs, Y, r1, r2, r3, r4, r5, r6, r7, r8, r9, hx, hb', rr⟩ := X; exact XT.lsub Y.here hx rfl (hb hb' hd) rfl st) n
theorem go_lmul {x : Int64} {y : Int64} {r : Int64} (hd : decode b pc = .ok (.lmul, 1)) (hr : x * y = r) (hq : pc + 1 = q) (n : Go l Z K own mn b ml rt R Q h F c s q L (.long r :: S)) : Go l Z K own mn b ml rt R Q h F c s pc L (.long y :: .long x :: S) := by
  subst hq hr; exact go_of (fun T X t st => by obtain ⟨vm, k, locs, Y, r1, r2, r3, r4, r5, r6, r7, r8, r9, hx, hb', rr⟩ := X; exact XT.lmul Y.here hx rfl (hb hb' hd) rfl st) n
theorem go_land {x : Int64} {y : Int64} {r : Int64} (hd : decode b pc = .ok (.land, 1)) (hr : x &&& y = r) (hq : pc + 1 = q) (n : Go l Z K own mn b ml rt R Q h F c s q L (.long r :: S)) : Go l Z K own mn b ml rt R Q h F c s pc L (.long y :: .long x :: S) := by
  subst hq hr; exact go_of (fun T X t st => by obtain ⟨vm, k, locs, Y, r1, r2, r3, r4, r5, r6, r7, r8, r9, hx, hb', rr⟩ := X; exact XT.land Y.here hx rfl (hb hb' hd) rfl st) n
theorem go_lor {x : Int64} {y : Int64} {r : Int64} (hd : decode b pc = .ok (.lor, 1)) (hr : x ||| y = r) (hq : pc + 1 = q) (n : Go l Z K own mn b ml rt R Q h F c s q L (.long r :: S)) : Go l Z K own mn b ml rt R Q h F c s pc L (.long y :: .long x :: S) := by
  subst hq hr; exact go_of (fun T X t st => by obtain ⟨vm, k, locs, Y, r1, r2, r3, r4, r5, r6, r7, r8, r9, hx, hb', rr⟩ := X; exact XT.lor Y.here hx rfl (hb hb' hd) rfl st) n
theorem go_lxor {x : Int64} {y : Int64} {r : Int64} (hd : decode b pc = .ok (.lxor, 1)) (hr : x ^^^ y = r) (hq : pc + 1 = q) (n : Go l Z K own mn b ml rt R Q h F c s q L (.long r :: S)) : Go l Z K own mn b ml rt R Q h F c s pc L (.long y :: .long x :: S) := by
  subst hq hr; exact go_of (fun T X t st => by obtain ⟨vm, k, locs, Y, r1, r2, r3, r4, r5, r6, r7, r8, r9, hx, hb', rr⟩ := X; exact XT.lxor Y.here hx rfl (hb hb' hd) rfl st) n
theorem go_ldiv {x : Int64} {y : Int64} {r : Int64} (hd : decode b pc = .ok (.ldiv, 1)) (hy : y ≠ 0) (hr : x / y = r) (hq : pc + 1 = q) (n : Go l Z K own mn b ml rt R Q h F c s q L (.long r :: S)) : Go l Z K own mn b ml rt R Q h F c s pc L (.long y :: .long x :: S) := by
  subst hq hr; exact go_of (fun T X t st => by obtain ⟨vm, k, locs, Y, r1, r2, r3, r4, r5, r6, r7, r8, r9, hx, hb', rr⟩ := X; exact XT.ldiv Y.here hx rfl (hb hb' hd) rfl hy st) n
theorem go_lrem0 {x : Int64} {y : Int64} {r : Int64} (hd : decode b pc = .ok (.lrem, 1)) (hy : y ≠ 0) (hr : x - (x / y) * y = r) (hq : pc + 1 = q) (n : Go l Z K own mn b ml rt R Q h F c s q L (.long r :: S)) : Go l Z K own mn b ml rt R Q h F c s pc L (.long y :: .long x :: S) := by
  subst hq hr; exact go_of (fun T X t st => by obtain ⟨vm, k, locs, Y, r1, r2, r3, r4, r5, r6, r7, r8, r9, hx, hb', rr⟩ := X; exact XT.lrem Y.here hx rfl (hb hb' hd) rfl hy st) n
theorem go_lcmp {x : Int64} {y : Int64} {r : Int32} (hd : decode b pc = .ok (.lcmp, 1)) (hr : XT.cmpL x y = r) (hq : pc + 1 = q) (n : Go l Z K own mn b ml rt R Q h F c s q L (.int r :: S)) : Go l Z K own mn b ml rt R Q h F c s pc L (.long y :: .long x :: S) := by
  subst hq hr; exact go_of (fun T X t st => by obtain ⟨vm, k, locs, Y, r1, r2, r3, r4, r5, r6, r7, r8, r9, hx, hb', rr⟩ := X; exact XT.lcmp Y.here hx rfl (hb hb' hd) rfl st) n
theorem go_lshl {x : Int64} {y : Int32} {r : Int64} (hd : decode b pc = .ok (.lshl, 1)) (hr : x <<< (y.toInt64 &&& 63) = r) (hq : pc + 1 = q) (n : Go l Z K own mn b ml rt R Q h F c s q L (.long r :: S)) : Go l Z K own mn b ml rt R Q h F c s pc L (.int y :: .long x :: S) := by
  subst hq hr; exact go_of (fun T X t st => by obtain ⟨vm, k, locs, Y, r1, r2, r3, r4, r5, r6, r7, r8, r9, hx, hb', rr⟩ := X; exact XT.lshl Y.here hx rfl (hb hb' hd) rfl st) n
theorem go_lshr {x : Int64} {y : Int32} {r : Int64} (hd : decode b pc = .ok (.lshr, 1)) (hr : x >>> (y.toInt64 &&& 63) = r) (hq : pc + 1 = q) (n : Go l Z K own mn b ml rt R Q h F c s q L (.long r :: S)) : Go l Z K own mn b ml rt R Q h F c s pc L (.int y :: .long x :: S) := by
  subst hq hr; exact go_of (fun T X t st => by obtain ⟨vm, k, locs, Y, r1, r2, r3, r4, r5, r6, r7, r8, r9, hx, hb', rr⟩ := X; exact XT.lshr Y.here hx rfl (hb hb' hd) rfl st) n
theorem go_lushr {x : Int64} {y : Int32} {r : Int64} (hd : decode b pc = .ok (.lushr, 1)) (hr : XT.ushrL x y = r) (hq : pc + 1 = q) (n : Go l Z K own mn b ml rt R Q h F c s q L (.long r :: S)) : Go l Z K own mn b ml rt R Q h F c s pc L (.int y :: .long x :: S) := by
  subst hq hr; exact go_of (fun T X t st => by obtain ⟨vm, k, locs, Y, r1, r2, r3, r4, r5, r6, r7, r8, r9, hx, hb', rr⟩ := X; exact XT.lushr Y.here hx rfl (hb hb' hd) rfl st) n
theorem go_ineg {x : Int32} {r : Int32} (hd : decode b pc = .ok (.ineg, 1)) (hr : -x = r) (hq : pc + 1 = q) (n : Go l Z K own mn b ml rt R Q h F c s q L (.int r :: S)) : Go l Z K own mn b ml rt R Q h F c s pc L (.int x :: S) := by
  subst hq hr; exact go_of (fun T X t st => by obtain ⟨vm, k, locs, Y, r1, r2, r3, r4, r5, r6, r7, r8, r9, hx, hb', rr⟩ := X; exact XS.ineg Y.here hx rfl (hb hb' hd) rfl st) n
theorem go_lneg {x : Int64} {r : Int64} (hd : decode b pc = .ok (.lneg, 1)) (hr : -x = r) (hq : pc + 1 = q) (n : Go l Z K own mn b ml rt R Q h F c s q L (.long r :: S)) : Go l Z K own mn b ml rt R Q h F c s pc L (.long x :: S) := by
  subst hq hr; exact go_of (fun T X t st => by obtain ⟨vm, k, locs, Y, r1, r2, r3, r4, r5, r6, r7, r8, r9, hx, hb', rr⟩ := X; exact XT.lneg Y.here hx rfl (hb hb' hd) rfl st) n
theorem go_i2l {x : Int32} {r : Int64} (hd : decode b pc = .ok (.i2l, 1)) (hr : x.toInt64 = r) (hq : pc + 1 = q) (n : Go l Z K own mn b ml rt R Q h F c s q L (.long r :: S)) : Go l Z K own mn b ml rt R Q h F c s pc L (.int x :: S) := by
  subst hq hr; exact go_of (fun T X t st => by obtain ⟨vm, k, locs, Y, r1, r2, r3, r4, r5, r6, r7, r8, r9, hx, hb', rr⟩ := X; exact XT.i2l Y.here hx rfl (hb hb' hd) rfl st) n
theorem go_l2i {x : Int64} {r : Int32} (hd : decode b pc = .ok (.l2i, 1)) (hr : x.toInt32 = r) (hq : pc + 1 = q) (n : Go l Z K own mn b ml rt R Q h F c s q L (.int r :: S)) : Go l Z K own mn b ml rt R Q h F c s pc L (.long x :: S) := by
  subst hq hr; exact go_of (fun T X t st => by obtain ⟨vm, k, locs, Y, r1, r2, r3, r4, r5, r6, r7, r8, r9, hx, hb', rr⟩ := X; exact XT.l2i Y.here hx rfl (hb hb' hd) rfl st) n
theorem go_i2b {x : Int32} {r : Int32} (hd : decode b pc = .ok (.i2b, 1)) (hr : x.toInt8.toInt32 = r) (hq : pc + 1 = q) (n : Go l Z K own mn b ml rt R Q h F c s q L (.int r :: S)) : Go l Z K own mn b ml rt R Q h F c s pc L (.int x :: S) := by
  subst hq hr; exact go_of (fun T X t st => by obtain ⟨vm, k, locs, Y, r1, r2, r3, r4, r5, r6, r7, r8, r9, hx, hb', rr⟩ := X; exact XT.i2b Y.here hx rfl (hb hb' hd) rfl st) n
theorem go_i2c {x : Int32} {r : Int32} (hd : decode b pc = .ok (.i2c, 1)) (hr : x.toUInt32.toUInt16.toUInt32.toInt32 = r) (hq : pc + 1 = q) (n : Go l Z K own mn b ml rt R Q h F c s q L (.int r :: S)) : Go l Z K own mn b ml rt R Q h F c s pc L (.int x :: S) := by
  subst hq hr; exact go_of (fun T X t st => by obtain ⟨vm, k, locs, Y, r1, r2, r3, r4, r5, r6, r7, r8, r9, hx, hb', rr⟩ := X; exact XT.i2c Y.here hx rfl (hb hb' hd) rfl st) n
theorem go_i2s {x : Int32} {r : Int32} (hd : decode b pc = .ok (.i2s, 1)) (hr : x.toInt16.toInt32 = r) (hq : pc + 1 = q) (n : Go l Z K own mn b ml rt R Q h F c s q L (.int r :: S)) : Go l Z K own mn b ml rt R Q h F c s pc L (.int x :: S) := by
  subst hq hr; exact go_of (fun T X t st => by obtain ⟨vm, k, locs, Y, r1, r2, r3, r4, r5, r6, r7, r8, r9, hx, hb', rr⟩ := X; exact XT.i2s Y.here hx rfl (hb hb' hd) rfl st) n
theorem go_istoreN {k : Fin 4} {x : Int32} (hd : decode b pc = .ok (.istore_n k, 1)) (hl : storeLocals L k.val (.int x) = some L') (hq : pc + 1 = q) (n : Go l Z K own mn b ml rt R Q h F c s q L' S) : Go l Z K own mn b ml rt R Q h F c s pc L (.int x :: S) := by
  subst hq; exact go_of (fun T X t st => by obtain ⟨vm, k, locs, Y, r1, r2, r3, r4, r5, r6, r7, r8, r9, hx, hb', rr⟩ := X; exact XS.istoreN Y.here hx rfl (hb hb' hd) rfl hl st) n
theorem go_istore {k : Nat} {x : Int32} (hd : decode b pc = .ok (.istore k, 2)) (hl : storeLocals L k (.int x) = some L') (hq : pc + 2 = q) (n : Go l Z K own mn b ml rt R Q h F c s q L' S) : Go l Z K own mn b ml rt R Q h F c s pc L (.int x :: S) := by
  subst hq; exact go_of (fun T X t st => by obtain ⟨vm, k, locs, Y, r1, r2, r3, r4, r5, r6, r7, r8, r9, hx, hb', rr⟩ := X; exact XS.istore Y.here hx rfl (hb hb' hd) rfl hl st) n
theorem go_lstoreN {k : Fin 4} {x : Int64} (hd : decode b pc = .ok (.lstore_n k, 1)) (hl : storeLocals L k.val (.long x) = some L') (hq : pc + 1 = q) (n : Go l Z K own mn b ml rt R Q h F c s q L' S) : Go l Z K own mn b ml rt R Q h F c s pc L (.long x :: S) := by
  subst hq; exact go_of (fun T X t st => by obtain ⟨vm, k, locs, Y, r1, r2, r3, r4, r5, r6, r7, r8, r9, hx, hb', rr⟩ := X; exact XT.lstoreN Y.here hx rfl (hb hb' hd) rfl hl st) n
theorem go_lstore {k : Nat} {x : Int64} (hd : decode b pc = .ok (.lstore k, 2)) (hl : storeLocals L k (.long x) = some L') (hq : pc + 2 = q) (n : Go l Z K own mn b ml rt R Q h F c s q L' S) : Go l Z K own mn b ml rt R Q h F c s pc L (.long x :: S) := by
  subst hq; exact go_of (fun T X t st => by obtain ⟨vm, k, locs, Y, r1, r2, r3, r4, r5, r6, r7, r8, r9, hx, hb', rr⟩ := X; exact XT.lstore Y.here hx rfl (hb hb' hd) rfl hl st) n
theorem go_astoreN {k : Fin 4} {x : Value} (hd : decode b pc = .ok (.astore_n k, 1)) (hv : x.isRef = true) (hl : storeLocals L k.val (x) = some L') (hq : pc + 1 = q) (n : Go l Z K own mn b ml rt R Q h F c s q L' S) : Go l Z K own mn b ml rt R Q h F c s pc L (x :: S) := by
  subst hq; exact go_of (fun T X t st => by obtain ⟨vm, k, locs, Y, r1, r2, r3, r4, r5, r6, r7, r8, r9, hx, hb', rr⟩ := X; exact XS.astoreN Y.here hx rfl (hb hb' hd) rfl hv hl st) n
theorem go_astore {k : Nat} {x : Value} (hd : decode b pc = .ok (.astore k, 2)) (hv : x.isRef = true) (hl : storeLocals L k (x) = some L') (hq : pc + 2 = q) (n : Go l Z K own mn b ml rt R Q h F c s q L' S) : Go l Z K own mn b ml rt R Q h F c s pc L (x :: S) := by
  subst hq; exact go_of (fun T X t st => by obtain ⟨vm, k, locs, Y, r1, r2, r3, r4, r5, r6, r7, r8, r9, hx, hb', rr⟩ := X; exact XS.astore Y.here hx rfl (hb hb' hd) rfl hv hl st) n
theorem go_iinc {k : Nat} {i : Int} {x y : Int32} (hd : decode b pc = .ok (.iinc k i, 3)) (hl : L[k]? = some (.val (.int x))) (hy : x + Int32.ofInt i = y) (hl' : storeLocals L k (.int y) = some L') (hq : pc + 3 = q) (n : Go l Z K own mn b ml rt R Q h F c s q L' S) : Go l Z K own mn b ml rt R Q h F c s pc L S := by
  subst hq hy; exact go_of (fun T X t st => by obtain ⟨vm, k, locs, Y, r1, r2, r3, r4, r5, r6, r7, r8, r9, hx, hb', rr⟩ := X; exact XS.iinc Y.here hx rfl (hb hb' hd) hl hl' st) n
theorem go_dup {x : Value} (hd : decode b pc = .ok (.dup, 1)) (hc : x.category = 1) (hq : pc + 1 = q) (n : Go l Z K own mn b ml rt R Q h F c s q L (x :: x :: S)) : Go l Z K own mn b ml rt R Q h F c s pc L (x :: S) := by
  subst hq; exact go_of (fun T X t st => by obtain ⟨vm, k, locs, Y, r1, r2, r3, r4, r5, r6, r7, r8, r9, hx, hb', rr⟩ := X; exact XS.dup Y.here hx rfl (hb hb' hd) rfl hc st) n
theorem go_pop {x : Value} (hd : decode b pc = .ok (.pop, 1)) (hc : x.category = 1) (hq : pc + 1 = q) (n : Go l Z K own mn b ml rt R Q h F c s q L S) : Go l Z K own mn b ml rt R Q h F c s pc L (x :: S) := by
  subst hq; exact go_of (fun T X t st => by obtain ⟨vm, k, locs, Y, r1, r2, r3, r4, r5, r6, r7, r8, r9, hx, hb', rr⟩ := X; exact XT.pop Y.here hx rfl (hb hb' hd) rfl hc st) n
theorem go_dupX1 {x y : Value} (hd : decode b pc = .ok (.dup_x1, 1)) (hc : x.category = 1) (hc' : y.category = 1) (hq : pc + 1 = q) (n : Go l Z K own mn b ml rt R Q h F c s q L (x :: y :: x :: S)) : Go l Z K own mn b ml rt R Q h F c s pc L (x :: y :: S) := by
  subst hq; exact go_of (fun T X t st => by obtain ⟨vm, k, locs, Y, r1, r2, r3, r4, r5, r6, r7, r8, r9, hx, hb', rr⟩ := X; exact XT.dupX1 Y.here hx rfl (hb hb' hd) rfl hc hc' st) n
theorem go_dup2 {x y : Value} (hd : decode b pc = .ok (.dup2, 1)) (hc : x.category = 1) (hc' : y.category = 1) (hq : pc + 1 = q) (n : Go l Z K own mn b ml rt R Q h F c s q L (x :: y :: x :: y :: S)) : Go l Z K own mn b ml rt R Q h F c s pc L (x :: y :: S) := by
  subst hq; exact go_of (fun T X t st => by obtain ⟨vm, k, locs, Y, r1, r2, r3, r4, r5, r6, r7, r8, r9, hx, hb', rr⟩ := X; exact XT.dup2 Y.here hx rfl (hb hb' hd) rfl hc hc' st) n
theorem go_goto {o : Int} (hd : decode b pc = .ok (.goto o, 3)) (ho : 0 ≤ (pc : Int) + o) (hp : ((pc : Int) + o).toNat = q) (n : Go l Z K own mn b ml rt R Q h F c s q L S) : Go l Z K own mn b ml rt R Q h F c s pc L S := by
  exact go_of (fun T X t st => by obtain ⟨vm, k, locs, Y, r1, r2, r3, r4, r5, r6, r7, r8, r9, hx, hb', rr⟩ := X; exact XS.goto Y.here hx rfl rfl (hb hb' hd) ho hp st) n
/-- the condition as a plain proposition: taken, not taken -/
abbrev cY : ClassFile.Cond → Int32 → Int32 → Prop
  | .eq, x, y => x = y
  | .ne, x, y => ¬ x = y
  | .lt, x, y => x < y
  | .ge, x, y => ¬ x < y
  | .gt, x, y => y < x
  | .le, x, y => ¬ y < x
abbrev cN : ClassFile.Cond → Int32 → Int32 → Prop
  | .eq, x, y => ¬ x = y
  | .ne, x, y => x = y
  | .lt, x, y => ¬ x < y
  | .ge, x, y => x < y
  | .gt, x, y => ¬ y < x
  | .le, x, y => y < x
theorem cY_holds {cd : ClassFile.Cond} {x y : Int32} (h : cY cd x y) : if_icmp.holds cd x y = true := by
  cases cd with
  | eq => exact (teq h).1
  | ne => exact (feq h).2
  | lt => exact (tlt h).1
  | ge => exact (flt h).2.1
  | gt => exact (tlt h).2.2.1
  | le => exact (flt h).2.2.2
theorem cN_holds {cd : ClassFile.Cond} {x y : Int32} (h : cN cd x y) : if_icmp.holds cd x y = false := by
  cases cd with
  | eq => exact (feq h).1
  | ne => exact (teq h).2
  | lt => exact (flt h).1
  | ge => exact (tlt h).2.1
  | gt => exact (flt h).2.2.1
  | le => exact (tlt h).2.2.2
theorem go_ifY {cd : ClassFile.Cond} {x : Int32} {o : Int} (hd : decode b pc = .ok (.ifCond cd o, 3)) (hc : cY cd x 0) (ho : 0 ≤ (pc : Int) + o) (hp : ((pc : Int) + o).toNat = q) (n : Go l Z K own mn b ml rt R Q h F c s q L S) : Go l Z K own mn b ml rt R Q h F c s pc L (.int x :: S) := by
  exact go_of (fun T X t st => by obtain ⟨vm, k, locs, Y, r1, r2, r3, r4, r5, r6, r7, r8, r9, hx, hb', rr⟩ := X; exact XS.ifYes Y.here hx rfl rfl (hb hb' hd) rfl ((if0 _ _).trans (cY_holds hc)) ho hp st) n
theorem go_ifN {cd : ClassFile.Cond} {x : Int32} {o : Int} (hd : decode b pc = .ok (.ifCond cd o, 3)) (hc : cN cd x 0) (hq : pc + 3 = q) (n : Go l Z K own mn b ml rt R Q h F c s q L S) : Go l Z K own mn b ml rt R Q h F c s pc L (.int x :: S) := by
  subst hq; exact go_of (fun T X t st => by obtain ⟨vm, k, locs, Y, r1, r2, r3, r4, r5, r6, r7, r8, r9, hx, hb', rr⟩ := X; exact XS.ifNo Y.here hx rfl (hb hb' hd) rfl ((if0 _ _).trans (cN_holds hc)) st) n
theorem go_icY {cd : ClassFile.Cond} {x y : Int32} {o : Int} (hd : decode b pc = .ok (.if_icmp cd o, 3)) (hc : cY cd x y) (ho : 0 ≤ (pc : Int) + o) (hp : ((pc : Int) + o).toNat = q) (n : Go l Z K own mn b ml rt R Q h F c s q L S) : Go l Z K own mn b ml rt R Q h F c s pc L (.int y :: .int x :: S) := by
  exact go_of (fun T X t st => by obtain ⟨vm, k, locs, Y, r1, r2, r3, r4, r5, r6, r7, r8, r9, hx, hb', rr⟩ := X; exact XS.icmpYes Y.here hx rfl rfl (hb hb' hd) rfl (cY_holds hc) ho hp st) n
theorem go_icN {cd : ClassFile.Cond} {x y : Int32} {o : Int} (hd : decode b pc = .ok (.if_icmp cd o, 3)) (hc : cN cd x y) (hq : pc + 3 = q) (n : Go l Z K own mn b ml rt R Q h F c s q L S) : Go l Z K own mn b ml rt R Q h F c s pc L (.int y :: .int x :: S) := by
  subst hq; exact go_of (fun T X t st => by obtain ⟨vm, k, locs, Y, r1, r2, r3, r4, r5, r6, r7, r8, r9, hx, hb', rr⟩ := X; exact XS.icmpNo Y.here hx rfl (hb hb' hd) rfl (cN_holds hc) st) n
theorem go_nullY {o : Int} (hd : decode b pc = .ok (.ifnull o, 3)) (ho : 0 ≤ (pc : Int) + o) (hp : ((pc : Int) + o).toNat = q) (n : Go l Z K own mn b ml rt R Q h F c s q L S) : Go l Z K own mn b ml rt R Q h F c s pc L (.null :: S) := by
  exact go_of (fun T X t st => by obtain ⟨vm, k, locs, Y, r1, r2, r3, r4, r5, r6, r7, r8, r9, hx, hb', rr⟩ := X; exact XS.ifnullYes Y.here hx rfl rfl (hb hb' hd) rfl ho hp st) n
theorem go_nullN {a : Addr} {o : Int} (hd : decode b pc = .ok (.ifnull o, 3)) (hq : pc + 3 = q) (n : Go l Z K own mn b ml rt R Q h F c s q L S) : Go l Z K own mn b ml rt R Q h F c s pc L (.ref a :: S) := by
  subst hq; exact go_of (fun T X t st => by obtain ⟨vm, k, locs, Y, r1, r2, r3, r4, r5, r6, r7, r8, r9, hx, hb', rr⟩ := X; exact XS.ifnullNo Y.here hx rfl (hb hb' hd) rfl st) n
theorem go_nnY {a : Addr} {o : Int} (hd : decode b pc = .ok (.ifnonnull o, 3)) (ho : 0 ≤ (pc : Int) + o) (hp : ((pc : Int) + o).toNat = q) (n : Go l Z K own mn b ml rt R Q h F c s q L S) : Go l Z K own mn b ml rt R Q h F c s pc L (.ref a :: S) := by
  exact go_of (fun T X t st => by obtain ⟨vm, k, locs, Y, r1, r2, r3, r4, r5, r6, r7, r8, r9, hx, hb', rr⟩ := X; exact XT.ifnonnullYes Y.here hx rfl rfl (hb hb' hd) rfl ho hp st) n
theorem go_nnN {o : Int} (hd : decode b pc = .ok (.ifnonnull o, 3)) (hq : pc + 3 = q) (n : Go l Z K own mn b ml rt R Q h F c s q L S) : Go l Z K own mn b ml rt R Q h F c s pc L (.null :: S) := by
  subst hq; exact go_of (fun T X t st => by obtain ⟨vm, k, locs, Y, r1, r2, r3, r4, r5, r6, r7, r8, r9, hx, hb', rr⟩ := X; exact XT.ifnonnullNo Y.here hx rfl (hb hb' hd) rfl st) n
theorem go_acY {cd : ClassFile.ACond} {x y : Value} {o : Int} (hd : decode b pc = .ok (.if_acmp cd o, 3)) (h1 : x.isRef = true) (h2 : y.isRef = true) (hc : XT.acmp cd x y = true) (ho : 0 ≤ (pc : Int) + o) (hp : ((pc : Int) + o).toNat = q) (n : Go l Z K own mn b ml rt R Q h F c s q L S) : Go l Z K own mn b ml rt R Q h F c s pc L (y :: x :: S) := by
  exact go_of (fun T X t st => by obtain ⟨vm, k, locs, Y, r1, r2, r3, r4, r5, r6, r7, r8, r9, hx, hb', rr⟩ := X; exact XT.acmpYes Y.here hx rfl rfl (hb hb' hd) rfl h1 h2 hc ho hp st) n
theorem go_acN {cd : ClassFile.ACond} {x y : Value} {o : Int} (hd : decode b pc = .ok (.if_acmp cd o, 3)) (h1 : x.isRef = true) (h2 : y.isRef = true) (hc : XT.acmp cd x y = false) (hq : pc + 3 = q) (n : Go l Z K own mn b ml rt R Q h F c s q L S) : Go l Z K own mn b ml rt R Q h F c s pc L (y :: x :: S) := by
  subst hq; exact go_of (fun T X t st => by obtain ⟨vm, k, locs, Y, r1, r2, r3, r4, r5, r6, r7, r8, r9, hx, hb', rr⟩ := X; exact XT.acmpNo Y.here hx rfl (hb hb' hd) rfl h1 h2 hc st) n
theorem go_irem {x y r : Int32} (hd : decode b pc = .ok (.irem, 1)) (hy : y ≠ 0) (hr : x % y = r) (hq : pc + 1 = q) (n : Go l Z K own mn b ml rt R Q h F c s q L (.int r :: S)) : Go l Z K own mn b ml rt R Q h F c s pc L (.int y :: .int x :: S) := by
  subst hq hr; exact go_of (fun T X t st => by obtain ⟨vm, k, locs, Y, r1, r2, r3, r4, r5, r6, r7, r8, r9, hx, hb', r⟩ := X; exact iremM Y hx rfl (hb hb' hd) rfl hy st) n
theorem go_lrem {x y r : Int64} (hd : decode b pc = .ok (.lrem, 1)) (hy : y ≠ 0) (hr : x % y = r) (hq : pc + 1 = q) (n : Go l Z K own mn b ml rt R Q h F c s q L (.long r :: S)) : Go l Z K own mn b ml rt R Q h F c s pc L (.long y :: .long x :: S) := go_lrem0 hd hy ((lrem_mod x y).trans hr) hq n
end G
end Own
end Jvm.Pilot.@@N@@
/-! OWN FRAMEWORK, part 2: steps that touch the heap, returns, calls. -/
namespace Jvm.Pilot.@@N@@
namespace Own
open Jvm Jvm.ClassFile Sem Op Lib Jvm.Free Jvm.Stand Jvm.LawKit Jvm.RoadKit
section G
variable {l : Launch} {Z : State} {a0 : Array Value} {K : Cx} {own mn : String} {b : ByteArray} {ml : Nat} {rt : Option FieldType} {R : Room} {Q : QT} {h h' : Heap} {F : List Addr} {c s pc q c' s' : Nat} {L L' : Array Slot} {S S' : List Value}
theorem go_getfield {index : Nat} {R0 O n d : String} {a : Addr} {v : Value} (w : (Cond.fieldLink own index R0 n d).before a0 Z = true) (via : Via Z R0 O n d) (Fv : Fld Z h a O n d v) (hd : decode b pc = .ok (.getfield index, 3)) (hq : pc + 3 = q)
    (nx : Go l Z K own mn b ml rt R Q h F c s q L (v :: S)) : Go l Z K own mn b ml rt R Q h F c s pc L (.ref a :: S) := fun T X => by
  subst hq
  obtain ⟨vm, k, locs, Y, eT, hS, hk, hZ, hown, N, C, M, O, hx, hb', r⟩ := X
  obtain ⟨T', Y', e', st⟩ := getF Y hx hZ hown (host := "") (Or.inl w) via eT Fv (g := mkF K.2.2.2.1 pc L (.ref a :: S)) rfl rfl (hb hb' hd)
  obtain ⟨s₂, o, x, r'⟩ := nx T' ⟨vm, k, locs, Y', e', hS, hk, hZ, hown, N, C, M, O, hx, hb', r⟩
  exact ⟨s₂, o, st _ x, r'⟩
theorem go_getstatic {index : Nat} {R0 O n d : String} {v : Value} (w : (Cond.fieldLink own index R0 n d).before a0 Z = true) (via : Via Z R0 O n d) (Fv : Sta Z Z.heap O n d v) (hd : decode b pc = .ok (.getstatic index, 3)) (hq : pc + 3 = q)
    (nx : Go l Z K own mn b ml rt R Q h F c s q L (v :: S)) : Go l Z K own mn b ml rt R Q h F c s pc L S := fun T X => by
  subst hq
  obtain ⟨vm, k, locs, Y, eT, hS, hk, hZ, hown, N, C, M, O, hx, hb', r⟩ := X
  obtain ⟨T', Y', e', st⟩ := getS2 Y hx hZ hown (host := "") (Or.inl w) via eT (Fv.ext O.2) (g := mkF K.2.2.2.1 pc L S) rfl (hb hb' hd)
  obtain ⟨s₂, o, x, r'⟩ := nx T' ⟨vm, k, locs, Y', e', hS, hk, hZ, hown, N, C, M, O, hx, hb', r⟩
  exact ⟨s₂, o, st _ x, r'⟩
theorem St.wrote {vm : Vm} {k sl : Nat} {locs : List Loc} {T' : State} {a : Addr} {v : Value} (W : Wr h h' a sl v) (ha : a ∈ F) (Y : Stand K.1 l K.2.1 R (K.2.2.1.setVm vm) K.2.2.2.1 K.2.2.2.2.1 K.2.2.2.2.2.1 K.2.2.2.2.2.2.1 K.2.2.2.2.2.2.2 T' (locs ++ [⟨a, sl⟩]) c s) (e' : T'.heap = h')
    (hS : K.2.2.1.Since vm k) (hk : k ≤ h.size) (hZ : Z.Warmed39 vm) (hown : vm.findClass own = some K.2.2.2.1.cls) (N : Fr Z.heap.size locs) (C : CHr Z consts_1 K.2.2.1.vm K.2.2.1.heap vm h) (M : ∀ x ∈ F, Mine Z vm h x) (O : Old Z Z.heap.size h)
    (r : K.1.tables.exec = Jvm.exec ∧ K.2.2.2.2.2.2.2.code = b ∧ K.2.2.2.2.2.2.2.maxLocals = ml ∧ K.2.2.2.2.2.2.1.sig.returnType = rt ∧ K.2.2.2.2.2.2.1.name = mn ∧ K.2.2.2.2.2.2.1.locks = false) : St l Z K own mn b ml rt R T' h' F c s :=
  ⟨vm, k, _, Y, e', hS, by rw [W.size]; exact hk, hZ, hown, Fr.snoc Y N (M a ha).1, C.trans (CHr.wr W (M a ha).2.2 C.1), fun x hx => ⟨(M x hx).1, by rw [W.size]; exact (M x hx).2.1, Safe.wr W (M a ha).2.2 C.1 (M x hx).2.2⟩, O.wr W (M a ha).1, r⟩
theorem go_putfield {index kk : Nat} {R0 O n d C : String} {ty : FieldType} {a : Addr} {v old : Value} (w : (Cond.fieldLink own index R0 n d).before a0 Z = true) (via : Via Z R0 O n d) (Fv : Fld Z h a O n d old) (E : Exa Z h a C)
    (Ly : (Cond.lays C O n d).before a0 Z = true ∨ ((Cond.laysFinal C O n d).before a0 Z = true ∧ own = O ∧ mn = "<init>")) (wi : (Cond.instantiable C kk).before a0 Z = true) (hty : parseFieldDescriptor d = some ty) (hn : narrow ty v = v) (hf : fits ty v = true) (ha : a ∈ F)
    (hd : decode b pc = .ok (.putfield index, 3)) (hq : pc + 3 = q) (nx : ∀ h', Wr h h' a (RoadKit.slotOf Z O n d) v → Go l Z K own mn b ml rt R Q h' F c s q L S) : Go l Z K own mn b ml rt R Q h F c s pc L (v :: .ref a :: S) := fun T X => by
  subst hq
  obtain ⟨vm, k, locs, Y, eT, hS, hk, hZ, hown, N, C, M, O, hx, hb', r1, r2, r3, r4⟩ := X
  obtain ⟨T', h', Y', e', W, st⟩ := putF Y hx hZ hown (host := "") (Or.inl w) via eT Fv E (Ly.imp id fun z => ⟨z.1, z.2.1, r3.trans z.2.2⟩) wi hty hn hf (g := mkF K.2.2.2.1 pc L (v :: .ref a :: S)) rfl rfl (hb hb' hd)
  obtain ⟨s₂, o, x, r'⟩ := nx h' W T' (St.wrote W ha Y' e' hS hk hZ hown N C M O ⟨hx, hb', r1, r2, r3, r4⟩)
  exact ⟨s₂, o, st _ x, r'⟩
theorem St.grew {vm : Vm} {k : Nat} {locs : List Loc} {T' : State} (E : Ext h h') {F' : List Addr} (hF : ∀ x ∈ F', x ∈ F ∨ (h.size ≤ x ∧ x < h'.size)) (Y : Stand K.1 l K.2.1 R (K.2.2.1.setVm vm) K.2.2.2.1 K.2.2.2.2.1 K.2.2.2.2.2.1 K.2.2.2.2.2.2.1 K.2.2.2.2.2.2.2 T' locs c s) (e' : T'.heap = h')
    (hS : K.2.2.1.Since vm k) (hk : k ≤ h.size) (hZ : Z.Warmed39 vm) (hown : vm.findClass own = some K.2.2.2.1.cls) (N : Fr Z.heap.size locs) (C : CHr Z consts_1 K.2.2.1.vm K.2.2.1.heap vm h) (M : ∀ x ∈ F, Mine Z vm h x) (O : Old Z Z.heap.size h)
    (r : K.1.tables.exec = Jvm.exec ∧ K.2.2.2.2.2.2.2.code = b ∧ K.2.2.2.2.2.2.2.maxLocals = ml ∧ K.2.2.2.2.2.2.1.sig.returnType = rt ∧ K.2.2.2.2.2.2.1.name = mn ∧ K.2.2.2.2.2.2.1.locks = false) : St l Z K own mn b ml rt R T' h' F' c s :=
  ⟨vm, k, _, Y, e', hS, Nat.le_trans hk E.1, hZ, hown, N, C.trans (CHr.ext E C.1), fun x hx => by
    rcases hF x hx with q | ⟨q1, q2⟩
    · exact ⟨(M x q).1, Nat.lt_of_lt_of_le (M x q).2.1 E.1, Safe.ext E C.1 (M x q).2.2⟩
    · exact ⟨Nat.le_trans O.2.1 q1, q2, Safe.ext E C.1 (Safe.new q1)⟩, O.ext E, r⟩
theorem go_new {index n : Nat} {C : String} (w : (Cond.classLink own index C).before a0 Z = true) (wi : (Cond.instantiable C n).before a0 Z = true) (wz : (Cond.initialized C).before a0 Z = true) (hd : decode b pc = .ok (.new index, 3)) (hq : pc + 3 = q) (hc : c + 1 = c') (hs : s + n = s') (hc' : c' ≤ R.cells) (hs' : s' ≤ R.slots)
    (nx : ∀ h' a, a = h.size → Ext h h' → Exa Z h' a C → (∀ {O nm d : String} {ty : FieldType}, Laid Z a0 C O nm d → parseFieldDescriptor d = some ty → Fld Z h' a O nm d (defaultValue ty)) → Go l Z K own mn b ml rt R Q h' (a :: F) c' s' q L (.ref a :: S)) : Go l Z K own mn b ml rt R Q h F c s pc L S := fun T X => by
  subst hq hc hs
  obtain ⟨vm, k, locs, Y, eT, hS, hk, hZ, hown, N, C, M, O, r⟩ := X
  obtain ⟨T', h', Y', e', E, A, D, -, st⟩ := newO Y r.1 hZ hown w wi wz eT (g := mkF K.2.2.2.1 pc L S) rfl (hb r.2.1 hd) hc' hs'
  obtain ⟨s₂, o, x, r'⟩ := nx h' _ rfl E A D T' (St.grew E (fun x hx => by rcases List.mem_cons.mp hx with rfl | hx; exact Or.inr ⟨Nat.le_refl _, A.lt⟩; exact Or.inl hx) Y' e' hS hk hZ hown N C M O r)
  exact ⟨s₂, o, st _ x, r'⟩
/-- 'new', and the fresh cell as the exception laws want it -/
theorem go_newU {index n : Nat} {C : String} (w : (Cond.classLink own index C).before a0 Z = true) (wi : (Cond.instantiable C n).before a0 Z = true) (wz : (Cond.initialized C).before a0 Z = true) (hd : decode b pc = .ok (.new index, 3)) (hq : pc + 3 = q) (hc : c + 1 = c') (hs : s + n = s') (hc' : c' ≤ R.cells) (hs' : s' ≤ R.slots)
    (nx : ∀ h' a, a = h.size → Ext h h' → Exa Z h' a C → Unt h' a → (∀ {O nm d : String} {ty : FieldType}, Laid Z a0 C O nm d → parseFieldDescriptor d = some ty → Fld Z h' a O nm d (defaultValue ty)) → Go l Z K own mn b ml rt R Q h' (a :: F) c' s' q L (.ref a :: S)) : Go l Z K own mn b ml rt R Q h F c s pc L S := fun T X => by
  subst hq hc hs
  obtain ⟨vm, k, locs, Y, eT, hS, hk, hZ, hown, N, C, M, O, r⟩ := X
  obtain ⟨T', h', Y', e', E, A, D, U, st⟩ := newO Y r.1 hZ hown w wi wz eT (g := mkF K.2.2.2.1 pc L S) rfl (hb r.2.1 hd) hc' hs'
  obtain ⟨s₂, o, x, r'⟩ := nx h' _ rfl E A U D T' (St.grew E (fun x hx => by rcases List.mem_cons.mp hx with rfl | hx; exact Or.inr ⟨Nat.le_refl _, A.lt⟩; exact Or.inl hx) Y' e' hS hk hZ hown N C M O r)
  exact ⟨s₂, o, st _ x, r'⟩
theorem go_newarray {aty : ArrayType} {z : Int32} {cap n : Nat} {ad : String} {ty : FieldType} {dv : Value} (hty : newarray.typeOf aty = ty) (hdv : defaultValue ty = dv) (hzn : z.toNatClampNeg = n) (w : (Cond.arrayClass ty).before a0 Z = true) (hd : decode b pc = .ok (.newarray aty, 2)) (hz : ¬ z < 0) (hcap : n ≤ cap) (hbig : cap * 8 ≤ 536870912) (had : "[" ++ ty.toString = ad) (hq : pc + 2 = q) (hc : c + 1 = c') (hs : s + cap = s') (hc' : c' ≤ R.cells) (hs' : s' ≤ R.slots)
    (nx : ∀ h' a k, a = h.size → Ext h h' → Arv Z h' a k ty z (List.replicate n dv) dv → Exa Z h' a ad → Go l Z K own mn b ml rt R Q h' (a :: F) c' s' q L (.ref a :: S)) : Go l Z K own mn b ml rt R Q h F c s pc L (.int z :: S) := fun T X => by
  subst hq hc hs hty hdv hzn
  obtain ⟨vm, k, locs, Y, eT, hS, hk, hZ, hown, N, C, M, O, r⟩ := X
  obtain ⟨T', h', cA, Y', e', E, A, Ex, st⟩ := newPE Y r.1 hZ w eT (g := mkF K.2.2.2.1 pc L (.int z :: S)) rfl (hb r.2.1 hd) rfl hz hcap hbig hc' hs' had
  have V := (Arv.new A hz).pad (vs' := List.replicate z.toNatClampNeg (defaultValue (newarray.typeOf aty))) (fun i => by
    have := pad_rep [] (defaultValue (newarray.typeOf aty)) z.toNatClampNeg i
    simpa using this)
  obtain ⟨s₂, o, x, r'⟩ := nx h' _ _ rfl E V Ex T' (St.grew E (fun x hx => by rcases List.mem_cons.mp hx with rfl | hx; exact Or.inr ⟨Nat.le_refl _, A.lt⟩; exact Or.inl hx) Y' e' hS hk hZ hown N C M O r)
  exact ⟨s₂, o, st _ x, r'⟩
theorem go_anewarray {index : Nat} {C : String} {z : Int32} {cap : Nat} {ad : String} (w : (Cond.classLink own index C).before a0 Z = true) (w2 : (Cond.arrayOver (.object C)).before a0 Z = true) (hd : decode b pc = .ok (.anewarray index, 3)) (hz : ¬ z < 0) (hcap : z.toNatClampNeg ≤ cap) (hbig : cap * 8 ≤ 536870912) (had : "[" ++ (FieldType.object C).toString = ad) (hq : pc + 3 = q) (hc : c + 1 = c') (hs : s + cap = s') (hc' : c' ≤ R.cells) (hs' : s' ≤ R.slots)
    (nx : ∀ h' a k, a = h.size → Ext h h' → Arv Z h' a k (.object C) z (List.replicate z.toNatClampNeg .null) .null → Exa Z h' a ad → Ovr Z k C → Go l Z K own mn b ml rt R Q h' (a :: F) c' s' q L (.ref a :: S)) : Go l Z K own mn b ml rt R Q h F c s pc L (.int z :: S) := fun T X => by
  subst hq hc hs
  obtain ⟨vm, k, locs, Y, eT, hS, hk, hZ, hown, N, C, M, O, r⟩ := X
  obtain ⟨T', h', cA, Y', e', E, A, Ex, Ov, st⟩ := newRE Y r.1 hZ hown w w2 eT (g := mkF K.2.2.2.1 pc L (.int z :: S)) rfl (hb r.2.1 hd) rfl hz hcap hbig hc' hs' had
  have V0 : Arv Z h' h.size cA (.object _) z [] .null := Arv.new A hz
  have V := V0.pad (vs' := List.replicate z.toNatClampNeg .null) (fun i => by
    have := pad_rep [] .null z.toNatClampNeg i
    simpa using this)
  obtain ⟨s₂, o, x, r'⟩ := nx h' _ _ rfl E V Ex Ov T' (St.grew E (fun x hx => by rcases List.mem_cons.mp hx with rfl | hx; exact Or.inr ⟨Nat.le_refl _, A.lt⟩; exact Or.inl hx) Y' e' hS hk hZ hown N C M O r)
  exact ⟨s₂, o, st _ x, r'⟩
theorem fits_nar_byte (x : Int32) : fits .byte (.int (nar .byte x)) = true := Jvm.Free.SBG.fits_of_int8 _
theorem go_castore {a : Addr} {k : ClassId} {z j x y : Int32} {vs : List Value} {dv : Value} {i : Nat} (A : Arv Z h a k .char z vs dv) (hj : ¬ j < 0 ∧ j < z) (hi : j.toNatClampNeg = i) (hl : i < vs.length) (ha : a ∈ F) (hy : nar .char x = y) (hd : decode b pc = .ok (.castore, 1)) (hq : pc + 1 = q)
    (nx : ∀ h', Keep h h' [a] → h'.size = h.size → Arv Z h' a k .char z (vs.set i (.int y)) dv → Go l Z K own mn b ml rt R Q h' F c s q L S) : Go l Z K own mn b ml rt R Q h F c s pc L (.int x :: .int j :: .ref a :: S) := fun T X => by
  subst hq hy
  obtain ⟨vm, k, locs, Y, eT, hS, hk, hZ, hown, N, C, M, O, r⟩ := X
  obtain ⟨cl, Ar, q1, q2, q3, q4, q5⟩ := A
  have hin := inb_of q2 hj
  obtain ⟨T', h', Y', e', W, st⟩ := stC Y r.1 hZ eT Ar hin (g := mkF K.2.2.2.1 pc L (.int x :: .int j :: .ref a :: S)) rfl rfl (hb r.2.1 hd)
  obtain ⟨s₂, o, x, r'⟩ := nx h' (Keep.of_wr W) W.size (Arv.set Ar q1 q2 q3 q4 q5 (fits_nar_char x) W i hi hl) T' (St.wrote W ha Y' e' hS hk hZ hown N C M O r)
  exact ⟨s₂, o, st _ x, r'⟩
theorem go_bastore {a : Addr} {k : ClassId} {z j x y : Int32} {vs : List Value} {dv : Value} {i : Nat} (A : Arv Z h a k .byte z vs dv) (hj : ¬ j < 0 ∧ j < z) (hi : j.toNatClampNeg = i) (hl : i < vs.length) (ha : a ∈ F) (hy : nar .byte x = y) (hd : decode b pc = .ok (.bastore, 1)) (hq : pc + 1 = q)
    (nx : ∀ h', Keep h h' [a] → h'.size = h.size → Arv Z h' a k .byte z (vs.set i (.int y)) dv → Go l Z K own mn b ml rt R Q h' F c s q L S) : Go l Z K own mn b ml rt R Q h F c s pc L (.int x :: .int j :: .ref a :: S) := fun T X => by
  subst hq hy
  obtain ⟨vm, k, locs, Y, eT, hS, hk, hZ, hown, N, C, M, O, r⟩ := X
  obtain ⟨cl, Ar, q1, q2, q3, q4, q5⟩ := A
  have hin := inb_of q2 hj
  obtain ⟨T', h', Y', e', W, st⟩ := stB Y r.1 hZ eT Ar hin (g := mkF K.2.2.2.1 pc L (.int x :: .int j :: .ref a :: S)) rfl rfl (hb r.2.1 hd)
  obtain ⟨s₂, o, x, r'⟩ := nx h' (Keep.of_wr W) W.size (Arv.set Ar q1 q2 q3 q4 q5 (fits_nar_byte x) W i hi hl) T' (St.wrote W ha Y' e' hS hk hZ hown N C M O r)
  exact ⟨s₂, o, st _ x, r'⟩
theorem go_lastore {a : Addr} {k : ClassId} {z j : Int32} {x : Int64} {vs : List Value} {dv : Value} {i : Nat} (A : Arv Z h a k .long z vs dv) (hj : ¬ j < 0 ∧ j < z) (hi : j.toNatClampNeg = i) (hl : i < vs.length) (ha : a ∈ F) (hd : decode b pc = .ok (.lastore, 1)) (hq : pc + 1 = q)
    (nx : ∀ h', Keep h h' [a] → h'.size = h.size → Arv Z h' a k .long z (vs.set i (.long x)) dv → Go l Z K own mn b ml rt R Q h' F c s q L S) : Go l Z K own mn b ml rt R Q h F c s pc L (.long x :: .int j :: .ref a :: S) := fun T X => by
  subst hq
  obtain ⟨vm, k, locs, Y, eT, hS, hk, hZ, hown, N, C, M, O, r⟩ := X
  obtain ⟨cl, Ar, q1, q2, q3, q4, q5⟩ := A
  have hin := inb_of q2 hj
  obtain ⟨T', h', Y', e', W, st⟩ := stJ Y r.1 hZ eT Ar hin (g := mkF K.2.2.2.1 pc L (.long x :: .int j :: .ref a :: S)) rfl rfl (hb r.2.1 hd)
  obtain ⟨s₂, o, x, r'⟩ := nx h' (Keep.of_wr W) W.size (Arv.set Ar q1 q2 q3 q4 q5 rfl W i hi hl) T' (St.wrote W ha Y' e' hS hk hZ hown N C M O r)
  exact ⟨s₂, o, st _ x, r'⟩
theorem go_arraylength {a : Addr} {k : ClassId} {ty : FieldType} {z : Int32} {vs : List Value} {dv : Value} (A : Arv Z h a k ty z vs dv) (hd : decode b pc = .ok (.arraylength, 1)) (hq : pc + 1 = q)
    (nx : Go l Z K own mn b ml rt R Q h F c s q L (.int z :: S)) : Go l Z K own mn b ml rt R Q h F c s pc L (.ref a :: S) := by
  subst hq
  exact go_of (fun T X t st => by
    obtain ⟨vm, k, locs, Y, eT, hS, hk, hZ, hown, N, C, M, O, r⟩ := X
    obtain ⟨cl, Ar, q1, q2, q3, q4, q5⟩ := A
    refine Y.arraylength r.1 (by rw [eT]; exact Ar.1) (State.isArrayOf_alike hZ.alike Ar.2.1) (g := mkF K.2.2.2.1 pc L (.ref a :: S)) rfl rfl (hb r.2.1 hd) _ ?_
    rw [len_of q2 q3]; exact st) nx
theorem go_caload {a : Addr} {k : ClassId} {z j : Int32} {vs : List Value} {dv v : Value} (A : Arv Z h a k .char z vs dv) (hj : ¬ j < 0 ∧ j < z) (hv : vs.getD j.toNatClampNeg dv = v) (hd : decode b pc = .ok (.caload, 1)) (hq : pc + 1 = q)
    (nx : Go l Z K own mn b ml rt R Q h F c s q L (v :: S)) : Go l Z K own mn b ml rt R Q h F c s pc L (.int j :: .ref a :: S) := by
  subst hq
  exact go_of (fun T X t st => by
    obtain ⟨vm, k, locs, Y, eT, hS, hk, hZ, hown, N, C, M, O, r⟩ := X
    obtain ⟨cl, Ar, q1, q2, q3, q4, q5⟩ := A
    exact Y.caload r.1 (by rw [eT]; exact Ar.1) (State.isArrayOf_alike hZ.alike Ar.2.1) Ar.2.2 (inb_of q2 hj) (q4.at (inb_of q2 hj) hv) (g := mkF K.2.2.2.1 pc L (.int j :: .ref a :: S)) rfl rfl (hb r.2.1 hd) _ st) nx
theorem go_baload {a : Addr} {k : ClassId} {z j : Int32} {vs : List Value} {dv v : Value} (A : Arv Z h a k .byte z vs dv) (hj : ¬ j < 0 ∧ j < z) (hv : vs.getD j.toNatClampNeg dv = v) (hd : decode b pc = .ok (.baload, 1)) (hq : pc + 1 = q)
    (nx : Go l Z K own mn b ml rt R Q h F c s q L (v :: S)) : Go l Z K own mn b ml rt R Q h F c s pc L (.int j :: .ref a :: S) := by
  subst hq
  exact go_of (fun T X t st => by
    obtain ⟨vm, k, locs, Y, eT, hS, hk, hZ, hown, N, C, M, O, r⟩ := X
    obtain ⟨cl, Ar, q1, q2, q3, q4, q5⟩ := A
    exact Y.baloadBytes r.1 (by rw [eT]; exact Ar.1) (State.isArrayOf_alike hZ.alike Ar.2.1) Ar.2.2 (inb_of q2 hj) (q4.at (inb_of q2 hj) hv) (g := mkF K.2.2.2.1 pc L (.int j :: .ref a :: S)) rfl rfl (hb r.2.1 hd) _ st) nx
theorem go_laload {a : Addr} {k : ClassId} {z j : Int32} {vs : List Value} {dv v : Value} (A : Arv Z h a k .long z vs dv) (hj : ¬ j < 0 ∧ j < z) (hv : vs.getD j.toNatClampNeg dv = v) (hd : decode b pc = .ok (.laload, 1)) (hq : pc + 1 = q)
    (nx : Go l Z K own mn b ml rt R Q h F c s q L (v :: S)) : Go l Z K own mn b ml rt R Q h F c s pc L (.int j :: .ref a :: S) := by
  subst hq
  exact go_of (fun T X t st => by
    obtain ⟨vm, k, locs, Y, eT, hS, hk, hZ, hown, N, C, M, O, r⟩ := X
    obtain ⟨cl, Ar, q1, q2, q3, q4, q5⟩ := A
    exact Y.laload r.1 (by rw [eT]; exact Ar.1) (State.isArrayOf_alike hZ.alike Ar.2.1) Ar.2.2 (inb_of q2 hj) (q4.at (inb_of q2 hj) hv) (g := mkF K.2.2.2.1 pc L (.int j :: .ref a :: S)) rfl rfl (hb r.2.1 hd) _ st) nx
theorem go_aaload {a : Addr} {k : ClassId} {ty : FieldType} {z j : Int32} {vs : List Value} {dv v : Value} (A : Arv Z h a k ty z vs dv) (hty : ty.isReference = true) (hj : ¬ j < 0 ∧ j < z) (hv : vs.getD j.toNatClampNeg dv = v) (hd : decode b pc = .ok (.aaload, 1)) (hq : pc + 1 = q)
    (nx : Go l Z K own mn b ml rt R Q h F c s q L (v :: S)) : Go l Z K own mn b ml rt R Q h F c s pc L (.int j :: .ref a :: S) := by
  subst hq
  exact go_of (fun T X t st => by
    obtain ⟨vm, k, locs, Y, eT, hS, hk, hZ, hown, N, C, M, O, r⟩ := X
    obtain ⟨cl, Ar, q1, q2, q3, q4, q5⟩ := A
    exact Y.aaload r.1 (by rw [eT]; exact Ar.1) (State.isArrayOf_alike hZ.alike Ar.2.1) hty Ar.2.2 (inb_of q2 hj) (q4.at (inb_of q2 hj) hv) (g := mkF K.2.2.2.1 pc L (.int j :: .ref a :: S)) rfl rfl (hb r.2.1 hd) _ st) nx
theorem go_checkcast {index : Nat} {C : String} {a : Addr} (w : (Cond.classLink own index C).before a0 Z = true) (I : Ins Z h a C true) (hd : decode b pc = .ok (.checkcast index, 3)) (hq : pc + 3 = q)
    (nx : Go l Z K own mn b ml rt R Q h F c s q L (.ref a :: S)) : Go l Z K own mn b ml rt R Q h F c s pc L (.ref a :: S) := fun T X => by
  subst hq
  obtain ⟨vm, k, locs, Y, eT, hS, hk, hZ, hown, N, C, M, O, r⟩ := X
  obtain ⟨T', Y', e', st⟩ := castY Y r.1 hZ hown w eT I (g := mkF K.2.2.2.1 pc L (.ref a :: S)) rfl rfl (hb r.2.1 hd)
  obtain ⟨s₂, o, x, r'⟩ := nx T' ⟨vm, k, locs, Y', e', hS, hk, hZ, hown, N, C, M, O, r⟩
  exact ⟨s₂, o, st _ x, r'⟩
theorem go_instY {index : Nat} {C : String} {a : Addr} (w : (Cond.classLink own index C).before a0 Z = true) (I : Ins Z h a C true) (hd : decode b pc = .ok (.instanceof index, 3)) (hq : pc + 3 = q)
    (nx : Go l Z K own mn b ml rt R Q h F c s q L (.int 1 :: S)) : Go l Z K own mn b ml rt R Q h F c s pc L (.ref a :: S) := fun T X => by
  subst hq
  obtain ⟨vm, k, locs, Y, eT, hS, hk, hZ, hown, N, C, M, O, r⟩ := X
  obtain ⟨T', Y', e', st⟩ := instY Y r.1 hZ hown w eT I (g := mkF K.2.2.2.1 pc L (.ref a :: S)) rfl rfl (hb r.2.1 hd)
  obtain ⟨s₂, o, x, r'⟩ := nx T' ⟨vm, k, locs, Y', e', hS, hk, hZ, hown, N, C, M, O, r⟩
  exact ⟨s₂, o, st _ x, r'⟩
theorem go_instNo {index : Nat} {C D : String} {a : Addr} (w : (Cond.classLink own index D).before a0 Z = true) (E : Exa Z h a C) (Fn : ∃ c t, Z.vm.findClass C = some c ∧ Z.vm.findClass D = some t ∧ Z.vm.assignable c t = false) (hd : decode b pc = .ok (.instanceof index, 3)) (hq : pc + 3 = q)
    (nx : Go l Z K own mn b ml rt R Q h F c s q L (.int 0 :: S)) : Go l Z K own mn b ml rt R Q h F c s pc L (.ref a :: S) := fun T X => by
  subst hq
  obtain ⟨vm, k, locs, Y, eT, hS, hk, hZ, hown, N, C, M, O, r⟩ := X
  obtain ⟨T', Y', e', st⟩ := instNo Y r.1 hZ hown w eT E Fn (g := mkF K.2.2.2.1 pc L (.ref a :: S)) rfl rfl (hb r.2.1 hd)
  obtain ⟨s₂, o, x, r'⟩ := nx T' ⟨vm, k, locs, Y', e', hS, hk, hZ, hown, N, C, M, O, r⟩
  exact ⟨s₂, o, st _ x, r'⟩
theorem go_ldcInt {index : Nat} {v : Int32} (w : (Cond.constant own index v).before a0 Z = true) (hd : decode b pc = .ok (.ldc index, 2)) (hq : pc + 2 = q) (nx : Go l Z K own mn b ml rt R Q h F c s q L (.int v :: S)) : Go l Z K own mn b ml rt R Q h F c s pc L S := by
  subst hq
  exact go_of (fun T X t st => by
    obtain ⟨vm, k, locs, Y, eT, hS, hk, hZ, hown, N, C, M, O, r⟩ := X
    exact Y.ldcInt r.1 hown (mvT (s := K.2.2.1.setVm vm) hZ w) (g := mkF K.2.2.2.1 pc L S) rfl (hb r.2.1 hd) _ st) nx
theorem go_ldc2 {index : Nat} {v : Int64} (w : (Cond.constantLong own index v).before a0 Z = true) (hd : decode b pc = .ok (.ldc2_w index, 3)) (hq : pc + 3 = q) (nx : Go l Z K own mn b ml rt R Q h F c s q L (.long v :: S)) : Go l Z K own mn b ml rt R Q h F c s pc L S := by
  subst hq
  exact go_of (fun T X t st => by
    obtain ⟨vm, k, locs, Y, eT, hS, hk, hZ, hown, N, C, M, O, r⟩ := X
    exact Y.ldc2Long r.1 hown (mvT (s := K.2.2.1.setVm vm) hZ w) (g := mkF K.2.2.2.1 pc L S) rfl (hb r.2.1 hd) _ st) nx
/-- ldc of a String constant, read -/
theorem go_ldcS (H : Wd Z a0) {index : Nat} {text : String} (w : (Cond.stringLink own index text).before a0 Z = true) (hm : (own, index) ∈ consts_1) {vs : List Value} {z : Int32} (ht : (∀ c ∈ text.toList, c.toNat < 256) ∧ text.toList.map (fun c => Value.int (Jvm.Lit.byteI c.toNat.toUInt16)) = vs) (hz : ¬ z < 0) (hl : z.toNatClampNeg = vs.length)
    (hd : decode b pc = .ok (.ldc index, 2)) {n : Nat} (hn : 4 * text.toList.length ≤ n) (hbig : n ≤ 536870912) (hq : pc + 2 = q) (hc : c + 2 = c') (hs : s + (n + 4) = s') (hc' : c' ≤ R.cells) (hs' : s' ≤ R.slots)
    (nx : ∀ h' a bb k, Ext h h' → Exa Z h' a "java/lang/String" → Fld Z h' a "java/lang/String" "coder" "B" (.int 0) → Fld Z h' a "java/lang/String" "value" "[B" (.ref bb) → Arv Z h' bb k .byte z vs (.int 0) → (∀ x ∈ F, x ≠ a ∧ x ≠ bb) → Go l Z K own mn b ml rt R Q h' F c' s' q L (.ref a :: S)) : Go l Z K own mn b ml rt R Q h F c s pc L S := fun T X => by
  subst hq hc hs
  obtain ⟨vm, k, locs, Y, eT, hS, hk, hZ, hown, N, C, M, O, r⟩ := X
  obtain ⟨a, T', h', k1, bb, kc, Y', e', E, hS', hk', hZ', hown', A, Fc, Fv, V, -, -, C', -, Sf, st⟩ := ldcCH Y r.1 hZ hown w H.2.2.1 eT hS hk H.2.1 hm C.1 ht hz hl (g := mkF K.2.2.2.1 pc L S) rfl (hb r.2.1 hd) hn hbig hc' hs'
  have M' : ∀ x ∈ F, Mine Z T'.vm h' x := fun x hx => ⟨(M x hx).1, Nat.lt_of_lt_of_le (M x hx).2.1 E.1, C'.safe (M x hx).2.1 (M x hx).2.2⟩
  obtain ⟨s₂, o, x, r'⟩ := nx h' a bb kc E A Fc Fv V (fun x hx => Sf x (M' x hx).2.2) T' ⟨T'.vm, k1, locs, Y', e', hS', hk', hZ', hown', N, C.trans C', M', O.ext E, r⟩
  exact ⟨s₂, o, st _ x, r'⟩
theorem go_initO {index : Nat} {a : Addr} (w1 : (Cond.methodLink own index Lib.objectInit).before a0 Z = true) (w2 : (Cond.instanceMethod Lib.objectInit).before a0 Z = true) (w3 : (Cond.code Lib.objectInit ⟨#[0xb1]⟩ 1 none).before a0 Z = true) (hL : L.size = ml) (hd : decode b pc = .ok (.invokespecial index, 3)) (hq : pc + 3 = q) (hf : 1 ≤ R.frames) (hlo : (S.map fun v => v.category).sum + 12 ≤ R.locals)
    (nx : Go l Z K own mn b ml rt R Q h F c s q L S) : Go l Z K own mn b ml rt R Q h F c s pc L (.ref a :: S) := fun T X => by
  subst hq
  obtain ⟨vm, k, locs, Y, eT, hS, hk, hZ, hown, N, C, M, O, r⟩ := X
  obtain ⟨T', Y', e', st⟩ := initO Y r.1 hZ hown w1 w2 w3 eT (g := mkF K.2.2.2.1 pc L (.ref a :: S)) rfl (by rw [r.2.2.1]; exact hL) rfl (hb r.2.1 hd) hf (W := (S.map fun v => v.category).sum) (by show 2 * 0 + _ ≤ _; omega) hlo
  obtain ⟨s₂, o, x, r'⟩ := nx T' ⟨vm, k, locs, Y', e', hS, hk, hZ, hown, N, C, M, O, r⟩
  exact ⟨s₂, o, st _ x, r'⟩
/-! ### returns -/
theorem St.end_ (H : Wd Z a0) {T : State} (X : St l Z K own mn b ml rt R T h F c s) {G : List Addr} {v : Option Value} (hq : Q v h G) (hG : ∀ x ∈ G, x ∈ F) (hc : c ≤ R.cells) (hs : s ≤ R.slots) (hv : rt = none → v = none) :
    ∃ fs, (∀ (f : JFrame) (acts : List Action), f.method = K.2.2.2.1 → f.locked = none → f.entered = [] → (doReturn K.2.1 (T.setTop f) acts v).1 = T.setFrames fs) ∧ (T.setFrames fs).status = .running ∧ Ended (T.setFrames fs) K.2.2.2.2.2.1 (.returned v) ∧ End Z K.2.2.1 R Q (.returned v) (T.setFrames fs) := by
  obtain ⟨vm, k, locs, Y, eT, hS, hk, hZ, hown, N, C, M, O, hx, hb', r1, r2, r3, r4⟩ := X
  obtain ⟨fs, h1, h2, h3, h4⟩ := Y.leaveW hS (by rw [eT]; exact hk) (v := v) (fun e => hv (r2.symm.trans e)) r4
  have A := CHv.at Y hZ H.2.1 C.1
  refine ⟨fs, h1, h2, h3, v, locs, G, rfl, by show Q v T.heap G; rw [eT]; exact hq, N, fun x hx => ?_, by show CHr Z consts_1 _ _ T.vm T.heap; rw [eT]; exact C.trans A, by show Old Z _ T.heap; rw [eT]; exact O, h4.1, h4.2.1, h4.2.2.1, h4.2.2.2.mono hc hs⟩
  have m := M x (hG x hx)
  exact ⟨m.1, by show x < T.heap.size; rw [eT]; exact m.2.1, by show Safe Z consts_1 T.vm T.heap x; rw [eT]; exact A.safe m.2.1 m.2.2⟩
theorem go_return (H : Wd Z a0) {G : List Addr} (hr : rt = none) (hd : decode b pc = .ok (.return_, 1)) (hc : c ≤ R.cells) (hs : s ≤ R.slots) (hG : ∀ x ∈ G, x ∈ F) (hq : Q none h G) : Go l Z K own mn b ml rt R Q h F c s pc L [] := fun T X => by
  obtain ⟨fs, h1, h2, h3, h4⟩ := X.end_ H hq hG hc hs (fun _ => rfl)
  obtain ⟨vm, k, locs, Y, eT, hS, hk, hZ, hown, N, C, M, O, hx, hb', r1, r2, r3, r4⟩ := X
  exact ⟨_, _, Y.returnOut hx (r2.trans hr) (hb hb' hd) h1, h2, h3, h4⟩
theorem go_areturn (H : Wd Z a0) {G : List Addr} {w : Value} {t : FieldType} (hr : rt = some t) (ht : t.isReference = true) (hw : w.isRef = true) (hd : decode b pc = .ok (.areturn, 1)) (hc : c ≤ R.cells) (hs : s ≤ R.slots) (hG : ∀ x ∈ G, x ∈ F) (hq : Q (some w) h G) : Go l Z K own mn b ml rt R Q h F c s pc L (w :: S) := fun T X => by
  obtain ⟨fs, h1, h2, h3, h4⟩ := X.end_ H hq hG hc hs (fun e => by rw [hr] at e; cases e)
  obtain ⟨vm, k, locs, Y, eT, hS, hk, hZ, hown, N, C, M, O, hx, hb', r1, r2, r3, r4⟩ := X
  have hn : narrow t w = w := by cases t <;> cases w <;> simp_all [narrow, Value.isRef, FieldType.isReference]
  exact ⟨_, _, retOut Y hx (r2.trans hr) hn (Or.inr (Or.inr (Or.inr (Or.inr ⟨rfl, ht, hw⟩)))) (hb hb' hd) h1, h2, h3, h4⟩
theorem go_ireturn (H : Wd Z a0) {G : List Addr} {x : Int32} {t : FieldType} (hr : rt = some t) (ht : t = .int ∨ t = .boolean ∨ t = .byte ∨ t = .char ∨ t = .short) (hn : narrow t (.int x) = .int x) (hd : decode b pc = .ok (.ireturn, 1)) (hc : c ≤ R.cells) (hs : s ≤ R.slots) (hG : ∀ x ∈ G, x ∈ F) (hq : Q (some (.int x)) h G) : Go l Z K own mn b ml rt R Q h F c s pc L (.int x :: S) := fun T X => by
  obtain ⟨fs, h1, h2, h3, h4⟩ := X.end_ H hq hG hc hs (fun e => by rw [hr] at e; cases e)
  obtain ⟨vm, k, locs, Y, eT, hS, hk, hZ, hown, N, C, M, O, hx, hb', r1, r2, r3, r4⟩ := X
  exact ⟨_, _, retOut Y hx (r2.trans hr) hn (Or.inl ⟨rfl, ht, x, rfl⟩) (hb hb' hd) h1, h2, h3, h4⟩
theorem go_lreturn (H : Wd Z a0) {G : List Addr} {x : Int64} (hr : rt = some .long) (hd : decode b pc = .ok (.lreturn, 1)) (hc : c ≤ R.cells) (hs : s ≤ R.slots) (hG : ∀ x ∈ G, x ∈ F) (hq : Q (some (.long x)) h G) : Go l Z K own mn b ml rt R Q h F c s pc L (.long x :: S) := fun T X => by
  obtain ⟨fs, h1, h2, h3, h4⟩ := X.end_ H hq hG hc hs (fun e => by rw [hr] at e; cases e)
  obtain ⟨vm, k, locs, Y, eT, hS, hk, hZ, hown, N, C, M, O, hx, hb', r1, r2, r3, r4⟩ := X
  exact ⟨_, _, retOut Y hx (r2.trans hr) rfl (Or.inr (Or.inl ⟨rfl, rfl, x, rfl⟩)) (hb hb' hd) h1, h2, h3, h4⟩
/-! ### calls -/
/-- what a callee leaves, as the caller's law sees it -/
def Left (Z : State) (vm0 : Vm) (h : Heap) (R' : Room) (Q' : QT) (A : Pt) (v : Option Value) (B : Pt) : Prop :=
  ∃ L G, Q' v B.U.heap G ∧ Fr Z.heap.size L ∧ (∀ x ∈ G, Mine Z B.U.vm B.U.heap x) ∧ CHr Z consts_1 vm0 h B.U.vm B.U.heap ∧ Old Z Z.heap.size B.U.heap ∧ B.locs = A.locs ++ L ∧ B.cells = A.cells + R'.cells ∧ B.slots = A.slots + R'.slots
theorem Met.back {y : MethodName} {b' : ByteArray} {ml' : Nat} {rt' : Option FieldType} {R' : Room} {F' : List Addr} {as : Array Value} {Q' : QT} {len W : Nat} {vm0 : Vm} {p : Program} {e : Env} {below : List Frame} {s : State} {args : Array Value} (H : Wd Z a0) (M : Met l Z y b' ml' rt' R' h F' as Q') (hZ : Z.Warmed39 vm0)
    (wc : (Cond.code y b' ml' rt').before a0 Z = true) (wz : (Cond.initialized y.cls).before a0 Z = true) (hf : R'.frames + 1 ≤ R.frames) (hl : W + (ml' + 11) + R'.locals ≤ R.locals) (C : CHv Z consts_1 vm0 h) (hM : ∀ x ∈ F', Mine Z vm0 h x) (hO : Old Z Z.heap.size h) :
    BackS l R p e below (s.setVm vm0) args y len W (fun A a => a = as ∧ A.U.heap = h ∧ A.cells + R'.cells ≤ R.cells ∧ A.slots + R'.slots ≤ R.slots) (fun A _ v B => Left Z vm0 h R' Q' A v B) :=
  BackS.of_freeW (bytes := b') (maxL := ml') (ret := rt') (E := fun _ first o t L k n => k = R'.cells ∧ n = R'.slots ∧ ∃ v G, o = .returned v ∧ Q' v t.heap G ∧ Fr Z.heap.size L ∧ (∀ x ∈ G, Mine Z t.vm t.heap x) ∧ CHr Z consts_1 first.vm first.heap t.vm t.heap ∧ Old Z Z.heap.size t.heap) M hf hl
    (fun m meth c A a Y hp => have hU : Z.Warmed39 A.U.vm := wtrans (s := s.setVm vm0) hZ Y.warmed
      ⟨by show (Cond.and _ .tt).before a A.U = true; rw [Cond.before_and, mv hU wc]; rfl, mv hU wc, mv hU wz, hp.2.2.1, hp.2.2.2⟩)
    (fun m meth c A a g mk Y hp => ⟨hp.1, wtrans (s := s.setVm vm0) hZ Y.warmed, hp.2.1, (CHv.at Y hZ H.2.1 C).1, fun x hx => ⟨(hM x hx).1, (hM x hx).2.1, (CHv.at Y hZ H.2.1 C).safe (hM x hx).2.1 (hM x hx).2.2⟩, hO⟩) (fun _ _ _ _ _ _ _ _ _ => trivial)
    (fun _ _ _ _ ⟨v, L, G, h1, h2, h3, h4, h5, h6, h7⟩ => ⟨L, _, _, h7, rfl, rfl, v, G, h1, h2, h3, h4, h5, h6⟩)
    (fun m meth c A a g mk v t L k n Y hp _ _ ⟨e1, e2, v', G, e3, e4, e5, e6, e7, e8⟩ => by
      cases e3; subst e1 e2
      refine ⟨L, G, e4, e5, e6, (CHv.at Y hZ H.2.1 C).trans ?_, e8, rfl, rfl, rfl⟩
      rw [← hp.2.1]; exact e7)
/-- behind a call -/
theorem St.came {vm : Vm} {k : Nat} {locs : List Loc} {T : State} {R' : Room} {Q' : QT} {v : Option Value} {vm₁ : Vm} {B : Pt} (Y : Stand K.1 l K.2.1 R (K.2.2.1.setVm vm) K.2.2.2.1 K.2.2.2.2.1 K.2.2.2.2.2.1 K.2.2.2.2.2.2.1 K.2.2.2.2.2.2.2 T locs c s) (eT : T.heap = h) (hS : K.2.2.1.Since vm k) (hk : k ≤ h.size)
    (hZ : Z.Warmed39 vm) (hown : vm.findClass own = some K.2.2.2.1.cls) (N : Fr Z.heap.size locs) (C : CHr Z consts_1 K.2.2.1.vm K.2.2.1.heap vm h) (M : ∀ x ∈ F, Mine Z vm h x)
    (r : K.1.tables.exec = Jvm.exec ∧ K.2.2.2.2.2.2.2.code = b ∧ K.2.2.2.2.2.2.2.maxLocals = ml ∧ K.2.2.2.2.2.2.1.sig.returnType = rt ∧ K.2.2.2.2.2.2.1.name = mn ∧ K.2.2.2.2.2.2.1.locks = false)
    (Y' : Stand K.1 l K.2.1 R ((K.2.2.1.setVm vm).setVm B.U.vm) K.2.2.2.1 K.2.2.2.2.1 K.2.2.2.2.2.1 K.2.2.2.2.2.2.1 K.2.2.2.2.2.2.2 B.U B.locs B.cells B.slots) (hS' : (K.2.2.1.setVm vm).Since B.U.vm B.U.heap.size) (hg : T.heap.size ≤ B.U.heap.size) (P : Left Z vm h R' Q' ⟨T.setVm vm₁, locs, c, s⟩ v B) :
    ∃ G, Q' v B.U.heap G ∧ (∀ F2, (∀ x ∈ F2, x ∈ G ∨ x ∈ F) → St l Z K own mn b ml rt R B.U B.U.heap F2 (c + R'.cells) (s + R'.slots)) := by
  obtain ⟨Lc, G, q1, q2, q3, q4, q5, q6, q7, q8⟩ := P
  have hkT : k ≤ T.heap.size := by rw [eT]; exact hk
  obtain ⟨w1, w2, w3, w4⟩ := rebS hS hkT Y' hS' hg hZ hown
  try dsimp only at q6 q7 q8
  rw [q6, q7, q8] at w1
  exact ⟨G, q1, fun F2 hF => ⟨B.U.vm, _, _, w1, rfl, w2, Nat.le_refl _, w3, w4, N.app q2, C.trans q4, fun x hx => by
    rcases hF x hx with z | z
    · exact q3 x z
    · have m := M x z
      exact ⟨m.1, Nat.lt_of_lt_of_le m.2.1 (by rw [← eT]; exact hg), q4.safe m.2.1 m.2.2⟩, q5, r⟩⟩
theorem decl_of {y : MethodName} {b' : ByteArray} {ml' : Nat} {rt' : Option FieldType} (w1 : (Cond.instanceMethod y).before a0 Z = true) (w2 : (Cond.code y b' ml' rt').before a0 Z = true) : (Cond.declares y).before a0 Z = true := by
  obtain ⟨mk, methM, hn, hm, hst, -⟩ := Cond.instanceMethod_spec w1
  obtain ⟨m2, cM, q1, -, -, -, -, -, -, hsig⟩ := Cond.code_spec hn w2
  cases hm.symm.trans q1
  simp [Cond.before, Cond.holds, Cond.value, hn, hm, hst, hsig]
theorem nf_mate {y w : MethodName} {C : String} (hc : w.cls = y.cls) (hs : (Cond.selects C w w).before a0 Z = true) : ∀ s : State, Z.Warmed39 s.vm → NotFace s y := fun s hZ r0 h0 => by
  obtain ⟨c, r, m, q1, q2, q3, q4, mk, q5, q6⟩ := Cond.selects_spec (mvT (s := s) (args := #[]) hZ hs)
  have e1 := findClass_of_methodNamed q3
  have e2 := findClass_of_methodNamed h0
  rw [hc] at e1
  have e3 : m.cls = r0.cls := Option.some.inj (e1.symm.trans e2)
  exact ⟨mk, by rw [← e3]; exact q5, q6⟩
theorem same_of {y w : MethodName} {C : String} (hc : w.cls = y.cls) (hs : (Cond.selects C w w).before a0 Z = true) (hd : (Cond.declares y).before a0 Z = true) (hy : y.cls ≠ "java/lang/invoke/MethodHandle" ∧ y.cls ≠ "java/lang/invoke/VarHandle") : (Cond.sameMethod y.cls y.cls y.name y.desc).before a0 Z = true := by
  obtain ⟨r0, r, hn, hrm, -, -⟩ := Cond.declares_spec hd
  obtain ⟨k, hk, hi⟩ := nf_mate hc hs Z (State.Warmed39.refl Z) r0 hn
  have hf := State.methodFound?_of_named hn hy
  have hcn := findClass_of_methodNamed hn
  have hn' : Z.methodNamed? ⟨y.cls, y.name, y.desc⟩ = some r0 := hn
  simp [Cond.before, Cond.holds, Cond.value, hcn, hf, hn', hk, hi]
section Calls
variable {index : Nat} {y : MethodName} {b' : ByteArray} {ml' : Nat} {rt' : Option FieldType} {R' : Room} {F' : List Addr} {as : Array Value} {Q' : QT} {argsL : List Value}
theorem go_static (H : Wd Z a0) (w1 : (Cond.methodLink own index y).before a0 Z = true) (w2 : (Cond.static y).before a0 Z = true) (w3 : (Cond.initialized y.cls).before a0 Z = true) (w4 : (Cond.code y b' ml' rt').before a0 Z = true) (hy : y.cls ≠ "java/lang/invoke/MethodHandle" ∧ y.cls ≠ "java/lang/invoke/VarHandle") (M' : Met l Z y b' ml' rt' R' h F' as Q')
    (ha : argsL.toArray = as) (hst : S' = argsL.reverse ++ S) (hlen : ∀ sig, parseMethodDescriptor y.desc = some sig → argsL.length = sig.parameters.length) (hF : ∀ x ∈ F', x ∈ F) (hL : L.size = ml) (hfr : R'.frames + 1 ≤ R.frames) (hlo : (S.map fun v => v.category).sum + (ml' + 11) + R'.locals ≤ R.locals) (hc : c + R'.cells = c') (hs : s + R'.slots = s') (hc' : c' ≤ R.cells) (hs' : s' ≤ R.slots)
    (hd : decode b pc = .ok (.invokestatic index, 3)) (hq : pc + 3 = q) (nx : ∀ v h' G, h.size ≤ h'.size → Q' v h' G → ∃ F2, (∀ x ∈ F2, x ∈ G ∨ x ∈ F) ∧ Go l Z K own mn b ml rt R Q h' F2 c' s' q L (v.toList ++ S)) : Go l Z K own mn b ml rt R Q h F c s pc L S' := fun T X => by
  subst hq hc hs hst ha
  obtain ⟨vm, k, locs, Y, eT, hS, hk, hZ, hown, N, C, M, O, r⟩ := X
  obtain ⟨v, vm₁, B, -, Y', hS', hg, P, st⟩ := callSS Y r.1 hown (mvT (s := K.2.2.1.setVm vm) hZ w1) (mvT (s := K.2.2.1.setVm vm) hZ w2) (mvT (s := K.2.2.1.setVm vm) hZ w3) (mvT (s := K.2.2.1.setVm vm) hZ w4) hy (W := (S.map fun v => v.category).sum) (M'.back H hZ w4 w3 hfr hlo C.1 (fun x hx => M x (hF x hx)) O) (g := mkF K.2.2.2.1 pc L (argsL.reverse ++ S)) rfl (by rw [r.2.2.1]; exact hL) (argsL := argsL) (rest := S) hlen rfl (by show 2 * 0 + _ ≤ _; omega) (hb r.2.1 hd) (fun _ _ => ⟨rfl, eT, hc', hs'⟩)
  obtain ⟨G, q1, q2⟩ := St.came Y eT hS hk hZ hown N C M r Y' hS' hg P
  obtain ⟨F2, f1, f2⟩ := nx v B.U.heap G (by rw [← eT]; exact hg) q1
  obtain ⟨s₂, o, x, r'⟩ := f2 B.U (q2 F2 f1)
  exact ⟨s₂, o, st.trans x, r'⟩
theorem go_special (H : Wd Z a0) {a : Addr} (hy1 : y.name = "<init>") (w1 : (Cond.methodLink own index y).before a0 Z = true) (w2 : (Cond.instanceMethod y).before a0 Z = true) (w3 : (Cond.initialized y.cls).before a0 Z = true) (w4 : (Cond.code y b' ml' none).before a0 Z = true) (hy : y.cls ≠ "java/lang/invoke/MethodHandle" ∧ y.cls ≠ "java/lang/invoke/VarHandle") (M' : Met l Z y b' ml' none R' h F' as Q')
    (ha : (.ref a :: argsL).toArray = as) (hst : S' = argsL.reverse ++ .ref a :: S) (hlen : ∀ sig, parseMethodDescriptor y.desc = some sig → argsL.length = sig.parameters.length) (hF : ∀ x ∈ F', x ∈ F) (hL : L.size = ml) (hfr : R'.frames + 1 ≤ R.frames) (hlo : (S.map fun v => v.category).sum + (ml' + 11) + R'.locals ≤ R.locals) (hc : c + R'.cells = c') (hs : s + R'.slots = s') (hc' : c' ≤ R.cells) (hs' : s' ≤ R.slots)
    (hd : decode b pc = .ok (.invokespecial index, 3)) (hq : pc + 3 = q) (nx : ∀ v h' G, h.size ≤ h'.size → Q' v h' G → ∃ F2, (∀ x ∈ F2, x ∈ G ∨ x ∈ F) ∧ Go l Z K own mn b ml rt R Q h' F2 c' s' q L (v.toList ++ S)) : Go l Z K own mn b ml rt R Q h F c s pc L S' := fun T X => by
  subst hq hc hs hst ha
  obtain ⟨vm, k, locs, Y, eT, hS, hk, hZ, hown, N, C, M, O, r⟩ := X
  obtain ⟨v, vm₁, B, -, Y', hS', hg, P, st⟩ := Y.specialBackS r.1 hy1 hown (mvT (s := K.2.2.1.setVm vm) hZ w1) (mvT (s := K.2.2.1.setVm vm) hZ w2) (mvT (s := K.2.2.1.setVm vm) hZ w4) hy (W := (S.map fun v => v.category).sum) (M'.back H hZ w4 w3 hfr hlo C.1 (fun x hx => M x (hF x hx)) O) (g := mkF K.2.2.2.1 pc L (argsL.reverse ++ .ref a :: S)) rfl (by rw [r.2.2.1]; exact hL) (Steps.refl _) (argsL := argsL) (rest := S) hlen rfl (by show 2 * 0 + _ ≤ _; omega) (hb r.2.1 hd) (fun _ _ => ⟨rfl, eT, hc', hs'⟩)
  obtain ⟨G, q1, q2⟩ := St.came Y eT hS hk hZ hown N C M r Y' hS' hg P
  obtain ⟨F2, f1, f2⟩ := nx v B.U.heap G (by rw [← eT]; exact hg) q1
  obtain ⟨s₂, o, x, r'⟩ := f2 B.U (q2 F2 f1)
  exact ⟨s₂, o, st.trans x, r'⟩
/-- invokevirtual of y on an object exactly of class C: the body is z's -/
theorem go_virtual (H : Wd Z a0) {a : Addr} {C : String} {z : MethodName} (w1 : (Cond.methodLink own index y).before a0 Z = true) (w2 : (Cond.declares y).before a0 Z = true) (wnf : ∀ s : State, Z.Warmed39 s.vm → NotFace s y) (w3 : (Cond.selects C y z).before a0 Z = true) (w4 : (Cond.instanceMethod z).before a0 Z = true) (w5 : (Cond.initialized z.cls).before a0 Z = true) (w6 : (Cond.code z b' ml' rt').before a0 Z = true)
    (hy : y.cls ≠ "java/lang/invoke/MethodHandle" ∧ y.cls ≠ "java/lang/invoke/VarHandle") (E : Exa Z h a C) (M' : Met l Z z b' ml' rt' R' h F' as Q')
    (ha : (.ref a :: argsL).toArray = as) (hst : S' = argsL.reverse ++ .ref a :: S) (hlen : ∀ sig, parseMethodDescriptor y.desc = some sig → argsL.length = sig.parameters.length) (hF : ∀ x ∈ F', x ∈ F) (hL : L.size = ml) (hfr : R'.frames + 1 ≤ R.frames) (hlo : (S.map fun v => v.category).sum + (ml' + 11) + R'.locals ≤ R.locals) (hc : c + R'.cells = c') (hs : s + R'.slots = s') (hc' : c' ≤ R.cells) (hs' : s' ≤ R.slots)
    (hd : decode b pc = .ok (.invokevirtual index, 3)) (hq : pc + 3 = q) (nx : ∀ v h' G, h.size ≤ h'.size → Q' v h' G → ∃ F2, (∀ x ∈ F2, x ∈ G ∨ x ∈ F) ∧ Go l Z K own mn b ml rt R Q h' F2 c' s' q L (v.toList ++ S)) : Go l Z K own mn b ml rt R Q h F c s pc L S' := fun T X => by
  subst hq hc hs hst ha
  obtain ⟨vm, k, locs, Y, eT, hS, hk, hZ, hown, N, C, M, O, r⟩ := X
  obtain ⟨cB, kB, g1, g2, g3⟩ := isOf (s := K.2.2.1.setVm vm) hZ eT E
  obtain ⟨v, vm₁, B, -, Y', hS', hg, P, st⟩ := Y.virtualBackS r.1 hown (mvT (s := K.2.2.1.setVm vm) hZ w1) (mvT (s := K.2.2.1.setVm vm) hZ w2) (wnf (K.2.2.1.setVm vm) hZ) (mvT (s := K.2.2.1.setVm vm) hZ w3) (mvT (s := K.2.2.1.setVm vm) hZ w4) hy (W := (S.map fun v => v.category).sum) (M'.back H hZ w6 w5 hfr hlo C.1 (fun x hx => M x (hF x hx)) O) g1 g3 (g := mkF K.2.2.2.1 pc L (argsL.reverse ++ .ref a :: S)) rfl (by rw [r.2.2.1]; exact hL) (Steps.refl _) (argsL := argsL) (rest := S) hlen rfl (by show 2 * 0 + _ ≤ _; omega) (hb r.2.1 hd) (fun _ _ => ⟨rfl, eT, hc', hs'⟩)
  obtain ⟨G, q1, q2⟩ := St.came Y eT hS hk hZ hown N C M r Y' hS' hg P
  obtain ⟨F2, f1, f2⟩ := nx v B.U.heap G (by rw [← eT]; exact hg) q1
  obtain ⟨s₂, o, x, r'⟩ := f2 B.U (q2 F2 f1)
  exact ⟨s₂, o, st.trans x, r'⟩
theorem go_interface (H : Wd Z a0) {a : Addr} {C : String} {z : MethodName} {count : Nat} (w1 : (Cond.methodLink own index y).before a0 Z = true) (w2 : (Cond.declares y).before a0 Z = true) (w3 : ∀ (s : State) (args : Array Value), Z.Warmed39 s.vm → (Cond.interfaceMethod y.cls y.cls y.name y.desc).before args s = true) (w4 : (Cond.selects C y z).before a0 Z = true) (w5 : (Cond.instanceMethod z).before a0 Z = true) (w6 : (Cond.publicMethod z).before a0 Z = true) (w7 : (Cond.unhidden C y.name y.desc).before a0 Z = true) (w8 : (Cond.castable C y.cls).before a0 Z = true) (w9 : (Cond.initialized z.cls).before a0 Z = true) (w10 : (Cond.code z b' ml' rt').before a0 Z = true)
    (hy : y.cls ≠ "java/lang/invoke/MethodHandle" ∧ y.cls ≠ "java/lang/invoke/VarHandle") (E : Exa Z h a C) (M' : Met l Z z b' ml' rt' R' h F' as Q')
    (ha : (.ref a :: argsL).toArray = as) (hst : S' = argsL.reverse ++ .ref a :: S) (hlen : ∀ sig, parseMethodDescriptor y.desc = some sig → argsL.length = sig.parameters.length) (hF : ∀ x ∈ F', x ∈ F) (hL : L.size = ml) (hfr : R'.frames + 1 ≤ R.frames) (hlo : (S.map fun v => v.category).sum + (ml' + 11) + R'.locals ≤ R.locals) (hc : c + R'.cells = c') (hs : s + R'.slots = s') (hc' : c' ≤ R.cells) (hs' : s' ≤ R.slots)
    (hd : decode b pc = .ok (.invokeinterface index count, 5)) (hq : pc + 5 = q) (nx : ∀ v h' G, h.size ≤ h'.size → Q' v h' G → ∃ F2, (∀ x ∈ F2, x ∈ G ∨ x ∈ F) ∧ Go l Z K own mn b ml rt R Q h' F2 c' s' q L (v.toList ++ S)) : Go l Z K own mn b ml rt R Q h F c s pc L S' := fun T X => by
  subst hq hc hs hst ha
  obtain ⟨vm, k, locs, Y, eT, hS, hk, hZ, hown, N, C, M, O, r⟩ := X
  obtain ⟨cB, kB, g1, g2, g3⟩ := isOf (s := K.2.2.1.setVm vm) hZ eT E
  obtain ⟨v, vm₁, B, -, Y', hS', hg, P, st⟩ := Y.interfaceBackS r.1 hown (mvT (s := K.2.2.1.setVm vm) hZ w1) (mvT (s := K.2.2.1.setVm vm) hZ w2) (w3 (K.2.2.1.setVm vm) _ hZ) (mvT (s := K.2.2.1.setVm vm) hZ w4) (mvT (s := K.2.2.1.setVm vm) hZ w5) (mvT (s := K.2.2.1.setVm vm) hZ w6) (mvT (s := K.2.2.1.setVm vm) hZ w7) (mvT (s := K.2.2.1.setVm vm) hZ w8) hy (W := (S.map fun v => v.category).sum) (M'.back H hZ w10 w9 hfr hlo C.1 (fun x hx => M x (hF x hx)) O) g1 g2 g3 (g := mkF K.2.2.2.1 pc L (argsL.reverse ++ .ref a :: S)) rfl (by rw [r.2.2.1]; exact hL) (Steps.refl _) (argsL := argsL) (rest := S) hlen rfl (by show 2 * 0 + _ ≤ _; omega) (hb r.2.1 hd) (fun _ _ => ⟨rfl, eT, hc', hs'⟩)
  obtain ⟨G, q1, q2⟩ := St.came Y eT hS hk hZ hown N C M r Y' hS' hg P
  obtain ⟨F2, f1, f2⟩ := nx v B.U.heap G (by rw [← eT]; exact hg) q1
  obtain ⟨s₂, o, x, r'⟩ := f2 B.U (q2 F2 f1)
  exact ⟨s₂, o, st.trans x, r'⟩
/-- invokespecial of the superclass's own method -/
theorem go_super (H : Wd Z a0) {a : Addr} {C : String} (w1 : (Cond.methodLink own index y).before a0 Z = true) (w2 : (Cond.sameMethod y.cls y.cls y.name y.desc).before a0 Z = true) (w3 : (Cond.instanceMethod y).before a0 Z = true) (w4 : (Cond.superclass own y.cls).before a0 Z = true) (w5 : (Cond.initialized y.cls).before a0 Z = true) (w6 : (Cond.code y b' ml' rt').before a0 Z = true) (hni : y.name ≠ "<init>") (E : Exa Z h a C) (M' : Met l Z y b' ml' rt' R' h F' as Q')
    (ha : (.ref a :: argsL).toArray = as) (hst : S' = argsL.reverse ++ .ref a :: S) (hlen : ∀ sig, parseMethodDescriptor y.desc = some sig → argsL.length = sig.parameters.length) (hF : ∀ x ∈ F', x ∈ F) (hL : L.size = ml) (hfr : R'.frames + 1 ≤ R.frames) (hlo : (S.map fun v => v.category).sum + (ml' + 11) + R'.locals ≤ R.locals) (hc : c + R'.cells = c') (hs : s + R'.slots = s') (hc' : c' ≤ R.cells) (hs' : s' ≤ R.slots)
    (hd : decode b pc = .ok (.invokespecial index, 3)) (hq : pc + 3 = q) (nx : ∀ v h' G, h.size ≤ h'.size → Q' v h' G → ∃ F2, (∀ x ∈ F2, x ∈ G ∨ x ∈ F) ∧ Go l Z K own mn b ml rt R Q h' F2 c' s' q L (v.toList ++ S)) : Go l Z K own mn b ml rt R Q h F c s pc L S' := fun T X => by
  subst hq hc hs hst ha
  obtain ⟨vm, k, locs, Y, eT, hS, hk, hZ, hown, N, C, M, O, r⟩ := X
  obtain ⟨v, vm₁, B, -, Y', hS', hg, P, st⟩ := superBackS Y r.1 (show Z.Warmed39 (K.2.2.1.setVm vm).vm from hZ) hown w1 w2 w3 w4 hni (W := (S.map fun v => v.category).sum) (M'.back H hZ w6 w5 hfr hlo C.1 (fun x hx => M x (hF x hx)) O) eT (Ins.self E) (g := mkF K.2.2.2.1 pc L (argsL.reverse ++ .ref a :: S)) rfl (by rw [r.2.2.1]; exact hL) w6 (argsL := argsL) (rest := S) hlen rfl (by show 2 * 0 + _ ≤ _; omega) (hb r.2.1 hd) (fun _ _ => ⟨rfl, eT, hc', hs'⟩)
  obtain ⟨G, q1, q2⟩ := St.came Y eT hS hk hZ hown N C M r Y' hS' hg P
  obtain ⟨F2, f1, f2⟩ := nx v B.U.heap G (by rw [← eT]; exact hg) q1
  obtain ⟨s₂, o, x, r'⟩ := f2 B.U (q2 F2 f1)
  exact ⟨s₂, o, st.trans x, r'⟩
/-- System.arraycopy of bytes -/
theorem go_arraycopy {a d : Addr} {ka kd : ClassId} {ty : FieldType} {z z' sp dp nn : Int32} {vs vd us : List Value} {dv dd : Value} (w1 : (Cond.methodLink own index Jvm.Stand.acN).before a0 Z = true) (w2 : (Cond.native Jvm.Stand.acN).before a0 Z = true) (w3 : (Cond.static Jvm.Stand.acN).before a0 Z = true) (w4 : (Cond.initialized "java/lang/System").before a0 Z = true)
    (A : Arv Z h a ka ty z vs dv) (B : Arv Z h d kd ty z' vd dd) (hty : refKind ty = false) (h1 : ¬ sp < 0) (h2 : ¬ dp < 0) (h3 : ¬ nn < 0) (h4 : sp.toNatClampNeg + nn.toNatClampNeg ≤ z.toNatClampNeg) (h5 : dp.toNatClampNeg + nn.toNatClampNeg ≤ z'.toNatClampNeg) (hus : us = (List.range nn.toNatClampNeg).map fun i => vs.getD (sp.toNatClampNeg + i) dv) (hl : dp.toNatClampNeg + nn.toNatClampNeg ≤ vd.length) (ha : d ∈ F)
    (hL : L.size = ml) (hfr : 1 ≤ R.frames) (hlo : (S.map fun v => v.category).sum + (nativeFrameWords "java/lang/System" "arraycopy" 5 + 11) ≤ R.locals) (hd : decode b pc = .ok (.invokestatic index, 3)) (hq : pc + 3 = q)
    (nx : ∀ h', Keep h h' [d] → Arv Z h' d kd ty z' (vd.take dp.toNatClampNeg ++ us ++ vd.drop (dp.toNatClampNeg + nn.toNatClampNeg)) dd → Go l Z K own mn b ml rt R Q h' F c s q L S) : Go l Z K own mn b ml rt R Q h F c s pc L (.int nn :: .int dp :: .ref d :: .int sp :: .ref a :: S) := fun T X => by
  subst hq
  obtain ⟨vm, k, locs, Y, eT, hS, hk, hZ, hown, N, C, M, O, r⟩ := X
  obtain ⟨T', h', L', Y', e', N', Kp, V, st⟩ := cpA Y r.1 (show Z.Warmed39 (K.2.2.1.setVm vm).vm from hZ) hown w1 w2 w3 w4 eT A B (Or.inl ⟨rfl, hty⟩) h1 h2 h3 h4 h5 hus hl N (M d ha).1 (g := mkF K.2.2.2.1 pc L (.int nn :: .int dp :: .ref d :: .int sp :: .ref a :: S)) rfl (by rw [r.2.2.1]; exact hL) (rest := S) rfl (hb r.2.1 hd) hfr (W := (S.map fun v => v.category).sum) (by show 2 * 0 + _ ≤ _; omega) hlo
  have hsf : ∀ x ∈ [d], Safe Z consts_1 vm h x := fun x hx => by cases List.mem_singleton.mp hx; exact (M d ha).2.2
  obtain ⟨s₂, o, x, r'⟩ := nx h' Kp V T' ⟨vm, k, L', Y', e', hS, Nat.le_trans hk Kp.1, hZ, hown, N', C.trans (CHr.keep Kp hsf C.1), fun x hx => ⟨(M x hx).1, Nat.lt_of_lt_of_le (M x hx).2.1 Kp.1, Safe.keep Kp hsf C.1 (M x hx).2.2⟩, O.keep Kp (fun x hx => by cases List.mem_singleton.mp hx; exact (M d ha).1), r⟩
  exact ⟨s₂, o, st _ x, r'⟩
theorem nf_self {C : String} (w3 : (Cond.selects C y y).before a0 Z = true) : ∀ s : State, Z.Warmed39 s.vm → NotFace s y := fun s hZ => notFace_of_selects (args := #[]) (mvT hZ w3)
/-- the plain end of a call: nothing more to write -/
theorem nx_ {v : Option Value} {G : List Addr} (n : Go l Z K own mn b ml rt R Q h F c s pc L S) : ∃ F2, (∀ x ∈ F2, x ∈ G ∨ x ∈ F) ∧ Go l Z K own mn b ml rt R Q h F2 c s pc L S := ⟨F, fun _ q => Or.inr q, n⟩
end Calls
end G
end Own
end Jvm.Pilot.@@N@@
/-! OWN FRAMEWORK, part 3: Strings of Latin-1 chars. -/
namespace Jvm.Pilot.@@N@@
namespace Own
open Jvm Jvm.ClassFile Sem Op Lib Jvm.Free Jvm.Stand Jvm.LawKit Jvm.RoadKit
abbrev ST : String := "java/lang/String"
abbrev bts (cs : List Int32) : List Value := cs.map fun c => .int c.toInt8.toInt32
abbrev ints (cs : List Int32) : List Value := cs.map fun c => .int c
def Lat (cs : List Int32) : Prop := cs.length ≤ 4096 ∧ ∀ c ∈ cs, ¬ c < 0 ∧ ¬ 255 < c
/-- the String at a spells cs; its cells are none of F -/
def Str (Z : State) (h : Heap) (F : List Addr) (a : Addr) (cs : List Int32) : Prop :=
  Exa Z h a ST ∧ Fld Z h a ST "coder" "B" (.int 0) ∧ a ∉ F ∧ Lat cs ∧ ∃ bb k, bb ∉ F ∧ Fld Z h a ST "value" "[B" (.ref bb) ∧ Arv Z h bb k .byte (Int32.ofNat cs.length) (bts cs) (.int 0)
theorem toInt_ofNat {n : Nat} (h : n < 2147483648) : (Int32.ofNat n).toInt = n := by
  rw [Int32.toInt_ofNat_of_lt (by simpa using h)]
theorem cl_ofNat {n : Nat} (h : n < 2147483648) : (Int32.ofNat n).toNatClampNeg = n := by
  simp only [Int32.toNatClampNeg, toInt_ofNat h]; omega
theorem nn_ofNat {n : Nat} (h : n < 2147483648) : ¬ Int32.ofNat n < 0 := by
  rw [Int32.lt_iff_toInt_lt, toInt_ofNat h, show (0 : Int32).toInt = 0 from rfl]; omega
theorem lt_ofNat {i n : Nat} (hi : i < 2147483648) (hn : n < 2147483648) : Int32.ofNat i < Int32.ofNat n ↔ i < n := by
  rw [Int32.lt_iff_toInt_lt, toInt_ofNat hi, toInt_ofNat hn]; omega
theorem eq_ofNat {i n : Nat} (hi : i < 2147483648) (hn : n < 2147483648) : Int32.ofNat i = Int32.ofNat n ↔ i = n := by
  rw [← Int32.toInt_inj, toInt_ofNat hi, toInt_ofNat hn]; omega
theorem add1_ofNat {i : Nat} : Int32.ofNat i + Int32.ofInt 1 = Int32.ofNat (i + 1) := by
  rw [Int32.ofNat_add]; rfl
section
variable {Z : State} {h h' : Heap} {F F' : List Addr} {a : Addr} {cs : List Int32} {ws : List Addr}
theorem Str.exa (S : Str Z h F a cs) : Exa Z h a ST := S.1
theorem Str.lat (S : Str Z h F a cs) : Lat cs := S.2.2.2.1
theorem Str.lt (S : Str Z h F a cs) : a < h.size := S.1.lt
theorem Str.keep (S : Str Z h F a cs) (K : Keep h h' ws) (hw : ∀ x ∈ ws, x ∈ F ∨ h.size ≤ x) : Str Z h' F a cs := by
  obtain ⟨E, C, ha, hl, bb, k, hb, V, A⟩ := S
  have na : a ∉ ws := fun q => (hw a q).elim ha fun z => absurd E.lt (Nat.not_lt.mpr z)
  have nb : bb ∉ ws := fun q => (hw bb q).elim hb fun z => absurd A.lt (Nat.not_lt.mpr z)
  exact ⟨E.keep K, C.keep K na, ha, hl, bb, k, hb, V.keep K na, A.keep K nb⟩
theorem Str.keep0 (S : Str Z h F a cs) (K : Keep h h' []) : Str Z h' F a cs := S.keep K (fun _ q => nomatch q)
theorem Str.ext (S : Str Z h F a cs) (E : Ext h h') : Str Z h' F a cs := S.keep0 ((Keep.refl h []).ext E)
theorem Str.grow (S : Str Z h F a cs) (hF : ∀ x ∈ F', x ∈ F ∨ h.size ≤ x) : Str Z h F' a cs := by
  obtain ⟨E, C, ha, hl, bb, k, hb, V, A⟩ := S
  exact ⟨E, C, fun q => (hF a q).elim ha fun z => absurd E.lt (Nat.not_lt.mpr z), hl, bb, k, fun q => (hF bb q).elim hb fun z => absurd A.lt (Nat.not_lt.mpr z), V, A⟩
theorem Str.less (S : Str Z h F a cs) (hF : ∀ x ∈ F', x ∈ F) : Str Z h F' a cs := S.grow fun x q => Or.inl (hF x q)
theorem Str.nil (S : Str Z h F a cs) : Str Z h [] a cs := S.less (fun _ q => nomatch q)
theorem Str.ins (S : Str Z h F a cs) : Ins Z h a ST true := Ins.self S.1
end
theorem kless {h h' : Heap} {ws ws' : List Addr} (K : Keep h h' ws) (q : ∀ x ∈ ws, x ∈ ws') : Keep h h' ws' := ⟨K.1, fun x c e n => K.2.1 x c e fun m => n (q x m), K.2.2⟩
theorem kfresh {h h1 h2 : Heap} {a : Addr} (K : Keep h h1 []) (K' : Keep h1 h2 [a]) (q : h.size ≤ a) : Keep h h2 [] := K.trans K' fun x e => by cases List.mem_singleton.mp e; exact Or.inr q
theorem nref {t : FieldType} {v : Value} (ht : t.isReference = true) (hv : v.isRef = true) : narrow t v = v := by cases t <;> cases v <;> simp_all [narrow, Value.isRef, FieldType.isReference]
theorem fref {t : FieldType} {v : Value} (ht : t.isReference = true) (hv : v.isRef = true) : fits t v = true := by cases t <;> cases v <;> simp_all [fits, Value.isRef, FieldType.isReference]
theorem shr0 (z : Int32) : z >>> ((0 : Int32) &&& 31) = z := by
  rw [← Int32.toInt_inj, c_ishr z 0 0 rfl]; simp
theorem nar_char {x : Int32} (h0 : ¬ x < 0) (h1 : ¬ 255 < x) : nar .char x = x := by
  have h := c_i2c x
  rw [Int32.lt_iff_toInt_lt] at h0 h1
  have e0 : (0 : Int32).toInt = 0 := rfl
  have e1 : (255 : Int32).toInt = 255 := rfl
  rw [← Int32.toInt_inj]
  show x.toUInt32.toUInt16.toUInt32.toInt32.toInt = _
  omega
theorem msk (x : Int32) : ¬ (x &&& 255) < 0 ∧ ¬ 255 < (x &&& 255) := by
  have h := c_and x 255 (by decide)
  rw [Int32.lt_iff_toInt_lt, Int32.lt_iff_toInt_lt]
  have e0 : (0 : Int32).toInt = 0 := rfl
  have e1 : (255 : Int32).toInt = 255 := rfl
  omega
theorem i2c_msk (x : Int32) : (x &&& 255).toUInt32.toUInt16.toUInt32.toInt32 = x &&& 255 := nar_char (msk x).1 (msk x).2
theorem b_inj {x y : Int32} (hx : ¬ x < 0 ∧ ¬ 255 < x) (hy : ¬ y < 0 ∧ ¬ 255 < y) (h : x.toInt8.toInt32 = y.toInt8.toInt32) : x = y := by
  have h1 := c_i2b x; have h2 := c_i2b y
  rw [h] at h1
  rw [Int32.lt_iff_toInt_lt, Int32.lt_iff_toInt_lt] at hx hy
  have e0 : (0 : Int32).toInt = 0 := rfl
  have e1 : (255 : Int32).toInt = 255 := rfl
  rw [← Int32.toInt_inj]; omega
theorem b_and {x : Int32} (hx : ¬ x < 0 ∧ ¬ 255 < x) : x.toInt8.toInt32 &&& 255 = x := by
  have h1 := c_i2b x
  have h2 := c_mask (x.toInt8.toInt32) 255 8 (by decide) (by decide)
  rw [Int32.lt_iff_toInt_lt, Int32.lt_iff_toInt_lt] at hx
  have e0 : (0 : Int32).toInt = 0 := rfl
  have e1 : (255 : Int32).toInt = 255 := rfl
  rw [← Int32.toInt_inj, h2]; omega
theorem bts_at {cs : List Int32} {i : Nat} (hi : i < cs.length) : (bts cs).getD i (.int 0) = .int (cs[i].toInt8.toInt32) := by simp [bts, hi]
theorem Str.same {Z : State} {h : Heap} {F F' : List Addr} {a : Addr} {cs ds : List Int32} (S : Str Z h F a cs) (S2 : Str Z h F' a ds) : cs = ds := by
  obtain ⟨E, C, ha, hl, bb, k, hb, V, A⟩ := S
  obtain ⟨E2, C2, ha2, hl2, bb2, k2, hb2, V2, A2⟩ := S2
  obtain rfl : bb = bb2 := by
    by_cases e : bb = bb2
    · exact e
    · exact absurd rfl (V.ne V2 (by simpa using e))
  obtain ⟨c1, r1, q1, s1, n1, H1, G1⟩ := A
  obtain ⟨c2, r2, q2, s2, n2, H2, G2⟩ := A2
  obtain rfl : c1 = c2 := Option.some.inj (r1.1.symm.trans r2.1)
  have l1 := hl.1; have l2 := hl2.1
  rw [cl_ofNat (by omega)] at s1 s2
  have hlen : cs.length = ds.length := s1.symm.trans s2
  refine List.ext_getElem hlen fun i h1 h2 => ?_
  have e1 := H1 i (by omega)
  have e2 := H2 i (by omega)
  rw [bts_at h1] at e1; rw [bts_at h2] at e2
  have e3 := e1.symm.trans e2
  simp only [Option.some.injEq, Value.int.injEq] at e3
  exact b_inj (hl.2 _ (List.getElem_mem h1)) (hl2.2 _ (List.getElem_mem h2)) e3
section G
variable {l : Launch} {Z : State} {a0 : Array Value} {K : Cx} {own mn : String} {b : ByteArray} {ml : Nat} {rt : Option FieldType} {R : Room} {Q : QT} {h h' : Heap} {F : List Addr} {c s pc q c' s' : Nat} {L L' : Array Slot} {S S' : List Value}
theorem go_istoreO {k : Nat} {x : Int32} {o : Slot} (hd : decode b pc = .ok (.istore k, 2)) (hold : L[k]? = some o) (ho : One o) (hL : L.setIfInBounds k (.val (.int x)) = L') (hq : pc + 2 = q) (n : Go l Z K own mn b ml rt R Q h F c s q L' S) : Go l Z K own mn b ml rt R Q h F c s pc L (.int x :: S) := by
  subst hq hL; exact go_of (fun T X t st => by obtain ⟨vm, k, locs, Y, r1, r2, r3, r4, r5, r6, r7, r8, r9, hx, hb', rr⟩ := X; exact XS.istoreS Y.here hx rfl (hb hb' hd) rfl hold ho st) n
/-- ldc of a Latin-1 constant -/
theorem go_lit (H : Wd Z a0) {index : Nat} {text : String} {cs : List Int32} {n : Nat} (w : (Cond.stringLink own index text).before a0 Z = true) (hm : (own, index) ∈ consts_1) (ht1 : ∀ c ∈ text.toList, c.toNat < 256) (ht2 : text.toList.map (fun c => Value.int (Jvm.Lit.byteI c.toNat.toUInt16)) = bts cs) (h1 : cs.length ≤ 4096) (h2 : ∀ c ∈ cs, ¬ c < 0 ∧ ¬ 255 < c)
    (hd : decode b pc = .ok (.ldc index, 2)) (hn : 4 * text.toList.length ≤ n) (hbig : n ≤ 536870912) (hq : pc + 2 = q) (hc : c + 2 = c') (hs : s + (n + 4) = s') (hc' : c' ≤ R.cells) (hs' : s' ≤ R.slots)
    (nx : ∀ h' a, Ext h h' → Str Z h' F a cs → Go l Z K own mn b ml rt R Q h' F c' s' q L (.ref a :: S)) : Go l Z K own mn b ml rt R Q h F c s pc L S :=
  go_ldcS H w hm ⟨ht1, ht2⟩ (nn_ofNat (n := cs.length) (by omega)) (by rw [cl_ofNat (by omega)]; simp) hd hn hbig hq hc hs hc' hs' fun h' a bb k E A Fc Fv V ne => nx h' a E ⟨A, Fc, fun q => (ne a q).1 rfl, ⟨h1, h2⟩, bb, k, fun q => (ne bb q).2 rfl, Fv, V⟩
end G
end Own
end Jvm.Pilot.@@N@@
namespace Jvm.Pilot.@@N@@
namespace Own
open Jvm Jvm.ClassFile Sem Op Lib Jvm.Free Jvm.Stand Jvm.LawKit Jvm.RoadKit
abbrev SR : String := "com/example/muster/muster/SendResult"
theorem rem3 (x : Int32) : (x &&& 2147483647) % 3 = 0 ∨ (x &&& 2147483647) % 3 = 1 ∨ (x &&& 2147483647) % 3 = 2 := by
  have h := c_and x 2147483647 (by decide)
  have g := (c_irem (x &&& 2147483647) 3 3 rfl).1 h.1
  have e : ∀ k : Int32, (x &&& 2147483647) % 3 = k ↔ ((x &&& 2147483647) % 3).toInt = k.toInt := fun k => Int32.toInt_inj.symm
  rw [e, e, e, g]
  have e0 : (0 : Int32).toInt = 0 := rfl
  have e1 : (1 : Int32).toInt = 1 := rfl
  have e2 : (2 : Int32).toInt = 2 := rfl
  omega
theorem fnull {args : Array Value} {s : State} {t : Term} {a : Addr} {C n d : String} (ev : t.eval args s none [] s = some (.ref a)) (h : (Jvm.Cond.eq (.field t C n d) .null).value args s none s [] = some true) : s.fieldOf? a C n d = some .null := by
  simp only [Jvm.Cond.value, Term.eval, ev] at h
  cases hf : s.fieldOf? a C n d with
  | none => simp [hf] at h
  | some v => simp [hf] at h; cases v <;> simp_all
theorem w_0 {Z : State} {a0 : Array Value} (H : Wd Z a0) : ((Jvm.Cond.arrayClass Jvm.ClassFile.FieldType.char) : Jvm.Cond).before a0 Z = true := H.1 _ (List.mem_of_getElem? (i := 0) rfl)
theorem w_1 {Z : State} {a0 : Array Value} (H : Wd Z a0) : ((Jvm.Cond.constant "com/example/muster/muster/SendResultDeliveredPinLaw" (7 : Nat) (2147483647 : Int32)) : Jvm.Cond).before a0 Z = true := H.1 _ (List.mem_of_getElem? (i := 1) rfl)
theorem w_2 {Z : State} {a0 : Array Value} (H : Wd Z a0) : ((Jvm.Cond.methodLink "com/example/muster/muster/SendResultDeliveredPinLaw" (13 : Nat) ({ cls := "java/lang/String", name := "valueOf", desc := "(C)Ljava/lang/String;" } : Jvm.MethodName)) : Jvm.Cond).before a0 Z = true := H.1 _ (List.mem_of_getElem? (i := 2) rfl)
theorem w_3 {Z : State} {a0 : Array Value} (H : Wd Z a0) : ((Jvm.Cond.static ({ cls := "java/lang/String", name := "valueOf", desc := "(C)Ljava/lang/String;" } : Jvm.MethodName)) : Jvm.Cond).before a0 Z = true := H.1 _ (List.mem_of_getElem? (i := 3) rfl)
theorem w_4 {Z : State} {a0 : Array Value} (H : Wd Z a0) : ((Jvm.Cond.initialized "java/lang/String") : Jvm.Cond).before a0 Z = true := H.1 _ (List.mem_of_getElem? (i := 4) rfl)
theorem w_5 {Z : State} {a0 : Array Value} (H : Wd Z a0) : ((Jvm.Cond.code ({ cls := "java/lang/String", name := "valueOf", desc := "(C)Ljava/lang/String;" } : Jvm.MethodName) jdk_42_method_139_code (1 : Nat) (Option.some (Jvm.ClassFile.FieldType.object "java/lang/String"))) : Jvm.Cond).before a0 Z = true := H.1 _ (List.mem_of_getElem? (i := 5) rfl)
theorem w_6 {Z : State} {a0 : Array Value} (H : Wd Z a0) : ((Jvm.Cond.fieldLink "java/lang/String" (38 : Nat) "java/lang/String" "COMPACT_STRINGS" "Z") : Jvm.Cond).before a0 Z = true := H.1 _ (List.mem_of_getElem? (i := 6) rfl)
theorem w_7 {Z : State} {a0 : Array Value} (H : Wd Z a0) : ((Jvm.Cond.methodLink "java/lang/String" (1015 : Nat) ({ cls := "java/lang/StringLatin1", name := "canEncode", desc := "(C)Z" } : Jvm.MethodName)) : Jvm.Cond).before a0 Z = true := H.1 _ (List.mem_of_getElem? (i := 7) rfl)
theorem w_8 {Z : State} {a0 : Array Value} (H : Wd Z a0) : ((Jvm.Cond.static ({ cls := "java/lang/StringLatin1", name := "canEncode", desc := "(C)Z" } : Jvm.MethodName)) : Jvm.Cond).before a0 Z = true := H.1 _ (List.mem_of_getElem? (i := 8) rfl)
theorem w_9 {Z : State} {a0 : Array Value} (H : Wd Z a0) : ((Jvm.Cond.initialized "java/lang/StringLatin1") : Jvm.Cond).before a0 Z = true := H.1 _ (List.mem_of_getElem? (i := 9) rfl)
theorem w_10 {Z : State} {a0 : Array Value} (H : Wd Z a0) : ((Jvm.Cond.code ({ cls := "java/lang/StringLatin1", name := "canEncode", desc := "(C)Z" } : Jvm.MethodName) jdk_43_method_3_code (1 : Nat) (Option.some Jvm.ClassFile.FieldType.boolean)) : Jvm.Cond).before a0 Z = true := H.1 _ (List.mem_of_getElem? (i := 10) rfl)
theorem w_11 {Z : State} {a0 : Array Value} (H : Wd Z a0) : ((Jvm.Cond.classLink "java/lang/String" (10 : Nat) "java/lang/String") : Jvm.Cond).before a0 Z = true := H.1 _ (List.mem_of_getElem? (i := 11) rfl)
theorem w_12 {Z : State} {a0 : Array Value} (H : Wd Z a0) : ((Jvm.Cond.instantiable "java/lang/String" (4 : Nat)) : Jvm.Cond).before a0 Z = true := H.1 _ (List.mem_of_getElem? (i := 12) rfl)
theorem w_13 {Z : State} {a0 : Array Value} (H : Wd Z a0) : ((Jvm.Cond.methodLink "java/lang/String" (1018 : Nat) ({ cls := "java/lang/StringLatin1", name := "toBytes", desc := "(C)[B" } : Jvm.MethodName)) : Jvm.Cond).before a0 Z = true := H.1 _ (List.mem_of_getElem? (i := 13) rfl)
theorem w_14 {Z : State} {a0 : Array Value} (H : Wd Z a0) : ((Jvm.Cond.static ({ cls := "java/lang/StringLatin1", name := "toBytes", desc := "(C)[B" } : Jvm.MethodName)) : Jvm.Cond).before a0 Z = true := H.1 _ (List.mem_of_getElem? (i := 14) rfl)
theorem w_15 {Z : State} {a0 : Array Value} (H : Wd Z a0) : ((Jvm.Cond.code ({ cls := "java/lang/StringLatin1", name := "toBytes", desc := "(C)[B" } : Jvm.MethodName) jdk_43_method_46_code (1 : Nat) (Option.some (Jvm.ClassFile.FieldType.array Jvm.ClassFile.FieldType.byte))) : Jvm.Cond).before a0 Z = true := H.1 _ (List.mem_of_getElem? (i := 15) rfl)
theorem w_16 {Z : State} {a0 : Array Value} (H : Wd Z a0) : ((Jvm.Cond.arrayClass Jvm.ClassFile.FieldType.byte) : Jvm.Cond).before a0 Z = true := H.1 _ (List.mem_of_getElem? (i := 16) rfl)
theorem w_17 {Z : State} {a0 : Array Value} (H : Wd Z a0) : ((Jvm.Cond.methodLink "java/lang/String" (209 : Nat) ({ cls := "java/lang/String", name := "<init>", desc := "([BB)V" } : Jvm.MethodName)) : Jvm.Cond).before a0 Z = true := H.1 _ (List.mem_of_getElem? (i := 17) rfl)
theorem w_18 {Z : State} {a0 : Array Value} (H : Wd Z a0) : ((Jvm.Cond.instanceMethod ({ cls := "java/lang/String", name := "<init>", desc := "([BB)V" } : Jvm.MethodName)) : Jvm.Cond).before a0 Z = true := H.1 _ (List.mem_of_getElem? (i := 18) rfl)
theorem w_20 {Z : State} {a0 : Array Value} (H : Wd Z a0) : ((Jvm.Cond.code ({ cls := "java/lang/String", name := "<init>", desc := "([BB)V" } : Jvm.MethodName) jdk_42_method_151_code (3 : Nat) (Option.none : Option Jvm.ClassFile.FieldType)) : Jvm.Cond).before a0 Z = true := H.1 _ (List.mem_of_getElem? (i := 20) rfl)
theorem w_21 {Z : State} {a0 : Array Value} (H : Wd Z a0) : ((Jvm.Cond.methodLink "java/lang/String" (1 : Nat) ({ cls := "java/lang/Object", name := "<init>", desc := "()V" } : Jvm.MethodName)) : Jvm.Cond).before a0 Z = true := H.1 _ (List.mem_of_getElem? (i := 21) rfl)
theorem w_22 {Z : State} {a0 : Array Value} (H : Wd Z a0) : ((Jvm.Cond.instanceMethod ({ cls := "java/lang/Object", name := "<init>", desc := "()V" } : Jvm.MethodName)) : Jvm.Cond).before a0 Z = true := H.1 _ (List.mem_of_getElem? (i := 22) rfl)
theorem w_23 {Z : State} {a0 : Array Value} (H : Wd Z a0) : ((Jvm.Cond.code ({ cls := "java/lang/Object", name := "<init>", desc := "()V" } : Jvm.MethodName) object_method_1_code (1 : Nat) (Option.none : Option Jvm.ClassFile.FieldType)) : Jvm.Cond).before a0 Z = true := H.1 _ (List.mem_of_getElem? (i := 23) rfl)
theorem w_24 {Z : State} {a0 : Array Value} (H : Wd Z a0) : ((Jvm.Cond.fieldLink "java/lang/String" (9 : Nat) "java/lang/String" "value" "[B") : Jvm.Cond).before a0 Z = true := H.1 _ (List.mem_of_getElem? (i := 24) rfl)
theorem w_25 {Z : State} {a0 : Array Value} (H : Wd Z a0) : ((Jvm.Cond.laysFinal "java/lang/String" "java/lang/String" "value" "[B") : Jvm.Cond).before a0 Z = true := H.1 _ (List.mem_of_getElem? (i := 25) rfl)
theorem w_26 {Z : State} {a0 : Array Value} (H : Wd Z a0) : ((Jvm.Cond.fieldLink "java/lang/String" (15 : Nat) "java/lang/String" "coder" "B") : Jvm.Cond).before a0 Z = true := H.1 _ (List.mem_of_getElem? (i := 26) rfl)
theorem w_27 {Z : State} {a0 : Array Value} (H : Wd Z a0) : ((Jvm.Cond.laysFinal "java/lang/String" "java/lang/String" "coder" "B") : Jvm.Cond).before a0 Z = true := H.1 _ (List.mem_of_getElem? (i := 27) rfl)
theorem w_28 {Z : State} {a0 : Array Value} (H : Wd Z a0) : ((Jvm.Cond.classLink "com/example/muster/muster/SendResultDeliveredPinLaw" (17 : Nat) "com/example/muster/muster/SendResult") : Jvm.Cond).before a0 Z = true := H.1 _ (List.mem_of_getElem? (i := 28) rfl)
theorem w_29 {Z : State} {a0 : Array Value} (H : Wd Z a0) : ((Jvm.Cond.instantiable "com/example/muster/muster/SendResult" (2 : Nat)) : Jvm.Cond).before a0 Z = true := H.1 _ (List.mem_of_getElem? (i := 29) rfl)
theorem w_30 {Z : State} {a0 : Array Value} (H : Wd Z a0) : ((Jvm.Cond.initialized "com/example/muster/muster/SendResult") : Jvm.Cond).before a0 Z = true := H.1 _ (List.mem_of_getElem? (i := 30) rfl)
theorem w_31 {Z : State} {a0 : Array Value} (H : Wd Z a0) : ((Jvm.Cond.methodLink "com/example/muster/muster/SendResultDeliveredPinLaw" (19 : Nat) ({ cls := "com/example/muster/muster/SendResult", name := "<init>", desc := "(Ljava/lang/String;Z)V" } : Jvm.MethodName)) : Jvm.Cond).before a0 Z = true := H.1 _ (List.mem_of_getElem? (i := 31) rfl)
theorem w_32 {Z : State} {a0 : Array Value} (H : Wd Z a0) : ((Jvm.Cond.instanceMethod ({ cls := "com/example/muster/muster/SendResult", name := "<init>", desc := "(Ljava/lang/String;Z)V" } : Jvm.MethodName)) : Jvm.Cond).before a0 Z = true := H.1 _ (List.mem_of_getElem? (i := 32) rfl)
theorem w_33 {Z : State} {a0 : Array Value} (H : Wd Z a0) : ((Jvm.Cond.code ({ cls := "com/example/muster/muster/SendResult", name := "<init>", desc := "(Ljava/lang/String;Z)V" } : Jvm.MethodName) prog_26_method_1_code (3 : Nat) (Option.none : Option Jvm.ClassFile.FieldType)) : Jvm.Cond).before a0 Z = true := H.1 _ (List.mem_of_getElem? (i := 33) rfl)
theorem w_34 {Z : State} {a0 : Array Value} (H : Wd Z a0) : ((Jvm.Cond.methodLink "com/example/muster/muster/SendResult" (1 : Nat) ({ cls := "java/lang/Record", name := "<init>", desc := "()V" } : Jvm.MethodName)) : Jvm.Cond).before a0 Z = true := H.1 _ (List.mem_of_getElem? (i := 34) rfl)
theorem w_35 {Z : State} {a0 : Array Value} (H : Wd Z a0) : ((Jvm.Cond.instanceMethod ({ cls := "java/lang/Record", name := "<init>", desc := "()V" } : Jvm.MethodName)) : Jvm.Cond).before a0 Z = true := H.1 _ (List.mem_of_getElem? (i := 35) rfl)
theorem w_37 {Z : State} {a0 : Array Value} (H : Wd Z a0) : ((Jvm.Cond.initialized "java/lang/Record") : Jvm.Cond).before a0 Z = true := H.1 _ (List.mem_of_getElem? (i := 37) rfl)
theorem w_38 {Z : State} {a0 : Array Value} (H : Wd Z a0) : ((Jvm.Cond.code ({ cls := "java/lang/Record", name := "<init>", desc := "()V" } : Jvm.MethodName) jdk_30_method_1_code (1 : Nat) (Option.none : Option Jvm.ClassFile.FieldType)) : Jvm.Cond).before a0 Z = true := H.1 _ (List.mem_of_getElem? (i := 38) rfl)
theorem w_39 {Z : State} {a0 : Array Value} (H : Wd Z a0) : ((Jvm.Cond.methodLink "java/lang/Record" (1 : Nat) ({ cls := "java/lang/Object", name := "<init>", desc := "()V" } : Jvm.MethodName)) : Jvm.Cond).before a0 Z = true := H.1 _ (List.mem_of_getElem? (i := 39) rfl)
theorem w_40 {Z : State} {a0 : Array Value} (H : Wd Z a0) : ((Jvm.Cond.fieldLink "com/example/muster/muster/SendResult" (7 : Nat) "com/example/muster/muster/SendResult" "error" "Ljava/lang/String;") : Jvm.Cond).before a0 Z = true := H.1 _ (List.mem_of_getElem? (i := 40) rfl)
theorem w_41 {Z : State} {a0 : Array Value} (H : Wd Z a0) : ((Jvm.Cond.laysFinal "com/example/muster/muster/SendResult" "com/example/muster/muster/SendResult" "error" "Ljava/lang/String;") : Jvm.Cond).before a0 Z = true := H.1 _ (List.mem_of_getElem? (i := 41) rfl)
theorem w_42 {Z : State} {a0 : Array Value} (H : Wd Z a0) : ((Jvm.Cond.fieldLink "com/example/muster/muster/SendResult" (13 : Nat) "com/example/muster/muster/SendResult" "brokerUnreachable" "Z") : Jvm.Cond).before a0 Z = true := H.1 _ (List.mem_of_getElem? (i := 42) rfl)
theorem w_43 {Z : State} {a0 : Array Value} (H : Wd Z a0) : ((Jvm.Cond.laysFinal "com/example/muster/muster/SendResult" "com/example/muster/muster/SendResult" "brokerUnreachable" "Z") : Jvm.Cond).before a0 Z = true := H.1 _ (List.mem_of_getElem? (i := 43) rfl)
theorem w_44 {Z : State} {a0 : Array Value} (H : Wd Z a0) : ((Jvm.Cond.methodLink "com/example/muster/muster/SendResultDeliveredPinLaw" (22 : Nat) ({ cls := "com/example/muster/muster/SendResult", name := "delivered", desc := "()Z" } : Jvm.MethodName)) : Jvm.Cond).before a0 Z = true := H.1 _ (List.mem_of_getElem? (i := 44) rfl)
theorem w_45 {Z : State} {a0 : Array Value} (H : Wd Z a0) : ((Jvm.Cond.declares ({ cls := "com/example/muster/muster/SendResult", name := "delivered", desc := "()Z" } : Jvm.MethodName)) : Jvm.Cond).before a0 Z = true := H.1 _ (List.mem_of_getElem? (i := 45) rfl)
theorem w_46 {Z : State} {a0 : Array Value} (H : Wd Z a0) : ((Jvm.Cond.instanceMethod ({ cls := "com/example/muster/muster/SendResult", name := "delivered", desc := "()Z" } : Jvm.MethodName)) : Jvm.Cond).before a0 Z = true := H.1 _ (List.mem_of_getElem? (i := 46) rfl)
theorem w_47 {Z : State} {a0 : Array Value} (H : Wd Z a0) : ((Jvm.Cond.selects "com/example/muster/muster/SendResult" ({ cls := "com/example/muster/muster/SendResult", name := "delivered", desc := "()Z" } : Jvm.MethodName) ({ cls := "com/example/muster/muster/SendResult", name := "delivered", desc := "()Z" } : Jvm.MethodName)) : Jvm.Cond).before a0 Z = true := H.1 _ (List.mem_of_getElem? (i := 47) rfl)
theorem w_48 {Z : State} {a0 : Array Value} (H : Wd Z a0) : ((Jvm.Cond.code ({ cls := "com/example/muster/muster/SendResult", name := "delivered", desc := "()Z" } : Jvm.MethodName) prog_26_method_4_code (1 : Nat) (Option.some Jvm.ClassFile.FieldType.boolean)) : Jvm.Cond).before a0 Z = true := H.1 _ (List.mem_of_getElem? (i := 48) rfl)
theorem w_49 {Z : State} {a0 : Array Value} (H : Wd Z a0) : ((Jvm.Cond.methodLink "com/example/muster/muster/SendResultDeliveredPinLaw" (26 : Nat) ({ cls := "com/example/muster/muster/SendResult", name := "error", desc := "()Ljava/lang/String;" } : Jvm.MethodName)) : Jvm.Cond).before a0 Z = true := H.1 _ (List.mem_of_getElem? (i := 49) rfl)
theorem w_50 {Z : State} {a0 : Array Value} (H : Wd Z a0) : ((Jvm.Cond.declares ({ cls := "com/example/muster/muster/SendResult", name := "error", desc := "()Ljava/lang/String;" } : Jvm.MethodName)) : Jvm.Cond).before a0 Z = true := H.1 _ (List.mem_of_getElem? (i := 50) rfl)
theorem w_51 {Z : State} {a0 : Array Value} (H : Wd Z a0) : ((Jvm.Cond.instanceMethod ({ cls := "com/example/muster/muster/SendResult", name := "error", desc := "()Ljava/lang/String;" } : Jvm.MethodName)) : Jvm.Cond).before a0 Z = true := H.1 _ (List.mem_of_getElem? (i := 51) rfl)
theorem w_52 {Z : State} {a0 : Array Value} (H : Wd Z a0) : ((Jvm.Cond.selects "com/example/muster/muster/SendResult" ({ cls := "com/example/muster/muster/SendResult", name := "error", desc := "()Ljava/lang/String;" } : Jvm.MethodName) ({ cls := "com/example/muster/muster/SendResult", name := "error", desc := "()Ljava/lang/String;" } : Jvm.MethodName)) : Jvm.Cond).before a0 Z = true := H.1 _ (List.mem_of_getElem? (i := 52) rfl)
theorem w_53 {Z : State} {a0 : Array Value} (H : Wd Z a0) : ((Jvm.Cond.code ({ cls := "com/example/muster/muster/SendResult", name := "error", desc := "()Ljava/lang/String;" } : Jvm.MethodName) prog_26_method_8_code (1 : Nat) (Option.some (Jvm.ClassFile.FieldType.object "java/lang/String"))) : Jvm.Cond).before a0 Z = true := H.1 _ (List.mem_of_getElem? (i := 53) rfl)
theorem w_54 {Z : State} {a0 : Array Value} (H : Wd Z a0) : ((Jvm.Cond.methodLink "com/example/muster/muster/SendResultDeliveredPinLaw" (30 : Nat) ({ cls := "com/example/muster/muster/SendResult", name := "failed", desc := "(Ljava/lang/String;)Lcom/example/muster/muster/SendResult;" } : Jvm.MethodName)) : Jvm.Cond).before a0 Z = true := H.1 _ (List.mem_of_getElem? (i := 54) rfl)
theorem w_55 {Z : State} {a0 : Array Value} (H : Wd Z a0) : ((Jvm.Cond.static ({ cls := "com/example/muster/muster/SendResult", name := "failed", desc := "(Ljava/lang/String;)Lcom/example/muster/muster/SendResult;" } : Jvm.MethodName)) : Jvm.Cond).before a0 Z = true := H.1 _ (List.mem_of_getElem? (i := 55) rfl)
theorem w_56 {Z : State} {a0 : Array Value} (H : Wd Z a0) : ((Jvm.Cond.code ({ cls := "com/example/muster/muster/SendResult", name := "failed", desc := "(Ljava/lang/String;)Lcom/example/muster/muster/SendResult;" } : Jvm.MethodName) prog_26_method_2_code (1 : Nat) (Option.some (Jvm.ClassFile.FieldType.object "com/example/muster/muster/SendResult"))) : Jvm.Cond).before a0 Z = true := H.1 _ (List.mem_of_getElem? (i := 56) rfl)
theorem w_57 {Z : State} {a0 : Array Value} (H : Wd Z a0) : ((Jvm.Cond.classLink "com/example/muster/muster/SendResult" (8 : Nat) "com/example/muster/muster/SendResult") : Jvm.Cond).before a0 Z = true := H.1 _ (List.mem_of_getElem? (i := 57) rfl)
theorem w_58 {Z : State} {a0 : Array Value} (H : Wd Z a0) : ((Jvm.Cond.stringLink "com/example/muster/muster/SendResult" (17 : Nat) "error") : Jvm.Cond).before a0 Z = true := H.1 _ (List.mem_of_getElem? (i := 58) rfl)
theorem w_59 {Z : State} {a0 : Array Value} (H : Wd Z a0) : ((Jvm.Cond.soleField "java/lang/String" "value") : Jvm.Cond).before a0 Z = true := H.1 _ (List.mem_of_getElem? (i := 59) rfl)
theorem w_60 {Z : State} {a0 : Array Value} (H : Wd Z a0) : ((Jvm.Cond.soleField "java/lang/String" "coder") : Jvm.Cond).before a0 Z = true := H.1 _ (List.mem_of_getElem? (i := 60) rfl)
theorem w_61 {Z : State} {a0 : Array Value} (H : Wd Z a0) : ((Jvm.Cond.methodLink "com/example/muster/muster/SendResult" (18 : Nat) ({ cls := "java/util/Objects", name := "requireNonNull", desc := "(Ljava/lang/Object;Ljava/lang/String;)Ljava/lang/Object;" } : Jvm.MethodName)) : Jvm.Cond).before a0 Z = true := H.1 _ (List.mem_of_getElem? (i := 61) rfl)
theorem w_62 {Z : State} {a0 : Array Value} (H : Wd Z a0) : ((Jvm.Cond.static ({ cls := "java/util/Objects", name := "requireNonNull", desc := "(Ljava/lang/Object;Ljava/lang/String;)Ljava/lang/Object;" } : Jvm.MethodName)) : Jvm.Cond).before a0 Z = true := H.1 _ (List.mem_of_getElem? (i := 62) rfl)
theorem w_63 {Z : State} {a0 : Array Value} (H : Wd Z a0) : ((Jvm.Cond.initialized "java/util/Objects") : Jvm.Cond).before a0 Z = true := H.1 _ (List.mem_of_getElem? (i := 63) rfl)
theorem w_64 {Z : State} {a0 : Array Value} (H : Wd Z a0) : ((Jvm.Cond.code ({ cls := "java/util/Objects", name := "requireNonNull", desc := "(Ljava/lang/Object;Ljava/lang/String;)Ljava/lang/Object;" } : Jvm.MethodName) jdk_31_method_11_code (2 : Nat) (Option.some (Jvm.ClassFile.FieldType.object "java/lang/Object"))) : Jvm.Cond).before a0 Z = true := H.1 _ (List.mem_of_getElem? (i := 64) rfl)
theorem w_65 {Z : State} {a0 : Array Value} (H : Wd Z a0) : ((Jvm.Cond.classLink "com/example/muster/muster/SendResult" (24 : Nat) "java/lang/String") : Jvm.Cond).before a0 Z = true := H.1 _ (List.mem_of_getElem? (i := 65) rfl)
theorem w_66 {Z : State} {a0 : Array Value} (H : Wd Z a0) : ((Jvm.Cond.methodLink "com/example/muster/muster/SendResult" (26 : Nat) ({ cls := "com/example/muster/muster/SendResult", name := "<init>", desc := "(Ljava/lang/String;Z)V" } : Jvm.MethodName)) : Jvm.Cond).before a0 Z = true := H.1 _ (List.mem_of_getElem? (i := 66) rfl)
theorem w_67 {Z : State} {a0 : Array Value} (H : Wd Z a0) : ((Jvm.Cond.methodLink "com/example/muster/muster/SendResultDeliveredPinLaw" (34 : Nat) ({ cls := "com/example/muster/muster/SendResult", name := "unreachable", desc := "(Ljava/lang/String;)Lcom/example/muster/muster/SendResult;" } : Jvm.MethodName)) : Jvm.Cond).before a0 Z = true := H.1 _ (List.mem_of_getElem? (i := 67) rfl)
theorem w_68 {Z : State} {a0 : Array Value} (H : Wd Z a0) : ((Jvm.Cond.static ({ cls := "com/example/muster/muster/SendResult", name := "unreachable", desc := "(Ljava/lang/String;)Lcom/example/muster/muster/SendResult;" } : Jvm.MethodName)) : Jvm.Cond).before a0 Z = true := H.1 _ (List.mem_of_getElem? (i := 68) rfl)
theorem w_69 {Z : State} {a0 : Array Value} (H : Wd Z a0) : ((Jvm.Cond.code ({ cls := "com/example/muster/muster/SendResult", name := "unreachable", desc := "(Ljava/lang/String;)Lcom/example/muster/muster/SendResult;" } : Jvm.MethodName) prog_26_method_3_code (1 : Nat) (Option.some (Jvm.ClassFile.FieldType.object "com/example/muster/muster/SendResult"))) : Jvm.Cond).before a0 Z = true := H.1 _ (List.mem_of_getElem? (i := 69) rfl)
theorem w_70 {Z : State} {a0 : Array Value} (H : Wd Z a0) : ((Jvm.Cond.fieldLink "com/example/muster/muster/SendResultDeliveredPinLaw" (37 : Nat) "com/example/muster/muster/SendResult" "DELIVERED" "Lcom/example/muster/muster/SendResult;") : Jvm.Cond).before a0 Z = true := H.1 _ (List.mem_of_getElem? (i := 70) rfl)
theorem w_71 {Z : State} {a0 : Array Value} (H : Wd Z a0) : ((Jvm.Cond.laysStatic "com/example/muster/muster/SendResult" "DELIVERED" "Lcom/example/muster/muster/SendResult;") : Jvm.Cond).before a0 Z = true := H.1 _ (List.mem_of_getElem? (i := 71) rfl)
theorem w_72 {Z : State} {a0 : Array Value} (H : Wd Z a0) : ((Jvm.Cond.classLink "com/example/muster/muster/SendResultDeliveredPinLaw" (8 : Nat) "java/lang/String") : Jvm.Cond).before a0 Z = true := H.1 _ (List.mem_of_getElem? (i := 72) rfl)
theorem w_73 {Z : State} {a0 : Array Value} (H : Wd Z a0) : ((Jvm.Cond.methodLink "com/example/muster/muster/SendResultDeliveredPinLaw" (10 : Nat) ({ cls := "java/lang/String", name := "<init>", desc := "([C)V" } : Jvm.MethodName)) : Jvm.Cond).before a0 Z = true := H.1 _ (List.mem_of_getElem? (i := 73) rfl)
theorem w_74 {Z : State} {a0 : Array Value} (H : Wd Z a0) : ((Jvm.Cond.instanceMethod ({ cls := "java/lang/String", name := "<init>", desc := "([C)V" } : Jvm.MethodName)) : Jvm.Cond).before a0 Z = true := H.1 _ (List.mem_of_getElem? (i := 74) rfl)
theorem w_75 {Z : State} {a0 : Array Value} (H : Wd Z a0) : ((Jvm.Cond.code ({ cls := "java/lang/String", name := "<init>", desc := "([C)V" } : Jvm.MethodName) jdk_42_method_3_code (2 : Nat) (Option.none : Option Jvm.ClassFile.FieldType)) : Jvm.Cond).before a0 Z = true := H.1 _ (List.mem_of_getElem? (i := 75) rfl)
theorem w_76 {Z : State} {a0 : Array Value} (H : Wd Z a0) : ((Jvm.Cond.methodLink "java/lang/String" (27 : Nat) ({ cls := "java/lang/String", name := "<init>", desc := "([CIILjava/lang/Void;)V" } : Jvm.MethodName)) : Jvm.Cond).before a0 Z = true := H.1 _ (List.mem_of_getElem? (i := 76) rfl)
theorem w_77 {Z : State} {a0 : Array Value} (H : Wd Z a0) : ((Jvm.Cond.instanceMethod ({ cls := "java/lang/String", name := "<init>", desc := "([CIILjava/lang/Void;)V" } : Jvm.MethodName)) : Jvm.Cond).before a0 Z = true := H.1 _ (List.mem_of_getElem? (i := 77) rfl)
theorem w_78 {Z : State} {a0 : Array Value} (H : Wd Z a0) : ((Jvm.Cond.code ({ cls := "java/lang/String", name := "<init>", desc := "([CIILjava/lang/Void;)V" } : Jvm.MethodName) jdk_42_method_149_code (6 : Nat) (Option.none : Option Jvm.ClassFile.FieldType)) : Jvm.Cond).before a0 Z = true := H.1 _ (List.mem_of_getElem? (i := 78) rfl)
theorem w_79 {Z : State} {a0 : Array Value} (H : Wd Z a0) : ((Jvm.Cond.methodLink "java/lang/String" (177 : Nat) ({ cls := "java/lang/StringUTF16", name := "compress", desc := "([CII)[B" } : Jvm.MethodName)) : Jvm.Cond).before a0 Z = true := H.1 _ (List.mem_of_getElem? (i := 79) rfl)
theorem w_80 {Z : State} {a0 : Array Value} (H : Wd Z a0) : ((Jvm.Cond.static ({ cls := "java/lang/StringUTF16", name := "compress", desc := "([CII)[B" } : Jvm.MethodName)) : Jvm.Cond).before a0 Z = true := H.1 _ (List.mem_of_getElem? (i := 80) rfl)
theorem w_81 {Z : State} {a0 : Array Value} (H : Wd Z a0) : ((Jvm.Cond.initialized "java/lang/StringUTF16") : Jvm.Cond).before a0 Z = true := H.1 _ (List.mem_of_getElem? (i := 81) rfl)
theorem w_82 {Z : State} {a0 : Array Value} (H : Wd Z a0) : ((Jvm.Cond.code ({ cls := "java/lang/StringUTF16", name := "compress", desc := "([CII)[B" } : Jvm.MethodName) jdk_52_method_16_code (6 : Nat) (Option.some (Jvm.ClassFile.FieldType.array Jvm.ClassFile.FieldType.byte))) : Jvm.Cond).before a0 Z = true := H.1 _ (List.mem_of_getElem? (i := 82) rfl)
theorem w_83 {Z : State} {a0 : Array Value} (H : Wd Z a0) : ((Jvm.Cond.methodLink "java/lang/StringUTF16" (115 : Nat) ({ cls := "java/lang/StringUTF16", name := "compress", desc := "([CI[BII)I" } : Jvm.MethodName)) : Jvm.Cond).before a0 Z = true := H.1 _ (List.mem_of_getElem? (i := 83) rfl)
theorem w_84 {Z : State} {a0 : Array Value} (H : Wd Z a0) : ((Jvm.Cond.static ({ cls := "java/lang/StringUTF16", name := "compress", desc := "([CI[BII)I" } : Jvm.MethodName)) : Jvm.Cond).before a0 Z = true := H.1 _ (List.mem_of_getElem? (i := 84) rfl)
theorem w_85 {Z : State} {a0 : Array Value} (H : Wd Z a0) : ((Jvm.Cond.code ({ cls := "java/lang/StringUTF16", name := "compress", desc := "([CI[BII)I" } : Jvm.MethodName) jdk_52_method_21_code (7 : Nat) (Option.some Jvm.ClassFile.FieldType.int)) : Jvm.Cond).before a0 Z = true := H.1 _ (List.mem_of_getElem? (i := 85) rfl)
theorem w_86 {Z : State} {a0 : Array Value} (H : Wd Z a0) : ((Jvm.Cond.methodLink "java/lang/String" (47 : Nat) ({ cls := "java/lang/StringUTF16", name := "coderFromArrayLen", desc := "([BI)B" } : Jvm.MethodName)) : Jvm.Cond).before a0 Z = true := H.1 _ (List.mem_of_getElem? (i := 86) rfl)
theorem w_87 {Z : State} {a0 : Array Value} (H : Wd Z a0) : ((Jvm.Cond.static ({ cls := "java/lang/StringUTF16", name := "coderFromArrayLen", desc := "([BI)B" } : Jvm.MethodName)) : Jvm.Cond).before a0 Z = true := H.1 _ (List.mem_of_getElem? (i := 87) rfl)
theorem w_88 {Z : State} {a0 : Array Value} (H : Wd Z a0) : ((Jvm.Cond.code ({ cls := "java/lang/StringUTF16", name := "coderFromArrayLen", desc := "([BI)B" } : Jvm.MethodName) jdk_52_method_15_code (2 : Nat) (Option.some Jvm.ClassFile.FieldType.byte)) : Jvm.Cond).before a0 Z = true := H.1 _ (List.mem_of_getElem? (i := 88) rfl)
theorem w_89 {Z : State} {a0 : Array Value} (H : Wd Z a0) : ((Jvm.Cond.stringLink "java/lang/String" (7 : Nat) "") : Jvm.Cond).before a0 Z = true := H.1 _ (List.mem_of_getElem? (i := 89) rfl)
theorem d0_0 : decode jdk_42_method_139_code 0 = .ok (.getstatic 38, 3) := by decide +kernel
theorem d0_3 : decode jdk_42_method_139_code 3 = .ok (.ifCond .eq 23, 3) := by decide +kernel
theorem d0_6 : decode jdk_42_method_139_code 6 = .ok (.iload_n 0, 1) := by decide +kernel
theorem d0_7 : decode jdk_42_method_139_code 7 = .ok (.invokestatic 1015, 3) := by decide +kernel
theorem d0_10 : decode jdk_42_method_139_code 10 = .ok (.ifCond .eq 16, 3) := by decide +kernel
theorem d0_13 : decode jdk_42_method_139_code 13 = .ok (.new 10, 3) := by decide +kernel
theorem d0_16 : decode jdk_42_method_139_code 16 = .ok (.dup, 1) := by decide +kernel
theorem d0_17 : decode jdk_42_method_139_code 17 = .ok (.iload_n 0, 1) := by decide +kernel
theorem d0_18 : decode jdk_42_method_139_code 18 = .ok (.invokestatic 1018, 3) := by decide +kernel
theorem d0_21 : decode jdk_42_method_139_code 21 = .ok (.iconst 0, 1) := by decide +kernel
theorem d0_22 : decode jdk_42_method_139_code 22 = .ok (.invokespecial 209, 3) := by decide +kernel
theorem d0_25 : decode jdk_42_method_139_code 25 = .ok (.areturn, 1) := by decide +kernel
theorem d1_0 : decode jdk_43_method_3_code 0 = .ok (.iload_n 0, 1) := by decide +kernel
theorem d1_1 : decode jdk_43_method_3_code 1 = .ok (.sipush 255, 3) := by decide +kernel
theorem d1_4 : decode jdk_43_method_3_code 4 = .ok (.if_icmp .gt 7, 3) := by decide +kernel
theorem d1_7 : decode jdk_43_method_3_code 7 = .ok (.iconst 1, 1) := by decide +kernel
theorem d1_8 : decode jdk_43_method_3_code 8 = .ok (.goto 4, 3) := by decide +kernel
theorem d1_12 : decode jdk_43_method_3_code 12 = .ok (.ireturn, 1) := by decide +kernel
theorem d2_0 : decode jdk_43_method_46_code 0 = .ok (.iconst 1, 1) := by decide +kernel
theorem d2_1 : decode jdk_43_method_46_code 1 = .ok (.newarray .byte, 2) := by decide +kernel
theorem d2_3 : decode jdk_43_method_46_code 3 = .ok (.dup, 1) := by decide +kernel
theorem d2_4 : decode jdk_43_method_46_code 4 = .ok (.iconst 0, 1) := by decide +kernel
theorem d2_5 : decode jdk_43_method_46_code 5 = .ok (.iload_n 0, 1) := by decide +kernel
theorem d2_6 : decode jdk_43_method_46_code 6 = .ok (.i2b, 1) := by decide +kernel
theorem d2_7 : decode jdk_43_method_46_code 7 = .ok (.bastore, 1) := by decide +kernel
theorem d2_8 : decode jdk_43_method_46_code 8 = .ok (.areturn, 1) := by decide +kernel
theorem d3_0 : decode jdk_42_method_151_code 0 = .ok (.aload_n 0, 1) := by decide +kernel
theorem d3_1 : decode jdk_42_method_151_code 1 = .ok (.invokespecial 1, 3) := by decide +kernel
theorem d3_4 : decode jdk_42_method_151_code 4 = .ok (.aload_n 0, 1) := by decide +kernel
theorem d3_5 : decode jdk_42_method_151_code 5 = .ok (.aload_n 1, 1) := by decide +kernel
theorem d3_6 : decode jdk_42_method_151_code 6 = .ok (.putfield 9, 3) := by decide +kernel
theorem d3_9 : decode jdk_42_method_151_code 9 = .ok (.aload_n 0, 1) := by decide +kernel
theorem d3_10 : decode jdk_42_method_151_code 10 = .ok (.iload_n 2, 1) := by decide +kernel
theorem d3_11 : decode jdk_42_method_151_code 11 = .ok (.putfield 15, 3) := by decide +kernel
theorem d3_14 : decode jdk_42_method_151_code 14 = .ok (.return_, 1) := by decide +kernel
theorem d5_0 : decode prog_26_method_1_code 0 = .ok (.aload_n 0, 1) := by decide +kernel
theorem d5_1 : decode prog_26_method_1_code 1 = .ok (.invokespecial 1, 3) := by decide +kernel
theorem d5_4 : decode prog_26_method_1_code 4 = .ok (.aload_n 0, 1) := by decide +kernel
theorem d5_5 : decode prog_26_method_1_code 5 = .ok (.aload_n 1, 1) := by decide +kernel
theorem d5_6 : decode prog_26_method_1_code 6 = .ok (.putfield 7, 3) := by decide +kernel
theorem d5_9 : decode prog_26_method_1_code 9 = .ok (.aload_n 0, 1) := by decide +kernel
theorem d5_10 : decode prog_26_method_1_code 10 = .ok (.iload_n 2, 1) := by decide +kernel
theorem d5_11 : decode prog_26_method_1_code 11 = .ok (.putfield 13, 3) := by decide +kernel
theorem d5_14 : decode prog_26_method_1_code 14 = .ok (.return_, 1) := by decide +kernel
theorem d6_0 : decode jdk_30_method_1_code 0 = .ok (.aload_n 0, 1) := by decide +kernel
theorem d6_1 : decode jdk_30_method_1_code 1 = .ok (.invokespecial 1, 3) := by decide +kernel
theorem d6_4 : decode jdk_30_method_1_code 4 = .ok (.return_, 1) := by decide +kernel
theorem d7_0 : decode prog_26_method_4_code 0 = .ok (.aload_n 0, 1) := by decide +kernel
theorem d7_1 : decode prog_26_method_4_code 1 = .ok (.getfield 7, 3) := by decide +kernel
theorem d7_4 : decode prog_26_method_4_code 4 = .ok (.ifnonnull 7, 3) := by decide +kernel
theorem d7_7 : decode prog_26_method_4_code 7 = .ok (.iconst 1, 1) := by decide +kernel
theorem d7_8 : decode prog_26_method_4_code 8 = .ok (.goto 4, 3) := by decide +kernel
theorem d7_11 : decode prog_26_method_4_code 11 = .ok (.iconst 0, 1) := by decide +kernel
theorem d7_12 : decode prog_26_method_4_code 12 = .ok (.ireturn, 1) := by decide +kernel
theorem d8_0 : decode prog_26_method_8_code 0 = .ok (.aload_n 0, 1) := by decide +kernel
theorem d8_1 : decode prog_26_method_8_code 1 = .ok (.getfield 7, 3) := by decide +kernel
theorem d8_4 : decode prog_26_method_8_code 4 = .ok (.areturn, 1) := by decide +kernel
theorem d9_0 : decode prog_26_method_2_code 0 = .ok (.new 8, 3) := by decide +kernel
theorem d9_3 : decode prog_26_method_2_code 3 = .ok (.dup, 1) := by decide +kernel
theorem d9_4 : decode prog_26_method_2_code 4 = .ok (.aload_n 0, 1) := by decide +kernel
theorem d9_5 : decode prog_26_method_2_code 5 = .ok (.ldc 17, 2) := by decide +kernel
theorem d9_7 : decode prog_26_method_2_code 7 = .ok (.invokestatic 18, 3) := by decide +kernel
theorem d9_10 : decode prog_26_method_2_code 10 = .ok (.checkcast 24, 3) := by decide +kernel
theorem d9_13 : decode prog_26_method_2_code 13 = .ok (.iconst 0, 1) := by decide +kernel
theorem d9_14 : decode prog_26_method_2_code 14 = .ok (.invokespecial 26, 3) := by decide +kernel
theorem d9_17 : decode prog_26_method_2_code 17 = .ok (.areturn, 1) := by decide +kernel
theorem d10_0 : decode jdk_31_method_11_code 0 = .ok (.aload_n 0, 1) := by decide +kernel
theorem d10_1 : decode jdk_31_method_11_code 1 = .ok (.ifnonnull 12, 3) := by decide +kernel
theorem d10_13 : decode jdk_31_method_11_code 13 = .ok (.aload_n 0, 1) := by decide +kernel
theorem d10_14 : decode jdk_31_method_11_code 14 = .ok (.areturn, 1) := by decide +kernel
theorem d11_0 : decode prog_26_method_3_code 0 = .ok (.new 8, 3) := by decide +kernel
theorem d11_3 : decode prog_26_method_3_code 3 = .ok (.dup, 1) := by decide +kernel
theorem d11_4 : decode prog_26_method_3_code 4 = .ok (.aload_n 0, 1) := by decide +kernel
theorem d11_5 : decode prog_26_method_3_code 5 = .ok (.ldc 17, 2) := by decide +kernel
theorem d11_7 : decode prog_26_method_3_code 7 = .ok (.invokestatic 18, 3) := by decide +kernel
theorem d11_10 : decode prog_26_method_3_code 10 = .ok (.checkcast 24, 3) := by decide +kernel
theorem d11_13 : decode prog_26_method_3_code 13 = .ok (.iconst 1, 1) := by decide +kernel
theorem d11_14 : decode prog_26_method_3_code 14 = .ok (.invokespecial 26, 3) := by decide +kernel
theorem d11_17 : decode prog_26_method_3_code 17 = .ok (.areturn, 1) := by decide +kernel
theorem d12_0 : decode jdk_42_method_3_code 0 = .ok (.aload_n 0, 1) := by decide +kernel
theorem d12_1 : decode jdk_42_method_3_code 1 = .ok (.aload_n 1, 1) := by decide +kernel
theorem d12_2 : decode jdk_42_method_3_code 2 = .ok (.iconst 0, 1) := by decide +kernel
theorem d12_3 : decode jdk_42_method_3_code 3 = .ok (.aload_n 1, 1) := by decide +kernel
theorem d12_4 : decode jdk_42_method_3_code 4 = .ok (.arraylength, 1) := by decide +kernel
theorem d12_5 : decode jdk_42_method_3_code 5 = .ok (.aconst_null, 1) := by decide +kernel
theorem d12_6 : decode jdk_42_method_3_code 6 = .ok (.invokespecial 27, 3) := by decide +kernel
theorem d12_9 : decode jdk_42_method_3_code 9 = .ok (.return_, 1) := by decide +kernel
theorem d13_0 : decode jdk_42_method_149_code 0 = .ok (.aload_n 0, 1) := by decide +kernel
theorem d13_1 : decode jdk_42_method_149_code 1 = .ok (.invokespecial 1, 3) := by decide +kernel
theorem d13_4 : decode jdk_42_method_149_code 4 = .ok (.iload_n 3, 1) := by decide +kernel
theorem d13_5 : decode jdk_42_method_149_code 5 = .ok (.ifCond .ne 22, 3) := by decide +kernel
theorem d13_8 : decode jdk_42_method_149_code 8 = .ok (.aload_n 0, 1) := by decide +kernel
theorem d13_9 : decode jdk_42_method_149_code 9 = .ok (.ldc 7, 2) := by decide +kernel
theorem d13_11 : decode jdk_42_method_149_code 11 = .ok (.getfield 9, 3) := by decide +kernel
theorem d13_14 : decode jdk_42_method_149_code 14 = .ok (.putfield 9, 3) := by decide +kernel
theorem d13_17 : decode jdk_42_method_149_code 17 = .ok (.aload_n 0, 1) := by decide +kernel
theorem d13_18 : decode jdk_42_method_149_code 18 = .ok (.ldc 7, 2) := by decide +kernel
theorem d13_20 : decode jdk_42_method_149_code 20 = .ok (.getfield 15, 3) := by decide +kernel
theorem d13_23 : decode jdk_42_method_149_code 23 = .ok (.putfield 15, 3) := by decide +kernel
theorem d13_26 : decode jdk_42_method_149_code 26 = .ok (.return_, 1) := by decide +kernel
theorem d13_27 : decode jdk_42_method_149_code 27 = .ok (.getstatic 38, 3) := by decide +kernel
theorem d13_30 : decode jdk_42_method_149_code 30 = .ok (.ifCond .eq 28, 3) := by decide +kernel
theorem d13_33 : decode jdk_42_method_149_code 33 = .ok (.aload_n 1, 1) := by decide +kernel
theorem d13_34 : decode jdk_42_method_149_code 34 = .ok (.iload_n 2, 1) := by decide +kernel
theorem d13_35 : decode jdk_42_method_149_code 35 = .ok (.iload_n 3, 1) := by decide +kernel
theorem d13_36 : decode jdk_42_method_149_code 36 = .ok (.invokestatic 177, 3) := by decide +kernel
theorem d13_39 : decode jdk_42_method_149_code 39 = .ok (.astore 5, 2) := by decide +kernel
theorem d13_41 : decode jdk_42_method_149_code 41 = .ok (.aload_n 0, 1) := by decide +kernel
theorem d13_42 : decode jdk_42_method_149_code 42 = .ok (.aload 5, 2) := by decide +kernel
theorem d13_44 : decode jdk_42_method_149_code 44 = .ok (.iload_n 3, 1) := by decide +kernel
theorem d13_45 : decode jdk_42_method_149_code 45 = .ok (.invokestatic 47, 3) := by decide +kernel
theorem d13_48 : decode jdk_42_method_149_code 48 = .ok (.putfield 15, 3) := by decide +kernel
theorem d13_51 : decode jdk_42_method_149_code 51 = .ok (.aload_n 0, 1) := by decide +kernel
theorem d13_52 : decode jdk_42_method_149_code 52 = .ok (.aload 5, 2) := by decide +kernel
theorem d13_54 : decode jdk_42_method_149_code 54 = .ok (.putfield 9, 3) := by decide +kernel
theorem d13_57 : decode jdk_42_method_149_code 57 = .ok (.return_, 1) := by decide +kernel
theorem d14_0 : decode jdk_52_method_16_code 0 = .ok (.iload_n 2, 1) := by decide +kernel
theorem d14_1 : decode jdk_52_method_16_code 1 = .ok (.newarray .byte, 2) := by decide +kernel
theorem d14_3 : decode jdk_52_method_16_code 3 = .ok (.astore_n 3, 1) := by decide +kernel
theorem d14_4 : decode jdk_52_method_16_code 4 = .ok (.aload_n 0, 1) := by decide +kernel
theorem d14_5 : decode jdk_52_method_16_code 5 = .ok (.iload_n 1, 1) := by decide +kernel
theorem d14_6 : decode jdk_52_method_16_code 6 = .ok (.aload_n 3, 1) := by decide +kernel
theorem d14_7 : decode jdk_52_method_16_code 7 = .ok (.iconst 0, 1) := by decide +kernel
theorem d14_8 : decode jdk_52_method_16_code 8 = .ok (.iload_n 2, 1) := by decide +kernel
theorem d14_9 : decode jdk_52_method_16_code 9 = .ok (.invokestatic 115, 3) := by decide +kernel
theorem d14_12 : decode jdk_52_method_16_code 12 = .ok (.istore 4, 2) := by decide +kernel
theorem d14_14 : decode jdk_52_method_16_code 14 = .ok (.iload 4, 2) := by decide +kernel
theorem d14_16 : decode jdk_52_method_16_code 16 = .ok (.iload_n 2, 1) := by decide +kernel
theorem d14_17 : decode jdk_52_method_16_code 17 = .ok (.if_icmp .eq 40, 3) := by decide +kernel
theorem d14_57 : decode jdk_52_method_16_code 57 = .ok (.aload_n 3, 1) := by decide +kernel
theorem d14_58 : decode jdk_52_method_16_code 58 = .ok (.areturn, 1) := by decide +kernel
theorem d15_0 : decode jdk_52_method_21_code 0 = .ok (.iconst 0, 1) := by decide +kernel
theorem d15_1 : decode jdk_52_method_21_code 1 = .ok (.istore 5, 2) := by decide +kernel
theorem d15_3 : decode jdk_52_method_21_code 3 = .ok (.iload 5, 2) := by decide +kernel
theorem d15_5 : decode jdk_52_method_21_code 5 = .ok (.iload 4, 2) := by decide +kernel
theorem d15_7 : decode jdk_52_method_21_code 7 = .ok (.if_icmp .ge 37, 3) := by decide +kernel
theorem d15_10 : decode jdk_52_method_21_code 10 = .ok (.aload_n 0, 1) := by decide +kernel
theorem d15_11 : decode jdk_52_method_21_code 11 = .ok (.iload_n 1, 1) := by decide +kernel
theorem d15_12 : decode jdk_52_method_21_code 12 = .ok (.caload, 1) := by decide +kernel
theorem d15_13 : decode jdk_52_method_21_code 13 = .ok (.istore 6, 2) := by decide +kernel
theorem d15_15 : decode jdk_52_method_21_code 15 = .ok (.iload 6, 2) := by decide +kernel
theorem d15_17 : decode jdk_52_method_21_code 17 = .ok (.sipush 255, 3) := by decide +kernel
theorem d15_20 : decode jdk_52_method_21_code 20 = .ok (.if_icmp .le 6, 3) := by decide +kernel
theorem d15_26 : decode jdk_52_method_21_code 26 = .ok (.aload_n 2, 1) := by decide +kernel
theorem d15_27 : decode jdk_52_method_21_code 27 = .ok (.iload_n 3, 1) := by decide +kernel
theorem d15_28 : decode jdk_52_method_21_code 28 = .ok (.iload 6, 2) := by decide +kernel
theorem d15_30 : decode jdk_52_method_21_code 30 = .ok (.i2b, 1) := by decide +kernel
theorem d15_31 : decode jdk_52_method_21_code 31 = .ok (.bastore, 1) := by decide +kernel
theorem d15_32 : decode jdk_52_method_21_code 32 = .ok (.iinc 1 1, 3) := by decide +kernel
theorem d15_35 : decode jdk_52_method_21_code 35 = .ok (.iinc 3 1, 3) := by decide +kernel
theorem d15_38 : decode jdk_52_method_21_code 38 = .ok (.iinc 5 1, 3) := by decide +kernel
theorem d15_41 : decode jdk_52_method_21_code 41 = .ok (.goto (-38), 3) := by decide +kernel
theorem d15_44 : decode jdk_52_method_21_code 44 = .ok (.iload 4, 2) := by decide +kernel
theorem d15_46 : decode jdk_52_method_21_code 46 = .ok (.ireturn, 1) := by decide +kernel
theorem d16_0 : decode jdk_52_method_15_code 0 = .ok (.iload_n 1, 1) := by decide +kernel
theorem d16_1 : decode jdk_52_method_15_code 1 = .ok (.aload_n 0, 1) := by decide +kernel
theorem d16_2 : decode jdk_52_method_15_code 2 = .ok (.arraylength, 1) := by decide +kernel
theorem d16_3 : decode jdk_52_method_15_code 3 = .ok (.isub, 1) := by decide +kernel
theorem d16_4 : decode jdk_52_method_15_code 4 = .ok (.bipush 31, 2) := by decide +kernel
theorem d16_6 : decode jdk_52_method_15_code 6 = .ok (.iushr, 1) := by decide +kernel
theorem d16_7 : decode jdk_52_method_15_code 7 = .ok (.i2b, 1) := by decide +kernel
theorem d16_8 : decode jdk_52_method_15_code 8 = .ok (.ireturn, 1) := by decide +kernel
theorem pd_0 : parseMethodDescriptor "([CI[BII)I" = some ⟨[(.array .char), .int, (.array .byte), .int, .int], (some .int)⟩ := by decide +kernel
theorem pd_1 : parseMethodDescriptor "([CII)[B" = some ⟨[(.array .char), .int, .int], (some (.array .byte))⟩ := by decide +kernel
theorem pd_2 : parseMethodDescriptor "([BI)B" = some ⟨[(.array .byte), .int], (some .byte)⟩ := by decide +kernel
theorem pd_3 : parseMethodDescriptor "([CIILjava/lang/Void;)V" = some ⟨[(.array .char), .int, .int, (.object "java/lang/Void")], none⟩ := by decide +kernel
theorem pd_4 : parseMethodDescriptor "(C)Z" = some ⟨[.char], (some .boolean)⟩ := by decide +kernel
theorem pd_5 : parseMethodDescriptor "(C)[B" = some ⟨[.char], (some (.array .byte))⟩ := by decide +kernel
theorem pd_6 : parseMethodDescriptor "([BB)V" = some ⟨[(.array .byte), .byte], none⟩ := by decide +kernel
theorem pd_7 : parseMethodDescriptor "()V" = some ⟨[], none⟩ := by decide +kernel
theorem pd_8 : parseMethodDescriptor "(Ljava/lang/Object;Ljava/lang/String;)Ljava/lang/Object;" = some ⟨[(.object "java/lang/Object"), (.object "java/lang/String")], (some (.object "java/lang/Object"))⟩ := by decide +kernel
theorem pd_9 : parseMethodDescriptor "(Ljava/lang/String;Z)V" = some ⟨[(.object "java/lang/String"), .boolean], none⟩ := by decide +kernel
theorem pd_10 : parseMethodDescriptor "(Ljava/lang/String;)Lcom/example/muster/muster/SendResult;" = some ⟨[(.object "java/lang/String")], (some (.object "com/example/muster/muster/SendResult"))⟩ := by decide +kernel
theorem pd_11 : parseMethodDescriptor "()Z" = some ⟨[], (some .boolean)⟩ := by decide +kernel
theorem pd_12 : parseMethodDescriptor "()Ljava/lang/String;" = some ⟨[], (some (.object "java/lang/String"))⟩ := by decide +kernel
theorem pd_13 : parseMethodDescriptor "([C)V" = some ⟨[(.array .char)], none⟩ := by decide +kernel
theorem pd_14 : parseMethodDescriptor "(C)Ljava/lang/String;" = some ⟨[.char], (some (.object "java/lang/String"))⟩ := by decide +kernel
theorem bts_set {cs : List Int32} {i : Nat} (hi : i < cs.length) : (bts (cs.take i) ++ List.replicate (cs.length - i) (Value.int 0)).set i (.int (cs[i].toInt8.toInt32)) = bts (cs.take (i + 1)) ++ List.replicate (cs.length - (i + 1)) (Value.int 0) := by
  have hl : (bts (cs.take i)).length = i := by simp; omega
  rw [List.set_append_right _ _ (by omega), hl, Nat.sub_self]
  obtain ⟨m, hm⟩ : ∃ m, cs.length - i = m + 1 := ⟨cs.length - i - 1, by omega⟩
  rw [hm, show cs.length - (i + 1) = m by omega, List.replicate_succ, List.set_cons_zero, List.take_succ_eq_append_getElem hi]
  simp only [bts, List.map_append, List.map_cons, List.map_nil, List.append_assoc, List.singleton_append]

set_option maxRecDepth 65536 in
set_option maxHeartbeats 4000000 in
theorem lp_cmp5 {l : Launch} {Z : State} {a0 : Array Value} (H : Wd Z a0) {K : Cx} {h : Heap} {ca ba : Addr} {kc kb : ClassId} {cs : List Int32} (A : Arv Z h ca kc .char (Int32.ofNat cs.length) (ints cs) (.int 0)) (hl : Lat cs) (hne : ca ≠ ba) : ∀ (n i : Nat) (x6 : Slot) (h1 : Heap), n + i = cs.length → One x6 → Keep h h1 [ba] → Arv Z h1 ba kb .byte (Int32.ofNat cs.length) (bts (cs.take i) ++ List.replicate (cs.length - i) (.int 0)) (.int 0) → Go l Z K "java/lang/StringUTF16" "compress" jdk_52_method_21_code 7 (some .int) ({ frames := 0, cells := 0, slots := 0, locals := 0 } : Room) (fun v h' G => v = some (.int (Int32.ofNat cs.length)) ∧ Keep h h' [ba] ∧ Arv Z h' ba kb .byte (Int32.ofNat cs.length) (bts cs) (.int 0)) h1 [ba] 0 0 3 #[.val (.ref ca), .val (.int (Int32.ofNat i)), .val (.ref ba), .val (.int (Int32.ofNat i)), .val (.int (Int32.ofNat cs.length)), .val (.int (Int32.ofNat i)), x6] []

  | 0, i, x6, h1, hn, h6, K1, V1 => by
    obtain rfl : i = cs.length := by omega
    refine go_iload (v := (Int32.ofNat cs.length)) (q := 5) d15_3 rfl rfl ?_
    refine go_iload (v := (Int32.ofNat cs.length)) (q := 7) d15_5 rfl rfl ?_
    refine go_icY (q := 44) d15_7 (show ¬ Int32.ofNat cs.length < Int32.ofNat cs.length from Int32.lt_irrefl) (by decide) (by decide) ?_
    refine go_iload (v := (Int32.ofNat cs.length)) (q := 46) d15_44 rfl rfl ?_
    have V1 : Arv Z h1 ba kb .byte (Int32.ofNat cs.length) (bts cs) (.int 0) := by simpa using V1
    exact go_ireturn H (G := []) (t := .int) rfl (by decide) rfl d15_46 (by decide) (by decide) (fun _ q => nomatch q) ⟨rfl, K1, V1⟩
  | n + 1, i, x6, h1, hn, h6, K1, V1 => by
    have hi : i < cs.length := by omega
    have hb := hl.1
    have hc := hl.2 cs[i] (List.getElem_mem hi)
    refine go_iload (v := (Int32.ofNat i)) (q := 5) d15_3 rfl rfl ?_
    refine go_iload (v := (Int32.ofNat cs.length)) (q := 7) d15_5 rfl rfl ?_
    refine go_icN (q := 10) d15_7 ((lt_ofNat (by omega) (by omega)).mpr hi) rfl ?_
    refine go_aloadN (v := .ref ca) (q := 11) d15_10 rfl rfl rfl ?_
    refine go_iloadN (v := (Int32.ofNat i)) (q := 12) d15_11 rfl rfl ?_
    refine go_caload (v := .int (cs[i])) (q := 13) (A.keep K1 (ninS hne nin0)) ⟨nn_ofNat (by omega), (lt_ofNat (by omega) (by omega)).mpr hi⟩ (by rw [cl_ofNat (by omega)]; simp [ints, hi]) d15_12 rfl ?_
    refine go_istoreO (L' := #[.val (.ref ca), .val (.int (Int32.ofNat i)), .val (.ref ba), .val (.int (Int32.ofNat i)), .val (.int (Int32.ofNat cs.length)), .val (.int (Int32.ofNat i)), .val (.int (cs[i]))]) (q := 15) d15_13 rfl h6 rfl rfl ?_
    refine go_iload (v := cs[i]) (q := 17) d15_15 rfl rfl ?_
    refine go_sipush (x := (255 : Int32)) (q := 20) d15_17 rfl rfl ?_
    refine go_icY (q := 26) d15_20 (show ¬ (255 : Int32) < cs[i] from hc.2) (by decide) (by decide) ?_
    refine go_aloadN (v := .ref ba) (q := 27) d15_26 rfl rfl rfl ?_
    refine go_iloadN (v := (Int32.ofNat i)) (q := 28) d15_27 rfl rfl ?_
    refine go_iload (v := cs[i]) (q := 30) d15_28 rfl rfl ?_
    refine go_i2b (r := (cs[i]).toInt8.toInt32) (q := 31) d15_30 rfl rfl ?_
    refine go_bastore (i := i) (y := cs[i].toInt8.toInt32) (q := 32) V1 ⟨nn_ofNat (by omega), (lt_ofNat (by omega) (by omega)).mpr hi⟩ (cl_ofNat (by omega)) (by simp; omega) (by simp) (show (cs[i].toInt8.toInt32).toInt8.toInt32 = cs[i].toInt8.toInt32 by simp) d15_31 rfl ?_
    intro h2 K2 z2 V2
    rw [bts_set hi] at V2
    refine go_iinc (x := (Int32.ofNat i)) (y := (Int32.ofNat (i + 1))) (L' := #[.val (.ref ca), .val (.int (Int32.ofNat (i + 1))), .val (.ref ba), .val (.int (Int32.ofNat i)), .val (.int (Int32.ofNat cs.length)), .val (.int (Int32.ofNat i)), .val (.int (cs[i]))]) (q := 35) d15_32 rfl add1_ofNat rfl rfl ?_
    refine go_iinc (x := (Int32.ofNat i)) (y := (Int32.ofNat (i + 1))) (L' := #[.val (.ref ca), .val (.int (Int32.ofNat (i + 1))), .val (.ref ba), .val (.int (Int32.ofNat (i + 1))), .val (.int (Int32.ofNat cs.length)), .val (.int (Int32.ofNat i)), .val (.int (cs[i]))]) (q := 38) d15_35 rfl add1_ofNat rfl rfl ?_
    refine go_iinc (x := (Int32.ofNat i)) (y := (Int32.ofNat (i + 1))) (L' := #[.val (.ref ca), .val (.int (Int32.ofNat (i + 1))), .val (.ref ba), .val (.int (Int32.ofNat (i + 1))), .val (.int (Int32.ofNat cs.length)), .val (.int (Int32.ofNat (i + 1))), .val (.int (cs[i]))]) (q := 41) d15_38 rfl add1_ofNat rfl rfl ?_
    refine go_goto (q := 3) d15_41 (by decide) (by decide) ?_
    exact lp_cmp5 H A hl hne n (i + 1) _ h2 (by omega) (One.val rfl) (K1.trans K2 (fun x q => Or.inl q)) V2
set_option maxRecDepth 65536 in
set_option maxHeartbeats 4000000 in
theorem rm_cmp5 {l : Launch} {Z : State} {a0 : Array Value} (H : Wd Z a0) {h : Heap} {ca ba : Addr} {kc kb : ClassId} {cs : List Int32} (A : Arv Z h ca kc .char (Int32.ofNat cs.length) (ints cs) (.int 0)) (V : Arv Z h ba kb .byte (Int32.ofNat cs.length) (List.replicate cs.length (.int 0)) (.int 0)) (hl : Lat cs) (hne : ca ≠ ba) : Met l Z (⟨"java/lang/StringUTF16", "compress", "([CI[BII)I"⟩ : MethodName) jdk_52_method_21_code 7 (some .int) ({ frames := 0, cells := 0, slots := 0, locals := 0 } : Room) h [ba] #[.ref ca, .int 0, .ref ba, .int 0, .int (Int32.ofNat cs.length)] (fun v h' G => v = some (.int (Int32.ofNat cs.length)) ∧ Keep h h' [ba] ∧ Arv Z h' ba kb .byte (Int32.ofNat cs.length) (bts cs) (.int 0)) := by
  refine Met.mk (L := #[.val (.ref ca), .val (.int 0), .val (.ref ba), .val (.int 0), .val (.int (Int32.ofNat cs.length)), .unset, .unset]) (by decide +kernel) (fun m => by first | (simp [entryFrame, mkF, argsToLocals, Value.category]; done) | rfl) (fun K => ?_)
  show Go _ _ K "java/lang/StringUTF16" "compress" _ _ _ _ _ _ _ _ _ 0 _ _
  refine go_iconst (x := (0 : Int32)) (q := 1) d15_0 rfl rfl ?_
  refine go_istore (L' := #[.val (.ref ca), .val (.int 0), .val (.ref ba), .val (.int 0), .val (.int (Int32.ofNat cs.length)), .val (.int (0 : Int32)), .unset]) (q := 3) d15_1 rfl rfl ?_
  exact lp_cmp5 H A hl hne cs.length 0 _ h (by omega) One.u (Keep.refl _ _) (by simpa using V)
set_option maxRecDepth 65536 in
set_option maxHeartbeats 4000000 in
theorem rm_cmp3 {l : Launch} {Z : State} {a0 : Array Value} (H : Wd Z a0) {h : Heap} {ca : Addr} {kc : ClassId} {cs : List Int32} (A : Arv Z h ca kc .char (Int32.ofNat cs.length) (ints cs) (.int 0)) (hl : Lat cs) (hn : cs.length ≤ 16) : Met l Z (⟨"java/lang/StringUTF16", "compress", "([CII)[B"⟩ : MethodName) jdk_52_method_16_code 6 (some (.array .byte)) ({ frames := 1, cells := 1, slots := 16, locals := 18 } : Room) h [] #[.ref ca, .int 0, .int (Int32.ofNat cs.length)] (fun v h' G => ∃ ba kb, v = some (.ref ba) ∧ h.size ≤ ba ∧ Keep h h' [] ∧ Arv Z h' ba kb .byte (Int32.ofNat cs.length) (bts cs) (.int 0)) := by
  refine Met.mk (L := #[.val (.ref ca), .val (.int 0), .val (.int (Int32.ofNat cs.length)), .unset, .unset, .unset]) (by decide +kernel) (fun m => by first | (simp [entryFrame, mkF, argsToLocals, Value.category]; done) | rfl) (fun K => ?_)
  show Go _ _ K "java/lang/StringUTF16" "compress" _ _ _ _ _ _ _ _ _ 0 _ _
  refine go_iloadN (v := (Int32.ofNat cs.length)) (q := 1) d14_0 rfl rfl ?_
  refine go_newarray (ty := .byte) (dv := .int 0) (n := cs.length) (cap := 16) (ad := "[B") (c' := 1) (s' := 16) (q := 3) rfl rfl (cl_ofNat (by have := hl.1; omega)) (w_16 H) d14_1 (nn_ofNat (by have := hl.1; omega)) hn (by decide) rfl rfl rfl rfl (by decide) (by decide) ?_
  intro h1 ba kb g1 E1 V1 X1
  refine go_astoreN (L' := #[.val (.ref ca), .val (.int 0), .val (.int (Int32.ofNat cs.length)), .val (.ref ba), .unset, .unset]) (q := 4) d14_3 rfl rfl rfl ?_
  refine go_aloadN (v := .ref ca) (q := 5) d14_4 rfl rfl rfl ?_
  refine go_iloadN (v := 0) (q := 6) d14_5 rfl rfl ?_
  refine go_aloadN (v := .ref ba) (q := 7) d14_6 rfl rfl rfl ?_
  refine go_iconst (x := (0 : Int32)) (q := 8) d14_7 rfl rfl ?_
  refine go_iloadN (v := (Int32.ofNat cs.length)) (q := 9) d14_8 rfl rfl ?_
  have ne : ca ≠ ba := fun q => absurd A.lt (by rw [q, g1]; exact Nat.lt_irrefl _)
  refine go_static (c' := 1) (s' := 16) (q := 12) (S := []) (argsL := [.ref ca, .int 0, .ref ba, .int (0 : Int32), .int (Int32.ofNat cs.length)]) H (w_83 H) (w_84 H) (w_81 H) (w_85 H) (by decide) (rm_cmp5 H (A.ext E1) V1 hl ne) rfl rfl (lenOf pd_0 rfl) (fun _ q => q) rfl (by decide) (Nat.le_of_ble_eq_true rfl) rfl rfl (by decide) (by decide) d14_9 rfl ?_
  rintro _ h2 G - ⟨rfl, K2, V2⟩
  refine nx_ (v := none) ?_
  show Go _ _ _ _ _ _ _ _ _ _ _ _ _ _ 12 #[.val (.ref ca), .val (.int 0), .val (.int (Int32.ofNat cs.length)), .val (.ref ba), .unset, .unset] [.int (Int32.ofNat cs.length)]
  refine go_istore (L' := #[.val (.ref ca), .val (.int 0), .val (.int (Int32.ofNat cs.length)), .val (.ref ba), .val (.int (Int32.ofNat cs.length)), .unset]) (q := 14) d14_12 rfl rfl ?_
  refine go_iload (v := (Int32.ofNat cs.length)) (q := 16) d14_14 rfl rfl ?_
  refine go_iloadN (v := (Int32.ofNat cs.length)) (q := 17) d14_16 rfl rfl ?_
  refine go_icY (q := 57) d14_17 rfl (by decide) (by decide) ?_
  refine go_aloadN (v := .ref ba) (q := 58) d14_57 rfl rfl rfl ?_
  exact go_areturn H (G := []) (t := (.array .byte)) rfl rfl rfl d14_58 (by decide) (by decide) (fun _ q => nomatch q) ⟨ba, kb, rfl, by rw [g1]; exact Nat.le_refl _, ((Keep.refl h []).ext E1).trans K2 (fun x q => by cases List.mem_singleton.mp q; exact Or.inr (by rw [g1]; exact Nat.le_refl _)), V2⟩
set_option maxRecDepth 65536 in
set_option maxHeartbeats 4000000 in
theorem rm_codL {l : Launch} {Z : State} {a0 : Array Value} (H : Wd Z a0) {h : Heap} {ba : Addr} {kb : ClassId} {z : Int32} {vs : List Value} {dv : Value} (A : Arv Z h ba kb .byte z vs dv) : Met l Z (⟨"java/lang/StringUTF16", "coderFromArrayLen", "([BI)B"⟩ : MethodName) jdk_52_method_15_code 2 (some .byte) ({ frames := 0, cells := 0, slots := 0, locals := 0 } : Room) h [] #[.ref ba, .int z] (fun v h' G => v = some (.int 0) ∧ h = h') := by
  refine Met.mk (L := #[.val (.ref ba), .val (.int z)]) (by decide +kernel) (fun m => by first | (simp [entryFrame, mkF, argsToLocals, Value.category]; done) | rfl) (fun K => ?_)
  show Go _ _ K "java/lang/StringUTF16" "coderFromArrayLen" _ _ _ _ _ _ _ _ _ 0 _ _
  refine go_iloadN (v := z) (q := 1) d16_0 rfl rfl ?_
  refine go_aloadN (v := .ref ba) (q := 2) d16_1 rfl rfl rfl ?_
  refine go_arraylength (z := z) (q := 3) A d16_2 rfl ?_
  refine go_isub (r := 0) (q := 4) d16_3 (Int32.sub_self _) rfl ?_
  refine go_bipush (x := (31 : Int32)) (q := 6) d16_4 rfl rfl ?_
  refine go_iushr (r := 0) (q := 7) d16_6 rfl rfl ?_
  refine go_i2b (r := 0) (q := 8) d16_7 rfl rfl ?_
  exact go_ireturn H (G := []) (t := .byte) rfl (by decide) rfl d16_8 (by decide) (by decide) (fun _ q => nomatch q) ⟨rfl, rfl⟩
set_option maxRecDepth 65536 in
set_option maxHeartbeats 4000000 in
theorem rm_new4 {l : Launch} {Z : State} {a0 : Array Value} (H : Wd Z a0) {h : Heap} {F : List Addr} {x ca : Addr} {kc : ClassId} {cs : List Int32} (E : Exa Z h x ST) (C : Fld Z h x ST "coder" "B" (.int 0)) (Vv : Fld Z h x ST "value" "[B" .null) (A : Arv Z h ca kc .char (Int32.ofNat cs.length) (ints cs) (.int 0)) (hl : Lat cs) (hn : cs.length ≤ 16) (hx : x ∉ F) : Met l Z (⟨"java/lang/String", "<init>", "([CIILjava/lang/Void;)V"⟩ : MethodName) jdk_42_method_149_code 6 none ({ frames := 2, cells := 4, slots := 16, locals := 35 } : Room) h (x :: F) #[.ref x, .ref ca, .int 0, .int (Int32.ofNat cs.length), .null] (fun v h' G => v = none ∧ Keep h h' [x] ∧ Str Z h' F x cs) := by
  refine Met.mk (L := #[.val (.ref x), .val (.ref ca), .val (.int 0), .val (.int (Int32.ofNat cs.length)), .val (.null), .unset]) (by decide +kernel) (fun m => by first | (simp [entryFrame, mkF, argsToLocals, Value.category]; done) | rfl) (fun K => ?_)
  show Go _ _ K "java/lang/String" "<init>" _ _ _ _ _ _ _ _ _ 0 _ _
  obtain ⟨cz, Sz, nz⟩ := H.2.2.2.1
  have sne : RoadKit.slotOf Z ST "value" "[B" ≠ RoadKit.slotOf Z ST "coder" "B" := slot_ne (C := ST) (Or.inr (w_25 H)) (Or.inr (w_27 H)) (by decide) (t := .array .byte) (t' := .byte) (by decide) (by decide)
  have wiS := (w_12 H)
  refine go_aloadN (v := .ref x) (q := 1) d13_0 rfl rfl rfl ?_
  refine go_initO (q := 4) (w_21 H) (w_22 H) (w_23 H) rfl d13_1 rfl (by decide) (Nat.le_of_ble_eq_true rfl) ?_
  refine go_iloadN (v := (Int32.ofNat cs.length)) (q := 5) d13_4 rfl rfl ?_
  refine go_mine fun hMine hOld => ?_
  by_cases h0 : cs.length = 0
  · obtain rfl : cs = [] := List.length_eq_zero_iff.mp h0
    refine go_ifN (q := 8) d13_5 rfl rfl ?_
    refine go_aloadN (v := .ref x) (q := 9) d13_8 rfl rfl rfl ?_
    refine go_lit (cs := []) (n := 0) (c' := 2) (s' := 4) (q := 11) H (w_89 H) (by decide) (by decide) (by decide) (by decide) (by decide) d13_9 (by decide) (by decide) rfl rfl rfl (by decide) (by decide) ?_
    intro h1 a1 E1 S1
    obtain ⟨X1, C1, n1, -, b1, k1, m1, V1, A1⟩ := S1
    refine go_getfield (v := .ref b1) (q := 14) (w_24 H) Via.refl V1 d13_11 rfl ?_
    have nxb : x ≠ b1 := fun q => m1 (by rw [← q]; simp)
    refine go_putfield (q := 17) (w_24 H) Via.refl (Vv.ext E1) (E.ext E1) (Or.inr ⟨(w_25 H), rfl, rfl⟩) (w_12 H) (ty := (.array .byte)) (by decide) rfl rfl (by simp) d13_14 rfl ?_
    intro h2 W2
    refine go_aloadN (v := .ref x) (q := 18) d13_17 rfl rfl rfl ?_
    refine go_lit (cs := []) (n := 0) (c' := 4) (s' := 8) (q := 20) H (w_89 H) (by decide) (by decide) (by decide) (by decide) (by decide) d13_18 (by decide) (by decide) rfl rfl rfl (by decide) (by decide) ?_
    intro h3 a3 E3 S3
    obtain ⟨X3, C3, n3, -, b3, k3, m3, V3, A3⟩ := S3
    refine go_getfield (v := .int 0) (q := 23) (w_26 H) Via.refl C3 d13_20 rfl ?_
    refine go_putfield (q := 26) (w_26 H) Via.refl (((C.ext E1).other W2 (Or.inr sne.symm)).ext E3) (((E.ext E1).wr W2).ext E3) (Or.inr ⟨(w_27 H), rfl, rfl⟩) (w_12 H) (ty := .byte) (by decide) rfl rfl (by simp) d13_23 rfl ?_
    intro h4 W4
    have Kp : Keep h h4 [x] := ((((Keep.refl h [x]).ext E1).wr W2 (Or.inl (by simp))).ext E3).wr W4 (Or.inl (by simp))
    have Ar : Arv Z h4 b1 k1 .byte (Int32.ofNat ([] : List Int32).length) (bts []) (.int 0) := ((A1.other W2 nxb.symm).ext E3).other W4 nxb.symm
    exact go_return H (G := []) rfl d13_26 (by decide) (by decide) (fun _ q => nomatch q) ⟨rfl, Kp, (((E.ext E1).wr W2).ext E3).wr W4, ((((C.ext E1).other W2 (Or.inr sne.symm)).ext E3).same W4), hx, hl, b1, k1, fun q => m1 (by simp [q]), ((((Vv.ext E1).same W2).ext E3).other W4 (Or.inr sne)), Ar⟩
  · refine go_ifY (q := 27) d13_5 (show ¬ _ = _ from fun q => h0 ((eq_ofNat (n := 0) (by have := hl.1; omega) (by decide)).mp q)) (by decide) (by decide) ?_
    refine go_getstatic (v := .int cz) (q := 30) (w_6 H) Via.refl Sz d13_27 rfl ?_
    refine go_ifN (q := 33) d13_30 nz rfl ?_
    refine go_aloadN (v := .ref ca) (q := 34) d13_33 rfl rfl rfl ?_
    refine go_iloadN (v := 0) (q := 35) d13_34 rfl rfl ?_
    refine go_iloadN (v := (Int32.ofNat cs.length)) (q := 36) d13_35 rfl rfl ?_
    refine go_static (c' := 1) (s' := 16) (q := 39) (S := []) (argsL := [.ref ca, .int 0, .int (Int32.ofNat cs.length)]) H (w_79 H) (w_80 H) (w_81 H) (w_82 H) (by decide) (rm_cmp3 H A hl hn) rfl rfl (lenOf pd_1 rfl) (fun _ q => nomatch q) rfl (by decide) (Nat.le_of_ble_eq_true rfl) rfl rfl (by decide) (by decide) d13_36 rfl ?_
    rintro _ h1 G - ⟨ba, kb, rfl, gb, K1, V1⟩
    refine nx_ (v := none) ?_
    show Go _ _ _ _ _ _ _ _ _ _ _ _ _ _ 39 #[.val (.ref x), .val (.ref ca), .val (.int 0), .val (.int (Int32.ofNat cs.length)), .val (.null), .unset] [.ref ba]
    refine go_astore (L' := #[.val (.ref x), .val (.ref ca), .val (.int 0), .val (.int (Int32.ofNat cs.length)), .val (.null), .val (.ref ba)]) (q := 41) d13_39 rfl rfl rfl ?_
    refine go_aloadN (v := .ref x) (q := 42) d13_41 rfl rfl rfl ?_
    refine go_aload (v := .ref ba) (q := 44) d13_42 rfl rfl rfl ?_
    refine go_iloadN (v := (Int32.ofNat cs.length)) (q := 45) d13_44 rfl rfl ?_
    refine go_static (c' := 1) (s' := 16) (q := 48) (S := [.ref x]) (argsL := [.ref ba, .int (Int32.ofNat cs.length)]) H (w_86 H) (w_87 H) (w_81 H) (w_88 H) (by decide) (rm_codL H V1) rfl rfl (lenOf pd_2 rfl) (fun _ q => nomatch q) rfl (by decide) (Nat.le_of_ble_eq_true rfl) rfl rfl (by decide) (by decide) d13_45 rfl ?_
    rintro _ _ G - ⟨rfl, rfl⟩
    refine nx_ (v := none) ?_
    show Go _ _ _ _ _ _ _ _ _ _ _ _ _ _ 48 #[.val (.ref x), .val (.ref ca), .val (.int 0), .val (.int (Int32.ofNat cs.length)), .val (.null), .val (.ref ba)] [.int 0, .ref x]
    refine go_putfield (q := 51) (w_26 H) Via.refl (C.keep K1 nin0) (E.keep K1) (Or.inr ⟨(w_27 H), rfl, rfl⟩) (w_12 H) (ty := .byte) (by decide) rfl rfl (by simp) d13_48 rfl ?_
    intro h2 W2
    have nxb : ba ≠ x := E.keep K1 |>.neArv V1 wiS |>.symm
    refine go_aloadN (v := .ref x) (q := 52) d13_51 rfl rfl rfl ?_
    refine go_aload (v := .ref ba) (q := 54) d13_52 rfl rfl rfl ?_
    refine go_putfield (q := 57) (w_24 H) Via.refl ((Vv.keep K1 nin0).other W2 (Or.inr sne)) ((E.keep K1).wr W2) (Or.inr ⟨(w_25 H), rfl, rfl⟩) (w_12 H) (ty := (.array .byte)) (by decide) rfl rfl (by simp) d13_54 rfl ?_
    intro h3 W3
    have Kp : Keep h h3 [x] := ((kless K1 (by simp)).wr W2 (Or.inl (by simp))).wr W3 (Or.inl (by simp))
    exact go_return H (G := []) rfl d13_57 (by decide) (by decide) (fun _ q => nomatch q) ⟨rfl, Kp, ((E.keep K1).wr W2).wr W3, (((C.keep K1 nin0).same W2).other W3 (Or.inr sne.symm)), hx, hl, ba, kb, fun q => absurd (hMine ba (by simp [q])).2 (Nat.not_lt.mpr gb), (((Vv.keep K1 nin0).other W2 (Or.inr sne)).same W3), ((V1.other W2 nxb).other W3 nxb)⟩
set_option maxRecDepth 65536 in
set_option maxHeartbeats 4000000 in
theorem rm_new1 {l : Launch} {Z : State} {a0 : Array Value} (H : Wd Z a0) {h : Heap} {F : List Addr} {x ca : Addr} {kc : ClassId} {cs : List Int32} (E : Exa Z h x ST) (C : Fld Z h x ST "coder" "B" (.int 0)) (Vv : Fld Z h x ST "value" "[B" .null) (A : Arv Z h ca kc .char (Int32.ofNat cs.length) (ints cs) (.int 0)) (hl : Lat cs) (hn : cs.length ≤ 16) (hx : x ∉ F) : Met l Z (⟨"java/lang/String", "<init>", "([C)V"⟩ : MethodName) jdk_42_method_3_code 2 none ({ frames := 3, cells := 4, slots := 16, locals := 52 } : Room) h (x :: F) #[.ref x, .ref ca] (fun v h' G => v = none ∧ Keep h h' [x] ∧ Str Z h' F x cs) := by
  refine Met.mk (L := #[.val (.ref x), .val (.ref ca)]) (by decide +kernel) (fun m => by first | (simp [entryFrame, mkF, argsToLocals, Value.category]; done) | rfl) (fun K => ?_)
  show Go _ _ K "java/lang/String" "<init>" _ _ _ _ _ _ _ _ _ 0 _ _
  refine go_aloadN (v := .ref x) (q := 1) d12_0 rfl rfl rfl ?_
  refine go_aloadN (v := .ref ca) (q := 2) d12_1 rfl rfl rfl ?_
  refine go_iconst (x := (0 : Int32)) (q := 3) d12_2 rfl rfl ?_
  refine go_aloadN (v := .ref ca) (q := 4) d12_3 rfl rfl rfl ?_
  refine go_arraylength (z := (Int32.ofNat cs.length)) (q := 5) A d12_4 rfl ?_
  refine go_null (q := 6) d12_5 rfl ?_
  refine go_special (c' := 4) (s' := 16) (q := 9) (S := []) (argsL := [.ref ca, .int (0 : Int32), .int (Int32.ofNat cs.length), .null]) H rfl (w_76 H) (w_77 H) (w_4 H) (w_78 H) (by decide) (rm_new4 H E C Vv A hl hn hx) rfl rfl (lenOf pd_3 rfl) (fun _ q => q) rfl (by decide) (Nat.le_of_ble_eq_true rfl) rfl rfl (by decide) (by decide) d12_6 rfl ?_
  rintro _ h1 G - ⟨rfl, K1, S1⟩
  refine nx_ (v := none) ?_
  show Go _ _ _ _ _ _ _ _ _ _ _ _ _ _ 9 #[.val (.ref x), .val (.ref ca)] []
  exact go_return H (G := []) rfl d12_9 (by decide) (by decide) (fun _ q => nomatch q) ⟨rfl, K1, S1⟩
set_option maxRecDepth 65536 in
set_option maxHeartbeats 4000000 in
theorem rm_canE {l : Launch} {Z : State} {a0 : Array Value} (H : Wd Z a0) {h : Heap} {c : Int32} (hc : ¬ 255 < c) : Met l Z (⟨"java/lang/StringLatin1", "canEncode", "(C)Z"⟩ : MethodName) jdk_43_method_3_code 1 (some .boolean) ({ frames := 0, cells := 0, slots := 0, locals := 0 } : Room) h [] #[.int c] (fun v h' G => v = some (.int 1) ∧ h = h') := by
  refine Met.mk (L := #[.val (.int c)]) (by decide +kernel) (fun m => by first | (simp [entryFrame, mkF, argsToLocals, Value.category]; done) | rfl) (fun K => ?_)
  show Go _ _ K "java/lang/StringLatin1" "canEncode" _ _ _ _ _ _ _ _ _ 0 _ _
  refine go_iloadN (v := c) (q := 1) d1_0 rfl rfl ?_
  refine go_sipush (x := (255 : Int32)) (q := 4) d1_1 rfl rfl ?_
  refine go_icN (q := 7) d1_4 (show ¬ (255 : Int32) < c from hc) rfl ?_
  refine go_iconst (x := (1 : Int32)) (q := 8) d1_7 rfl rfl ?_
  refine go_goto (q := 12) d1_8 (by decide) (by decide) ?_
  exact go_ireturn H (G := []) (t := .boolean) rfl (by decide) rfl d1_12 (by decide) (by decide) (fun _ q => nomatch q) ⟨rfl, rfl⟩
set_option maxRecDepth 65536 in
set_option maxHeartbeats 4000000 in
theorem rm_toB {l : Launch} {Z : State} {a0 : Array Value} (H : Wd Z a0) {h : Heap} {c : Int32}  : Met l Z (⟨"java/lang/StringLatin1", "toBytes", "(C)[B"⟩ : MethodName) jdk_43_method_46_code 1 (some (.array .byte)) ({ frames := 0, cells := 1, slots := 1, locals := 0 } : Room) h [] #[.int c] (fun v h' G => ∃ ba kb, v = some (.ref ba) ∧ h.size ≤ ba ∧ Keep h h' [] ∧ Arv Z h' ba kb .byte (Int32.ofNat [c].length) (bts [c]) (.int 0)) := by
  refine Met.mk (L := #[.val (.int c)]) (by decide +kernel) (fun m => by first | (simp [entryFrame, mkF, argsToLocals, Value.category]; done) | rfl) (fun K => ?_)
  show Go _ _ K "java/lang/StringLatin1" "toBytes" _ _ _ _ _ _ _ _ _ 0 _ _
  have Ka : Keep h h [] := Keep.refl _ _
  refine go_iconst (x := (1 : Int32)) (q := 1) d2_0 rfl rfl ?_
  refine go_newarray (ty := .byte) (dv := .int 0) (n := 1) (cap := 1) (ad := "[B") (c' := 1) (s' := 1) (q := 3) rfl rfl (by decide) (w_16 H) d2_1 (by decide) (by decide) (by decide) rfl rfl rfl rfl (by decide) (by decide) ?_
  intro h1 ba kb g1 E1 V1 X1
  have f_Ka_ba : h.size ≤ ba := by rw [g1]; exact Ka.1
  have Ka : Keep h h1 [] := Ka.ext E1
  have V1 : Arv Z h1 ba kb .byte 1 [.int 0] (.int 0) := V1
  refine go_dup (q := 4) d2_3 rfl rfl ?_
  refine go_iconst (x := (0 : Int32)) (q := 5) d2_4 rfl rfl ?_
  refine go_iloadN (v := c) (q := 6) d2_5 rfl rfl ?_
  refine go_i2b (r := c.toInt8.toInt32) (q := 7) d2_6 rfl rfl ?_
  refine go_bastore (i := 0) (y := c.toInt8.toInt32) (q := 8) V1 (by decide) rfl (Nat.le_of_ble_eq_true rfl) (by simp) (show (c.toInt8.toInt32).toInt8.toInt32 = c.toInt8.toInt32 by simp) d2_7 rfl ?_
  intro h2 K2 z2 V2
  have Ka : Keep h h2 [] := kfresh Ka K2 f_Ka_ba
  exact go_areturn H (G := []) (t := (.array .byte)) rfl rfl rfl d2_8 (by decide) (by decide) (fun _ q => nomatch q) ⟨ba, kb, rfl, f_Ka_ba, Ka, V2⟩
set_option maxRecDepth 65536 in
set_option maxHeartbeats 4000000 in
theorem rm_initBB {l : Launch} {Z : State} {a0 : Array Value} (H : Wd Z a0) {h : Heap} {F : List Addr} {x ba : Addr} {kb : ClassId} {cs : List Int32} (E : Exa Z h x ST) (C : Fld Z h x ST "coder" "B" (.int 0)) (Vv : Fld Z h x ST "value" "[B" .null) (A : Arv Z h ba kb .byte (Int32.ofNat cs.length) (bts cs) (.int 0)) (hl : Lat cs) (hx : x ∉ F) (hb : ba ∉ F) : Met l Z (⟨"java/lang/String", "<init>", "([BB)V"⟩ : MethodName) jdk_42_method_151_code 3 none ({ frames := 1, cells := 0, slots := 0, locals := 12 } : Room) h (x :: F) #[.ref x, .ref ba, .int 0] (fun v h' G => v = none ∧ Keep h h' [x] ∧ Str Z h' F x cs) := by
  refine Met.mk (L := #[.val (.ref x), .val (.ref ba), .val (.int 0)]) (by decide +kernel) (fun m => by first | (simp [entryFrame, mkF, argsToLocals, Value.category]; done) | rfl) (fun K => ?_)
  show Go _ _ K "java/lang/String" "<init>" _ _ _ _ _ _ _ _ _ 0 _ _
  have sne : RoadKit.slotOf Z ST "value" "[B" ≠ RoadKit.slotOf Z ST "coder" "B" := slot_ne (C := ST) (Or.inr (w_25 H)) (Or.inr (w_27 H)) (by decide) (t := .array .byte) (t' := .byte) (by decide) (by decide)
  have nxb : ba ≠ x := (E.neArv A (w_12 H)).symm
  refine go_aloadN (v := .ref x) (q := 1) d3_0 rfl rfl rfl ?_
  refine go_initO (q := 4) (w_21 H) (w_22 H) (w_23 H) rfl d3_1 rfl (by decide) (Nat.le_of_ble_eq_true rfl) ?_
  refine go_aloadN (v := .ref x) (q := 5) d3_4 rfl rfl rfl ?_
  refine go_aloadN (v := .ref ba) (q := 6) d3_5 rfl rfl rfl ?_
  refine go_putfield (q := 9) (w_24 H) Via.refl Vv E (Or.inr ⟨(w_25 H), rfl, rfl⟩) (w_12 H) (ty := (.array .byte)) (by decide) rfl rfl (by simp) d3_6 rfl ?_
  intro h1 W1
  refine go_aloadN (v := .ref x) (q := 10) d3_9 rfl rfl rfl ?_
  refine go_iloadN (v := 0) (q := 11) d3_10 rfl rfl ?_
  refine go_putfield (q := 14) (w_26 H) Via.refl (C.other W1 (Or.inr sne.symm)) (E.wr W1) (Or.inr ⟨(w_27 H), rfl, rfl⟩) (w_12 H) (ty := .byte) (by decide) rfl rfl (by simp) d3_11 rfl ?_
  intro h2 W2
  exact go_return H (G := []) rfl d3_14 (by decide) (by decide) (fun _ q => nomatch q) ⟨rfl, (Keep.of_wr W1).wr W2 (Or.inl (by simp)), (E.wr W1).wr W2, (C.other W1 (Or.inr sne.symm)).same W2, hx, hl, ba, kb, hb, (Vv.same W1).other W2 (Or.inr sne), (A.other W1 nxb).other W2 nxb⟩
set_option maxRecDepth 65536 in
set_option maxHeartbeats 4000000 in
theorem rm_vofC {l : Launch} {Z : State} {a0 : Array Value} (H : Wd Z a0) {h : Heap} {F : List Addr} {c : Int32} (hc : ¬ c < 0 ∧ ¬ 255 < c) (hFl : ∀ x ∈ F, x < h.size) : Met l Z (⟨"java/lang/String", "valueOf", "(C)Ljava/lang/String;"⟩ : MethodName) jdk_42_method_139_code 1 (some (.object "java/lang/String")) ({ frames := 2, cells := 2, slots := 5, locals := 27 } : Room) h F #[.int c] (fun v h' G => ∃ a, v = some (.ref a) ∧ Keep h h' [] ∧ Str Z h' F a [c]) := by
  refine Met.mk (L := #[.val (.int c)]) (by decide +kernel) (fun m => by first | (simp [entryFrame, mkF, argsToLocals, Value.category]; done) | rfl) (fun K => ?_)
  show Go _ _ K "java/lang/String" "valueOf" _ _ _ _ _ _ _ _ _ 0 _ _
  have Ka : Keep h h [] := Keep.refl _ _
  obtain ⟨cz, Sz, nz⟩ := H.2.2.2.1
  refine go_getstatic (v := .int cz) (q := 3) (w_6 H) Via.refl Sz d0_0 rfl ?_
  refine go_ifN (q := 6) d0_3 nz rfl ?_
  refine go_iloadN (v := c) (q := 7) d0_6 rfl rfl ?_
  refine go_static (c' := 0) (s' := 0) (q := 10) (S := []) (argsL := [.int c]) H (w_7 H) (w_8 H) (w_9 H) (w_10 H) (by decide) (rm_canE H hc.2) rfl rfl (lenOf pd_4 rfl) (fun _ q => nomatch q) rfl (by decide) (Nat.le_of_ble_eq_true rfl) rfl rfl (by decide) (by decide) d0_7 rfl ?_
  rintro _ _ G - ⟨rfl, rfl⟩
  refine nx_ (v := none) ?_
  show Go _ _ _ _ _ _ _ _ _ _ _ _ _ _ 10 #[.val (.int c)] [.int 1]
  refine go_ifN (q := 13) d0_10 (by decide) rfl ?_
  refine go_new (c' := 1) (s' := 4) (q := 16) (w_11 H) (w_12 H) (w_4 H) d0_13 rfl rfl rfl (by decide) (by decide) ?_
  intro h1 x g1 E1 A1 D1
  have f_Ka_x : h.size ≤ x := by rw [g1]; exact Ka.1
  have Ka : Keep h h1 [] := Ka.ext E1
  have C1 : Fld Z h1 x ST "coder" "B" (.int 0) := D1 (Or.inr (w_27 H)) (ty := .byte) (by decide)
  have V1 : Fld Z h1 x ST "value" "[B" .null := D1 (Or.inr (w_25 H)) (ty := .array .byte) (by decide)
  refine go_dup (q := 17) d0_16 rfl rfl ?_
  refine go_iloadN (v := c) (q := 18) d0_17 rfl rfl ?_
  refine go_static (c' := 2) (s' := 5) (q := 21) (S := [.ref x, .ref x]) (argsL := [.int c]) H (w_13 H) (w_14 H) (w_9 H) (w_15 H) (by decide) (rm_toB H) rfl rfl (lenOf pd_5 rfl) (fun _ q => nomatch q) rfl (by decide) (Nat.le_of_ble_eq_true rfl) rfl rfl (by decide) (by decide) d0_18 rfl ?_
  rintro _ h2 G - ⟨ba, kb, rfl, gb, K2, B2⟩
  refine nx_ (v := none) ?_
  have Ka : Keep h h2 [] := Ka.trans K2 (fun _ q => nomatch q)
  show Go _ _ _ _ _ _ _ _ _ _ _ _ _ _ 21 #[.val (.int c)] [.ref ba, .ref x, .ref x]
  have nF : x ∉ F := fun q => absurd (hFl x q) (Nat.not_lt.mpr f_Ka_x)
  have nb : ba ∉ F := fun q => absurd (hFl ba q) (Nat.not_lt.mpr (Nat.le_trans E1.1 gb))
  refine go_iconst (x := (0 : Int32)) (q := 22) d0_21 rfl rfl ?_
  refine go_special (c' := 2) (s' := 5) (q := 25) (S := [.ref x]) (argsL := [.ref ba, .int (0 : Int32)]) H rfl (w_17 H) (w_18 H) (w_4 H) (w_20 H) (by decide) (rm_initBB H (cs := [c]) (A1.keep K2) (C1.keep K2 nin0) (V1.keep K2 nin0) B2 ⟨Nat.le_of_ble_eq_true rfl, by intro d hd; simp only [List.mem_cons, List.not_mem_nil, or_false] at hd; subst hd; exact hc⟩ nF nb) rfl rfl (lenOf pd_6 rfl) (by intro z hz; simp only [List.mem_cons, List.not_mem_nil, or_false] at hz ⊢; first | exact hz | (rcases hz with hz | hz <;> simp [hz])) rfl (by decide) (Nat.le_of_ble_eq_true rfl) rfl rfl (by decide) (by decide) d0_22 rfl ?_
  rintro _ h3 G - ⟨rfl, K3, S⟩
  refine nx_ (v := none) ?_
  have Ka : Keep h h3 [] := kfresh Ka K3 f_Ka_x
  show Go _ _ _ _ _ _ _ _ _ _ _ _ _ _ 25 #[.val (.int c)] [.ref x]
  exact go_areturn H (G := []) (t := (.object "java/lang/String")) rfl rfl rfl d0_25 (by decide) (by decide) (fun _ q => nomatch q) ⟨x, rfl, Ka, S⟩
set_option maxRecDepth 65536 in
set_option maxHeartbeats 4000000 in
theorem rm_rnn {l : Launch} {Z : State} {a0 : Array Value} (H : Wd Z a0) {h : Heap} {a m : Addr}  : Met l Z (⟨"java/util/Objects", "requireNonNull", "(Ljava/lang/Object;Ljava/lang/String;)Ljava/lang/Object;"⟩ : MethodName) jdk_31_method_11_code 2 (some (.object "java/lang/Object")) ({ frames := 0, cells := 0, slots := 0, locals := 0 } : Room) h [] #[.ref a, .ref m] (fun v h' G => v = some (.ref a) ∧ h = h') := by
  refine Met.mk (L := #[.val (.ref a), .val (.ref m)]) (by decide +kernel) (fun m => by first | (simp [entryFrame, mkF, argsToLocals, Value.category]; done) | rfl) (fun K => ?_)
  show Go _ _ K "java/util/Objects" "requireNonNull" _ _ _ _ _ _ _ _ _ 0 _ _
  refine go_aloadN (v := .ref a) (q := 1) d10_0 rfl rfl rfl ?_
  refine go_nnY (q := 13) d10_1 (by decide) (by decide) ?_
  refine go_aloadN (v := .ref a) (q := 14) d10_13 rfl rfl rfl ?_
  exact go_areturn H (G := []) (t := (.object "java/lang/Object")) rfl rfl rfl d10_14 (by decide) (by decide) (fun _ q => nomatch q) ⟨rfl, rfl⟩
set_option maxRecDepth 65536 in
set_option maxHeartbeats 4000000 in
theorem rm_rec {l : Launch} {Z : State} {a0 : Array Value} (H : Wd Z a0) {h : Heap} {x : Addr}  : Met l Z (⟨"java/lang/Record", "<init>", "()V"⟩ : MethodName) jdk_30_method_1_code 1 none ({ frames := 1, cells := 0, slots := 0, locals := 12 } : Room) h [] #[.ref x] (fun v h' G => v = none ∧ h = h') := by
  refine Met.mk (L := #[.val (.ref x)]) (by decide +kernel) (fun m => by first | (simp [entryFrame, mkF, argsToLocals, Value.category]; done) | rfl) (fun K => ?_)
  show Go _ _ K "java/lang/Record" "<init>" _ _ _ _ _ _ _ _ _ 0 _ _
  refine go_aloadN (v := .ref x) (q := 1) d6_0 rfl rfl rfl ?_
  refine go_initO (q := 4) (w_39 H) (w_22 H) (w_23 H) rfl d6_1 rfl (by decide) (Nat.le_of_ble_eq_true rfl) ?_
  exact go_return H (G := []) rfl d6_4 (by decide) (by decide) (fun _ q => nomatch q) ⟨rfl, rfl⟩
set_option maxRecDepth 65536 in
set_option maxHeartbeats 4000000 in
theorem rm_sr {l : Launch} {Z : State} {a0 : Array Value} (H : Wd Z a0) {h : Heap} {x : Addr} {e : Value} {bz : Int32} (E : Exa Z h x SR) (Fe : Fld Z h x SR "error" "Ljava/lang/String;" .null) (Fb : Fld Z h x SR "brokerUnreachable" "Z" (.int 0)) (he : e.isRef = true) (hbz : bz = 0 ∨ bz = 1) : Met l Z (⟨"com/example/muster/muster/SendResult", "<init>", "(Ljava/lang/String;Z)V"⟩ : MethodName) prog_26_method_1_code 3 none ({ frames := 2, cells := 0, slots := 0, locals := 24 } : Room) h [x] #[.ref x, e, .int bz] (fun v h' G => v = none ∧ Keep h h' [x] ∧ Exa Z h' x SR ∧ Fld Z h' x SR "error" "Ljava/lang/String;" e ∧ Fld Z h' x SR "brokerUnreachable" "Z" (.int bz)) := by
  refine Met.mk (L := #[.val (.ref x), .val (e), .val (.int bz)]) (plainFor_of_name (by first | (simp [plainName, overriddenIn]; done) | decide +kernel)) (fun m => by rcases ref_cases he with rfl | ⟨_, rfl⟩ <;> first | (simp [entryFrame, mkF, argsToLocals, Value.category]; done) | rfl) (fun K => ?_)
  show Go _ _ K "com/example/muster/muster/SendResult" "<init>" _ _ _ _ _ _ _ _ _ 0 _ _
  have sne : RoadKit.slotOf Z SR "error" "Ljava/lang/String;" ≠ RoadKit.slotOf Z SR "brokerUnreachable" "Z" := slot_ne (C := SR) (Or.inr (w_41 H)) (Or.inr (w_43 H)) (by decide) (t := .object "java/lang/String") (t' := .boolean) (by decide) (by decide)
  refine go_aloadN (v := .ref x) (q := 1) d5_0 rfl rfl rfl ?_
  refine go_special (c' := 0) (s' := 0) (q := 4) (S := []) (argsL := []) H rfl (w_34 H) (w_35 H) (w_37 H) (w_38 H) (by decide) (rm_rec H) rfl rfl (lenOf pd_7 rfl) (fun _ q => nomatch q) rfl (by decide) (Nat.le_of_ble_eq_true rfl) rfl rfl (by decide) (by decide) d5_1 rfl ?_
  rintro _ _ G - ⟨rfl, rfl⟩
  refine nx_ (v := none) ?_
  show Go _ _ _ _ _ _ _ _ _ _ _ _ _ _ 4 #[.val (.ref x), .val (e), .val (.int bz)] []
  refine go_aloadN (v := .ref x) (q := 5) d5_4 rfl rfl rfl ?_
  refine go_aloadN (v := e) (q := 6) d5_5 rfl he rfl ?_
  refine go_putfield (q := 9) (w_40 H) Via.refl Fe E (Or.inr ⟨(w_41 H), rfl, rfl⟩) (w_29 H) (ty := (.object "java/lang/String")) (by decide) (nref rfl he) (fref rfl he) (by simp) d5_6 rfl ?_
  intro h1 W1
  refine go_aloadN (v := .ref x) (q := 10) d5_9 rfl rfl rfl ?_
  refine go_iloadN (v := bz) (q := 11) d5_10 rfl rfl ?_
  refine go_putfield (q := 14) (w_42 H) Via.refl (Fb.other W1 (Or.inr sne.symm)) (E.wr W1) (Or.inr ⟨(w_43 H), rfl, rfl⟩) (w_29 H) (ty := .boolean) (by decide) (by rcases hbz with rfl | rfl <;> rfl) (by rcases hbz with rfl | rfl <;> rfl) (by simp) d5_11 rfl ?_
  intro h2 W2
  exact go_return H (G := []) rfl d5_14 (by decide) (by decide) (fun _ q => nomatch q) ⟨rfl, (Keep.of_wr W1).wr W2 (Or.inl (by simp)), (E.wr W1).wr W2, (Fe.same W1).other W2 (Or.inr sne), (Fb.other W1 (Or.inr sne.symm)).same W2⟩
set_option maxRecDepth 65536 in
set_option maxHeartbeats 4000000 in
theorem rm_fail {l : Launch} {Z : State} {a0 : Array Value} (H : Wd Z a0) {h : Heap} {F : List Addr} {a : Addr} {cs : List Int32} (S : Str Z h F a cs) : Met l Z (⟨"com/example/muster/muster/SendResult", "failed", "(Ljava/lang/String;)Lcom/example/muster/muster/SendResult;"⟩ : MethodName) prog_26_method_2_code 1 (some (.object "com/example/muster/muster/SendResult")) ({ frames := 3, cells := 3, slots := 26, locals := 39 } : Room) h [] #[.ref a] (fun v h' G => ∃ r, v = some (.ref r) ∧ Keep h h' [] ∧ Exa Z h' r SR ∧ Fld Z h' r SR "error" "Ljava/lang/String;" (.ref a) ∧ Fld Z h' r SR "brokerUnreachable" "Z" (.int 0)) := by
  refine Met.mk (L := #[.val (.ref a)]) (plainFor_of_name (by first | (simp [plainName, overriddenIn]; done) | decide +kernel)) (fun m => by first | (simp [entryFrame, mkF, argsToLocals, Value.category]; done) | rfl) (fun K => ?_)
  show Go _ _ K "com/example/muster/muster/SendResult" "failed" _ _ _ _ _ _ _ _ _ 0 _ _
  refine go_new (c' := 1) (s' := 2) (q := 3) (w_57 H) (w_29 H) (w_30 H) d9_0 rfl rfl rfl (by decide) (by decide) ?_
  intro h1 r g1 E1 A1 D1
  have Fe : Fld Z h1 r SR "error" "Ljava/lang/String;" .null := D1 (Or.inr (w_41 H)) (ty := .object "java/lang/String") (by decide)
  have Fb : Fld Z h1 r SR "brokerUnreachable" "Z" (.int 0) := D1 (Or.inr (w_43 H)) (ty := .boolean) (by decide)
  refine go_dup (q := 4) d9_3 rfl rfl ?_
  refine go_aloadN (v := .ref a) (q := 5) d9_4 rfl rfl rfl ?_
  refine go_lit (cs := [101, 114, 114, 111, 114]) (n := 20) (c' := 3) (s' := 26) (q := 7) H (w_58 H) (by decide) (by decide) (by decide) (by decide) (by decide) d9_5 (by decide) (by decide) rfl rfl rfl (by decide) (by decide) ?_
  intro h2 m2 E2 S2
  refine go_static (c' := 3) (s' := 26) (q := 10) (S := [.ref r, .ref r]) (argsL := [.ref a, .ref m2]) H (w_61 H) (w_62 H) (w_63 H) (w_64 H) (by decide) (rm_rnn H) rfl rfl (lenOf pd_8 rfl) (fun _ q => nomatch q) rfl (by decide) (Nat.le_of_ble_eq_true rfl) rfl rfl (by decide) (by decide) d9_7 rfl ?_
  rintro _ _ G - ⟨rfl, rfl⟩
  refine nx_ (v := none) ?_
  show Go _ _ _ _ _ _ _ _ _ _ _ _ _ _ 10 #[.val (.ref a)] [.ref a, .ref r, .ref r]
  refine go_checkcast (q := 13) (w_65 H) ((S.ext E1).ext E2).ins d9_10 rfl ?_
  refine go_iconst (x := (0 : Int32)) (q := 14) d9_13 rfl rfl ?_
  refine go_special (c' := 3) (s' := 26) (q := 17) (S := [.ref r]) (argsL := [.ref a, .int (0 : Int32)]) H rfl (w_66 H) (w_32 H) (w_30 H) (w_33 H) (by decide) (rm_sr H (A1.ext E2) (Fe.ext E2) (Fb.ext E2) rfl (by decide)) rfl rfl (lenOf pd_9 rfl) (fun _ q => q) rfl (by decide) (Nat.le_of_ble_eq_true rfl) rfl rfl (by decide) (by decide) d9_14 rfl ?_
  rintro _ h3 G - ⟨rfl, K3, A3, Fe3, Fb3⟩
  refine nx_ (v := none) ?_
  show Go _ _ _ _ _ _ _ _ _ _ _ _ _ _ 17 #[.val (.ref a)] [.ref r]
  have Kp : Keep h h3 [] := (((Keep.refl h []).ext E1).ext E2).trans K3 (fun x q => by cases List.mem_singleton.mp q; exact Or.inr (by rw [g1]; exact Nat.le_refl _))
  exact go_areturn H (G := []) (t := (.object "com/example/muster/muster/SendResult")) rfl rfl rfl d9_17 (by decide) (by decide) (fun _ q => nomatch q) ⟨r, rfl, Kp, A3, Fe3, Fb3⟩
set_option maxRecDepth 65536 in
set_option maxHeartbeats 4000000 in
theorem rm_unre {l : Launch} {Z : State} {a0 : Array Value} (H : Wd Z a0) {h : Heap} {F : List Addr} {a : Addr} {cs : List Int32} (S : Str Z h F a cs) : Met l Z (⟨"com/example/muster/muster/SendResult", "unreachable", "(Ljava/lang/String;)Lcom/example/muster/muster/SendResult;"⟩ : MethodName) prog_26_method_3_code 1 (some (.object "com/example/muster/muster/SendResult")) ({ frames := 3, cells := 3, slots := 26, locals := 39 } : Room) h [] #[.ref a] (fun v h' G => ∃ r, v = some (.ref r) ∧ Keep h h' [] ∧ Exa Z h' r SR ∧ Fld Z h' r SR "error" "Ljava/lang/String;" (.ref a) ∧ Fld Z h' r SR "brokerUnreachable" "Z" (.int 1)) := by
  refine Met.mk (L := #[.val (.ref a)]) (plainFor_of_name (by first | (simp [plainName, overriddenIn]; done) | decide +kernel)) (fun m => by first | (simp [entryFrame, mkF, argsToLocals, Value.category]; done) | rfl) (fun K => ?_)
  show Go _ _ K "com/example/muster/muster/SendResult" "unreachable" _ _ _ _ _ _ _ _ _ 0 _ _
  refine go_new (c' := 1) (s' := 2) (q := 3) (w_57 H) (w_29 H) (w_30 H) d11_0 rfl rfl rfl (by decide) (by decide) ?_
  intro h1 r g1 E1 A1 D1
  have Fe : Fld Z h1 r SR "error" "Ljava/lang/String;" .null := D1 (Or.inr (w_41 H)) (ty := .object "java/lang/String") (by decide)
  have Fb : Fld Z h1 r SR "brokerUnreachable" "Z" (.int 0) := D1 (Or.inr (w_43 H)) (ty := .boolean) (by decide)
  refine go_dup (q := 4) d11_3 rfl rfl ?_
  refine go_aloadN (v := .ref a) (q := 5) d11_4 rfl rfl rfl ?_
  refine go_lit (cs := [101, 114, 114, 111, 114]) (n := 20) (c' := 3) (s' := 26) (q := 7) H (w_58 H) (by decide) (by decide) (by decide) (by decide) (by decide) d11_5 (by decide) (by decide) rfl rfl rfl (by decide) (by decide) ?_
  intro h2 m2 E2 S2
  refine go_static (c' := 3) (s' := 26) (q := 10) (S := [.ref r, .ref r]) (argsL := [.ref a, .ref m2]) H (w_61 H) (w_62 H) (w_63 H) (w_64 H) (by decide) (rm_rnn H) rfl rfl (lenOf pd_8 rfl) (fun _ q => nomatch q) rfl (by decide) (Nat.le_of_ble_eq_true rfl) rfl rfl (by decide) (by decide) d11_7 rfl ?_
  rintro _ _ G - ⟨rfl, rfl⟩
  refine nx_ (v := none) ?_
  show Go _ _ _ _ _ _ _ _ _ _ _ _ _ _ 10 #[.val (.ref a)] [.ref a, .ref r, .ref r]
  refine go_checkcast (q := 13) (w_65 H) ((S.ext E1).ext E2).ins d11_10 rfl ?_
  refine go_iconst (x := (1 : Int32)) (q := 14) d11_13 rfl rfl ?_
  refine go_special (c' := 3) (s' := 26) (q := 17) (S := [.ref r]) (argsL := [.ref a, .int (1 : Int32)]) H rfl (w_66 H) (w_32 H) (w_30 H) (w_33 H) (by decide) (rm_sr H (A1.ext E2) (Fe.ext E2) (Fb.ext E2) rfl (by decide)) rfl rfl (lenOf pd_9 rfl) (fun _ q => q) rfl (by decide) (Nat.le_of_ble_eq_true rfl) rfl rfl (by decide) (by decide) d11_14 rfl ?_
  rintro _ h3 G - ⟨rfl, K3, A3, Fe3, Fb3⟩
  refine nx_ (v := none) ?_
  show Go _ _ _ _ _ _ _ _ _ _ _ _ _ _ 17 #[.val (.ref a)] [.ref r]
  have Kp : Keep h h3 [] := (((Keep.refl h []).ext E1).ext E2).trans K3 (fun x q => by cases List.mem_singleton.mp q; exact Or.inr (by rw [g1]; exact Nat.le_refl _))
  exact go_areturn H (G := []) (t := (.object "com/example/muster/muster/SendResult")) rfl rfl rfl d11_17 (by decide) (by decide) (fun _ q => nomatch q) ⟨r, rfl, Kp, A3, Fe3, Fb3⟩
set_option maxRecDepth 65536 in
set_option maxHeartbeats 4000000 in
theorem rm_err {l : Launch} {Z : State} {a0 : Array Value} (H : Wd Z a0) {h : Heap} {x : Addr} {v : Value} (Fv : Fld Z h x "com/example/muster/muster/SendResult" "error" "Ljava/lang/String;" v) (hv : v.isRef = true) : Met l Z (⟨"com/example/muster/muster/SendResult", "error", "()Ljava/lang/String;"⟩ : MethodName) prog_26_method_8_code 1 (some (.object "java/lang/String")) ({ frames := 0, cells := 0, slots := 0, locals := 0 } : Room) h [] #[.ref x] (fun u h' G => u = some v ∧ h = h') := by
  refine Met.mk (L := #[.val (.ref x)]) (plainFor_of_name (by first | (simp [plainName, overriddenIn]; done) | decide +kernel)) (fun m => by first | (simp [entryFrame, mkF, argsToLocals, Value.category]; done) | rfl) (fun K => ?_)
  show Go _ _ K "com/example/muster/muster/SendResult" "error" _ _ _ _ _ _ _ _ _ 0 _ _
  refine go_aloadN (v := .ref x) (q := 1) d8_0 rfl rfl rfl ?_
  refine go_getfield (v := v) (q := 4) (w_40 H) Via.refl Fv d8_1 rfl ?_
  exact go_areturn H (G := []) (t := (.object "java/lang/String")) rfl rfl hv d8_4 (by decide) (by decide) (fun _ q => nomatch q) ⟨rfl, rfl⟩
set_option maxRecDepth 65536 in
set_option maxHeartbeats 4000000 in
theorem rm_delN {l : Launch} {Z : State} {a0 : Array Value} (H : Wd Z a0) {h : Heap} {x a : Addr} (Fe : Fld Z h x SR "error" "Ljava/lang/String;" (.ref a)) : Met l Z (⟨"com/example/muster/muster/SendResult", "delivered", "()Z"⟩ : MethodName) prog_26_method_4_code 1 (some .boolean) ({ frames := 0, cells := 0, slots := 0, locals := 0 } : Room) h [] #[.ref x] (fun v h' G => v = some (.int 0) ∧ h = h') := by
  refine Met.mk (L := #[.val (.ref x)]) (plainFor_of_name (by first | (simp [plainName, overriddenIn]; done) | decide +kernel)) (fun m => by first | (simp [entryFrame, mkF, argsToLocals, Value.category]; done) | rfl) (fun K => ?_)
  show Go _ _ K "com/example/muster/muster/SendResult" "delivered" _ _ _ _ _ _ _ _ _ 0 _ _
  refine go_aloadN (v := .ref x) (q := 1) d7_0 rfl rfl rfl ?_
  refine go_getfield (v := .ref a) (q := 4) (w_40 H) Via.refl Fe d7_1 rfl ?_
  refine go_nnY (q := 11) d7_4 (by decide) (by decide) ?_
  refine go_iconst (x := (0 : Int32)) (q := 12) d7_11 rfl rfl ?_
  exact go_ireturn H (G := []) (t := .boolean) rfl (by decide) rfl d7_12 (by decide) (by decide) (fun _ q => nomatch q) ⟨rfl, rfl⟩
set_option maxRecDepth 65536 in
set_option maxHeartbeats 4000000 in
theorem rm_delY {l : Launch} {Z : State} {a0 : Array Value} (H : Wd Z a0) {h : Heap} {x : Addr} (Fe : Fld Z h x SR "error" "Ljava/lang/String;" .null) : Met l Z (⟨"com/example/muster/muster/SendResult", "delivered", "()Z"⟩ : MethodName) prog_26_method_4_code 1 (some .boolean) ({ frames := 0, cells := 0, slots := 0, locals := 0 } : Room) h [] #[.ref x] (fun v h' G => v = some (.int 1) ∧ h = h') := by
  refine Met.mk (L := #[.val (.ref x)]) (plainFor_of_name (by first | (simp [plainName, overriddenIn]; done) | decide +kernel)) (fun m => by first | (simp [entryFrame, mkF, argsToLocals, Value.category]; done) | rfl) (fun K => ?_)
  show Go _ _ K "com/example/muster/muster/SendResult" "delivered" _ _ _ _ _ _ _ _ _ 0 _ _
  refine go_aloadN (v := .ref x) (q := 1) d7_0 rfl rfl rfl ?_
  refine go_getfield (v := .null) (q := 4) (w_40 H) Via.refl Fe d7_1 rfl ?_
  refine go_nnN (q := 7) d7_4 rfl ?_
  refine go_iconst (x := (1 : Int32)) (q := 8) d7_7 rfl rfl ?_
  refine go_goto (q := 12) d7_8 (by decide) (by decide) ?_
  exact go_ireturn H (G := []) (t := .boolean) rfl (by decide) rfl d7_12 (by decide) (by decide) (fun _ q => nomatch q) ⟨rfl, rfl⟩
abbrev GL (l : Launch) (Z : State) (K : Cx) (h : Heap) (F : List Addr) (c s pc : Nat) (L : Array Slot) (S : List Value) : Prop := Go l Z K "com/example/muster/muster/SendResultDeliveredPinLaw" "law" code 13 ret ({ frames := 7, cells := 32, slots := 2176, locals := 176 } : Room) (fun v h' G => v = some (.int 1)) h F c s pc L S
set_option maxRecDepth 65536 in
set_option maxHeartbeats 8000000 in
theorem j184 {l : Launch} {Z : State} {a0 : Array Value} (H : Wd Z a0) {K : Cx} {h : Heap} {dl t : Addr} {cs : List Int32} {i0 i1 i2 i3 : Int32} {s4 s5 s6 s7 s8 s10 s11 s12 : Slot} (Sd : Sta Z Z.heap SR "DELIVERED" "Lcom/example/muster/muster/SendResult;" (.ref dl)) (Ed : Exa Z Z.heap dl SR) (Fd : Fld Z Z.heap dl SR "error" "Ljava/lang/String;" .null) (S : Str Z h [] t cs) : GL l Z K h [] 8 24 184 #[.val (.int i0), .val (.int i1), .val (.int i2), .val (.int i3), s4, s5, s6, s7, s8, .val (.ref t), s10, s11, s12] [] := by
  refine go_aload (v := .ref t) (q := 186) at_184 rfl rfl rfl ?_
  refine go_static (c' := 11) (s' := 50) (q := 189) (S := []) (argsL := [.ref t]) H (w_54 H) (w_55 H) (w_30 H) (w_56 H) (by decide) (rm_fail H S) rfl rfl (lenOf pd_10 rfl) (fun _ q => nomatch q) rfl (by decide) (Nat.le_of_ble_eq_true rfl) rfl rfl (by decide) (by decide) at_186 rfl ?_
  rintro _ h2 G - ⟨r2, rfl, K2, A2, Fe2, Fb2⟩
  refine nx_ (v := none) ?_
  show Go _ _ _ _ _ _ _ _ _ _ _ _ _ _ 189 #[.val (.int i0), .val (.int i1), .val (.int i2), .val (.int i3), s4, s5, s6, s7, s8, .val (.ref t), s10, s11, s12] [.ref r2]
  have S2 := S.keep0 K2
  refine go_virtual (c' := 11) (s' := 50) (q := 192) (S := []) (argsL := []) H (C := "com/example/muster/muster/SendResult") (w_44 H) (w_45 H) (nf_self (w_47 H)) (w_47 H) (w_46 H) (w_30 H) (w_48 H) (by decide) A2 (rm_delN H Fe2) rfl rfl (lenOf pd_11 rfl) (fun _ q => nomatch q) rfl (by decide) (Nat.le_of_ble_eq_true rfl) rfl rfl (by decide) (by decide) at_189 rfl ?_
  rintro _ _ G - ⟨rfl, rfl⟩
  refine nx_ (v := none) ?_
  show Go _ _ _ _ _ _ _ _ _ _ _ _ _ _ 192 #[.val (.int i0), .val (.int i1), .val (.int i2), .val (.int i3), s4, s5, s6, s7, s8, .val (.ref t), s10, s11, s12] [.int 0]
  refine go_ifY (q := 197) at_192 (by decide) (by decide) (by decide) ?_
  refine go_aload (v := .ref t) (q := 199) at_197 rfl rfl rfl ?_
  refine go_static (c' := 14) (s' := 76) (q := 202) (S := []) (argsL := [.ref t]) H (w_67 H) (w_68 H) (w_30 H) (w_69 H) (by decide) (rm_unre H S2) rfl rfl (lenOf pd_10 rfl) (fun _ q => nomatch q) rfl (by decide) (Nat.le_of_ble_eq_true rfl) rfl rfl (by decide) (by decide) at_199 rfl ?_
  rintro _ h3 G - ⟨r3, rfl, K3, A3, Fe3, Fb3⟩
  refine nx_ (v := none) ?_
  show Go _ _ _ _ _ _ _ _ _ _ _ _ _ _ 202 #[.val (.int i0), .val (.int i1), .val (.int i2), .val (.int i3), s4, s5, s6, s7, s8, .val (.ref t), s10, s11, s12] [.ref r3]
  refine go_virtual (c' := 14) (s' := 76) (q := 205) (S := []) (argsL := []) H (C := "com/example/muster/muster/SendResult") (w_44 H) (w_45 H) (nf_self (w_47 H)) (w_47 H) (w_46 H) (w_30 H) (w_48 H) (by decide) A3 (rm_delN H Fe3) rfl rfl (lenOf pd_11 rfl) (fun _ q => nomatch q) rfl (by decide) (Nat.le_of_ble_eq_true rfl) rfl rfl (by decide) (by decide) at_202 rfl ?_
  rintro _ _ G - ⟨rfl, rfl⟩
  refine nx_ (v := none) ?_
  show Go _ _ _ _ _ _ _ _ _ _ _ _ _ _ 205 #[.val (.int i0), .val (.int i1), .val (.int i2), .val (.int i3), s4, s5, s6, s7, s8, .val (.ref t), s10, s11, s12] [.int 0]
  refine go_ifY (q := 210) at_205 (by decide) (by decide) (by decide) ?_
  refine go_getstatic (v := .ref dl) (q := 213) (w_70 H) Via.refl Sd at_210 rfl ?_
  refine go_mine fun _ hO => ?_
  refine go_virtual (c' := 14) (s' := 76) (q := 216) (S := []) (argsL := []) H (C := "com/example/muster/muster/SendResult") (w_44 H) (w_45 H) (nf_self (w_47 H)) (w_47 H) (w_46 H) (w_30 H) (w_48 H) (by decide) (Ed.ext hO.2) (rm_delY H (Fd.ext hO.2)) rfl rfl (lenOf pd_11 rfl) (fun _ q => nomatch q) rfl (by decide) (Nat.le_of_ble_eq_true rfl) rfl rfl (by decide) (by decide) at_213 rfl ?_
  rintro _ _ G - ⟨rfl, rfl⟩
  refine nx_ (v := none) ?_
  show Go _ _ _ _ _ _ _ _ _ _ _ _ _ _ 216 #[.val (.int i0), .val (.int i1), .val (.int i2), .val (.int i3), s4, s5, s6, s7, s8, .val (.ref t), s10, s11, s12] [.int 1]
  refine go_ifY (q := 221) at_216 (by decide) (by decide) (by decide) ?_
  refine go_iconst (x := (1 : Int32)) (q := 222) at_221 rfl rfl ?_
  exact go_ireturn H (G := []) (t := .boolean) rfl (by decide) rfl at_222 (by decide) (by decide) (fun _ q => nomatch q) rfl
set_option maxRecDepth 65536 in
set_option maxHeartbeats 8000000 in
theorem j114_0 {l : Launch} {Z : State} {a0 : Array Value} (H : Wd Z a0) {K : Cx} {h : Heap} {dl t : Addr} {cs : List Int32} {bu : Int32} {i0 i1 i2 i3 : Int32} {s6 s7 s8 : Slot} (Sd : Sta Z Z.heap SR "DELIVERED" "Lcom/example/muster/muster/SendResult;" (.ref dl)) (Ed : Exa Z Z.heap dl SR) (Fd : Fld Z Z.heap dl SR "error" "Ljava/lang/String;" .null) (S : Str Z h [] t cs) (hb : bu = 0 ∨ bu = 1) : GL l Z K h [] 7 22 114 #[.val (.int i0), .val (.int i1), .val (.int i2), .val (.int i3), .val (.int bu), .val (.int (0 : Int32)), s6, s7, s8, .val (.ref t), .unset, .unset, .unset] [] := by
  refine go_iload (v := (0 : Int32)) (q := 116) at_114 rfl rfl ?_
  refine go_ifY (q := 124) at_116 (by decide) (by decide) (by decide) ?_
  refine go_null (q := 125) at_124 rfl ?_
  refine go_astore (L' := #[.val (.int i0), .val (.int i1), .val (.int i2), .val (.int i3), .val (.int bu), .val (.int (0 : Int32)), s6, s7, s8, .val (.ref t), .val (.null), .unset, .unset]) (q := 127) at_125 rfl rfl rfl ?_
  have Ka : Keep h h [] := Keep.refl _ _
  refine go_new (c' := 8) (s' := 24) (q := 130) (w_28 H) (w_29 H) (w_30 H) at_127 rfl rfl rfl (by decide) (by decide) ?_
  intro h1 r g1 E1 A1 D1
  have f_Ka_r : h.size ≤ r := by rw [g1]; exact Ka.1
  have Ka : Keep h h1 [] := Ka.ext E1
  have Fe : Fld Z h1 r SR "error" "Ljava/lang/String;" .null := D1 (Or.inr (w_41 H)) (ty := .object "java/lang/String") (by decide)
  have Fb : Fld Z h1 r SR "brokerUnreachable" "Z" (.int 0) := D1 (Or.inr (w_43 H)) (ty := .boolean) (by decide)
  refine go_dup (q := 131) at_130 rfl rfl ?_
  refine go_aload (v := .null) (q := 133) at_131 rfl rfl rfl ?_
  refine go_iload (v := bu) (q := 135) at_133 rfl rfl ?_
  refine go_special (c' := 8) (s' := 24) (q := 138) (S := [.ref r]) (argsL := [.null, .int bu]) H rfl (w_31 H) (w_32 H) (w_30 H) (w_33 H) (by decide) (rm_sr H A1 Fe Fb rfl hb) rfl rfl (lenOf pd_9 rfl) (by intro z hz; simp only [List.mem_cons, List.not_mem_nil, or_false] at hz ⊢; first | exact hz | (rcases hz with hz | hz <;> simp [hz])) rfl (by decide) (Nat.le_of_ble_eq_true rfl) rfl rfl (by decide) (by decide) at_135 rfl ?_
  rintro _ h2 G - ⟨rfl, K2, A2, Fe2, Fb2⟩
  refine nx_ (v := none) ?_
  have Ka : Keep h h2 [] := kfresh Ka K2 f_Ka_r
  show Go _ _ _ _ _ _ _ _ _ _ _ _ _ _ 138 #[.val (.int i0), .val (.int i1), .val (.int i2), .val (.int i3), .val (.int bu), .val (.int (0 : Int32)), s6, s7, s8, .val (.ref t), .val (.null), .unset, .unset] [.ref r]
  refine go_less (F' := []) (fun _ q => nomatch q) (Nat.le_refl _) (Nat.le_refl _) ?_
  refine go_astore (L' := #[.val (.int i0), .val (.int i1), .val (.int i2), .val (.int i3), .val (.int bu), .val (.int (0 : Int32)), s6, s7, s8, .val (.ref t), .val (.null), .val (.ref r), .unset]) (q := 140) at_138 rfl rfl rfl ?_
  refine go_aload (v := .ref r) (q := 142) at_140 rfl rfl rfl ?_
  refine go_virtual (c' := 8) (s' := 24) (q := 145) (S := []) (argsL := []) H (C := "com/example/muster/muster/SendResult") (w_44 H) (w_45 H) (nf_self (w_47 H)) (w_47 H) (w_46 H) (w_30 H) (w_48 H) (by decide) A2 (rm_delY H Fe2) rfl rfl (lenOf pd_11 rfl) (fun _ q => nomatch q) rfl (by decide) (Nat.le_of_ble_eq_true rfl) rfl rfl (by decide) (by decide) at_142 rfl ?_
  rintro _ _ G - ⟨rfl, rfl⟩
  refine nx_ (v := none) ?_
  show Go _ _ _ _ _ _ _ _ _ _ _ _ _ _ 145 #[.val (.int i0), .val (.int i1), .val (.int i2), .val (.int i3), .val (.int bu), .val (.int (0 : Int32)), s6, s7, s8, .val (.ref t), .val (.null), .val (.ref r), .unset] [.int 1]
  refine go_istore (L' := #[.val (.int i0), .val (.int i1), .val (.int i2), .val (.int i3), .val (.int bu), .val (.int (0 : Int32)), s6, s7, s8, .val (.ref t), .val (.null), .val (.ref r), .val (.int 1)]) (q := 147) at_145 rfl rfl ?_
  refine go_iload (v := 1) (q := 149) at_147 rfl rfl ?_
  refine go_iload (v := (0 : Int32)) (q := 151) at_149 rfl rfl ?_
  refine go_ifN (q := 154) at_151 (by decide) rfl ?_
  refine go_iconst (x := (1 : Int32)) (q := 155) at_154 rfl rfl ?_
  refine go_goto (q := 159) at_155 (by decide) (by decide) ?_
  refine go_icY (q := 164) at_159 (by decide) (by decide) (by decide) ?_
  refine go_iload (v := 1) (q := 166) at_164 rfl rfl ?_
  refine go_aload (v := .ref r) (q := 168) at_166 rfl rfl rfl ?_
  refine go_virtual (c' := 8) (s' := 24) (q := 171) (S := [.int 1]) (argsL := []) H (C := "com/example/muster/muster/SendResult") (w_49 H) (w_50 H) (nf_self (w_52 H)) (w_52 H) (w_51 H) (w_30 H) (w_53 H) (by decide) A2 (rm_err H Fe2 rfl) rfl rfl (lenOf pd_12 rfl) (fun _ q => nomatch q) rfl (by decide) (Nat.le_of_ble_eq_true rfl) rfl rfl (by decide) (by decide) at_168 rfl ?_
  rintro _ _ G - ⟨rfl, rfl⟩
  refine nx_ (v := none) ?_
  show Go _ _ _ _ _ _ _ _ _ _ _ _ _ _ 171 #[.val (.int i0), .val (.int i1), .val (.int i2), .val (.int i3), .val (.int bu), .val (.int (0 : Int32)), s6, s7, s8, .val (.ref t), .val (.null), .val (.ref r), .val (.int 1)] [.null, .int 1]
  refine go_nnN (q := 174) at_171 rfl ?_
  refine go_iconst (x := (1 : Int32)) (q := 175) at_174 rfl rfl ?_
  refine go_goto (q := 179) at_175 (by decide) (by decide) ?_
  refine go_icY (q := 184) at_179 (by decide) (by decide) (by decide) ?_
  exact j184 H Sd Ed Fd (S.keep0 Ka)
set_option maxRecDepth 65536 in
set_option maxHeartbeats 8000000 in
theorem j114_1 {l : Launch} {Z : State} {a0 : Array Value} (H : Wd Z a0) {K : Cx} {h : Heap} {dl t : Addr} {cs : List Int32} {bu : Int32} {i0 i1 i2 i3 : Int32} {s6 s7 s8 : Slot} (Sd : Sta Z Z.heap SR "DELIVERED" "Lcom/example/muster/muster/SendResult;" (.ref dl)) (Ed : Exa Z Z.heap dl SR) (Fd : Fld Z Z.heap dl SR "error" "Ljava/lang/String;" .null) (S : Str Z h [] t cs) (hb : bu = 0 ∨ bu = 1) : GL l Z K h [] 7 22 114 #[.val (.int i0), .val (.int i1), .val (.int i2), .val (.int i3), .val (.int bu), .val (.int (1 : Int32)), s6, s7, s8, .val (.ref t), .unset, .unset, .unset] [] := by
  refine go_iload (v := (1 : Int32)) (q := 116) at_114 rfl rfl ?_
  refine go_ifN (q := 119) at_116 (by decide) rfl ?_
  refine go_aload (v := .ref t) (q := 121) at_119 rfl rfl rfl ?_
  refine go_goto (q := 125) at_121 (by decide) (by decide) ?_
  refine go_astore (L' := #[.val (.int i0), .val (.int i1), .val (.int i2), .val (.int i3), .val (.int bu), .val (.int (1 : Int32)), s6, s7, s8, .val (.ref t), .val (.ref t), .unset, .unset]) (q := 127) at_125 rfl rfl rfl ?_
  have Ka : Keep h h [] := Keep.refl _ _
  refine go_new (c' := 8) (s' := 24) (q := 130) (w_28 H) (w_29 H) (w_30 H) at_127 rfl rfl rfl (by decide) (by decide) ?_
  intro h1 r g1 E1 A1 D1
  have f_Ka_r : h.size ≤ r := by rw [g1]; exact Ka.1
  have Ka : Keep h h1 [] := Ka.ext E1
  have Fe : Fld Z h1 r SR "error" "Ljava/lang/String;" .null := D1 (Or.inr (w_41 H)) (ty := .object "java/lang/String") (by decide)
  have Fb : Fld Z h1 r SR "brokerUnreachable" "Z" (.int 0) := D1 (Or.inr (w_43 H)) (ty := .boolean) (by decide)
  refine go_dup (q := 131) at_130 rfl rfl ?_
  refine go_aload (v := .ref t) (q := 133) at_131 rfl rfl rfl ?_
  refine go_iload (v := bu) (q := 135) at_133 rfl rfl ?_
  refine go_special (c' := 8) (s' := 24) (q := 138) (S := [.ref r]) (argsL := [.ref t, .int bu]) H rfl (w_31 H) (w_32 H) (w_30 H) (w_33 H) (by decide) (rm_sr H A1 Fe Fb rfl hb) rfl rfl (lenOf pd_9 rfl) (by intro z hz; simp only [List.mem_cons, List.not_mem_nil, or_false] at hz ⊢; first | exact hz | (rcases hz with hz | hz <;> simp [hz])) rfl (by decide) (Nat.le_of_ble_eq_true rfl) rfl rfl (by decide) (by decide) at_135 rfl ?_
  rintro _ h2 G - ⟨rfl, K2, A2, Fe2, Fb2⟩
  refine nx_ (v := none) ?_
  have Ka : Keep h h2 [] := kfresh Ka K2 f_Ka_r
  show Go _ _ _ _ _ _ _ _ _ _ _ _ _ _ 138 #[.val (.int i0), .val (.int i1), .val (.int i2), .val (.int i3), .val (.int bu), .val (.int (1 : Int32)), s6, s7, s8, .val (.ref t), .val (.ref t), .unset, .unset] [.ref r]
  refine go_less (F' := []) (fun _ q => nomatch q) (Nat.le_refl _) (Nat.le_refl _) ?_
  refine go_astore (L' := #[.val (.int i0), .val (.int i1), .val (.int i2), .val (.int i3), .val (.int bu), .val (.int (1 : Int32)), s6, s7, s8, .val (.ref t), .val (.ref t), .val (.ref r), .unset]) (q := 140) at_138 rfl rfl rfl ?_
  refine go_aload (v := .ref r) (q := 142) at_140 rfl rfl rfl ?_
  refine go_virtual (c' := 8) (s' := 24) (q := 145) (S := []) (argsL := []) H (C := "com/example/muster/muster/SendResult") (w_44 H) (w_45 H) (nf_self (w_47 H)) (w_47 H) (w_46 H) (w_30 H) (w_48 H) (by decide) A2 (rm_delN H Fe2) rfl rfl (lenOf pd_11 rfl) (fun _ q => nomatch q) rfl (by decide) (Nat.le_of_ble_eq_true rfl) rfl rfl (by decide) (by decide) at_142 rfl ?_
  rintro _ _ G - ⟨rfl, rfl⟩
  refine nx_ (v := none) ?_
  show Go _ _ _ _ _ _ _ _ _ _ _ _ _ _ 145 #[.val (.int i0), .val (.int i1), .val (.int i2), .val (.int i3), .val (.int bu), .val (.int (1 : Int32)), s6, s7, s8, .val (.ref t), .val (.ref t), .val (.ref r), .unset] [.int 0]
  refine go_istore (L' := #[.val (.int i0), .val (.int i1), .val (.int i2), .val (.int i3), .val (.int bu), .val (.int (1 : Int32)), s6, s7, s8, .val (.ref t), .val (.ref t), .val (.ref r), .val (.int 0)]) (q := 147) at_145 rfl rfl ?_
  refine go_iload (v := 0) (q := 149) at_147 rfl rfl ?_
  refine go_iload (v := (1 : Int32)) (q := 151) at_149 rfl rfl ?_
  refine go_ifY (q := 158) at_151 (by decide) (by decide) (by decide) ?_
  refine go_iconst (x := (0 : Int32)) (q := 159) at_158 rfl rfl ?_
  refine go_icY (q := 164) at_159 (by decide) (by decide) (by decide) ?_
  refine go_iload (v := 0) (q := 166) at_164 rfl rfl ?_
  refine go_aload (v := .ref r) (q := 168) at_166 rfl rfl rfl ?_
  refine go_virtual (c' := 8) (s' := 24) (q := 171) (S := [.int 0]) (argsL := []) H (C := "com/example/muster/muster/SendResult") (w_49 H) (w_50 H) (nf_self (w_52 H)) (w_52 H) (w_51 H) (w_30 H) (w_53 H) (by decide) A2 (rm_err H Fe2 rfl) rfl rfl (lenOf pd_12 rfl) (fun _ q => nomatch q) rfl (by decide) (Nat.le_of_ble_eq_true rfl) rfl rfl (by decide) (by decide) at_168 rfl ?_
  rintro _ _ G - ⟨rfl, rfl⟩
  refine nx_ (v := none) ?_
  show Go _ _ _ _ _ _ _ _ _ _ _ _ _ _ 171 #[.val (.int i0), .val (.int i1), .val (.int i2), .val (.int i3), .val (.int bu), .val (.int (1 : Int32)), s6, s7, s8, .val (.ref t), .val (.ref t), .val (.ref r), .val (.int 0)] [.ref t, .int 0]
  refine go_nnY (q := 178) at_171 (by decide) (by decide) ?_
  refine go_iconst (x := (0 : Int32)) (q := 179) at_178 rfl rfl ?_
  refine go_icY (q := 184) at_179 (by decide) (by decide) (by decide) ?_
  exact j184 H Sd Ed Fd (S.keep0 Ka)
set_option maxRecDepth 65536 in
set_option maxHeartbeats 8000000 in
theorem j26_0 {l : Launch} {Z : State} {a0 : Array Value} (H : Wd Z a0) {K : Cx} {h : Heap} {dl : Addr} {bu : Int32} {i0 i1 i2 i3 : Int32} (Sd : Sta Z Z.heap SR "DELIVERED" "Lcom/example/muster/muster/SendResult;" (.ref dl)) (Ed : Exa Z Z.heap dl SR) (Fd : Fld Z Z.heap dl SR "error" "Ljava/lang/String;" .null) (hb : bu = 0 ∨ bu = 1) : GL l Z K h [] 0 0 26 #[.val (.int i0), .val (.int i1), .val (.int i2), .val (.int i3), .val (.int bu), .val (.int (0 : Int32)), .unset, .unset, .unset, .unset, .unset, .unset, .unset] [] := by
  refine go_iconst (x := (0 : Int32)) (q := 27) at_26 rfl rfl ?_
  refine go_newarray (ty := .char) (dv := .int 0) (n := 0) (cap := 0) (ad := "[C") (c' := 1) (s' := 0) (q := 29) rfl rfl (by decide) (w_0 H) at_27 (by decide) (by decide) (by decide) rfl rfl rfl rfl (by decide) (by decide) ?_
  intro h1 y6 k6 g1 E1 W1 X1
  have W1 : Arv Z h1 y6 k6 .char (0 : Int32) [] (.int 0) := W1
  refine go_astore (L' := #[.val (.int i0), .val (.int i1), .val (.int i2), .val (.int i3), .val (.int bu), .val (.int (0 : Int32)), .val (.ref y6), .unset, .unset, .unset, .unset, .unset, .unset]) (q := 31) at_29 rfl rfl rfl ?_
  refine go_iconst (x := (2 : Int32)) (q := 32) at_31 rfl rfl ?_
  refine go_newarray (ty := .char) (dv := .int 0) (n := 2) (cap := 2) (ad := "[C") (c' := 2) (s' := 2) (q := 34) rfl rfl (by decide) (w_0 H) at_32 (by decide) (by decide) (by decide) rfl rfl rfl rfl (by decide) (by decide) ?_
  intro h2 y7 k7 g2 E2 W2 X2
  have W1 := W1.ext E2
  have W2 : Arv Z h2 y7 k7 .char (2 : Int32) [.int 0, .int 0] (.int 0) := W2
  have ne67 : y6 ≠ y7 := Nat.ne_of_lt (by rw [g2]; exact (Arv.lt (by assumption : Arv Z h1 y6 k6 .char (0 : Int32) [] (.int 0))))
  refine go_astore (L' := #[.val (.int i0), .val (.int i1), .val (.int i2), .val (.int i3), .val (.int bu), .val (.int (0 : Int32)), .val (.ref y6), .val (.ref y7), .unset, .unset, .unset, .unset, .unset]) (q := 36) at_34 rfl rfl rfl ?_
  refine go_aload (v := .ref y7) (q := 38) at_36 rfl rfl rfl ?_
  refine go_iconst (x := (0 : Int32)) (q := 39) at_38 rfl rfl ?_
  refine go_iloadN (v := i1) (q := 40) at_39 rfl rfl ?_
  refine go_sipush (x := (255 : Int32)) (q := 43) at_40 rfl rfl ?_
  refine go_iand (r := i1 &&& (255 : Int32)) (q := 44) at_43 rfl rfl ?_
  refine go_i2c (r := (i1 &&& 255)) (q := 45) at_44 (i2c_msk i1) rfl ?_
  refine go_castore (i := 0) (y := (i1 &&& 255)) (q := 46) W2 (by decide) rfl (Nat.le_of_ble_eq_true rfl) (by simp) (nar_char (msk i1).1 (msk i1).2) at_45 rfl ?_
  intro h3 K3 z3 W3
  have W1 := W1.keep K3 (ninS ne67 nin0)
  have W3 : Arv Z h3 y7 k7 .char (2 : Int32) [.int (i1 &&& 255), .int 0] (.int 0) := W3
  refine go_aload (v := .ref y7) (q := 48) at_46 rfl rfl rfl ?_
  refine go_iconst (x := (1 : Int32)) (q := 49) at_48 rfl rfl ?_
  refine go_iloadN (v := i2) (q := 50) at_49 rfl rfl ?_
  refine go_sipush (x := (255 : Int32)) (q := 53) at_50 rfl rfl ?_
  refine go_iand (r := i2 &&& (255 : Int32)) (q := 54) at_53 rfl rfl ?_
  refine go_i2c (r := (i2 &&& 255)) (q := 55) at_54 (i2c_msk i2) rfl ?_
  refine go_castore (i := 1) (y := (i2 &&& 255)) (q := 56) W3 (by decide) rfl (Nat.le_of_ble_eq_true rfl) (by simp) (nar_char (msk i2).1 (msk i2).2) at_55 rfl ?_
  intro h4 K4 z4 W4
  have W1 := W1.keep K4 (ninS ne67 nin0)
  have W4 : Arv Z h4 y7 k7 .char (2 : Int32) [.int (i1 &&& 255), .int (i2 &&& 255)] (.int 0) := W4
  refine go_iloadN (v := i3) (q := 57) at_56 rfl rfl ?_
  refine go_ldcInt (v := (2147483647 : Int32)) (q := 59) (w_1 H) at_57 rfl ?_
  refine go_iand (r := i3 &&& (2147483647 : Int32)) (q := 60) at_59 rfl rfl ?_
  refine go_iconst (x := (3 : Int32)) (q := 61) at_60 rfl rfl ?_
  refine go_irem (r := (i3 &&& (2147483647 : Int32)) % (3 : Int32)) (q := 62) at_61 (by decide) rfl rfl ?_
  refine go_istore (L' := #[.val (.int i0), .val (.int i1), .val (.int i2), .val (.int i3), .val (.int bu), .val (.int (0 : Int32)), .val (.ref y6), .val (.ref y7), .val (.int ((i3 &&& (2147483647 : Int32)) % (3 : Int32))), .unset, .unset, .unset, .unset]) (q := 64) at_62 rfl rfl ?_
  obtain ⟨kd, hkd⟩ : ∃ kd, kd = (i3 &&& 2147483647) % 3 := ⟨_, rfl⟩
  have hk3 := rem3 i3
  rw [← hkd] at hk3
  rw [← hkd]
  show Go _ _ _ _ _ _ _ _ _ _ _ _ _ _ 64 #[.val (.int i0), .val (.int i1), .val (.int i2), .val (.int i3), .val (.int bu), .val (.int (0 : Int32)), .val (.ref y6), .val (.ref y7), .val (.int kd), .unset, .unset, .unset, .unset] []
  clear hkd
  refine go_less (F' := []) (fun _ q => nomatch q) (Nat.le_refl _) (Nat.le_refl _) ?_
  have Ka : Keep h4 h4 [] := Keep.refl _ _
  have hFl : ∀ x ∈ ([] : List Addr), x < h4.size := fun _ q => nomatch q
  rcases hk3 with rfl | rfl | rfl
  · refine go_iload (v := (0 : Int32)) (q := 66) at_64 rfl rfl ?_
    refine go_ifN (q := 69) at_66 (by decide) rfl ?_
    refine go_new (c' := 3) (s' := 6) (q := 72) (w_72 H) (w_12 H) (w_4 H) at_69 rfl rfl rfl (by decide) (by decide) ?_
    intro hs1 xs gs1 Es1 As1 Ds1
    have f_Ka_xs : h4.size ≤ xs := by rw [gs1]; exact Ka.1
    have Ka : Keep h4 hs1 [] := Ka.ext Es1
    have W1 := W1.ext Es1
    have W4 := W4.ext Es1
    have Cs1 : Fld Z hs1 xs ST "coder" "B" (.int 0) := Ds1 (Or.inr (w_27 H)) (ty := .byte) (by decide)
    have Vs1 : Fld Z hs1 xs ST "value" "[B" .null := Ds1 (Or.inr (w_25 H)) (ty := .array .byte) (by decide)
    have Kbs : Keep hs1 hs1 [] := Keep.refl _ _
    refine go_dup (q := 73) at_72 rfl rfl ?_
    refine go_aload (v := .ref y6) (q := 75) at_73 rfl rfl rfl ?_
    have x_ := xs
    have Lts : Lat [] := ⟨Nat.le_of_ble_eq_true rfl, (by intro c hc; simp only [List.mem_cons, List.not_mem_nil, or_false] at hc)⟩
    refine go_mine fun hMs _ => ?_
    have nFs : xs ∉ [] := fun q => absurd (hFl xs q) (Nat.not_lt.mpr f_Ka_xs)
    refine go_special (c' := 7) (s' := 22) (q := 78) (S := [.ref xs]) (argsL := [.ref y6]) H rfl (w_73 H) (w_74 H) (w_4 H) (w_75 H) (by decide) (rm_new1 H (cs := []) (F := []) (As1.keep Kbs) (Cs1.keep Kbs nin0) (Vs1.keep Kbs nin0) W1 Lts (Nat.le_of_ble_eq_true rfl) nFs) rfl rfl (lenOf pd_13 rfl) (by intro z hz; simp only [List.mem_cons, List.not_mem_nil, or_false] at hz ⊢; first | exact hz | (rcases hz with hz | hz <;> simp [hz])) rfl (by decide) (Nat.le_of_ble_eq_true rfl) rfl rfl (by decide) (by decide) at_75 rfl ?_
    rintro _ hsz G - ⟨rfl, Kcs, Ss⟩
    refine nx_ (v := none) ?_
    have Ka : Keep h4 hsz [] := kfresh Ka Kcs f_Ka_xs
    show Go _ _ _ _ _ _ _ _ _ _ _ _ _ _ 78 #[.val (.int i0), .val (.int i1), .val (.int i2), .val (.int i3), .val (.int bu), .val (.int (0 : Int32)), .val (.ref y6), .val (.ref y7), .val (.int (0 : Int32)), .unset, .unset, .unset, .unset] [.ref xs]
    refine go_less (F' := []) (by intro y hy; simp [hy]) (Nat.le_refl _) (Nat.le_refl _) ?_
    have S := Ss
    refine go_astore (L' := #[.val (.int i0), .val (.int i1), .val (.int i2), .val (.int i3), .val (.int bu), .val (.int (0 : Int32)), .val (.ref y6), .val (.ref y7), .val (.int (0 : Int32)), .val (.ref xs), .unset, .unset, .unset]) (q := 80) at_78 rfl rfl rfl ?_
    refine go_goto (q := 114) at_80 (by decide) (by decide) ?_
    refine go_less (F' := []) (c' := 7) (s' := 22) (fun _ q => nomatch q) (by decide) (by decide) ?_
    exact j114_0 H Sd Ed Fd S hb
  · refine go_iload (v := (1 : Int32)) (q := 66) at_64 rfl rfl ?_
    refine go_ifY (q := 83) at_66 (by decide) (by decide) (by decide) ?_
    refine go_iload (v := (1 : Int32)) (q := 85) at_83 rfl rfl ?_
    refine go_iconst (x := (1 : Int32)) (q := 86) at_85 rfl rfl ?_
    refine go_icN (q := 89) at_86 (by decide) rfl ?_
    refine go_iloadN (v := i1) (q := 90) at_89 rfl rfl ?_
    refine go_sipush (x := (255 : Int32)) (q := 93) at_90 rfl rfl ?_
    refine go_iand (r := i1 &&& (255 : Int32)) (q := 94) at_93 rfl rfl ?_
    refine go_i2c (r := (i1 &&& 255)) (q := 95) at_94 (i2c_msk i1) rfl ?_
    refine go_static (c' := 4) (s' := 7) (q := 98) (S := []) (argsL := [.int (i1 &&& 255)]) H (w_2 H) (w_3 H) (w_4 H) (w_5 H) (by decide) (rm_vofC H (F := []) (msk i1) hFl) rfl rfl (lenOf pd_14 rfl) (fun _ q => nomatch q) rfl (by decide) (Nat.le_of_ble_eq_true rfl) rfl rfl (by decide) (by decide) at_95 rfl ?_
    rintro _ hz G - ⟨x, rfl, Kz, S⟩
    refine nx_ (v := none) ?_
    show Go _ _ _ _ _ _ _ _ _ _ _ _ _ _ 98 #[.val (.int i0), .val (.int i1), .val (.int i2), .val (.int i3), .val (.int bu), .val (.int (0 : Int32)), .val (.ref y6), .val (.ref y7), .val (.int (1 : Int32)), .unset, .unset, .unset, .unset] [.ref x]
    refine go_astore (L' := #[.val (.int i0), .val (.int i1), .val (.int i2), .val (.int i3), .val (.int bu), .val (.int (0 : Int32)), .val (.ref y6), .val (.ref y7), .val (.int (1 : Int32)), .val (.ref x), .unset, .unset, .unset]) (q := 100) at_98 rfl rfl rfl ?_
    refine go_goto (q := 114) at_100 (by decide) (by decide) ?_
    refine go_less (F' := []) (c' := 7) (s' := 22) (fun _ q => nomatch q) (by decide) (by decide) ?_
    exact j114_0 H Sd Ed Fd S hb
  · refine go_iload (v := (2 : Int32)) (q := 66) at_64 rfl rfl ?_
    refine go_ifY (q := 83) at_66 (by decide) (by decide) (by decide) ?_
    refine go_iload (v := (2 : Int32)) (q := 85) at_83 rfl rfl ?_
    refine go_iconst (x := (1 : Int32)) (q := 86) at_85 rfl rfl ?_
    refine go_icY (q := 103) at_86 (by decide) (by decide) (by decide) ?_
    refine go_new (c' := 3) (s' := 6) (q := 106) (w_72 H) (w_12 H) (w_4 H) at_103 rfl rfl rfl (by decide) (by decide) ?_
    intro hs1 xs gs1 Es1 As1 Ds1
    have f_Ka_xs : h4.size ≤ xs := by rw [gs1]; exact Ka.1
    have Ka : Keep h4 hs1 [] := Ka.ext Es1
    have W1 := W1.ext Es1
    have W4 := W4.ext Es1
    have Cs1 : Fld Z hs1 xs ST "coder" "B" (.int 0) := Ds1 (Or.inr (w_27 H)) (ty := .byte) (by decide)
    have Vs1 : Fld Z hs1 xs ST "value" "[B" .null := Ds1 (Or.inr (w_25 H)) (ty := .array .byte) (by decide)
    have Kbs : Keep hs1 hs1 [] := Keep.refl _ _
    refine go_dup (q := 107) at_106 rfl rfl ?_
    refine go_aload (v := .ref y7) (q := 109) at_107 rfl rfl rfl ?_
    have x_ := xs
    have Lts : Lat [(i1 &&& 255), (i2 &&& 255)] := ⟨Nat.le_of_ble_eq_true rfl, (by intro c hc; simp only [List.mem_cons, List.not_mem_nil, or_false] at hc; rcases hc with rfl | rfl <;> first | exact (msk i1) | exact (msk i2))⟩
    refine go_mine fun hMs _ => ?_
    have nFs : xs ∉ [] := fun q => absurd (hFl xs q) (Nat.not_lt.mpr f_Ka_xs)
    refine go_special (c' := 7) (s' := 22) (q := 112) (S := [.ref xs]) (argsL := [.ref y7]) H rfl (w_73 H) (w_74 H) (w_4 H) (w_75 H) (by decide) (rm_new1 H (cs := [(i1 &&& 255), (i2 &&& 255)]) (F := []) (As1.keep Kbs) (Cs1.keep Kbs nin0) (Vs1.keep Kbs nin0) W4 Lts (Nat.le_of_ble_eq_true rfl) nFs) rfl rfl (lenOf pd_13 rfl) (by intro z hz; simp only [List.mem_cons, List.not_mem_nil, or_false] at hz ⊢; first | exact hz | (rcases hz with hz | hz <;> simp [hz])) rfl (by decide) (Nat.le_of_ble_eq_true rfl) rfl rfl (by decide) (by decide) at_109 rfl ?_
    rintro _ hsz G - ⟨rfl, Kcs, Ss⟩
    refine nx_ (v := none) ?_
    have Ka : Keep h4 hsz [] := kfresh Ka Kcs f_Ka_xs
    show Go _ _ _ _ _ _ _ _ _ _ _ _ _ _ 112 #[.val (.int i0), .val (.int i1), .val (.int i2), .val (.int i3), .val (.int bu), .val (.int (0 : Int32)), .val (.ref y6), .val (.ref y7), .val (.int (2 : Int32)), .unset, .unset, .unset, .unset] [.ref xs]
    refine go_less (F' := []) (by intro y hy; simp [hy]) (Nat.le_refl _) (Nat.le_refl _) ?_
    have S := Ss
    refine go_astore (L' := #[.val (.int i0), .val (.int i1), .val (.int i2), .val (.int i3), .val (.int bu), .val (.int (0 : Int32)), .val (.ref y6), .val (.ref y7), .val (.int (2 : Int32)), .val (.ref xs), .unset, .unset, .unset]) (q := 114) at_112 rfl rfl rfl ?_
    refine go_less (F' := []) (c' := 7) (s' := 22) (fun _ q => nomatch q) (by decide) (by decide) ?_
    exact j114_0 H Sd Ed Fd S hb
set_option maxRecDepth 65536 in
set_option maxHeartbeats 8000000 in
theorem j26_1 {l : Launch} {Z : State} {a0 : Array Value} (H : Wd Z a0) {K : Cx} {h : Heap} {dl : Addr} {bu : Int32} {i0 i1 i2 i3 : Int32} (Sd : Sta Z Z.heap SR "DELIVERED" "Lcom/example/muster/muster/SendResult;" (.ref dl)) (Ed : Exa Z Z.heap dl SR) (Fd : Fld Z Z.heap dl SR "error" "Ljava/lang/String;" .null) (hb : bu = 0 ∨ bu = 1) : GL l Z K h [] 0 0 26 #[.val (.int i0), .val (.int i1), .val (.int i2), .val (.int i3), .val (.int bu), .val (.int (1 : Int32)), .unset, .unset, .unset, .unset, .unset, .unset, .unset] [] := by
  refine go_iconst (x := (0 : Int32)) (q := 27) at_26 rfl rfl ?_
  refine go_newarray (ty := .char) (dv := .int 0) (n := 0) (cap := 0) (ad := "[C") (c' := 1) (s' := 0) (q := 29) rfl rfl (by decide) (w_0 H) at_27 (by decide) (by decide) (by decide) rfl rfl rfl rfl (by decide) (by decide) ?_
  intro h1 y6 k6 g1 E1 W1 X1
  have W1 : Arv Z h1 y6 k6 .char (0 : Int32) [] (.int 0) := W1
  refine go_astore (L' := #[.val (.int i0), .val (.int i1), .val (.int i2), .val (.int i3), .val (.int bu), .val (.int (1 : Int32)), .val (.ref y6), .unset, .unset, .unset, .unset, .unset, .unset]) (q := 31) at_29 rfl rfl rfl ?_
  refine go_iconst (x := (2 : Int32)) (q := 32) at_31 rfl rfl ?_
  refine go_newarray (ty := .char) (dv := .int 0) (n := 2) (cap := 2) (ad := "[C") (c' := 2) (s' := 2) (q := 34) rfl rfl (by decide) (w_0 H) at_32 (by decide) (by decide) (by decide) rfl rfl rfl rfl (by decide) (by decide) ?_
  intro h2 y7 k7 g2 E2 W2 X2
  have W1 := W1.ext E2
  have W2 : Arv Z h2 y7 k7 .char (2 : Int32) [.int 0, .int 0] (.int 0) := W2
  have ne67 : y6 ≠ y7 := Nat.ne_of_lt (by rw [g2]; exact (Arv.lt (by assumption : Arv Z h1 y6 k6 .char (0 : Int32) [] (.int 0))))
  refine go_astore (L' := #[.val (.int i0), .val (.int i1), .val (.int i2), .val (.int i3), .val (.int bu), .val (.int (1 : Int32)), .val (.ref y6), .val (.ref y7), .unset, .unset, .unset, .unset, .unset]) (q := 36) at_34 rfl rfl rfl ?_
  refine go_aload (v := .ref y7) (q := 38) at_36 rfl rfl rfl ?_
  refine go_iconst (x := (0 : Int32)) (q := 39) at_38 rfl rfl ?_
  refine go_iloadN (v := i1) (q := 40) at_39 rfl rfl ?_
  refine go_sipush (x := (255 : Int32)) (q := 43) at_40 rfl rfl ?_
  refine go_iand (r := i1 &&& (255 : Int32)) (q := 44) at_43 rfl rfl ?_
  refine go_i2c (r := (i1 &&& 255)) (q := 45) at_44 (i2c_msk i1) rfl ?_
  refine go_castore (i := 0) (y := (i1 &&& 255)) (q := 46) W2 (by decide) rfl (Nat.le_of_ble_eq_true rfl) (by simp) (nar_char (msk i1).1 (msk i1).2) at_45 rfl ?_
  intro h3 K3 z3 W3
  have W1 := W1.keep K3 (ninS ne67 nin0)
  have W3 : Arv Z h3 y7 k7 .char (2 : Int32) [.int (i1 &&& 255), .int 0] (.int 0) := W3
  refine go_aload (v := .ref y7) (q := 48) at_46 rfl rfl rfl ?_
  refine go_iconst (x := (1 : Int32)) (q := 49) at_48 rfl rfl ?_
  refine go_iloadN (v := i2) (q := 50) at_49 rfl rfl ?_
  refine go_sipush (x := (255 : Int32)) (q := 53) at_50 rfl rfl ?_
  refine go_iand (r := i2 &&& (255 : Int32)) (q := 54) at_53 rfl rfl ?_
  refine go_i2c (r := (i2 &&& 255)) (q := 55) at_54 (i2c_msk i2) rfl ?_
  refine go_castore (i := 1) (y := (i2 &&& 255)) (q := 56) W3 (by decide) rfl (Nat.le_of_ble_eq_true rfl) (by simp) (nar_char (msk i2).1 (msk i2).2) at_55 rfl ?_
  intro h4 K4 z4 W4
  have W1 := W1.keep K4 (ninS ne67 nin0)
  have W4 : Arv Z h4 y7 k7 .char (2 : Int32) [.int (i1 &&& 255), .int (i2 &&& 255)] (.int 0) := W4
  refine go_iloadN (v := i3) (q := 57) at_56 rfl rfl ?_
  refine go_ldcInt (v := (2147483647 : Int32)) (q := 59) (w_1 H) at_57 rfl ?_
  refine go_iand (r := i3 &&& (2147483647 : Int32)) (q := 60) at_59 rfl rfl ?_
  refine go_iconst (x := (3 : Int32)) (q := 61) at_60 rfl rfl ?_
  refine go_irem (r := (i3 &&& (2147483647 : Int32)) % (3 : Int32)) (q := 62) at_61 (by decide) rfl rfl ?_
  refine go_istore (L' := #[.val (.int i0), .val (.int i1), .val (.int i2), .val (.int i3), .val (.int bu), .val (.int (1 : Int32)), .val (.ref y6), .val (.ref y7), .val (.int ((i3 &&& (2147483647 : Int32)) % (3 : Int32))), .unset, .unset, .unset, .unset]) (q := 64) at_62 rfl rfl ?_
  obtain ⟨kd, hkd⟩ : ∃ kd, kd = (i3 &&& 2147483647) % 3 := ⟨_, rfl⟩
  have hk3 := rem3 i3
  rw [← hkd] at hk3
  rw [← hkd]
  show Go _ _ _ _ _ _ _ _ _ _ _ _ _ _ 64 #[.val (.int i0), .val (.int i1), .val (.int i2), .val (.int i3), .val (.int bu), .val (.int (1 : Int32)), .val (.ref y6), .val (.ref y7), .val (.int kd), .unset, .unset, .unset, .unset] []
  clear hkd
  refine go_less (F' := []) (fun _ q => nomatch q) (Nat.le_refl _) (Nat.le_refl _) ?_
  have Ka : Keep h4 h4 [] := Keep.refl _ _
  have hFl : ∀ x ∈ ([] : List Addr), x < h4.size := fun _ q => nomatch q
  rcases hk3 with rfl | rfl | rfl
  · refine go_iload (v := (0 : Int32)) (q := 66) at_64 rfl rfl ?_
    refine go_ifN (q := 69) at_66 (by decide) rfl ?_
    refine go_new (c' := 3) (s' := 6) (q := 72) (w_72 H) (w_12 H) (w_4 H) at_69 rfl rfl rfl (by decide) (by decide) ?_
    intro hs1 xs gs1 Es1 As1 Ds1
    have f_Ka_xs : h4.size ≤ xs := by rw [gs1]; exact Ka.1
    have Ka : Keep h4 hs1 [] := Ka.ext Es1
    have W1 := W1.ext Es1
    have W4 := W4.ext Es1
    have Cs1 : Fld Z hs1 xs ST "coder" "B" (.int 0) := Ds1 (Or.inr (w_27 H)) (ty := .byte) (by decide)
    have Vs1 : Fld Z hs1 xs ST "value" "[B" .null := Ds1 (Or.inr (w_25 H)) (ty := .array .byte) (by decide)
    have Kbs : Keep hs1 hs1 [] := Keep.refl _ _
    refine go_dup (q := 73) at_72 rfl rfl ?_
    refine go_aload (v := .ref y6) (q := 75) at_73 rfl rfl rfl ?_
    have x_ := xs
    have Lts : Lat [] := ⟨Nat.le_of_ble_eq_true rfl, (by intro c hc; simp only [List.mem_cons, List.not_mem_nil, or_false] at hc)⟩
    refine go_mine fun hMs _ => ?_
    have nFs : xs ∉ [] := fun q => absurd (hFl xs q) (Nat.not_lt.mpr f_Ka_xs)
    refine go_special (c' := 7) (s' := 22) (q := 78) (S := [.ref xs]) (argsL := [.ref y6]) H rfl (w_73 H) (w_74 H) (w_4 H) (w_75 H) (by decide) (rm_new1 H (cs := []) (F := []) (As1.keep Kbs) (Cs1.keep Kbs nin0) (Vs1.keep Kbs nin0) W1 Lts (Nat.le_of_ble_eq_true rfl) nFs) rfl rfl (lenOf pd_13 rfl) (by intro z hz; simp only [List.mem_cons, List.not_mem_nil, or_false] at hz ⊢; first | exact hz | (rcases hz with hz | hz <;> simp [hz])) rfl (by decide) (Nat.le_of_ble_eq_true rfl) rfl rfl (by decide) (by decide) at_75 rfl ?_
    rintro _ hsz G - ⟨rfl, Kcs, Ss⟩
    refine nx_ (v := none) ?_
    have Ka : Keep h4 hsz [] := kfresh Ka Kcs f_Ka_xs
    show Go _ _ _ _ _ _ _ _ _ _ _ _ _ _ 78 #[.val (.int i0), .val (.int i1), .val (.int i2), .val (.int i3), .val (.int bu), .val (.int (1 : Int32)), .val (.ref y6), .val (.ref y7), .val (.int (0 : Int32)), .unset, .unset, .unset, .unset] [.ref xs]
    refine go_less (F' := []) (by intro y hy; simp [hy]) (Nat.le_refl _) (Nat.le_refl _) ?_
    have S := Ss
    refine go_astore (L' := #[.val (.int i0), .val (.int i1), .val (.int i2), .val (.int i3), .val (.int bu), .val (.int (1 : Int32)), .val (.ref y6), .val (.ref y7), .val (.int (0 : Int32)), .val (.ref xs), .unset, .unset, .unset]) (q := 80) at_78 rfl rfl rfl ?_
    refine go_goto (q := 114) at_80 (by decide) (by decide) ?_
    refine go_less (F' := []) (c' := 7) (s' := 22) (fun _ q => nomatch q) (by decide) (by decide) ?_
    exact j114_1 H Sd Ed Fd S hb
  · refine go_iload (v := (1 : Int32)) (q := 66) at_64 rfl rfl ?_
    refine go_ifY (q := 83) at_66 (by decide) (by decide) (by decide) ?_
    refine go_iload (v := (1 : Int32)) (q := 85) at_83 rfl rfl ?_
    refine go_iconst (x := (1 : Int32)) (q := 86) at_85 rfl rfl ?_
    refine go_icN (q := 89) at_86 (by decide) rfl ?_
    refine go_iloadN (v := i1) (q := 90) at_89 rfl rfl ?_
    refine go_sipush (x := (255 : Int32)) (q := 93) at_90 rfl rfl ?_
    refine go_iand (r := i1 &&& (255 : Int32)) (q := 94) at_93 rfl rfl ?_
    refine go_i2c (r := (i1 &&& 255)) (q := 95) at_94 (i2c_msk i1) rfl ?_
    refine go_static (c' := 4) (s' := 7) (q := 98) (S := []) (argsL := [.int (i1 &&& 255)]) H (w_2 H) (w_3 H) (w_4 H) (w_5 H) (by decide) (rm_vofC H (F := []) (msk i1) hFl) rfl rfl (lenOf pd_14 rfl) (fun _ q => nomatch q) rfl (by decide) (Nat.le_of_ble_eq_true rfl) rfl rfl (by decide) (by decide) at_95 rfl ?_
    rintro _ hz G - ⟨x, rfl, Kz, S⟩
    refine nx_ (v := none) ?_
    show Go _ _ _ _ _ _ _ _ _ _ _ _ _ _ 98 #[.val (.int i0), .val (.int i1), .val (.int i2), .val (.int i3), .val (.int bu), .val (.int (1 : Int32)), .val (.ref y6), .val (.ref y7), .val (.int (1 : Int32)), .unset, .unset, .unset, .unset] [.ref x]
    refine go_astore (L' := #[.val (.int i0), .val (.int i1), .val (.int i2), .val (.int i3), .val (.int bu), .val (.int (1 : Int32)), .val (.ref y6), .val (.ref y7), .val (.int (1 : Int32)), .val (.ref x), .unset, .unset, .unset]) (q := 100) at_98 rfl rfl rfl ?_
    refine go_goto (q := 114) at_100 (by decide) (by decide) ?_
    refine go_less (F' := []) (c' := 7) (s' := 22) (fun _ q => nomatch q) (by decide) (by decide) ?_
    exact j114_1 H Sd Ed Fd S hb
  · refine go_iload (v := (2 : Int32)) (q := 66) at_64 rfl rfl ?_
    refine go_ifY (q := 83) at_66 (by decide) (by decide) (by decide) ?_
    refine go_iload (v := (2 : Int32)) (q := 85) at_83 rfl rfl ?_
    refine go_iconst (x := (1 : Int32)) (q := 86) at_85 rfl rfl ?_
    refine go_icY (q := 103) at_86 (by decide) (by decide) (by decide) ?_
    refine go_new (c' := 3) (s' := 6) (q := 106) (w_72 H) (w_12 H) (w_4 H) at_103 rfl rfl rfl (by decide) (by decide) ?_
    intro hs1 xs gs1 Es1 As1 Ds1
    have f_Ka_xs : h4.size ≤ xs := by rw [gs1]; exact Ka.1
    have Ka : Keep h4 hs1 [] := Ka.ext Es1
    have W1 := W1.ext Es1
    have W4 := W4.ext Es1
    have Cs1 : Fld Z hs1 xs ST "coder" "B" (.int 0) := Ds1 (Or.inr (w_27 H)) (ty := .byte) (by decide)
    have Vs1 : Fld Z hs1 xs ST "value" "[B" .null := Ds1 (Or.inr (w_25 H)) (ty := .array .byte) (by decide)
    have Kbs : Keep hs1 hs1 [] := Keep.refl _ _
    refine go_dup (q := 107) at_106 rfl rfl ?_
    refine go_aload (v := .ref y7) (q := 109) at_107 rfl rfl rfl ?_
    have x_ := xs
    have Lts : Lat [(i1 &&& 255), (i2 &&& 255)] := ⟨Nat.le_of_ble_eq_true rfl, (by intro c hc; simp only [List.mem_cons, List.not_mem_nil, or_false] at hc; rcases hc with rfl | rfl <;> first | exact (msk i1) | exact (msk i2))⟩
    refine go_mine fun hMs _ => ?_
    have nFs : xs ∉ [] := fun q => absurd (hFl xs q) (Nat.not_lt.mpr f_Ka_xs)
    refine go_special (c' := 7) (s' := 22) (q := 112) (S := [.ref xs]) (argsL := [.ref y7]) H rfl (w_73 H) (w_74 H) (w_4 H) (w_75 H) (by decide) (rm_new1 H (cs := [(i1 &&& 255), (i2 &&& 255)]) (F := []) (As1.keep Kbs) (Cs1.keep Kbs nin0) (Vs1.keep Kbs nin0) W4 Lts (Nat.le_of_ble_eq_true rfl) nFs) rfl rfl (lenOf pd_13 rfl) (by intro z hz; simp only [List.mem_cons, List.not_mem_nil, or_false] at hz ⊢; first | exact hz | (rcases hz with hz | hz <;> simp [hz])) rfl (by decide) (Nat.le_of_ble_eq_true rfl) rfl rfl (by decide) (by decide) at_109 rfl ?_
    rintro _ hsz G - ⟨rfl, Kcs, Ss⟩
    refine nx_ (v := none) ?_
    have Ka : Keep h4 hsz [] := kfresh Ka Kcs f_Ka_xs
    show Go _ _ _ _ _ _ _ _ _ _ _ _ _ _ 112 #[.val (.int i0), .val (.int i1), .val (.int i2), .val (.int i3), .val (.int bu), .val (.int (1 : Int32)), .val (.ref y6), .val (.ref y7), .val (.int (2 : Int32)), .unset, .unset, .unset, .unset] [.ref xs]
    refine go_less (F' := []) (by intro y hy; simp [hy]) (Nat.le_refl _) (Nat.le_refl _) ?_
    have S := Ss
    refine go_astore (L' := #[.val (.int i0), .val (.int i1), .val (.int i2), .val (.int i3), .val (.int bu), .val (.int (1 : Int32)), .val (.ref y6), .val (.ref y7), .val (.int (2 : Int32)), .val (.ref xs), .unset, .unset, .unset]) (q := 114) at_112 rfl rfl rfl ?_
    refine go_less (F' := []) (c' := 7) (s' := 22) (fun _ q => nomatch q) (by decide) (by decide) ?_
    exact j114_1 H Sd Ed Fd S hb
set_option maxRecDepth 65536 in
set_option maxHeartbeats 8000000 in
theorem rm_law {l : Launch} {Z : State} {a0 : Array Value} (H : Wd Z a0) {dl : Addr} {i0 i1 i2 i3 : Int32} (Sd : Sta Z Z.heap SR "DELIVERED" "Lcom/example/muster/muster/SendResult;" (.ref dl)) (Ed : Exa Z Z.heap dl SR) (Fd : Fld Z Z.heap dl SR "error" "Ljava/lang/String;" .null) : MetL l Z x code maxLocals ret room_1 Z.heap [] #[.int i0, .int i1, .int i2, .int i3] (fun v h' G => v = some (.int 1)) := by
  refine MetL.mk (L := #[.val (.int i0), .val (.int i1), .val (.int i2), .val (.int i3), .unset, .unset, .unset, .unset, .unset, .unset, .unset, .unset, .unset]) (plainFor_of_name (by first | (simp [plainName, overriddenIn, x]; done) | decide +kernel)) (fun m => by first | (simp [entryFrame, mkF, argsToLocals, Value.category, maxLocals]; done) | rfl) (fun K => ?_)
  show Go _ _ K "com/example/muster/muster/SendResultDeliveredPinLaw" "law" _ 13 _ ({ frames := 7, cells := 32, slots := 2176, locals := 176 } : Room) _ _ _ _ _ 0 _ _
  refine go_iloadN (v := i0) (q := 1) at_0 rfl rfl ?_
  refine go_iconst (x := (1 : Int32)) (q := 2) at_1 rfl rfl ?_
  refine go_iand (r := i0 &&& (1 : Int32)) (q := 3) at_2 rfl rfl ?_
  by_cases q1 : i0 &&& 1 = 0
  · refine go_ifY (q := 10) at_3 q1 (by decide) (by decide) ?_
    refine go_iconst (x := (0 : Int32)) (q := 11) at_10 rfl rfl ?_
    refine go_istore (L' := #[.val (.int i0), .val (.int i1), .val (.int i2), .val (.int i3), .val (.int (0 : Int32)), .unset, .unset, .unset, .unset, .unset, .unset, .unset, .unset]) (q := 13) at_11 rfl rfl ?_
    refine go_iloadN (v := i0) (q := 14) at_13 rfl rfl ?_
    refine go_iconst (x := (2 : Int32)) (q := 15) at_14 rfl rfl ?_
    refine go_iand (r := i0 &&& (2 : Int32)) (q := 16) at_15 rfl rfl ?_
    by_cases q2 : i0 &&& 2 = 0
    · refine go_ifY (q := 23) at_16 q2 (by decide) (by decide) ?_
      refine go_iconst (x := (0 : Int32)) (q := 24) at_23 rfl rfl ?_
      refine go_istore (L' := #[.val (.int i0), .val (.int i1), .val (.int i2), .val (.int i3), .val (.int (0 : Int32)), .val (.int (0 : Int32)), .unset, .unset, .unset, .unset, .unset, .unset, .unset]) (q := 26) at_24 rfl rfl ?_
      exact j26_0 H Sd Ed Fd (by decide)
    · refine go_ifN (q := 19) at_16 q2 rfl ?_
      refine go_iconst (x := (1 : Int32)) (q := 20) at_19 rfl rfl ?_
      refine go_goto (q := 24) at_20 (by decide) (by decide) ?_
      refine go_istore (L' := #[.val (.int i0), .val (.int i1), .val (.int i2), .val (.int i3), .val (.int (0 : Int32)), .val (.int (1 : Int32)), .unset, .unset, .unset, .unset, .unset, .unset, .unset]) (q := 26) at_24 rfl rfl ?_
      exact j26_1 H Sd Ed Fd (by decide)
  · refine go_ifN (q := 6) at_3 q1 rfl ?_
    refine go_iconst (x := (1 : Int32)) (q := 7) at_6 rfl rfl ?_
    refine go_goto (q := 11) at_7 (by decide) (by decide) ?_
    refine go_istore (L' := #[.val (.int i0), .val (.int i1), .val (.int i2), .val (.int i3), .val (.int (1 : Int32)), .unset, .unset, .unset, .unset, .unset, .unset, .unset, .unset]) (q := 13) at_11 rfl rfl ?_
    refine go_iloadN (v := i0) (q := 14) at_13 rfl rfl ?_
    refine go_iconst (x := (2 : Int32)) (q := 15) at_14 rfl rfl ?_
    refine go_iand (r := i0 &&& (2 : Int32)) (q := 16) at_15 rfl rfl ?_
    by_cases q2 : i0 &&& 2 = 0
    · refine go_ifY (q := 23) at_16 q2 (by decide) (by decide) ?_
      refine go_iconst (x := (0 : Int32)) (q := 24) at_23 rfl rfl ?_
      refine go_istore (L' := #[.val (.int i0), .val (.int i1), .val (.int i2), .val (.int i3), .val (.int (1 : Int32)), .val (.int (0 : Int32)), .unset, .unset, .unset, .unset, .unset, .unset, .unset]) (q := 26) at_24 rfl rfl ?_
      exact j26_0 H Sd Ed Fd (by decide)
    · refine go_ifN (q := 19) at_16 q2 rfl ?_
      refine go_iconst (x := (1 : Int32)) (q := 20) at_19 rfl rfl ?_
      refine go_goto (q := 24) at_20 (by decide) (by decide) ?_
      refine go_istore (L' := #[.val (.int i0), .val (.int i1), .val (.int i2), .val (.int i3), .val (.int (1 : Int32)), .val (.int (1 : Int32)), .unset, .unset, .unset, .unset, .unset, .unset, .unset]) (q := 26) at_24 rfl rfl ?_
      exact j26_1 H Sd Ed Fd (by decide)
set_option maxRecDepth 65536 in
set_option maxHeartbeats 4000000 in
theorem comes_1 {Post : Tables → Env → Array Value → State → Outcome → State → Prop} (hpost : ∀ tb e args s v u, (limb_1_1.after args s (.returned v) u = true ∧ limb_1_2.after args s (.returned v) u = true ∧ True) → Jvm.D.FramedW s (.returned v) u (Jvm.fieldLocs frame_1_writes args s ++ Jvm.arrayLocs frame_1_arrays args s ++ Jvm.staticLocs frame_1_statics s) 32 2176 → Post tb e args s (.returned v) u) :
    Jvm.D.ArmFor flags0 classFile x code maxLocals ret World_1 tables_1 room_1 Calls_1 rest_1 Pre_1 Post := by
  intro l hfl _ _ p e ha hc hk s m args below hf hA hF happ hP
  obtain ⟨hcalls, hrest, hpre⟩ := hP
  obtain ⟨-, -, -, hnamed, -, -, -, hat⟩ := (Spec.applies_iff hf).mp happ
  obtain ⟨hg, hn⟩ := and_e (Cond.before_iff.mp (show (Jvm.Cond.and given_1 narrow_1).before args s = true from hpre))
  obtain ⟨g0, r0⟩ := and_e hg
  obtain ⟨g1, r1⟩ := and_e r0
  obtain ⟨g2, r2⟩ := and_e r1
  obtain ⟨g3, r3⟩ := and_e r2
  obtain ⟨w0, w1, w2, w3, rfl⟩ : ∃ w0 w1 w2 w3 : Value, args = #[w0, w1, w2, w3] := by
    have hs : args.size = 4 := by simpa [Cond.value, given_1] using g0
    obtain ⟨L⟩ := args
    match L, hs with
    | [w0, w1, w2, w3], _ => exact ⟨w0, w1, w2, w3, rfl⟩
  have hw := fun d (hd : d ∈ tables_1) => atoms_spec (ws := Jvm.Cond.code x code maxLocals ret :: tables_1) hat d (List.mem_cons_of_mem _ hd)
  obtain ⟨hsets, hown0⟩ := atoms_of _ (rest_1_c_eq ▸ (show rest_1_c.before _ s = true from hrest))
  have hfit : Fit s := fun {y c} hc i hi => by
    obtain ⟨ha, rfl⟩ := Array.getElem?_eq_some_iff.mp hc
    have q := List.all_eq_true.mp ((Array.all_eq_true_iff_forall_mem.mp hF) _ (Array.getElem_mem ha)) i (List.mem_range.mpr hi)
    simpa [Array.getElem?_eq_getElem hi] using q
  obtain ⟨i0, e0⟩ := is_v g1
  obtain rfl : w0 = (.int i0) := Option.some.inj e0
  obtain ⟨i1, e1⟩ := is_v g2
  obtain rfl : w1 = (.int i1) := Option.some.inj e1
  obtain ⟨i2, e2⟩ := is_v g3
  obtain rfl : w2 = (.int i2) := Option.some.inj e2
  obtain ⟨i3, e3⟩ := is_v r3
  obtain rfl : w3 = (.int i3) := Option.some.inj e3
  obtain ⟨cz, ecz⟩ := is_v (Cond.before_iff.mp (hsets _ (List.mem_of_getElem? (i := 1) rfl)))
  have Scz : Sta s s.heap "java/lang/String" "COMPACT_STRINGS" "Z" (.int cz) := Sta.start ecz (Or.inl (hsets _ (List.mem_of_getElem? (i := 0) rfl)))
  have ncz : ¬ cz = (0 : Int32) := gotF (Cond.eq_ints ecz (Term.int_eval (0))) (not_v (Cond.before_iff.mp (hsets _ (List.mem_of_getElem? (i := 2) rfl))))
  obtain ⟨fm, efm, rfm⟩ := isR_v (Cond.before_iff.mp (hsets _ (List.mem_of_getElem? (i := 8) rfl)))
  have Sfm : Sta s s.heap "jdk/internal/util/Preconditions" "SIOOBE_FORMATTER" "Ljava/util/function/BiFunction;" fm := Sta.start efm (Or.inl (hsets _ (List.mem_of_getElem? (i := 7) rfl)))
  have hS : ∀ d ∈ Bundle.stringAtoms, d.before #[.int i0, .int i1, .int i2, .int i3] s = true := by
    intro d hd
    simp only [Bundle.stringAtoms, List.mem_cons, List.not_mem_nil, or_false] at hd
    rcases hd with rfl | rfl | rfl | rfl | rfl | rfl | rfl
    · exact hw _ (List.mem_of_getElem? (i := 4) rfl)
    · exact hw _ (List.mem_of_getElem? (i := 12) rfl)
    · exact hw _ (List.mem_of_getElem? (i := 16) rfl)
    · exact hw _ (List.mem_of_getElem? (i := 25) rfl)
    · exact hw _ (List.mem_of_getElem? (i := 27) rfl)
    · exact hw _ (List.mem_of_getElem? (i := 59) rfl)
    · exact hw _ (List.mem_of_getElem? (i := 60) rfl)
  have hE : EW s #[.int i0, .int i1, .int i2, .int i3] consts_1 := (EW.cons (hw _ (List.mem_of_getElem? (i := 58) rfl)) (by decide) (EW.cons (hw _ (List.mem_of_getElem? (i := 89) rfl)) (by decide) EW.nil))
  have H : Wd s #[.int i0, .int i1, .int i2, .int i3] := ⟨hw, hE, hS, ⟨cz, Scz, ncz⟩, ⟨fm, Sfm, rfm⟩, hsets⟩
  have hC : CHv s consts_1 s.vm s.heap := CHv.start hE (fun q hq => hcalls.1 q hq) (Cond.before_iff.mpr (Cond.before_iff.mp (hsets _ (List.mem_of_getElem? (i := 2) rfl)))) (hw _ (List.mem_of_getElem? (i := 16) rfl)) (hw _ (List.mem_of_getElem? (i := 12) rfl))
  obtain ⟨n1, n2⟩ := and_e hn
  obtain ⟨dl, c9, cell9, k9, ed, -⟩ := Cond.exactly_spec (Cond.before_iff.mpr n1)
  have Ed := Exa.start ed n1
  have Sd : Sta s s.heap "com/example/muster/muster/SendResult" "DELIVERED" "Lcom/example/muster/muster/SendResult;" (.ref dl) := Sta.start ed (Or.inr ⟨hw _ (List.mem_of_getElem? (i := 30) rfl), hw _ (List.mem_of_getElem? (i := 71) rfl)⟩)
  have Fd : Fld s s.heap dl "com/example/muster/muster/SendResult" "error" "Ljava/lang/String;" .null := Fld.start (fnull ed n2)
  obtain ⟨n, o, h1, h2, h3, v, L, G, rfl, hq, N, -, -, -, hE2⟩ := rm_law (l := l) H Sd Ed Fd p e ha hc hk s m _ below hf ((Spec.applies_iff_loose hf).mp happ).1 ⟨rfl, State.Warmed39.refl s, rfl, hC, (fun _ q => nomatch q), Old.start s⟩ trivial
  subst hq
  refine ⟨n, _, h1, h2, h3, hpost _ _ _ _ _ _ ⟨Cond.after_iff.mpr rfl, Cond.after_iff.mpr (eq_i res_at (Term.int_eval (1)) rfl), trivial⟩ ⟨hE2.1, hE2.2.1, hE2.2.2.1, (hE2.2.2.2.sift fun y hy => Or.inr (N y hy)).mono (by decide) (by decide)⟩⟩
end Own
end Jvm.Pilot.@@N@@
namespace Jvm.Pilot.@@N@@
theorem main_1_1 : Claimed_1_1 := Own.comes_1 fun _ _ _ _ _ _ h hF => ⟨h.1, hF⟩
theorem main_1_2 : Claimed_1_2 := Own.comes_1 fun _ _ _ _ _ _ h hF => ⟨h.2.1, hF⟩
end Jvm.Pilot.@@N@@
namespace Jvm.Pilot.@@N@@
open Jvm Jvm.ClassFile Sem Op Lib Jvm.Free Jvm.Stand Jvm.Pilot.@@N@@.Jvm.D
/-! MADE BY PROGRAM (witnessworld.py) out of the Statement's table words and the real class files: 22 classes; the members and pool entries that the words name. The judged class is class 1, her method 1. -/
namespace start1
open Jvm.ClassFile
def u (s : String) : CpInfo := .utf8 (stringToUtf16 s)
/-- a pool by its gaps: so many unusable entries, then the entry; so many at the end -/
def gap : Nat → List CpInfo → List CpInfo
  | 0, r => r
  | n + 1, r => .unusable :: gap n r
def poolList (es : List (Nat × CpInfo)) (last : Nat) : List CpInfo := es.foldr (fun e r => gap e.1 (e.2 :: r)) (gap last [])
def pool (es : List (Nat × CpInfo)) (last : Nat) : Array CpInfo := ⟨poolList es last⟩
def fileOf (pool : Array CpInfo) (this : Nat) (attrs : Array Attribute := #[]) (ms : Array MethodInfo := #[]) (fl : Nat := 33) (sup : Nat := 0) (ifs : Array Nat := #[]) (fds : Array FieldInfo := #[]) : ClassFile where
  minorVersion := 0
  majorVersion := 65
  constantPool := pool
  accessFlags := fl
  thisClass := this
  superClass := sup
  interfaces := ifs
  fields := fds
  methods := ms
  attributes := attrs
def plain (name : String) (sup : Option ClassId) : Class where
  name := name
  kind := .ordinary
  loader := none
  accessFlags := 33
  super := sup
  interfaces := #[]
  cf := none
  fields := #[]
  methods := #[]
  instanceTypes := #[]
  staticTypes := #[]
  resolved := #[]
  callSites := []
  init := .initialized
  statics := none
  mirror := none

def pool0 : Array CpInfo := pool [(5, u "<init>"), (0, u "()V"), (1, .class_ 10), (1, u "java/lang/Object")] 113

def k0c0 : Code := { maxStack := 0, maxLocals := 1, code := object_method_1_code, exceptionTable := #[], attributes := #[] }
def k0m0 : Method := { name := "<init>", desc := "()V", sig := { parameters := [], returnType := none }, accessFlags := 1, code := some k0c0 }
/-- java/lang/Object -/
def k0 : Class := { plain "java/lang/Object" none with
  accessFlags := 33
  interfaces := #[]
  cf := some (fileOf pool0 8 #[] #[{ accessFlags := 1, nameIndex := 5, descriptorIndex := 6, attributes := #[] }] 33 0 #[] #[])
  fields := #[]
  methods := #[k0m0]
  instanceTypes := #[]
  staticTypes := #[]
  resolved := Array.replicate 124 none
  statics := none }

def pool1 : Array CpInfo := pool [(2, .class_ 4), (1, u "java/lang/Object"), (0, u "<init>"), (0, u "()V"), (0, .integer 2147483647), (0, .class_ 9), (0, u "java/lang/String"), (0, .methodref 8 11), (0, .nameAndType 5 12), (0, u "([C)V"), (0, .methodref 8 14), (0, .nameAndType 15 16), (0, u "valueOf"), (0, u "(C)Ljava/lang/String;"), (0, .class_ 18), (0, u "com/example/muster/muster/SendResult"), (0, .methodref 17 20), (0, .nameAndType 5 21), (0, u "(Ljava/lang/String;Z)V"), (0, .methodref 17 23), (0, .nameAndType 24 25), (0, u "delivered"), (0, u "()Z"), (0, .methodref 17 27), (0, .nameAndType 28 29), (0, u "error"), (0, u "()Ljava/lang/String;"), (0, .methodref 17 31), (0, .nameAndType 32 33), (0, u "failed"), (0, u "(Ljava/lang/String;)Lcom/example/muster/muster/SendResult;"), (0, .methodref 17 35), (0, .nameAndType 36 33), (0, u "unreachable"), (0, .fieldref 17 38), (0, .nameAndType 39 40), (0, u "DELIVERED"), (0, u "Lcom/example/muster/muster/SendResult;"), (0, .class_ 42), (0, u "com/example/muster/muster/SendResultDeliveredPinLaw"), (2, u "law"), (0, u "(IIII)Z")] 5

def k1m0 : Method := { name := "<init>", desc := "()V", sig := { parameters := [], returnType := none }, accessFlags := 1, code := none }
def k1c1 : Code := { maxStack := 4, maxLocals := 13, code := code, exceptionTable := #[], attributes := #[] }
def k1m1 : Method := { name := "law", desc := "(IIII)Z", sig := { parameters := [.int, .int, .int, .int], returnType := some .boolean }, accessFlags := 9, code := some k1c1 }
/-- com/example/muster/muster/SendResultDeliveredPinLaw -/
def k1 : Class := { plain "com/example/muster/muster/SendResultDeliveredPinLaw" (some 0) with
  accessFlags := 49
  interfaces := #[]
  cf := some (fileOf pool1 41 #[] #[{ accessFlags := 1, nameIndex := 5, descriptorIndex := 6, attributes := #[] }, { accessFlags := 9, nameIndex := 45, descriptorIndex := 46, attributes := #[] }] 49 2 #[] #[])
  fields := #[]
  methods := #[k1m0, k1m1]
  instanceTypes := #[]
  staticTypes := #[]
  resolved := Array.replicate 52 none
  statics := none }

def pool2 : Array CpInfo := pool [(1, .class_ 2), (0, u "java/io/Serializable"), (0, .class_ 4), (0, u "java/lang/Object")] 2

/-- java/io/Serializable -/
def k2 : Class := { plain "java/io/Serializable" (some 0) with
  accessFlags := 1537
  interfaces := #[]
  cf := some (fileOf pool2 1 #[] #[] 1537 3 #[] #[])
  fields := #[]
  methods := #[]
  instanceTypes := #[]
  staticTypes := #[]
  resolved := Array.replicate 7 none
  statics := none }

def pool3 : Array CpInfo := pool [(1, .class_ 2), (0, u "java/lang/Comparable"), (0, .class_ 4), (0, u "java/lang/Object")] 7

/-- java/lang/Comparable -/
def k3 : Class := { plain "java/lang/Comparable" (some 0) with
  accessFlags := 1537
  interfaces := #[]
  cf := some (fileOf pool3 1 #[] #[] 1537 3 #[] #[])
  fields := #[]
  methods := #[]
  instanceTypes := #[]
  staticTypes := #[]
  resolved := Array.replicate 12 none
  statics := none }

def pool4 : Array CpInfo := pool [(2, .class_ 4), (1, u "java/lang/CharSequence"), (42, .class_ 48), (0, u "java/lang/CharSequence$1CodePointIterator"), (10, .class_ 60), (0, u "java/lang/CharSequence$1CharIterator"), (5, .class_ 67), (0, u "java/lang/Object")] 63

/-- java/lang/CharSequence -/
def k4 : Class := { plain "java/lang/CharSequence" (some 0) with
  accessFlags := 1537
  interfaces := #[]
  cf := some (fileOf pool4 2 #[.nestMembers #[47, 59]] #[] 1537 66 #[] #[])
  fields := #[]
  methods := #[]
  instanceTypes := #[]
  staticTypes := #[]
  resolved := Array.replicate 131 none
  statics := none }

def pool5 : Array CpInfo := pool [(1, .class_ 2), (0, u "java/lang/constant/Constable"), (0, .class_ 4), (0, u "java/lang/Object")] 6

/-- java/lang/constant/Constable -/
def k5 : Class := { plain "java/lang/constant/Constable" (some 0) with
  accessFlags := 1537
  interfaces := #[]
  cf := some (fileOf pool5 1 #[] #[] 1537 3 #[] #[])
  fields := #[]
  methods := #[]
  instanceTypes := #[]
  staticTypes := #[]
  resolved := Array.replicate 11 none
  statics := none }

def pool6 : Array CpInfo := pool [(1, .class_ 2), (0, u "java/lang/constant/ConstantDesc"), (0, .class_ 4), (0, u "java/lang/Object")] 32

/-- java/lang/constant/ConstantDesc -/
def k6 : Class := { plain "java/lang/constant/ConstantDesc" (some 0) with
  accessFlags := 1537
  interfaces := #[]
  cf := some (fileOf pool6 1 #[] #[] 1537 3 #[] #[])
  fields := #[]
  methods := #[]
  instanceTypes := #[]
  staticTypes := #[]
  resolved := Array.replicate 37 none
  statics := none }

def pool7 : Array CpInfo := pool [(1, .methodref 2 3), (0, .class_ 4), (0, .nameAndType 5 6), (0, u "java/lang/Object"), (0, u "<init>"), (0, u "()V"), (0, .string 8), (0, u ""), (0, .fieldref 10 11), (0, .class_ 12), (0, .nameAndType 13 14), (0, u "java/lang/String"), (0, u "value"), (0, u "[B"), (0, .fieldref 10 16), (0, .nameAndType 17 18), (0, u "coder"), (0, u "B"), (2, u "hash"), (0, u "I"), (2, u "hashIsZero"), (0, u "Z"), (0, .methodref 10 28), (0, .nameAndType 5 29), (0, u "([CIILjava/lang/Void;)V"), (8, .fieldref 10 39), (0, .nameAndType 40 26), (0, u "COMPACT_STRINGS"), (1, .class_ 44), (1, u "java/lang/StringUTF16"), (0, u "compress"), (1, .methodref 42 48), (0, .nameAndType 49 50), (0, u "coderFromArrayLen"), (0, u "([BI)B"), (2, u "toBytes"), (53, .class_ 109), (1, u "java/lang/StringLatin1"), (67, .methodref 42 178), (0, .nameAndType 45 179), (0, u "([CII)[B"), (29, .methodref 10 210), (0, .nameAndType 5 211), (0, u "([BB)V"), (157, u "(C)Z"), (205, .class_ 576), (0, u "java/lang/CharSequence"), (22, u "CASE_INSENSITIVE_ORDER"), (0, u "Ljava/util/Comparator;"), (181, u "valueOf"), (0, u "(C)Ljava/lang/String;"), (226, u "([C)V"), (4, .methodref 107 1016), (0, .nameAndType 1017 369), (0, u "canEncode"), (0, .methodref 107 1019), (0, .nameAndType 53 1020), (0, u "(C)[B"), (80, u "serialPersistentFields"), (0, u "[Ljava/io/ObjectStreamField;"), (0, .class_ 1104), (0, u "java/lang/String$CaseInsensitiveComparator"), (1, .class_ 1107), (0, u "java/io/Serializable"), (0, .class_ 1109), (0, u "java/lang/Comparable"), (0, .class_ 1111), (0, u "java/lang/constant/Constable"), (0, .class_ 1113), (0, u "java/lang/constant/ConstantDesc"), (2, u "serialVersionUID"), (0, u "J"), (3, u "REPL"), (0, u "C"), (2, u "LATIN1"), (1, u "UTF16")] 323

def k7m0 : Method := { name := "<init>", desc := "()V", sig := { parameters := [], returnType := none }, accessFlags := 1, code := none }
def k7c1 : Code := { maxStack := 5, maxLocals := 2, code := jdk_42_method_3_code, exceptionTable := #[], attributes := #[] }
def k7m1 : Method := { name := "<init>", desc := "([C)V", sig := { parameters := [(.array .char)], returnType := none }, accessFlags := 1, code := some k7c1 }
def k7c2 : Code := { maxStack := 4, maxLocals := 1, code := jdk_42_method_139_code, exceptionTable := #[], attributes := #[] }
def k7m2 : Method := { name := "valueOf", desc := "(C)Ljava/lang/String;", sig := { parameters := [.char], returnType := some (.object "java/lang/String") }, accessFlags := 9, code := some k7c2 }
def k7c3 : Code := { maxStack := 4, maxLocals := 6, code := jdk_42_method_149_code, exceptionTable := #[], attributes := #[] }
def k7m3 : Method := { name := "<init>", desc := "([CIILjava/lang/Void;)V", sig := { parameters := [(.array .char), .int, .int, (.object "java/lang/Void")], returnType := none }, accessFlags := 2, code := some k7c3 }
def k7c4 : Code := { maxStack := 2, maxLocals := 3, code := jdk_42_method_151_code, exceptionTable := #[], attributes := #[] }
def k7m4 : Method := { name := "<init>", desc := "([BB)V", sig := { parameters := [(.array .byte), .byte], returnType := none }, accessFlags := 0, code := some k7c4 }
/-- java/lang/String -/
def k7 : Class := { plain "java/lang/String" (some 0) with
  accessFlags := 49
  interfaces := #[2, 3, 4, 5, 6]
  cf := some (fileOf pool7 10 #[.nestMembers #[1103]] #[{ accessFlags := 1, nameIndex := 5, descriptorIndex := 6, attributes := #[] }, { accessFlags := 1, nameIndex := 5, descriptorIndex := 1010, attributes := #[] }, { accessFlags := 9, nameIndex := 782, descriptorIndex := 783, attributes := #[] }, { accessFlags := 2, nameIndex := 5, descriptorIndex := 29, attributes := #[] }, { accessFlags := 0, nameIndex := 5, descriptorIndex := 211, attributes := #[] }] 49 2 #[1106, 1108, 575, 1110, 1112] #[{ accessFlags := 18, nameIndex := 13, descriptorIndex := 14, attributes := #[] }, { accessFlags := 18, nameIndex := 17, descriptorIndex := 18, attributes := #[] }, { accessFlags := 2, nameIndex := 21, descriptorIndex := 22, attributes := #[] }, { accessFlags := 2, nameIndex := 25, descriptorIndex := 26, attributes := #[] }, { accessFlags := 26, nameIndex := 1116, descriptorIndex := 1117, attributes := #[] }, { accessFlags := 24, nameIndex := 40, descriptorIndex := 26, attributes := #[] }, { accessFlags := 26, nameIndex := 1101, descriptorIndex := 1102, attributes := #[] }, { accessFlags := 26, nameIndex := 1121, descriptorIndex := 1122, attributes := #[] }, { accessFlags := 25, nameIndex := 599, descriptorIndex := 600, attributes := #[] }, { accessFlags := 24, nameIndex := 1125, descriptorIndex := 18, attributes := #[] }, { accessFlags := 24, nameIndex := 1127, descriptorIndex := 18, attributes := #[] }])
  fields := #[{ name := "value", type := (.array .byte), accessFlags := 18, slot := 0, constantValue := 0 }, { name := "coder", type := .byte, accessFlags := 18, slot := 1, constantValue := 0 }, { name := "hash", type := .int, accessFlags := 2, slot := 2, constantValue := 0 }, { name := "hashIsZero", type := .boolean, accessFlags := 2, slot := 3, constantValue := 0 }, { name := "serialVersionUID", type := .long, accessFlags := 26, slot := 0, constantValue := 0 }, { name := "COMPACT_STRINGS", type := .boolean, accessFlags := 24, slot := 1, constantValue := 0 }, { name := "serialPersistentFields", type := (.array (.object "java/io/ObjectStreamField")), accessFlags := 26, slot := 2, constantValue := 0 }, { name := "REPL", type := .char, accessFlags := 26, slot := 3, constantValue := 0 }, { name := "CASE_INSENSITIVE_ORDER", type := (.object "java/util/Comparator"), accessFlags := 25, slot := 4, constantValue := 0 }, { name := "LATIN1", type := .byte, accessFlags := 24, slot := 5, constantValue := 0 }, { name := "UTF16", type := .byte, accessFlags := 24, slot := 6, constantValue := 0 }]
  methods := #[k7m0, k7m1, k7m2, k7m3, k7m4]
  instanceTypes := #[(.array .byte), .byte, .int, .boolean]
  staticTypes := #[.long, .boolean, (.array (.object "java/io/ObjectStreamField")), .char, (.object "java/util/Comparator"), .byte, .byte]
  resolved := Array.replicate 1451 none
  statics := some 0 }

def pool8 : Array CpInfo := pool [(4, .class_ 6), (1, u "java/lang/Object"), (0, u "<init>"), (0, u "()V"), (5, .class_ 16), (1, u "java/lang/StringLatin1"), (73, u "canEncode"), (14, u "(C)Z"), (15, u "$assertionsDisabled"), (0, u "Z"), (98, .class_ 223), (1, u "java/lang/StringLatin1$LinesSpliterator"), (156, u "toBytes"), (1, u "(C)[B"), (7, .class_ 391), (0, u "java/lang/StringLatin1$CharsSpliterator")] 3

def k8m0 : Method := { name := "<init>", desc := "()V", sig := { parameters := [], returnType := none }, accessFlags := 0, code := none }
def k8c1 : Code := { maxStack := 2, maxLocals := 1, code := jdk_43_method_3_code, exceptionTable := #[], attributes := #[] }
def k8m1 : Method := { name := "canEncode", desc := "(C)Z", sig := { parameters := [.char], returnType := some .boolean }, accessFlags := 9, code := some k8c1 }
def k8c2 : Code := { maxStack := 4, maxLocals := 1, code := jdk_43_method_46_code, exceptionTable := #[], attributes := #[] }
def k8m2 : Method := { name := "toBytes", desc := "(C)[B", sig := { parameters := [.char], returnType := some (.array .byte) }, accessFlags := 9, code := some k8c2 }
/-- java/lang/StringLatin1 -/
def k8 : Class := { plain "java/lang/StringLatin1" (some 0) with
  accessFlags := 48
  interfaces := #[]
  cf := some (fileOf pool8 14 #[.nestMembers #[390, 221]] #[{ accessFlags := 0, nameIndex := 7, descriptorIndex := 8, attributes := #[] }, { accessFlags := 9, nameIndex := 90, descriptorIndex := 105, attributes := #[] }, { accessFlags := 9, nameIndex := 380, descriptorIndex := 382, attributes := #[] }] 48 4 #[] #[{ accessFlags := 4120, nameIndex := 121, descriptorIndex := 122, attributes := #[] }])
  fields := #[{ name := "$assertionsDisabled", type := .boolean, accessFlags := 4120, slot := 0, constantValue := 0 }]
  methods := #[k8m0, k8m1, k8m2]
  instanceTypes := #[]
  staticTypes := #[.boolean]
  resolved := Array.replicate 395 none
  statics := none }

def pool9 : Array CpInfo := pool [(1, .methodref 2 3), (0, .class_ 4), (0, .nameAndType 5 6), (0, u "java/lang/Object"), (0, u "<init>"), (0, u "()V"), (0, .class_ 8), (0, u "java/lang/Record")] 13

def k9c0 : Code := { maxStack := 1, maxLocals := 1, code := jdk_30_method_1_code, exceptionTable := #[], attributes := #[] }
def k9m0 : Method := { name := "<init>", desc := "()V", sig := { parameters := [], returnType := none }, accessFlags := 4, code := some k9c0 }
/-- java/lang/Record -/
def k9 : Class := { plain "java/lang/Record" (some 0) with
  accessFlags := 1057
  interfaces := #[]
  cf := some (fileOf pool9 7 #[] #[{ accessFlags := 4, nameIndex := 5, descriptorIndex := 6, attributes := #[] }] 1057 2 #[] #[])
  fields := #[]
  methods := #[k9m0]
  instanceTypes := #[]
  staticTypes := #[]
  resolved := Array.replicate 22 none
  statics := none }

def pool10 : Array CpInfo := pool [(1, .methodref 2 3), (0, .class_ 4), (0, .nameAndType 5 6), (0, u "java/lang/Record"), (0, u "<init>"), (0, u "()V"), (0, .fieldref 8 9), (0, .class_ 10), (0, .nameAndType 11 12), (0, u "com/example/muster/muster/SendResult"), (0, u "error"), (0, u "Ljava/lang/String;"), (0, .fieldref 8 14), (0, .nameAndType 15 16), (0, u "brokerUnreachable"), (0, u "Z"), (0, .string 11), (0, .methodref 19 20), (0, .class_ 21), (0, .nameAndType 22 23), (0, u "java/util/Objects"), (0, u "requireNonNull"), (0, u "(Ljava/lang/Object;Ljava/lang/String;)Ljava/lang/Object;"), (0, .class_ 25), (0, u "java/lang/String"), (0, .methodref 8 27), (0, .nameAndType 5 28), (0, u "(Ljava/lang/String;Z)V"), (14, u "DELIVERED"), (0, u "Lcom/example/muster/muster/SendResult;"), (3, u "failed"), (0, u "(Ljava/lang/String;)Lcom/example/muster/muster/SendResult;"), (0, u "unreachable"), (0, u "delivered"), (0, u "()Z"), (1, u "()Ljava/lang/String;")] 24

def k10c0 : Code := { maxStack := 2, maxLocals := 3, code := prog_26_method_1_code, exceptionTable := #[], attributes := #[] }
def k10m0 : Method := { name := "<init>", desc := "(Ljava/lang/String;Z)V", sig := { parameters := [(.object "java/lang/String"), .boolean], returnType := none }, accessFlags := 1, code := some k10c0 }
def k10c1 : Code := { maxStack := 4, maxLocals := 1, code := prog_26_method_2_code, exceptionTable := #[], attributes := #[] }
def k10m1 : Method := { name := "failed", desc := "(Ljava/lang/String;)Lcom/example/muster/muster/SendResult;", sig := { parameters := [(.object "java/lang/String")], returnType := some (.object "com/example/muster/muster/SendResult") }, accessFlags := 9, code := some k10c1 }
def k10c2 : Code := { maxStack := 4, maxLocals := 1, code := prog_26_method_3_code, exceptionTable := #[], attributes := #[] }
def k10m2 : Method := { name := "unreachable", desc := "(Ljava/lang/String;)Lcom/example/muster/muster/SendResult;", sig := { parameters := [(.object "java/lang/String")], returnType := some (.object "com/example/muster/muster/SendResult") }, accessFlags := 9, code := some k10c2 }
def k10c3 : Code := { maxStack := 1, maxLocals := 1, code := prog_26_method_4_code, exceptionTable := #[], attributes := #[] }
def k10m3 : Method := { name := "delivered", desc := "()Z", sig := { parameters := [], returnType := some .boolean }, accessFlags := 1, code := some k10c3 }
def k10c4 : Code := { maxStack := 1, maxLocals := 1, code := prog_26_method_8_code, exceptionTable := #[], attributes := #[] }
def k10m4 : Method := { name := "error", desc := "()Ljava/lang/String;", sig := { parameters := [], returnType := some (.object "java/lang/String") }, accessFlags := 1, code := some k10c4 }
/-- com/example/muster/muster/SendResult -/
def k10 : Class := { plain "com/example/muster/muster/SendResult" (some 9) with
  accessFlags := 49
  interfaces := #[]
  cf := some (fileOf pool10 8 #[] #[{ accessFlags := 1, nameIndex := 5, descriptorIndex := 28, attributes := #[] }, { accessFlags := 9, nameIndex := 48, descriptorIndex := 49, attributes := #[] }, { accessFlags := 9, nameIndex := 50, descriptorIndex := 49, attributes := #[] }, { accessFlags := 1, nameIndex := 51, descriptorIndex := 52, attributes := #[] }, { accessFlags := 1, nameIndex := 11, descriptorIndex := 54, attributes := #[] }] 49 2 #[] #[{ accessFlags := 18, nameIndex := 11, descriptorIndex := 12, attributes := #[] }, { accessFlags := 18, nameIndex := 15, descriptorIndex := 16, attributes := #[] }, { accessFlags := 25, nameIndex := 43, descriptorIndex := 44, attributes := #[] }])
  fields := #[{ name := "error", type := (.object "java/lang/String"), accessFlags := 18, slot := 0, constantValue := 0 }, { name := "brokerUnreachable", type := .boolean, accessFlags := 18, slot := 1, constantValue := 0 }, { name := "DELIVERED", type := (.object "com/example/muster/muster/SendResult"), accessFlags := 25, slot := 0, constantValue := 0 }]
  methods := #[k10m0, k10m1, k10m2, k10m3, k10m4]
  instanceTypes := #[(.object "java/lang/String"), .boolean]
  staticTypes := #[(.object "com/example/muster/muster/SendResult")]
  resolved := Array.replicate 79 none
  statics := some 1 }

def pool11 : Array CpInfo := pool [(2, .class_ 4), (1, u "java/lang/Object"), (0, u "<init>"), (0, u "()V"), (35, .class_ 44), (1, u "java/util/Objects"), (0, u "requireNonNull"), (48, u "(Ljava/lang/Object;Ljava/lang/String;)Ljava/lang/Object;")] 89

def k11m0 : Method := { name := "<init>", desc := "()V", sig := { parameters := [], returnType := none }, accessFlags := 2, code := none }
def k11c1 : Code := { maxStack := 3, maxLocals := 2, code := jdk_31_method_11_code, exceptionTable := #[], attributes := #[] }
def k11m1 : Method := { name := "requireNonNull", desc := "(Ljava/lang/Object;Ljava/lang/String;)Ljava/lang/Object;", sig := { parameters := [(.object "java/lang/Object"), (.object "java/lang/String")], returnType := some (.object "java/lang/Object") }, accessFlags := 9, code := some k11c1 }
/-- java/util/Objects -/
def k11 : Class := { plain "java/util/Objects" (some 0) with
  accessFlags := 49
  interfaces := #[]
  cf := some (fileOf pool11 42 #[] #[{ accessFlags := 2, nameIndex := 5, descriptorIndex := 6, attributes := #[] }, { accessFlags := 9, nameIndex := 45, descriptorIndex := 94, attributes := #[] }] 49 2 #[] #[])
  fields := #[]
  methods := #[k11m0, k11m1]
  instanceTypes := #[]
  staticTypes := #[]
  resolved := Array.replicate 184 none
  statics := none }

def pool12 : Array CpInfo := pool [(6, .class_ 8), (1, u "java/lang/Object"), (0, u "<init>"), (0, u "()V"), (1, .class_ 14), (1, u "java/lang/StringUTF16"), (31, u "$assertionsDisabled"), (0, u "Z"), (13, u "HI_BYTE_SHIFT"), (0, u "I"), (2, u "LO_BYTE_SHIFT"), (49, .methodref 12 116), (0, .nameAndType 117 118), (0, u "compress"), (0, u "([CI[BII)I"), (3, u "([CII)[B"), (138, u "coderFromArrayLen"), (0, u "([BI)B"), (106, .class_ 371), (1, u "java/lang/StringUTF16$LinesSpliterator"), (58, u "MAX_LENGTH"), (196, .class_ 628), (0, u "java/lang/StringUTF16$CodePointsSpliterator"), (0, .class_ 630), (0, u "java/lang/StringUTF16$CharsSpliterator")] 4

def k12m0 : Method := { name := "<init>", desc := "()V", sig := { parameters := [], returnType := none }, accessFlags := 0, code := none }
def k12c1 : Code := { maxStack := 2, maxLocals := 2, code := jdk_52_method_15_code, exceptionTable := #[], attributes := #[] }
def k12m1 : Method := { name := "coderFromArrayLen", desc := "([BI)B", sig := { parameters := [(.array .byte), .int], returnType := some .byte }, accessFlags := 8, code := some k12c1 }
def k12c2 : Code := { maxStack := 5, maxLocals := 6, code := jdk_52_method_16_code, exceptionTable := #[], attributes := #[] }
def k12m2 : Method := { name := "compress", desc := "([CII)[B", sig := { parameters := [(.array .char), .int, .int], returnType := some (.array .byte) }, accessFlags := 9, code := some k12c2 }
def k12c3 : Code := { maxStack := 3, maxLocals := 7, code := jdk_52_method_21_code, exceptionTable := #[], attributes := #[] }
def k12m3 : Method := { name := "compress", desc := "([CI[BII)I", sig := { parameters := [(.array .char), .int, (.array .byte), .int, .int], returnType := some .int }, accessFlags := 9, code := some k12c3 }
/-- java/lang/StringUTF16 -/
def k12 : Class := { plain "java/lang/StringUTF16" (some 0) with
  accessFlags := 48
  interfaces := #[]
  cf := some (fileOf pool12 12 #[.nestMembers #[627, 629, 369]] #[{ accessFlags := 0, nameIndex := 9, descriptorIndex := 10, attributes := #[] }, { accessFlags := 8, nameIndex := 261, descriptorIndex := 262, attributes := #[] }, { accessFlags := 9, nameIndex := 117, descriptorIndex := 122, attributes := #[] }, { accessFlags := 9, nameIndex := 117, descriptorIndex := 118, attributes := #[] }] 48 6 #[] #[{ accessFlags := 26, nameIndex := 61, descriptorIndex := 62, attributes := #[] }, { accessFlags := 26, nameIndex := 65, descriptorIndex := 62, attributes := #[] }, { accessFlags := 24, nameIndex := 430, descriptorIndex := 62, attributes := #[] }, { accessFlags := 4120, nameIndex := 46, descriptorIndex := 47, attributes := #[] }])
  fields := #[{ name := "HI_BYTE_SHIFT", type := .int, accessFlags := 26, slot := 0, constantValue := 0 }, { name := "LO_BYTE_SHIFT", type := .int, accessFlags := 26, slot := 1, constantValue := 0 }, { name := "MAX_LENGTH", type := .int, accessFlags := 24, slot := 2, constantValue := 0 }, { name := "$assertionsDisabled", type := .boolean, accessFlags := 4120, slot := 3, constantValue := 0 }]
  methods := #[k12m0, k12m1, k12m2, k12m3]
  instanceTypes := #[]
  staticTypes := #[.int, .int, .int, .boolean]
  resolved := Array.replicate 635 none
  statics := none }

def pool13 : Array CpInfo := pool [(2, .class_ 4), (1, u "java/lang/Object"), (0, u "<init>"), (0, u "()V"), (17, .class_ 26), (1, u "jdk/internal/util/Preconditions"), (28, .class_ 56), (0, u "jdk/internal/util/Preconditions$4"), (57, .class_ 115), (0, u "jdk/internal/util/Preconditions$1"), (7, u "SIOOBE_FORMATTER"), (0, u "Ljava/util/function/BiFunction;"), (0, .class_ 126), (0, u "jdk/internal/util/Preconditions$2"), (3, u "AIOOBE_FORMATTER"), (0, .class_ 132), (0, u "jdk/internal/util/Preconditions$3"), (3, u "IOOBE_FORMATTER")] 57

def k13m0 : Method := { name := "<init>", desc := "()V", sig := { parameters := [], returnType := none }, accessFlags := 1, code := none }
/-- jdk/internal/util/Preconditions -/
def k13 : Class := { plain "jdk/internal/util/Preconditions" (some 0) with
  accessFlags := 33
  interfaces := #[]
  cf := some (fileOf pool13 24 #[.nestMembers #[55, 131, 125, 114]] #[{ accessFlags := 1, nameIndex := 5, descriptorIndex := 6, attributes := #[] }] 33 2 #[] #[{ accessFlags := 25, nameIndex := 123, descriptorIndex := 124, attributes := #[] }, { accessFlags := 25, nameIndex := 130, descriptorIndex := 124, attributes := #[] }, { accessFlags := 25, nameIndex := 136, descriptorIndex := 124, attributes := #[] }])
  fields := #[{ name := "SIOOBE_FORMATTER", type := (.object "java/util/function/BiFunction"), accessFlags := 25, slot := 0, constantValue := 0 }, { name := "AIOOBE_FORMATTER", type := (.object "java/util/function/BiFunction"), accessFlags := 25, slot := 1, constantValue := 0 }, { name := "IOOBE_FORMATTER", type := (.object "java/util/function/BiFunction"), accessFlags := 25, slot := 2, constantValue := 0 }]
  methods := #[k13m0]
  instanceTypes := #[]
  staticTypes := #[(.object "java/util/function/BiFunction"), (.object "java/util/function/BiFunction"), (.object "java/util/function/BiFunction")]
  resolved := Array.replicate 194 none
  statics := some 2 }

def pool14 : Array CpInfo := pool [(9, u "<init>"), (6, .class_ 18), (1, u "java/lang/Object"), (0, u "()V"), (1, .class_ 23), (1, u "jdk/internal/util/ArraysSupport"), (0, u "LOG2_ARRAY_LONG_INDEX_SCALE"), (0, u "I"), (2, u "U"), (0, u "Ljdk/internal/misc/Unsafe;"), (8, u "BIG_ENDIAN"), (0, u "Z"), (8, u "LOG2_BYTE_BIT_SIZE"), (4, u "LOG2_ARRAY_INT_INDEX_SCALE"), (54, u "JLA"), (0, u "Ljdk/internal/access/JavaLangAccess;"), (11, u "LOG2_ARRAY_BOOLEAN_INDEX_SCALE"), (9, u "LOG2_ARRAY_BYTE_INDEX_SCALE"), (5, u "LOG2_ARRAY_CHAR_INDEX_SCALE"), (5, u "LOG2_ARRAY_SHORT_INDEX_SCALE"), (18, u "LOG2_ARRAY_FLOAT_INDEX_SCALE"), (24, u "LOG2_ARRAY_DOUBLE_INDEX_SCALE"), (89, u "T_BOOLEAN"), (2, u "T_CHAR"), (1, u "T_FLOAT"), (1, u "T_DOUBLE"), (1, u "T_BYTE"), (1, u "T_SHORT"), (1, u "T_INT"), (1, u "T_LONG"), (1, u "SOFT_MAX_ARRAY_LENGTH")] 83

def k14m0 : Method := { name := "<init>", desc := "()V", sig := { parameters := [], returnType := none }, accessFlags := 2, code := none }
/-- jdk/internal/util/ArraysSupport -/
def k14 : Class := { plain "jdk/internal/util/ArraysSupport" (some 0) with
  accessFlags := 33
  interfaces := #[]
  cf := some (fileOf pool14 21 #[] #[{ accessFlags := 2, nameIndex := 9, descriptorIndex := 19, attributes := #[] }] 33 16 #[] #[{ accessFlags := 24, nameIndex := 28, descriptorIndex := 29, attributes := #[] }, { accessFlags := 26, nameIndex := 38, descriptorIndex := 39, attributes := #[] }, { accessFlags := 25, nameIndex := 121, descriptorIndex := 25, attributes := #[] }, { accessFlags := 25, nameIndex := 131, descriptorIndex := 25, attributes := #[] }, { accessFlags := 25, nameIndex := 137, descriptorIndex := 25, attributes := #[] }, { accessFlags := 25, nameIndex := 143, descriptorIndex := 25, attributes := #[] }, { accessFlags := 25, nameIndex := 53, descriptorIndex := 25, attributes := #[] }, { accessFlags := 25, nameIndex := 24, descriptorIndex := 25, attributes := #[] }, { accessFlags := 25, nameIndex := 162, descriptorIndex := 25, attributes := #[] }, { accessFlags := 25, nameIndex := 187, descriptorIndex := 25, attributes := #[] }, { accessFlags := 26, nameIndex := 48, descriptorIndex := 25, attributes := #[] }, { accessFlags := 25, nameIndex := 277, descriptorIndex := 25, attributes := #[] }, { accessFlags := 25, nameIndex := 280, descriptorIndex := 25, attributes := #[] }, { accessFlags := 25, nameIndex := 282, descriptorIndex := 25, attributes := #[] }, { accessFlags := 25, nameIndex := 284, descriptorIndex := 25, attributes := #[] }, { accessFlags := 25, nameIndex := 286, descriptorIndex := 25, attributes := #[] }, { accessFlags := 25, nameIndex := 288, descriptorIndex := 25, attributes := #[] }, { accessFlags := 25, nameIndex := 290, descriptorIndex := 25, attributes := #[] }, { accessFlags := 25, nameIndex := 292, descriptorIndex := 25, attributes := #[] }, { accessFlags := 26, nameIndex := 108, descriptorIndex := 109, attributes := #[] }, { accessFlags := 25, nameIndex := 294, descriptorIndex := 25, attributes := #[] }])
  fields := #[{ name := "U", type := (.object "jdk/internal/misc/Unsafe"), accessFlags := 24, slot := 0, constantValue := 0 }, { name := "BIG_ENDIAN", type := .boolean, accessFlags := 26, slot := 1, constantValue := 0 }, { name := "LOG2_ARRAY_BOOLEAN_INDEX_SCALE", type := .int, accessFlags := 25, slot := 2, constantValue := 0 }, { name := "LOG2_ARRAY_BYTE_INDEX_SCALE", type := .int, accessFlags := 25, slot := 3, constantValue := 0 }, { name := "LOG2_ARRAY_CHAR_INDEX_SCALE", type := .int, accessFlags := 25, slot := 4, constantValue := 0 }, { name := "LOG2_ARRAY_SHORT_INDEX_SCALE", type := .int, accessFlags := 25, slot := 5, constantValue := 0 }, { name := "LOG2_ARRAY_INT_INDEX_SCALE", type := .int, accessFlags := 25, slot := 6, constantValue := 0 }, { name := "LOG2_ARRAY_LONG_INDEX_SCALE", type := .int, accessFlags := 25, slot := 7, constantValue := 0 }, { name := "LOG2_ARRAY_FLOAT_INDEX_SCALE", type := .int, accessFlags := 25, slot := 8, constantValue := 0 }, { name := "LOG2_ARRAY_DOUBLE_INDEX_SCALE", type := .int, accessFlags := 25, slot := 9, constantValue := 0 }, { name := "LOG2_BYTE_BIT_SIZE", type := .int, accessFlags := 26, slot := 10, constantValue := 0 }, { name := "T_BOOLEAN", type := .int, accessFlags := 25, slot := 11, constantValue := 0 }, { name := "T_CHAR", type := .int, accessFlags := 25, slot := 12, constantValue := 0 }, { name := "T_FLOAT", type := .int, accessFlags := 25, slot := 13, constantValue := 0 }, { name := "T_DOUBLE", type := .int, accessFlags := 25, slot := 14, constantValue := 0 }, { name := "T_BYTE", type := .int, accessFlags := 25, slot := 15, constantValue := 0 }, { name := "T_SHORT", type := .int, accessFlags := 25, slot := 16, constantValue := 0 }, { name := "T_INT", type := .int, accessFlags := 25, slot := 17, constantValue := 0 }, { name := "T_LONG", type := .int, accessFlags := 25, slot := 18, constantValue := 0 }, { name := "JLA", type := (.object "jdk/internal/access/JavaLangAccess"), accessFlags := 26, slot := 19, constantValue := 0 }, { name := "SOFT_MAX_ARRAY_LENGTH", type := .int, accessFlags := 25, slot := 20, constantValue := 0 }]
  methods := #[k14m0]
  instanceTypes := #[]
  staticTypes := #[(.object "jdk/internal/misc/Unsafe"), .boolean, .int, .int, .int, .int, .int, .int, .int, .int, .int, .int, .int, .int, .int, .int, .int, .int, .int, (.object "jdk/internal/access/JavaLangAccess"), .int]
  resolved := Array.replicate 378 none
  statics := none }

def pool15 : Array CpInfo := pool [(1, u "java/lang/Cloneable"), (0, .class_ 1), (0, u "java/lang/Object"), (0, .class_ 3)] 3

/-- java/lang/Cloneable -/
def k15 : Class := { plain "java/lang/Cloneable" (some 0) with
  accessFlags := 1537
  interfaces := #[]
  cf := some (fileOf pool15 2 #[] #[] 1537 4 #[] #[])
  fields := #[]
  methods := #[]
  instanceTypes := #[]
  staticTypes := #[]
  resolved := Array.replicate 8 none
  statics := none }

/-- the primitive byte -/
def k16 : Class := { plain "byte" none with kind := .primitive 'B', accessFlags := 0x411 }
/-- [B -/
def k17 : Class := { plain "[B" (some 0) with kind := .array 16 .byte, interfaces := #[15, 2], accessFlags := 1041 }

/-- the primitive char -/
def k18 : Class := { plain "char" none with kind := .primitive 'C', accessFlags := 0x411 }
/-- [C -/
def k19 : Class := { plain "[C" (some 0) with kind := .array 18 .char, interfaces := #[15, 2], accessFlags := 1041 }

/-- the primitive int -/
def k20 : Class := { plain "int" none with kind := .primitive 'I', accessFlags := 0x411 }
/-- [I -/
def k21 : Class := { plain "[I" (some 0) with kind := .array 20 .int, interfaces := #[15, 2], accessFlags := 1041 }

def heap : Heap := #[{ cls := 7, slots := #[.long 0, .int 1, .null, .int 0, .null, .int 0, .int 0], vm := .statics 7 },
  { cls := 10, slots := #[.ref 3], vm := .statics 10 },
  { cls := 13, slots := #[.null, .null, .null], vm := .statics 13 },
  { cls := 10, slots := #[.null, .int 0], vm := .none }]
def classes : Array Class := #[k0, k1, k2, k3, k4, k5, k6, k7, k8, k9, k10, k11, k12, k13, k14, k15, k16, k17, k18, k19, k20, k21]
def interned : List (Array UInt16 × Addr) := []
def slotsUsed : Nat := 13
def theMethod : MethodId := ⟨1, 1⟩
def args0 : Array Value := #[.int 3, .int 97, .int 98, .int 2]
def aboutOver (below : List Frame) : State where
  vm := { classes := classes, interned := interned.toArray }
  heap := heap
  slotsUsed := slotsUsed
  threads := #[{ frames := .invoking theMethod args0 :: below }]
def below0 : List Frame := [.native { method := ⟨0, 0⟩, args := #[] }]
def about1 : State := aboutOver below0
def p0 : Program := .bare "" "" ""
def e0 : Env := launch0.env 0 0 0
theorem w_frames : about1.frames = Frame.invoking theMethod args0 :: below0 := rfl
set_option maxRecDepth 65536 in
theorem w_args : argsFit about1.vm theMethod args0 = true := by decide +kernel
set_option maxRecDepth 65536 in
theorem w_heap : heapFits about1 = true := by decide +kernel
set_option maxRecDepth 65536 in
theorem w_runnable : about1.curStatus? = some .runnable := by decide +kernel
set_option maxRecDepth 65536 in
theorem w_alone : about1.alone = true := by decide +kernel
set_option maxRecDepth 65536 in
theorem w_named : about1.methodNamed? x = some theMethod := by decide +kernel
set_option maxRecDepth 65536 in
theorem w_hears : about1.hears theMethod below0 = true := by decide +kernel
set_option maxRecDepth 65536 in
theorem w_ripe : about1.ripe theMethod args0 below0 = true := by decide +kernel
theorem w_running : about1.status = .running := rfl
set_option maxRecDepth 65536 in
theorem w_room : about1.hasRoom e0.platform room_1 = true :=
  launch0.hasRoom_least _ room_1 (by decide +kernel) (by decide +kernel) (by decide +kernel) (by decide +kernel) (by decide +kernel) (by decide +kernel)
theorem allAtoms_all (ts : List Jvm.Cond) (a : Array Jvm.Value) (st : Jvm.State) : (allAtoms ts).before a st = ts.all (fun c => c.before a st) := by
  induction ts with
  | nil => rfl
  | cons c t ih =>
    show (Jvm.Cond.and c (allAtoms t)).before a st = _
    rw [Jvm.Cond.before_and, ih, List.all_cons]
def words1 : List Jvm.Cond := Jvm.Cond.code x code maxLocals ret :: tables_1
/-- a 'code' word, met by the world's own term for the bytes: nothing is compared byte by byte -/
theorem code_word {y : MethodName} {bytes : ByteArray} {mx : Nat} {rt : Option FieldType} {a : Array Value} {s : State} {m : MethodId} {meth : Method} {c : Code} (h1 : s.methodNamed? y = some m) (h2 : s.vm.method? m = some meth) (h3 : meth.code = some c) (h4 : c.code = bytes)
    (h5 : (c.maxLocals == mx && c.exceptionTable.isEmpty && decide (c.maxStack ≤ mostOperands) && decide (meth.sig.returnType = rt) && !meth.locks && decide (parseMethodDescriptor y.desc = some meth.sig)) = true) : (Jvm.Cond.code y bytes mx rt).before a s = true := by
  simp only [Bool.and_eq_true, beq_iff_eq, Bool.not_eq_true', decide_eq_true_eq] at h5
  obtain ⟨⟨⟨⟨⟨g1, g2⟩, g3⟩, g4⟩, g5⟩, g6⟩ := h5
  simp [Cond.before, Cond.holds, Cond.value, h1, h2, h3, h4, g1, g2, g3, g4, g5, g6]
def isCode : Jvm.Cond → Bool
  | .code _ _ _ _ => true
  | _ => false
theorem all_split {L : List Jvm.Cond} {P : Jvm.Cond → Bool} (h1 : L.all (fun c => isCode c || P c) = true) (h2 : ∀ c ∈ L.filter isCode, P c = true) : L.all P = true := by
  refine List.all_eq_true.mpr fun c hc => ?_
  have h := List.all_eq_true.mp h1 c hc
  rcases Bool.eq_false_or_eq_true (isCode c) with hi | hi
  · exact h2 c (List.mem_filter.mpr ⟨hc, hi⟩)
  · simpa [hi] using h
set_option maxRecDepth 65536 in
theorem w_c0 : (Jvm.Cond.code x code maxLocals ret).before args0 about1 = true := code_word (m := ⟨1, 1⟩) (meth := k1m1) (c := k1c1) (by decide +kernel) rfl rfl rfl (by decide +kernel)
set_option maxRecDepth 65536 in
theorem w_c1 : (Jvm.Cond.code ({ cls := "java/lang/String", name := "valueOf", desc := "(C)Ljava/lang/String;" } : Jvm.MethodName) jdk_42_method_139_code (1 : Nat) (Option.some (Jvm.ClassFile.FieldType.object "java/lang/String"))).before args0 about1 = true := code_word (m := ⟨7, 2⟩) (meth := k7m2) (c := k7c2) (by decide +kernel) rfl rfl rfl (by decide +kernel)
set_option maxRecDepth 65536 in
theorem w_c2 : (Jvm.Cond.code ({ cls := "java/lang/StringLatin1", name := "canEncode", desc := "(C)Z" } : Jvm.MethodName) jdk_43_method_3_code (1 : Nat) (Option.some Jvm.ClassFile.FieldType.boolean)).before args0 about1 = true := code_word (m := ⟨8, 1⟩) (meth := k8m1) (c := k8c1) (by decide +kernel) rfl rfl rfl (by decide +kernel)
set_option maxRecDepth 65536 in
theorem w_c3 : (Jvm.Cond.code ({ cls := "java/lang/StringLatin1", name := "toBytes", desc := "(C)[B" } : Jvm.MethodName) jdk_43_method_46_code (1 : Nat) (Option.some (Jvm.ClassFile.FieldType.array Jvm.ClassFile.FieldType.byte))).before args0 about1 = true := code_word (m := ⟨8, 2⟩) (meth := k8m2) (c := k8c2) (by decide +kernel) rfl rfl rfl (by decide +kernel)
set_option maxRecDepth 65536 in
theorem w_c4 : (Jvm.Cond.code ({ cls := "java/lang/String", name := "<init>", desc := "([BB)V" } : Jvm.MethodName) jdk_42_method_151_code (3 : Nat) (Option.none : Option Jvm.ClassFile.FieldType)).before args0 about1 = true := code_word (m := ⟨7, 4⟩) (meth := k7m4) (c := k7c4) (by decide +kernel) rfl rfl rfl (by decide +kernel)
set_option maxRecDepth 65536 in
theorem w_c5 : (Jvm.Cond.code ({ cls := "java/lang/Object", name := "<init>", desc := "()V" } : Jvm.MethodName) object_method_1_code (1 : Nat) (Option.none : Option Jvm.ClassFile.FieldType)).before args0 about1 = true := code_word (m := ⟨0, 0⟩) (meth := k0m0) (c := k0c0) (by decide +kernel) rfl rfl rfl (by decide +kernel)
set_option maxRecDepth 65536 in
theorem w_c6 : (Jvm.Cond.code ({ cls := "com/example/muster/muster/SendResult", name := "<init>", desc := "(Ljava/lang/String;Z)V" } : Jvm.MethodName) prog_26_method_1_code (3 : Nat) (Option.none : Option Jvm.ClassFile.FieldType)).before args0 about1 = true := code_word (m := ⟨10, 0⟩) (meth := k10m0) (c := k10c0) (by decide +kernel) rfl rfl rfl (by decide +kernel)
set_option maxRecDepth 65536 in
theorem w_c7 : (Jvm.Cond.code ({ cls := "java/lang/Record", name := "<init>", desc := "()V" } : Jvm.MethodName) jdk_30_method_1_code (1 : Nat) (Option.none : Option Jvm.ClassFile.FieldType)).before args0 about1 = true := code_word (m := ⟨9, 0⟩) (meth := k9m0) (c := k9c0) (by decide +kernel) rfl rfl rfl (by decide +kernel)
set_option maxRecDepth 65536 in
theorem w_c8 : (Jvm.Cond.code ({ cls := "com/example/muster/muster/SendResult", name := "delivered", desc := "()Z" } : Jvm.MethodName) prog_26_method_4_code (1 : Nat) (Option.some Jvm.ClassFile.FieldType.boolean)).before args0 about1 = true := code_word (m := ⟨10, 3⟩) (meth := k10m3) (c := k10c3) (by decide +kernel) rfl rfl rfl (by decide +kernel)
set_option maxRecDepth 65536 in
theorem w_c9 : (Jvm.Cond.code ({ cls := "com/example/muster/muster/SendResult", name := "error", desc := "()Ljava/lang/String;" } : Jvm.MethodName) prog_26_method_8_code (1 : Nat) (Option.some (Jvm.ClassFile.FieldType.object "java/lang/String"))).before args0 about1 = true := code_word (m := ⟨10, 4⟩) (meth := k10m4) (c := k10c4) (by decide +kernel) rfl rfl rfl (by decide +kernel)
set_option maxRecDepth 65536 in
theorem w_c10 : (Jvm.Cond.code ({ cls := "com/example/muster/muster/SendResult", name := "failed", desc := "(Ljava/lang/String;)Lcom/example/muster/muster/SendResult;" } : Jvm.MethodName) prog_26_method_2_code (1 : Nat) (Option.some (Jvm.ClassFile.FieldType.object "com/example/muster/muster/SendResult"))).before args0 about1 = true := code_word (m := ⟨10, 1⟩) (meth := k10m1) (c := k10c1) (by decide +kernel) rfl rfl rfl (by decide +kernel)
set_option maxRecDepth 65536 in
theorem w_c11 : (Jvm.Cond.code ({ cls := "java/util/Objects", name := "requireNonNull", desc := "(Ljava/lang/Object;Ljava/lang/String;)Ljava/lang/Object;" } : Jvm.MethodName) jdk_31_method_11_code (2 : Nat) (Option.some (Jvm.ClassFile.FieldType.object "java/lang/Object"))).before args0 about1 = true := code_word (m := ⟨11, 1⟩) (meth := k11m1) (c := k11c1) (by decide +kernel) rfl rfl rfl (by decide +kernel)
set_option maxRecDepth 65536 in
theorem w_c12 : (Jvm.Cond.code ({ cls := "com/example/muster/muster/SendResult", name := "unreachable", desc := "(Ljava/lang/String;)Lcom/example/muster/muster/SendResult;" } : Jvm.MethodName) prog_26_method_3_code (1 : Nat) (Option.some (Jvm.ClassFile.FieldType.object "com/example/muster/muster/SendResult"))).before args0 about1 = true := code_word (m := ⟨10, 2⟩) (meth := k10m2) (c := k10c2) (by decide +kernel) rfl rfl rfl (by decide +kernel)
set_option maxRecDepth 65536 in
theorem w_c13 : (Jvm.Cond.code ({ cls := "java/lang/String", name := "<init>", desc := "([C)V" } : Jvm.MethodName) jdk_42_method_3_code (2 : Nat) (Option.none : Option Jvm.ClassFile.FieldType)).before args0 about1 = true := code_word (m := ⟨7, 1⟩) (meth := k7m1) (c := k7c1) (by decide +kernel) rfl rfl rfl (by decide +kernel)
set_option maxRecDepth 65536 in
theorem w_c14 : (Jvm.Cond.code ({ cls := "java/lang/String", name := "<init>", desc := "([CIILjava/lang/Void;)V" } : Jvm.MethodName) jdk_42_method_149_code (6 : Nat) (Option.none : Option Jvm.ClassFile.FieldType)).before args0 about1 = true := code_word (m := ⟨7, 3⟩) (meth := k7m3) (c := k7c3) (by decide +kernel) rfl rfl rfl (by decide +kernel)
set_option maxRecDepth 65536 in
theorem w_c15 : (Jvm.Cond.code ({ cls := "java/lang/StringUTF16", name := "compress", desc := "([CII)[B" } : Jvm.MethodName) jdk_52_method_16_code (6 : Nat) (Option.some (Jvm.ClassFile.FieldType.array Jvm.ClassFile.FieldType.byte))).before args0 about1 = true := code_word (m := ⟨12, 2⟩) (meth := k12m2) (c := k12c2) (by decide +kernel) rfl rfl rfl (by decide +kernel)
set_option maxRecDepth 65536 in
theorem w_c16 : (Jvm.Cond.code ({ cls := "java/lang/StringUTF16", name := "compress", desc := "([CI[BII)I" } : Jvm.MethodName) jdk_52_method_21_code (7 : Nat) (Option.some Jvm.ClassFile.FieldType.int)).before args0 about1 = true := code_word (m := ⟨12, 3⟩) (meth := k12m3) (c := k12c3) (by decide +kernel) rfl rfl rfl (by decide +kernel)
set_option maxRecDepth 65536 in
theorem w_c17 : (Jvm.Cond.code ({ cls := "java/lang/StringUTF16", name := "coderFromArrayLen", desc := "([BI)B" } : Jvm.MethodName) jdk_52_method_15_code (2 : Nat) (Option.some Jvm.ClassFile.FieldType.byte)).before args0 about1 = true := code_word (m := ⟨12, 1⟩) (meth := k12m1) (c := k12c1) (by decide +kernel) rfl rfl rfl (by decide +kernel)
def codes1 : List Jvm.Cond := [Jvm.Cond.code x code maxLocals ret, Jvm.Cond.code ({ cls := "java/lang/String", name := "valueOf", desc := "(C)Ljava/lang/String;" } : Jvm.MethodName) jdk_42_method_139_code (1 : Nat) (Option.some (Jvm.ClassFile.FieldType.object "java/lang/String")), Jvm.Cond.code ({ cls := "java/lang/StringLatin1", name := "canEncode", desc := "(C)Z" } : Jvm.MethodName) jdk_43_method_3_code (1 : Nat) (Option.some Jvm.ClassFile.FieldType.boolean), Jvm.Cond.code ({ cls := "java/lang/StringLatin1", name := "toBytes", desc := "(C)[B" } : Jvm.MethodName) jdk_43_method_46_code (1 : Nat) (Option.some (Jvm.ClassFile.FieldType.array Jvm.ClassFile.FieldType.byte)), Jvm.Cond.code ({ cls := "java/lang/String", name := "<init>", desc := "([BB)V" } : Jvm.MethodName) jdk_42_method_151_code (3 : Nat) (Option.none : Option Jvm.ClassFile.FieldType), Jvm.Cond.code ({ cls := "java/lang/Object", name := "<init>", desc := "()V" } : Jvm.MethodName) object_method_1_code (1 : Nat) (Option.none : Option Jvm.ClassFile.FieldType), Jvm.Cond.code ({ cls := "com/example/muster/muster/SendResult", name := "<init>", desc := "(Ljava/lang/String;Z)V" } : Jvm.MethodName) prog_26_method_1_code (3 : Nat) (Option.none : Option Jvm.ClassFile.FieldType), Jvm.Cond.code ({ cls := "java/lang/Record", name := "<init>", desc := "()V" } : Jvm.MethodName) jdk_30_method_1_code (1 : Nat) (Option.none : Option Jvm.ClassFile.FieldType), Jvm.Cond.code ({ cls := "com/example/muster/muster/SendResult", name := "delivered", desc := "()Z" } : Jvm.MethodName) prog_26_method_4_code (1 : Nat) (Option.some Jvm.ClassFile.FieldType.boolean), Jvm.Cond.code ({ cls := "com/example/muster/muster/SendResult", name := "error", desc := "()Ljava/lang/String;" } : Jvm.MethodName) prog_26_method_8_code (1 : Nat) (Option.some (Jvm.ClassFile.FieldType.object "java/lang/String")), Jvm.Cond.code ({ cls := "com/example/muster/muster/SendResult", name := "failed", desc := "(Ljava/lang/String;)Lcom/example/muster/muster/SendResult;" } : Jvm.MethodName) prog_26_method_2_code (1 : Nat) (Option.some (Jvm.ClassFile.FieldType.object "com/example/muster/muster/SendResult")), Jvm.Cond.code ({ cls := "java/util/Objects", name := "requireNonNull", desc := "(Ljava/lang/Object;Ljava/lang/String;)Ljava/lang/Object;" } : Jvm.MethodName) jdk_31_method_11_code (2 : Nat) (Option.some (Jvm.ClassFile.FieldType.object "java/lang/Object")), Jvm.Cond.code ({ cls := "com/example/muster/muster/SendResult", name := "unreachable", desc := "(Ljava/lang/String;)Lcom/example/muster/muster/SendResult;" } : Jvm.MethodName) prog_26_method_3_code (1 : Nat) (Option.some (Jvm.ClassFile.FieldType.object "com/example/muster/muster/SendResult")), Jvm.Cond.code ({ cls := "java/lang/String", name := "<init>", desc := "([C)V" } : Jvm.MethodName) jdk_42_method_3_code (2 : Nat) (Option.none : Option Jvm.ClassFile.FieldType), Jvm.Cond.code ({ cls := "java/lang/String", name := "<init>", desc := "([CIILjava/lang/Void;)V" } : Jvm.MethodName) jdk_42_method_149_code (6 : Nat) (Option.none : Option Jvm.ClassFile.FieldType), Jvm.Cond.code ({ cls := "java/lang/StringUTF16", name := "compress", desc := "([CII)[B" } : Jvm.MethodName) jdk_52_method_16_code (6 : Nat) (Option.some (Jvm.ClassFile.FieldType.array Jvm.ClassFile.FieldType.byte)), Jvm.Cond.code ({ cls := "java/lang/StringUTF16", name := "compress", desc := "([CI[BII)I" } : Jvm.MethodName) jdk_52_method_21_code (7 : Nat) (Option.some Jvm.ClassFile.FieldType.int), Jvm.Cond.code ({ cls := "java/lang/StringUTF16", name := "coderFromArrayLen", desc := "([BI)B" } : Jvm.MethodName) jdk_52_method_15_code (2 : Nat) (Option.some Jvm.ClassFile.FieldType.byte)]
set_option maxRecDepth 65536 in
theorem codes_eq : words1.filter isCode = codes1 := rfl
theorem w_codes : ∀ c ∈ words1.filter isCode, c.before args0 about1 = true := by
  rw [codes_eq]
  intro c hc
  simp only [codes1, List.mem_cons, List.not_mem_nil, or_false] at hc
  rcases hc with rfl | rfl | rfl | rfl | rfl | rfl | rfl | rfl | rfl | rfl | rfl | rfl | rfl | rfl | rfl | rfl | rfl | rfl
  · exact w_c0
  · exact w_c1
  · exact w_c2
  · exact w_c3
  · exact w_c4
  · exact w_c5
  · exact w_c6
  · exact w_c7
  · exact w_c8
  · exact w_c9
  · exact w_c10
  · exact w_c11
  · exact w_c12
  · exact w_c13
  · exact w_c14
  · exact w_c15
  · exact w_c16
  · exact w_c17
set_option maxRecDepth 65536 in
theorem w_t1 : (words1.take 24).all (fun c => isCode c || c.before args0 about1) = true := by decide +kernel
set_option maxRecDepth 65536 in
theorem w_t2 : ((words1.drop 24).take 24).all (fun c => isCode c || c.before args0 about1) = true := by decide +kernel
set_option maxRecDepth 65536 in
theorem w_t3 : (((words1.drop 24).drop 24).take 24).all (fun c => isCode c || c.before args0 about1) = true := by decide +kernel
set_option maxRecDepth 65536 in
theorem w_t4 : (((words1.drop 24).drop 24).drop 24).all (fun c => isCode c || c.before args0 about1) = true := by decide +kernel
theorem w_tables : (allAtoms (Jvm.Cond.code x code maxLocals ret :: tables_1)).before args0 about1 = true := by
  rw [allAtoms_all]
  show words1.all (fun c => c.before args0 about1) = true
  refine all_split ?_ w_codes
  rw [← List.take_append_drop 24 words1, List.all_append, w_t1, ← List.take_append_drop 24 (words1.drop 24), List.all_append, w_t2, ← List.take_append_drop 24 ((words1.drop 24).drop 24), List.all_append, w_t3, w_t4]
  rfl
set_option maxRecDepth 65536 in
theorem w_rest : rest_1_c.before args0 about1 = true := by decide +kernel
set_option maxRecDepth 65536 in
theorem w_case : (Jvm.Cond.and given_1 narrow_1).before args0 about1 = true := by decide +kernel
set_option maxRecDepth 65536 in
theorem w_consts : constsHeld consts_1 about1 := Jvm.Lit.constsHeldB_iff.mp (by decide +kernel)
theorem w_applies : (headSpec (Jvm.Cond.code x code maxLocals ret :: tables_1) room_1).applies x e0.platform about1 = true :=
  (Spec.applies_iff w_frames).mpr ⟨w_running, w_runnable, w_alone, w_named, w_hears, w_ripe, w_room, w_tables⟩
theorem atStart : AtStart classFile x code maxLocals ret World_1 tables_1 room_1 Calls_1 rest_1 Pre_1 launch0 p0 e0 about1 theMethod args0 below0 :=
  ⟨lists_1, trivial, launch0.admits_env _ _ _, launch0.least_env, fairChoices_fair.cas, fairChoices_fair.clock, w_frames, w_args, w_heap, w_applies, ⟨w_consts, trivial⟩, w_rest, w_case⟩
end start1
theorem witness_1 : WitnessClaimed_1 := ⟨start1.p0, start1.e0, start1.about1, start1.theMethod, start1.args0, start1.below0, start1.atStart⟩
end Jvm.Pilot.@@N@@
