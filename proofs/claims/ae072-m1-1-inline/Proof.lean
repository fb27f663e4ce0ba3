import JvmDerived
import JvmDerived.Pilot.@@N@@Statement
import JvmDerived.Pilot.@@N@@Code
set_option linter.unusedVariables false
set_option linter.unusedSimpArgs false
/-! OWN FRAMEWORK, part 1: a walk as one predicate 'Go' (the machine's state hidden), contracts 'Met'. -/
namespace Jvm.Pilot.@@N@@
namespace Own
open Jvm Jvm.ClassFile Sem Op Lib Jvm.Free Jvm.Stand Jvm.LawKit Jvm.RoadKit
/-- what one run of a body fixes: program, env, start, method id, arguments, frames below, method, code -/
abbrev Cx := Program × Env × State × MethodId × Array Value × List Frame × Method × Code
abbrev QT := Option Value → Heap → List Addr → Prop
/-- the words of the sheet, of the start Z -/
def Wd (Z : State) (a0 : Array Value) : Prop := (∀ d ∈ tables_1, d.before a0 Z = true) ∧ EW Z a0 consts_1 ∧ (∀ a ∈ Bundle.stringAtoms, a.before a0 Z = true) ∧ (∃ cz : Int32, Sta Z Z.heap "java/lang/String" "COMPACT_STRINGS" "Z" (.int cz) ∧ ¬ cz = 0) ∧ (∃ fm : Value, Sta Z Z.heap "jdk/internal/util/Preconditions" "SIOOBE_FORMATTER" "Ljava/util/function/BiFunction;" fm ∧ fm.isRef = true) ∧ (∀ d ∈ jdkStatics_1, d.before a0 Z = true)
/-- made since the law began, and no cell of a booked literal -/
def Mine (Z : State) (vm : Vm) (h : Heap) (x : Addr) : Prop := Z.heap.size ≤ x ∧ x < h.size ∧ Safe Z consts_1 vm h x
def St (l : Launch) (Z : State) (K : Cx) (own mn : String) (b : ByteArray) (ml : Nat) (rt : Option FieldType) (R : Room) (T : State) (h : Heap) (F : List Addr) (c s : Nat) : Prop :=
  ∃ (vm : Vm) (k : Nat) (locs : List Loc), Stand K.1 l K.2.1 R (K.2.2.1.setVm vm) K.2.2.2.1 K.2.2.2.2.1 K.2.2.2.2.2.1 K.2.2.2.2.2.2.1 K.2.2.2.2.2.2.2 T locs c s ∧ T.heap = h ∧
    K.2.2.1.Since vm k ∧ k ≤ h.size ∧ Z.Warmed39 vm ∧ vm.findClass own = some K.2.2.2.1.cls ∧ Fr Z.heap.size locs ∧ CHr Z consts_1 K.2.2.1.vm K.2.2.1.heap vm h ∧ (∀ x ∈ F, Mine Z vm h x) ∧ Old Z Z.heap.size h ∧
    K.1.tables.exec = Jvm.exec ∧ K.2.2.2.2.2.2.2.code = b ∧ K.2.2.2.2.2.2.2.maxLocals = ml ∧ K.2.2.2.2.2.2.1.sig.returnType = rt ∧ K.2.2.2.2.2.2.1.name = mn ∧ K.2.2.2.2.2.2.1.locks = false
def End (Z : State) (s : State) (R : Room) (Q : QT) (o : Outcome) (U : State) : Prop :=
  ∃ v L G, o = .returned v ∧ Q v U.heap G ∧ Fr Z.heap.size L ∧ (∀ x ∈ G, Mine Z U.vm U.heap x) ∧ CHr Z consts_1 s.vm s.heap U.vm U.heap ∧ Old Z Z.heap.size U.heap ∧ ReturnedEndW s o U L R.cells R.slots
def Go (l : Launch) (Z : State) (K : Cx) (own mn : String) (b : ByteArray) (ml : Nat) (rt : Option FieldType) (R : Room) (Q : QT) (h : Heap) (F : List Addr) (c s : Nat) (pc : Nat) (L : Array Slot) (S : List Value) : Prop :=
  ∀ T, St l Z K own mn b ml rt R T h F c s → ∃ s₂ o, Steps K.1.tables K.2.1 K.2.2.2.2.2.1 (T.setTop (mkF K.2.2.2.1 pc L S)) s₂ ∧ s₂.status = .running ∧ Ended s₂ K.2.2.2.2.2.1 o ∧ End Z K.2.2.1 R Q o s₂
/-- a body's contract -/
def Met (l : Launch) (Z : State) (y : MethodName) (b : ByteArray) (ml : Nat) (rt : Option FieldType) (R : Room) (h0 : Heap) (F : List Addr) (as : Array Value) (Q : QT) : Prop :=
  MetFree l y (head1 [Cond.code y b ml rt] R) (fun a U => a = as ∧ Z.Warmed39 U.vm ∧ U.heap = h0 ∧ CHv Z consts_1 U.vm h0 ∧ (∀ x ∈ F, Mine Z U.vm h0 x) ∧ Old Z Z.heap.size h0) (fun _ _ _ _ _ => True) (fun _ U o U' => End Z U R Q o U')
section G
variable {l : Launch} {Z : State} {a0 : Array Value} {K : Cx} {own mn : String} {b : ByteArray} {ml : Nat} {rt : Option FieldType} {R : Room} {Q : QT} {h h' : Heap} {F : List Addr} {c s pc q : Nat} {L L' : Array Slot} {S S' : List Value}
theorem Met.mk {y : MethodName} {as : Array Value} (hp : plainFor y = true) (he : ∀ m, entryFrame m as ml = mkF m 0 L []) (w : ∀ K, Go l Z K y.cls y.name b ml rt R Q h F 0 0 0 L []) : Met l Z y b ml rt R h F as Q := by
  refine MetFree.of_bodySF hp hisR ?_
  intro p e s m args below meth c s₁ Bd hml hP hK
  obtain ⟨rfl, hZ, hh, hC, hF, hO⟩ := hP
  have hst : s₁.heap = h := by rw [← hh, Bd.state]; rfl
  have X0 : Stand p l e R s m args below meth c s₁ [] 0 0 := Stand.of_body Bd
  obtain ⟨s₂, o, h1, h2, h3, h4⟩ := w (p, e, s, m, args, below, meth, c) s₁ ⟨s.vm, 0, [], X0, hst, ⟨State.Warmed39.refl _, (State.WarmedH.refl s).no_new_pair _⟩, Nat.zero_le _, hZ, findClass_of_methodNamed Bd.named, Fr.nil _, by
    show CHr Z consts_1 s.vm s.heap s.vm h
    rw [hh]; exact CHr.refl hC, hF, hO, Bd.exec, Bd.bytes, hml, Bd.returns, (name_of_methodNamed Bd.named Bd.method).1, Bd.notSynchronized⟩
  exact ⟨s₂, o, by rw [he]; exact h1, h2, h3, h4⟩
/-- the law's own contract, over the sheet's words -/
def MetL (l : Launch) (Z : State) (y : MethodName) (b : ByteArray) (ml : Nat) (rt : Option FieldType) (R : Room) (h0 : Heap) (F : List Addr) (as : Array Value) (Q : QT) : Prop :=
  MetFree l y (head1 (Cond.code y b ml rt :: tables_1) R) (fun a U => a = as ∧ Z.Warmed39 U.vm ∧ U.heap = h0 ∧ CHv Z consts_1 U.vm h0 ∧ (∀ x ∈ F, Mine Z U.vm h0 x) ∧ Old Z Z.heap.size h0) (fun _ _ _ _ _ => True) (fun _ U o U' => End Z U R Q o U')
theorem MetL.mk {y : MethodName} {as : Array Value} (hp : plainFor y = true) (he : ∀ m, entryFrame m as ml = mkF m 0 L []) (w : ∀ K, Go l Z K y.cls y.name b ml rt R Q h F 0 0 0 L []) : MetL l Z y b ml rt R h F as Q := by
  refine MetFree.of_bodySF hp hisR ?_
  intro p e s m args below meth c s₁ Bd hml hP hK
  obtain ⟨rfl, hZ, hh, hC, hF, hO⟩ := hP
  have hst : s₁.heap = h := by rw [← hh, Bd.state]; rfl
  have X0 : Stand p l e R s m args below meth c s₁ [] 0 0 := Stand.of_body Bd
  obtain ⟨s₂, o, h1, h2, h3, h4⟩ := w (p, e, s, m, args, below, meth, c) s₁ ⟨s.vm, 0, [], X0, hst, ⟨State.Warmed39.refl _, (State.WarmedH.refl s).no_new_pair _⟩, Nat.zero_le _, hZ, findClass_of_methodNamed Bd.named, Fr.nil _, by
    show CHr Z consts_1 s.vm s.heap s.vm h
    rw [hh]; exact CHr.refl hC, hF, hO, Bd.exec, Bd.bytes, hml, Bd.returns, (name_of_methodNamed Bd.named Bd.method).1, Bd.notSynchronized⟩
  exact ⟨s₂, o, by rw [he]; exact h1, h2, h3, h4⟩
theorem go_of (st : ∀ T, St l Z K own mn b ml rt R T h F c s → ∀ t, Steps K.1.tables K.2.1 K.2.2.2.2.2.1 (T.setTop (mkF K.2.2.2.1 q L' S')) t → Steps K.1.tables K.2.1 K.2.2.2.2.2.1 (T.setTop (mkF K.2.2.2.1 pc L S)) t)
    (n : Go l Z K own mn b ml rt R Q h F c s q L' S') : Go l Z K own mn b ml rt R Q h F c s pc L S := fun T X => by
  obtain ⟨s₂, o, a, r⟩ := n T X
  exact ⟨s₂, o, st T X _ a, r⟩
/-- the facts at hand may be fewer; the counts higher -/
theorem go_less {F' : List Addr} {c' s' : Nat} (hF : ∀ x ∈ F', x ∈ F) (hc : c ≤ c') (hs : s ≤ s') (n : Go l Z K own mn b ml rt R Q h F' c' s' pc L S) : Go l Z K own mn b ml rt R Q h F c s pc L S := fun T X => by
  obtain ⟨vm, k, locs, Y, r1, r2, r3, r4, r5, r6, r7, r8, r9⟩ := X
  exact n T ⟨vm, k, locs, Y.mono hc hs, r1, r2, r3, r4, r5, r6, r7, fun x hx => r8 x (hF x hx), r9⟩
/-- an object of a class of its own, made since the law began, may be written -/
theorem go_claim {x : Addr} {C : String} (E : Exa Z h x C) (hC : C ≠ "java/lang/String" ∧ C ≠ "[B") (hx : Z.heap.size ≤ x) (n : Go l Z K own mn b ml rt R Q h (x :: F) c s pc L S) : Go l Z K own mn b ml rt R Q h F c s pc L S := fun T X => by
  obtain ⟨vm, k, locs, Y, r1, r2, r3, r4, r5, r6, r7, r8, r9⟩ := X
  exact n T ⟨vm, k, locs, Y, r1, r2, r3, r4, r5, r6, r7, allS ⟨hx, E.lt, Safe.exa r4.alike E hC.1 hC.2⟩ r8, r9⟩
theorem go_claimA {x : Addr} {k : ClassId} {ty : FieldType} {z : Int32} {vs : List Value} {dv : Value} (E : Arv Z h x k ty z vs dv) (hC : ty ≠ .byte) (hx : Z.heap.size ≤ x) (n : Go l Z K own mn b ml rt R Q h (x :: F) c s pc L S) : Go l Z K own mn b ml rt R Q h F c s pc L S := fun T X => by
  obtain ⟨vm, k, locs, Y, r1, r2, r3, r4, r5, r6, r7, r8, r9⟩ := X
  obtain ⟨cl, A, -⟩ := id E
  exact n T ⟨vm, k, locs, Y, r1, r2, r3, r4, r5, r6, r7, allS ⟨hx, E.lt, Safe.arr r4.alike A hC⟩ r8, r9⟩
/-- what is mine lies in the heap and above the start -/
theorem go_mine (n : (∀ x ∈ F, Z.heap.size ≤ x ∧ x < h.size) → Old Z Z.heap.size h → Go l Z K own mn b ml rt R Q h F c s pc L S) : Go l Z K own mn b ml rt R Q h F c s pc L S := fun T X => by
  obtain ⟨vm, k, locs, Y, r1, r2, r3, r4, r5, r6, r7, r8, r9⟩ := id X
  exact n (fun x hx => ⟨(r8 x hx).1, (r8 x hx).2.1⟩) r9.1 T X
/-! ### the plain steps -/
theorem go_aloadN {k : Fin 4} {v : Value} (hd : decode b pc = .ok (.aload_n k, 1)) (hl : L[k.val]? = some (.val v)) (hv : v.isRef = true) (hq : pc + 1 = q) (n : Go l Z K own mn b ml rt R Q h F c s q L (v :: S)) : Go l Z K own mn b ml rt R Q h F c s pc L S := by
  subst hq; exact go_of (fun T X t st => by obtain ⟨vm, k, locs, Y, r1, r2, r3, r4, r5, r6, r7, r8, r9, hx, hb', r⟩ := X; exact XS.aloadN Y.here hx rfl (hb hb' hd) hl hv st) n
theorem go_aload {k : Nat} {v : Value} (hd : decode b pc = .ok (.aload k, 2)) (hl : L[k]? = some (.val v)) (hv : v.isRef = true) (hq : pc + 2 = q) (n : Go l Z K own mn b ml rt R Q h F c s q L (v :: S)) : Go l Z K own mn b ml rt R Q h F c s pc L S := by
  subst hq; exact go_of (fun T X t st => by obtain ⟨vm, k, locs, Y, r1, r2, r3, r4, r5, r6, r7, r8, r9, hx, hb', r⟩ := X; exact XS.aload Y.here hx rfl (hb hb' hd) hl hv st) n
theorem go_iloadN {k : Fin 4} {v : Int32} (hd : decode b pc = .ok (.iload_n k, 1)) (hl : L[k.val]? = some (.val (.int v))) (hq : pc + 1 = q) (n : Go l Z K own mn b ml rt R Q h F c s q L (.int v :: S)) : Go l Z K own mn b ml rt R Q h F c s pc L S := by
  subst hq; exact go_of (fun T X t st => by obtain ⟨vm, k, locs, Y, r1, r2, r3, r4, r5, r6, r7, r8, r9, hx, hb', r⟩ := X; exact XS.iloadN Y.here hx rfl (hb hb' hd) hl st) n
theorem go_iload {k : Nat} {v : Int32} (hd : decode b pc = .ok (.iload k, 2)) (hl : L[k]? = some (.val (.int v))) (hq : pc + 2 = q) (n : Go l Z K own mn b ml rt R Q h F c s q L (.int v :: S)) : Go l Z K own mn b ml rt R Q h F c s pc L S := by
  subst hq; exact go_of (fun T X t st => by obtain ⟨vm, k, locs, Y, r1, r2, r3, r4, r5, r6, r7, r8, r9, hx, hb', r⟩ := X; exact XS.iload Y.here hx rfl (hb hb' hd) hl st) n
theorem go_lloadN {k : Fin 4} {v : Int64} (hd : decode b pc = .ok (.lload_n k, 1)) (hl : L[k.val]? = some (.val (.long v))) (hq : pc + 1 = q) (n : Go l Z K own mn b ml rt R Q h F c s q L (.long v :: S)) : Go l Z K own mn b ml rt R Q h F c s pc L S := by
  subst hq; exact go_of (fun T X t st => by obtain ⟨vm, k, locs, Y, r1, r2, r3, r4, r5, r6, r7, r8, r9, hx, hb', r⟩ := X; exact XS.lloadN Y.here hx rfl (hb hb' hd) hl st) n
theorem go_lload {k : Nat} {v : Int64} (hd : decode b pc = .ok (.lload k, 2)) (hl : L[k]? = some (.val (.long v))) (hq : pc + 2 = q) (n : Go l Z K own mn b ml rt R Q h F c s q L (.long v :: S)) : Go l Z K own mn b ml rt R Q h F c s pc L S := by
  subst hq; exact go_of (fun T X t st => by obtain ⟨vm, k, locs, Y, r1, r2, r3, r4, r5, r6, r7, r8, r9, hx, hb', r⟩ := X; exact XS.lload Y.here hx rfl (hb hb' hd) hl st) n
theorem go_iconst {i : Int} {x : Int32} (hd : decode b pc = .ok (.iconst i, 1)) (hv : Int32.ofInt i = x) (hq : pc + 1 = q) (n : Go l Z K own mn b ml rt R Q h F c s q L (.int x :: S)) : Go l Z K own mn b ml rt R Q h F c s pc L S := by
  subst hq hv; exact go_of (fun T X t st => by obtain ⟨vm, k, locs, Y, r1, r2, r3, r4, r5, r6, r7, r8, r9, hx, hb', r⟩ := X; exact XS.iconst Y.here hx rfl (hb hb' hd) st) n
theorem go_bipush {i : Int} {x : Int32} (hd : decode b pc = .ok (.bipush i, 2)) (hv : (Int8.ofInt i).toInt32 = x) (hq : pc + 2 = q) (n : Go l Z K own mn b ml rt R Q h F c s q L (.int x :: S)) : Go l Z K own mn b ml rt R Q h F c s pc L S := by
  subst hq hv; exact go_of (fun T X t st => by obtain ⟨vm, k, locs, Y, r1, r2, r3, r4, r5, r6, r7, r8, r9, hx, hb', r⟩ := X; exact XS.bipush Y.here hx rfl (hb hb' hd) st) n
theorem go_sipush {i : Int} {x : Int32} (hd : decode b pc = .ok (.sipush i, 3)) (hv : (Int16.ofInt i).toInt32 = x) (hq : pc + 3 = q) (n : Go l Z K own mn b ml rt R Q h F c s q L (.int x :: S)) : Go l Z K own mn b ml rt R Q h F c s pc L S := by
  subst hq hv; exact go_of (fun T X t st => by obtain ⟨vm, k, locs, Y, r1, r2, r3, r4, r5, r6, r7, r8, r9, hx, hb', r⟩ := X; exact XS.sipush Y.here hx rfl (hb hb' hd) st) n
theorem go_lconst {k : Fin 2} {x : Int64} (hd : decode b pc = .ok (.lconst k, 1)) (hv : Int64.ofNat k = x) (hq : pc + 1 = q) (n : Go l Z K own mn b ml rt R Q h F c s q L (.long x :: S)) : Go l Z K own mn b ml rt R Q h F c s pc L S := by
  subst hq hv; exact go_of (fun T X t st => by obtain ⟨vm, k, locs, Y, r1, r2, r3, r4, r5, r6, r7, r8, r9, hx, hb', r⟩ := X; exact XS.lconst Y.here hx rfl (hb hb' hd) st) n
theorem go_null (hd : decode b pc = .ok (.aconst_null, 1)) (hq : pc + 1 = q) (n : Go l Z K own mn b ml rt R Q h F c s q L (.null :: S)) : Go l Z K own mn b ml rt R Q h F c s pc L S := by
  subst hq; exact go_of (fun T X t st => by obtain ⟨vm, k, locs, Y, r1, r2, r3, r4, r5, r6, r7, r8, r9, hx, hb', r⟩ := X; exact XS.aconstNull Y.here hx rfl (hb hb' hd) st) n
theorem go_iadd {x : Int32} {y : Int32} {r : Int32} (hd : decode b pc = .ok (.iadd, 1)) (hr : x + y = r) (hq : pc + 1 = q) (n : Go l Z K own mn b ml rt R Q h F c s q L (.int r :: S)) : Go l Z K own mn b ml rt R Q h F c s pc L (.int y :: .int x :: S) := by
  subst hq hr; exact go_of (fun T X t st => by obtain ⟨vm, k, locs, Y, r1, r2, r3, r4, r5, r6, r7, r8, r9, hx, hb', rr⟩ := X; exact XS.iadd Y.here hx rfl (hb hb' hd) rfl st) n
theorem go_isub {x : Int32} {y : Int32} {r : Int32} (hd : decode b pc = .ok (.isub, 1)) (hr : x - y = r) (hq : pc + 1 = q) (n : Go l Z K own mn b ml rt R Q h F c s q L (.int r :: S)) : Go l Z K own mn b ml rt R Q h F c s pc L (.int y :: .int x :: S) := by
  subst hq hr; exact go_of (fun T X t st => by obtain ⟨vm, k, locs, Y, r1, r2, r3, r4, r5, r6, r7, r8, r9, hx, hb', rr⟩ := X; exact XS.isub Y.here hx rfl (hb hb' hd) rfl st) n
theorem go_iand {x : Int32} {y : Int32} {r : Int32} (hd : decode b pc = .ok (.iand, 1)) (hr : x &&& y = r) (hq : pc + 1 = q) (n : Go l Z K own mn b ml rt R Q h F c s q L (.int r :: S)) : Go l Z K own mn b ml rt R Q h F c s pc L (.int y :: .int x :: S) := by
  subst hq hr; exact go_of (fun T X t st => by obtain ⟨vm, k, locs, Y, r1, r2, r3, r4, r5, r6, r7, r8, r9, hx, hb', rr⟩ := X; exact XS.iand Y.here hx rfl (hb hb' hd) rfl st) n
theorem go_imul {x : Int32} {y : Int32} {r : Int32} (hd : decode b pc = .ok (.imul, 1)) (hr : x * y = r) (hq : pc + 1 = q) (n : Go l Z K own mn b ml rt R Q h F c s q L (.int r :: S)) : Go l Z K own mn b ml rt R Q h F c s pc L (.int y :: .int x :: S) := by
  subst hq hr; exact go_of (fun T X t st => by obtain ⟨vm, k, locs, Y, r1, r2, r3, r4, r5, r6, r7, r8, r9, hx, hb', rr⟩ := X; exact XS.imul Y.here hx rfl (hb hb' hd) rfl st) n
theorem go_ixor {x : Int32} {y : Int32} {r : Int32} (hd : decode b pc = .ok (.ixor, 1)) (hr : x ^^^ y = r) (hq : pc + 1 = q) (n : Go l Z K own mn b ml rt R Q h F c s q L (.int r :: S)) : Go l Z K own mn b ml rt R Q h F c s pc L (.int y :: .int x :: S) := by
  subst hq hr; exact go_of (fun T X t st => by obtain ⟨vm, k, locs, Y, r1, r2, r3, r4, r5, r6, r7, r8, r9, hx, hb', rr⟩ := X; exact XT.ixor Y.here hx rfl (hb hb' hd) rfl st) n
theorem go_ior {x : Int32} {y : Int32} {r : Int32} (hd : decode b pc = .ok (.ior, 1)) (hr : x ||| y = r) (hq : pc + 1 = q) (n : Go l Z K own mn b ml rt R Q h F c s q L (.int r :: S)) : Go l Z K own mn b ml rt R Q h F c s pc L (.int y :: .int x :: S) := by
  subst hq hr; exact go_of (fun T X t st => by obtain ⟨vm, k, locs, Y, r1, r2, r3, r4, r5, r6, r7, r8, r9, hx, hb', rr⟩ := X; exact XT.ior Y.here hx rfl (hb hb' hd) rfl st) n
theorem go_ishl {x : Int32} {y : Int32} {r : Int32} (hd : decode b pc = .ok (.ishl, 1)) (hr : x <<< (y &&& 31) = r) (hq : pc + 1 = q) (n : Go l Z K own mn b ml rt R Q h F c s q L (.int r :: S)) : Go l Z K own mn b ml rt R Q h F c s pc L (.int y :: .int x :: S) := by
  subst hq hr; exact go_of (fun T X t st => by obtain ⟨vm, k, locs, Y, r1, r2, r3, r4, r5, r6, r7, r8, r9, hx, hb', rr⟩ := X; exact XT.ishl Y.here hx rfl (hb hb' hd) rfl st) n
theorem go_ishr {x : Int32} {y : Int32} {r : Int32} (hd : decode b pc = .ok (.ishr, 1)) (hr : x >>> (y &&& 31) = r) (hq : pc + 1 = q) (n : Go l Z K own mn b ml rt R Q h F c s q L (.int r :: S)) : Go l Z K own mn b ml rt R Q h F c s pc L (.int y :: .int x :: S) := by
  subst hq hr; exact go_of (fun T X t st => by obtain ⟨vm, k, locs, Y, r1, r2, r3, r4, r5, r6, r7, r8, r9, hx, hb', rr⟩ := X; exact XT.ishr Y.here hx rfl (hb hb' hd) rfl st) n
theorem go_iushr {x : Int32} {y : Int32} {r : Int32} (hd : decode b pc = .ok (.iushr, 1)) (hr : XT.ushr x y = r) (hq : pc + 1 = q) (n : Go l Z K own mn b ml rt R Q h F c s q L (.int r :: S)) : Go l Z K own mn b ml rt R Q h F c s pc L (.int y :: .int x :: S) := by
  subst hq hr; exact go_of (fun T X t st => by obtain ⟨vm, k, locs, Y, r1, r2, r3, r4, r5, r6, r7, r8, r9, hx, hb', rr⟩ := X; exact XT.iushr Y.here hx rfl (hb hb' hd) rfl st) n
theorem go_idiv {x : Int32} {y : Int32} {r : Int32} (hd : decode b pc = .ok (.idiv, 1)) (hy : y ≠ 0) (hr : x / y = r) (hq : pc + 1 = q) (n : Go l Z K own mn b ml rt R Q h F c s q L (.int r :: S)) : Go l Z K own mn b ml rt R Q h F c s pc L (.int y :: .int x :: S) := by
  subst hq hr; exact go_of (fun T X t st => by obtain ⟨vm, k, locs, Y, r1, r2, r3, r4, r5, r6, r7, r8, r9, hx, hb', rr⟩ := X; exact XS.idiv Y.here hx rfl (hb hb' hd) rfl hy st) n
theorem go_irem0 {x : Int32} {y : Int32} {r : Int32} (hd : decode b pc = .ok (.irem, 1)) (hy : y ≠ 0) (hr : x - (x / y) * y = r) (hq : pc + 1 = q) (n : Go l Z K own mn b ml rt R Q h F c s q L (.int r :: S)) : Go l Z K own mn b ml rt R Q h F c s pc L (.int y :: .int x :: S) := by
  subst hq hr; exact go_of (fun T X t st => by obtain ⟨vm, k, locs, Y, r1, r2, r3, r4, r5, r6, r7, r8, r9, hx, hb', rr⟩ := X; exact XS.irem Y.here hx rfl (hb hb' hd) rfl hy st) n
theorem go_ladd {x : Int64} {y : Int64} {r : Int64} (hd : decode b pc = .ok (.ladd, 1)) (hr : x + y = r) (hq : pc + 1 = q) (n : Go l Z K own mn b ml rt R Q h F c s q L (.long r :: S)) : Go l Z K own mn b ml rt R Q h F c s pc L (.long y :: .long x :: S) := by
  subst hq hr; exact go_of (fun T X t st => by obtain ⟨vm, k, locs, Y, r1, r2, r3, r4, r5, r6, r7, r8, r9, hx, hb', rr⟩ := X; exact XT.ladd Y.here hx rfl (hb hb' hd) rfl st) n
theorem go_lsub {x : Int64} {y : Int64} {r : Int64} (hd : decode b pc = .ok (.lsub, 1)) (hr : x - y = r) (hq : pc + 1 = q) (n : Go l Z K own mn b ml rt R Q h F c s q L (.long r :: S)) : Go l Z K own mn b ml rt R Q h F c s pc L (.long y :: .long x :: S) := by
  subst hq hr; exact go_of (fun T X t st => by obtain ⟨vm, k, locs, Y, r1, r2, r3, r4, r5, r6, r7, r8, r9, hx, hb', rr⟩ := X; exact XT.lsub Y.here hx rfl (hb hb' hd) rfl st) n
theorem go_lmul {x : Int64} {y : Int64} {r : Int64} (hd : decode b pc = .ok (.lmul, 1)) (hr : x * y = r) (hq : pc + 1 = q) (n : Go l Z K own mn b ml rt R Q h F c s q L (.long r :: S)) : Go l Z K own mn b ml rt R Q h F c s pc L (.long y :: .long x :: S) := by
  subst hq hr; exact go_of (fun T X t st => by obtain ⟨vm, k, locs, Y, r1, r2, r3, r4, r5, r6, r7, r8, r9, hx, hb', rr⟩ := X; exact XT.lmul Y.here hx rfl (hb hb' hd) rfl st) n
theorem go_land {x : Int64} {y : Int64} {r : Int64} (hd : decode b pc = .ok (.land, 1)) (hr : x &&& y = r) (hq : pc + 1 = q) (n : Go l Z K own mn b ml rt R Q h F c s q L (.long r :: S)) : Go l Z K own mn b ml rt R Q h F c s pc L (.long y :: .long x :: S) := by
  subst hq hr; exact go_of (fun T X t st => by obtain ⟨vm, k, locs, Y, r1, r2, r3, r4, r5, r6, r7, r8, r9, hx, hb', rr⟩ := X; exact XT.land Y.here hx rfl (hb hb' hd) rfl st) n
theorem go_lor {x : Int64} {y : Int64} {r : Int64} (hd : decode b pc = .ok (.lor, 1)) (hr : x ||| y = r) (hq : pc + 1 = q) (n : Go l Z K own mn b ml rt R Q h F c s q L (.long r :: S)) : Go l Z K own mn b ml rt R Q h F c s pc L (.long y :: .long x :: S) := by
  subst hq hr; exact go_of (fun T X t st => by obtain ⟨vm, k, locs, Y, r1, r2, r3, r4, r5, r6, r7, r8, r9, hx, hb', rr⟩ := X; exact XT.lor Y.here hx rfl (hb hb' hd) rfl st) n
theorem go_lxor {x : Int64} {y : Int64} {r : Int64} (hd : decode b pc = .ok (.lxor, 1)) (hr : x ^^^ y = r) (hq : pc + 1 = q) (n : Go l Z K own mn b ml rt R Q h F c s q L (.long r :: S)) : Go l Z K own mn b ml rt R Q h F c s pc L (.long y :: .long x :: S) := by
  subst hq hr; exact go_of (fun T X t st => by obtain ⟨vm, k, locs, Y, r1, r2, r3, r4, r5, r6, r7, r8, r9, hx, hb', rr⟩ := X; exact XT.lxor Y.here hx rfl (hb hb' hd) rfl st) n
theorem go_ldiv {x : Int64} {y : Int64} {r : Int64} (hd : decode b pc = .ok (.ldiv, 1)) (hy : y ≠ 0) (hr : x / y = r) (hq : pc + 1 = q) (n : Go l Z K own mn b ml rt R Q h F c s q L (.long r :: S)) : Go l Z K own mn b ml rt R Q h F c s pc L (.long y :: .long x :: S) := by
  subst hq hr; exact go_of (fun T X t st => by obtain ⟨vm, k, locs, Y, r1, r2, r3, r4, r5, r6, r7, r8, r9, hx, hb', rr⟩ := X; exact XT.ldiv Y.here hx rfl (hb hb' hd) rfl hy st) n
theorem go_lrem0 {x : Int64} {y : Int64} {r : Int64} (hd : decode b pc = .ok (.lrem, 1)) (hy : y ≠ 0) (hr : x - (x / y) * y = r) (hq : pc + 1 = q) (n : Go l Z K own mn b ml rt R Q h F c s q L (.long r :: S)) : Go l Z K own mn b ml rt R Q h F c s pc L (.long y :: .long x :: S) := by
  subst hq hr; exact go_of (fun T X t st => by obtain ⟨vm, k, locs, Y, r1, r2, r3, r4, r5, r6, r7, r8, r9, hx, hb', rr⟩ := X; exact XT.lrem Y.here hx rfl (hb hb' hd) rfl hy st) n
theorem go_lcmp {x : Int64} {y : Int64} {r : Int32} (hd : decode b pc = .ok (.lcmp, 1)) (hr : XT.cmpL x y = r) (hq : pc + 1 = q) (n : Go l Z K own mn b ml rt R Q h F c s q L (.int r :: S)) : Go l Z K own mn b ml rt R Q h F c s pc L (.long y :: .long x :: S) := by
  subst hq hr; exact go_of (fun T X t st => by obtain ⟨vm, k, locs, Y, r1, r2, r3, r4, r5, r6, r7, r8, r9, hx, hb', rr⟩ := X; exact XT.lcmp Y.here hx rfl (hb hb' hd) rfl st) n
theorem go_lshl {x : Int64} {y : Int32} {r : Int64} (hd : decode b pc = .ok (.lshl, 1)) (hr : x <<< (y.toInt64 &&& 63) = r) (hq : pc + 1 = q) (n : Go l Z K own mn b ml rt R Q h F c s q L (.long r :: S)) : Go l Z K own mn b ml rt R Q h F c s pc L (.int y :: .long x :: S) := by
  subst hq hr; exact go_of (fun T X t st => by obtain ⟨vm, k, locs, Y, r1, r2, r3, r4, r5, r6, r7, r8, r9, hx, hb', rr⟩ := X; exact XT.lshl Y.here hx rfl (hb hb' hd) rfl st) n
theorem go_lshr {x : Int64} {y : Int32} {r : Int64} (hd : decode b pc = .ok (.lshr, 1)) (hr : x >>> (y.toInt64 &&& 63) = r) (hq : pc + 1 = q) (n : Go l Z K own mn b ml rt R Q h F c s q L (.long r :: S)) : Go l Z K own mn b ml rt R Q h F c s pc L (.int y :: .long x :: S) := by
  subst hq hr; exact go_of (fun T X t st => by obtain ⟨vm, k, locs, Y, r1, r2, r3, r4, r5, r6, r7, r8, r9, hx, hb', rr⟩ := X; exact XT.lshr Y.here hx rfl (hb hb' hd) rfl st) n
theorem go_lushr {x : Int64} {y : Int32} {r : Int64} (hd : decode b pc = .ok (.lushr, 1)) (hr : XT.ushrL x y = r) (hq : pc + 1 = q) (n : Go l Z K own mn b ml rt R Q h F c s q L (.long r :: S)) : Go l Z K own mn b ml rt R Q h F c s pc L (.int y :: .long x :: S) := by
  subst hq hr; exact go_of (fun T X t st => by obtain ⟨vm, k, locs, Y, r1, r2, r3, r4, r5, r6, r7, r8, r9, hx, hb', rr⟩ := X; exact XT.lushr Y.here hx rfl (hb hb' hd) rfl st) n
theorem go_ineg {x : Int32} {r : Int32} (hd : decode b pc = .ok (.ineg, 1)) (hr : -x = r) (hq : pc + 1 = q) (n : Go l Z K own mn b ml rt R Q h F c s q L (.int r :: S)) : Go l Z K own mn b ml rt R Q h F c s pc L (.int x :: S) := by
  subst hq hr; exact go_of (fun T X t st => by obtain ⟨vm, k, locs, Y, r1, r2, r3, r4, r5, r6, r7, r8, r9, hx, hb', rr⟩ := X; exact XS.ineg Y.here hx rfl (hb hb' hd) rfl st) n
theorem go_lneg {x : Int64} {r : Int64} (hd : decode b pc = .ok (.lneg, 1)) (hr : -x = r) (hq : pc + 1 = q) (n : Go l Z K own mn b ml rt R Q h F c s q L (.long r :: S)) : Go l Z K own mn b ml rt R Q h F c s pc L (.long x :: S) := by
  subst hq hr; exact go_of (fun T X t st => by obtain ⟨vm, k, locs, Y, r1, r2, r3, r4, r5, r6, r7, r8, r9, hx, hb', rr⟩ := X; exact XT.lneg Y.here hx rfl (hb hb' hd) rfl st) n
theorem go_i2l {x : Int32} {r : Int64} (hd : decode b pc = .ok (.i2l, 1)) (hr : x.toInt64 = r) (hq : pc + 1 = q) (n : Go l Z K own mn b ml rt R Q h F c s q L (.long r :: S)) : Go l Z K own mn b ml rt R Q h F c s pc L (.int x :: S) := by
  subst hq hr; exact go_of (fun T X t st => by obtain ⟨vm, k, locs, Y, r1, r2, r3, r4, r5, r6, r7, r8, r9, hx, hb', rr⟩ := X; exact XT.i2l Y.here hx rfl (hb hb' hd) rfl st) n
theorem go_l2i {x : Int64} {r : Int32} (hd : decode b pc = .ok (.l2i, 1)) (hr : x.toInt32 = r) (hq : pc + 1 = q) (n : Go l Z K own mn b ml rt R Q h F c s q L (.int r :: S)) : Go l Z K own mn b ml rt R Q h F c s pc L (.long x :: S) := by
  subst hq hr; exact go_of (fun T X t st => by obtain ⟨vm, k, locs, Y, r1, r2, r3, r4, r5, r6, r7, r8, r9, hx, hb', rr⟩ := X; exact XT.l2i Y.here hx rfl (hb hb' hd) rfl st) n
theorem go_i2b {x : Int32} {r : Int32} (hd : decode b pc = .ok (.i2b, 1)) (hr : x.toInt8.toInt32 = r) (hq : pc + 1 = q) (n : Go l Z K own mn b ml rt R Q h F c s q L (.int r :: S)) : Go l Z K own mn b ml rt R Q h F c s pc L (.int x :: S) := by
  subst hq hr; exact go_of (fun T X t st => by obtain ⟨vm, k, locs, Y, r1, r2, r3, r4, r5, r6, r7, r8, r9, hx, hb', rr⟩ := X; exact XT.i2b Y.here hx rfl (hb hb' hd) rfl st) n
theorem go_i2c {x : Int32} {r : Int32} (hd : decode b pc = .ok (.i2c, 1)) (hr : x.toUInt32.toUInt16.toUInt32.toInt32 = r) (hq : pc + 1 = q) (n : Go l Z K own mn b ml rt R Q h F c s q L (.int r :: S)) : Go l Z K own mn b ml rt R Q h F c s pc L (.int x :: S) := by
  subst hq hr; exact go_of (fun T X t st => by obtain ⟨vm, k, locs, Y, r1, r2, r3, r4, r5, r6, r7, r8, r9, hx, hb', rr⟩ := X; exact XT.i2c Y.here hx rfl (hb hb' hd) rfl st) n
theorem go_i2s {x : Int32} {r : Int32} (hd : decode b pc = .ok (.i2s, 1)) (hr : x.toInt16.toInt32 = r) (hq : pc + 1 = q) (n : Go l Z K own mn b ml rt R Q h F c s q L (.int r :: S)) : Go l Z K own mn b ml rt R Q h F c s pc L (.int x :: S) := by
  subst hq hr; exact go_of (fun T X t st => by obtain ⟨vm, k, locs, Y, r1, r2, r3, r4, r5, r6, r7, r8, r9, hx, hb', rr⟩ := X; exact XT.i2s Y.here hx rfl (hb hb' hd) rfl st) n
theorem go_istoreN {k : Fin 4} {x : Int32} (hd : decode b pc = .ok (.istore_n k, 1)) (hl : storeLocals L k.val (.int x) = some L') (hq : pc + 1 = q) (n : Go l Z K own mn b ml rt R Q h F c s q L' S) : Go l Z K own mn b ml rt R Q h F c s pc L (.int x :: S) := by
  subst hq; exact go_of (fun T X t st => by obtain ⟨vm, k, locs, Y, r1, r2, r3, r4, r5, r6, r7, r8, r9, hx, hb', rr⟩ := X; exact XS.istoreN Y.here hx rfl (hb hb' hd) rfl hl st) n
theorem go_istore {k : Nat} {x : Int32} (hd : decode b pc = .ok (.istore k, 2)) (hl : storeLocals L k (.int x) = some L') (hq : pc + 2 = q) (n : Go l Z K own mn b ml rt R Q h F c s q L' S) : Go l Z K own mn b ml rt R Q h F c s pc L (.int x :: S) := by
  subst hq; exact go_of (fun T X t st => by obtain ⟨vm, k, locs, Y, r1, r2, r3, r4, r5, r6, r7, r8, r9, hx, hb', rr⟩ := X; exact XS.istore Y.here hx rfl (hb hb' hd) rfl hl st) n
theorem go_lstoreN {k : Fin 4} {x : Int64} (hd : decode b pc = .ok (.lstore_n k, 1)) (hl : storeLocals L k.val (.long x) = some L') (hq : pc + 1 = q) (n : Go l Z K own mn b ml rt R Q h F c s q L' S) : Go l Z K own mn b ml rt R Q h F c s pc L (.long x :: S) := by
  subst hq; exact go_of (fun T X t st => by obtain ⟨vm, k, locs, Y, r1, r2, r3, r4, r5, r6, r7, r8, r9, hx, hb', rr⟩ := X; exact XT.lstoreN Y.here hx rfl (hb hb' hd) rfl hl st) n
theorem go_lstore {k : Nat} {x : Int64} (hd : decode b pc = .ok (.lstore k, 2)) (hl : storeLocals L k (.long x) = some L') (hq : pc + 2 = q) (n : Go l Z K own mn b ml rt R Q h F c s q L' S) : Go l Z K own mn b ml rt R Q h F c s pc L (.long x :: S) := by
  subst hq; exact go_of (fun T X t st => by obtain ⟨vm, k, locs, Y, r1, r2, r3, r4, r5, r6, r7, r8, r9, hx, hb', rr⟩ := X; exact XT.lstore Y.here hx rfl (hb hb' hd) rfl hl st) n
theorem go_astoreN {k : Fin 4} {x : Value} (hd : decode b pc = .ok (.astore_n k, 1)) (hv : x.isRef = true) (hl : storeLocals L k.val (x) = some L') (hq : pc + 1 = q) (n : Go l Z K own mn b ml rt R Q h F c s q L' S) : Go l Z K own mn b ml rt R Q h F c s pc L (x :: S) := by
  subst hq; exact go_of (fun T X t st => by obtain ⟨vm, k, locs, Y, r1, r2, r3, r4, r5, r6, r7, r8, r9, hx, hb', rr⟩ := X; exact XS.astoreN Y.here hx rfl (hb hb' hd) rfl hv hl st) n
theorem go_astore {k : Nat} {x : Value} (hd : decode b pc = .ok (.astore k, 2)) (hv : x.isRef = true) (hl : storeLocals L k (x) = some L') (hq : pc + 2 = q) (n : Go l Z K own mn b ml rt R Q h F c s q L' S) : Go l Z K own mn b ml rt R Q h F c s pc L (x :: S) := by
  subst hq; exact go_of (fun T X t st => by obtain ⟨vm, k, locs, Y, r1, r2, r3, r4, r5, r6, r7, r8, r9, hx, hb', rr⟩ := X; exact XS.astore Y.here hx rfl (hb hb' hd) rfl hv hl st) n
theorem go_iinc {k : Nat} {i : Int} {x y : Int32} (hd : decode b pc = .ok (.iinc k i, 3)) (hl : L[k]? = some (.val (.int x))) (hy : x + Int32.ofInt i = y) (hl' : storeLocals L k (.int y) = some L') (hq : pc + 3 = q) (n : Go l Z K own mn b ml rt R Q h F c s q L' S) : Go l Z K own mn b ml rt R Q h F c s pc L S := by
  subst hq hy; exact go_of (fun T X t st => by obtain ⟨vm, k, locs, Y, r1, r2, r3, r4, r5, r6, r7, r8, r9, hx, hb', rr⟩ := X; exact XS.iinc Y.here hx rfl (hb hb' hd) hl hl' st) n
theorem go_dup {x : Value} (hd : decode b pc = .ok (.dup, 1)) (hc : x.category = 1) (hq : pc + 1 = q) (n : Go l Z K own mn b ml rt R Q h F c s q L (x :: x :: S)) : Go l Z K own mn b ml rt R Q h F c s pc L (x :: S) := by
  subst hq; exact go_of (fun T X t st => by obtain ⟨vm, k, locs, Y, r1, r2, r3, r4, r5, r6, r7, r8, r9, hx, hb', rr⟩ := X; exact XS.dup Y.here hx rfl (hb hb' hd) rfl hc st) n
theorem go_pop {x : Value} (hd : decode b pc = .ok (.pop, 1)) (hc : x.category = 1) (hq : pc + 1 = q) (n : Go l Z K own mn b ml rt R Q h F c s q L S) : Go l Z K own mn b ml rt R Q h F c s pc L (x :: S) := by
  subst hq; exact go_of (fun T X t st => by obtain ⟨vm, k, locs, Y, r1, r2, r3, r4, r5, r6, r7, r8, r9, hx, hb', rr⟩ := X; exact XT.pop Y.here hx rfl (hb hb' hd) rfl hc st) n
theorem go_dupX1 {x y : Value} (hd : decode b pc = .ok (.dup_x1, 1)) (hc : x.category = 1) (hc' : y.category = 1) (hq : pc + 1 = q) (n : Go l Z K own mn b ml rt R Q h F c s q L (x :: y :: x :: S)) : Go l Z K own mn b ml rt R Q h F c s pc L (x :: y :: S) := by
  subst hq; exact go_of (fun T X t st => by obtain ⟨vm, k, locs, Y, r1, r2, r3, r4, r5, r6, r7, r8, r9, hx, hb', rr⟩ := X; exact XT.dupX1 Y.here hx rfl (hb hb' hd) rfl hc hc' st) n
theorem go_dup2 {x y : Value} (hd : decode b pc = .ok (.dup2, 1)) (hc : x.category = 1) (hc' : y.category = 1) (hq : pc + 1 = q) (n : Go l Z K own mn b ml rt R Q h F c s q L (x :: y :: x :: y :: S)) : Go l Z K own mn b ml rt R Q h F c s pc L (x :: y :: S) := by
  subst hq; exact go_of (fun T X t st => by obtain ⟨vm, k, locs, Y, r1, r2, r3, r4, r5, r6, r7, r8, r9, hx, hb', rr⟩ := X; exact XT.dup2 Y.here hx rfl (hb hb' hd) rfl hc hc' st) n
theorem go_goto {o : Int} (hd : decode b pc = .ok (.goto o, 3)) (ho : 0 ≤ (pc : Int) + o) (hp : ((pc : Int) + o).toNat = q) (n : Go l Z K own mn b ml rt R Q h F c s q L S) : Go l Z K own mn b ml rt R Q h F c s pc L S := by
  exact go_of (fun T X t st => by obtain ⟨vm, k, locs, Y, r1, r2, r3, r4, r5, r6, r7, r8, r9, hx, hb', rr⟩ := X; exact XS.goto Y.here hx rfl rfl (hb hb' hd) ho hp st) n
/-- the condition as a plain proposition: taken, not taken -/
abbrev cY : ClassFile.Cond → Int32 → Int32 → Prop
  | .eq, x, y => x = y
  | .ne, x, y => ¬ x = y
  | .lt, x, y => x < y
  | .ge, x, y => ¬ x < y
  | .gt, x, y => y < x
  | .le, x, y => ¬ y < x
abbrev cN : ClassFile.Cond → Int32 → Int32 → Prop
  | .eq, x, y => ¬ x = y
  | .ne, x, y => x = y
  | .lt, x, y => ¬ x < y
  | .ge, x, y => x < y
  | .gt, x, y => ¬ y < x
  | .le, x, y => y < x
theorem cY_holds {cd : ClassFile.Cond} {x y : Int32} (h : cY cd x y) : if_icmp.holds cd x y = true := by
  cases cd with
  | eq => exact (teq h).1
  | ne => exact (feq h).2
  | lt => exact (tlt h).1
  | ge => exact (flt h).2.1
  | gt => exact (tlt h).2.2.1
  | le => exact (flt h).2.2.2
theorem cN_holds {cd : ClassFile.Cond} {x y : Int32} (h : cN cd x y) : if_icmp.holds cd x y = false := by
  cases cd with
  | eq => exact (feq h).1
  | ne => exact (teq h).2
  | lt => exact (flt h).1
  | ge => exact (tlt h).2.1
  | gt => exact (flt h).2.2.1
  | le => exact (tlt h).2.2.2
theorem go_ifY {cd : ClassFile.Cond} {x : Int32} {o : Int} (hd : decode b pc = .ok (.ifCond cd o, 3)) (hc : cY cd x 0) (ho : 0 ≤ (pc : Int) + o) (hp : ((pc : Int) + o).toNat = q) (n : Go l Z K own mn b ml rt R Q h F c s q L S) : Go l Z K own mn b ml rt R Q h F c s pc L (.int x :: S) := by
  exact go_of (fun T X t st => by obtain ⟨vm, k, locs, Y, r1, r2, r3, r4, r5, r6, r7, r8, r9, hx, hb', rr⟩ := X; exact XS.ifYes Y.here hx rfl rfl (hb hb' hd) rfl ((if0 _ _).trans (cY_holds hc)) ho hp st) n
theorem go_ifN {cd : ClassFile.Cond} {x : Int32} {o : Int} (hd : decode b pc = .ok (.ifCond cd o, 3)) (hc : cN cd x 0) (hq : pc + 3 = q) (n : Go l Z K own mn b ml rt R Q h F c s q L S) : Go l Z K own mn b ml rt R Q h F c s pc L (.int x :: S) := by
  subst hq; exact go_of (fun T X t st => by obtain ⟨vm, k, locs, Y, r1, r2, r3, r4, r5, r6, r7, r8, r9, hx, hb', rr⟩ := X; exact XS.ifNo Y.here hx rfl (hb hb' hd) rfl ((if0 _ _).trans (cN_holds hc)) st) n
theorem go_icY {cd : ClassFile.Cond} {x y : Int32} {o : Int} (hd : decode b pc = .ok (.if_icmp cd o, 3)) (hc : cY cd x y) (ho : 0 ≤ (pc : Int) + o) (hp : ((pc : Int) + o).toNat = q) (n : Go l Z K own mn b ml rt R Q h F c s q L S) : Go l Z K own mn b ml rt R Q h F c s pc L (.int y :: .int x :: S) := by
  exact go_of (fun T X t st => by obtain ⟨vm, k, locs, Y, r1, r2, r3, r4, r5, r6, r7, r8, r9, hx, hb', rr⟩ := X; exact XS.icmpYes Y.here hx rfl rfl (hb hb' hd) rfl (cY_holds hc) ho hp st) n
theorem go_icN {cd : ClassFile.Cond} {x y : Int32} {o : Int} (hd : decode b pc = .ok (.if_icmp cd o, 3)) (hc : cN cd x y) (hq : pc + 3 = q) (n : Go l Z K own mn b ml rt R Q h F c s q L S) : Go l Z K own mn b ml rt R Q h F c s pc L (.int y :: .int x :: S) := by
  subst hq; exact go_of (fun T X t st => by obtain ⟨vm, k, locs, Y, r1, r2, r3, r4, r5, r6, r7, r8, r9, hx, hb', rr⟩ := X; exact XS.icmpNo Y.here hx rfl (hb hb' hd) rfl (cN_holds hc) st) n
theorem go_nullY {o : Int} (hd : decode b pc = .ok (.ifnull o, 3)) (ho : 0 ≤ (pc : Int) + o) (hp : ((pc : Int) + o).toNat = q) (n : Go l Z K own mn b ml rt R Q h F c s q L S) : Go l Z K own mn b ml rt R Q h F c s pc L (.null :: S) := by
  exact go_of (fun T X t st => by obtain ⟨vm, k, locs, Y, r1, r2, r3, r4, r5, r6, r7, r8, r9, hx, hb', rr⟩ := X; exact XS.ifnullYes Y.here hx rfl rfl (hb hb' hd) rfl ho hp st) n
theorem go_nullN {a : Addr} {o : Int} (hd : decode b pc = .ok (.ifnull o, 3)) (hq : pc + 3 = q) (n : Go l Z K own mn b ml rt R Q h F c s q L S) : Go l Z K own mn b ml rt R Q h F c s pc L (.ref a :: S) := by
  subst hq; exact go_of (fun T X t st => by obtain ⟨vm, k, locs, Y, r1, r2, r3, r4, r5, r6, r7, r8, r9, hx, hb', rr⟩ := X; exact XS.ifnullNo Y.here hx rfl (hb hb' hd) rfl st) n
theorem go_nnY {a : Addr} {o : Int} (hd : decode b pc = .ok (.ifnonnull o, 3)) (ho : 0 ≤ (pc : Int) + o) (hp : ((pc : Int) + o).toNat = q) (n : Go l Z K own mn b ml rt R Q h F c s q L S) : Go l Z K own mn b ml rt R Q h F c s pc L (.ref a :: S) := by
  exact go_of (fun T X t st => by obtain ⟨vm, k, locs, Y, r1, r2, r3, r4, r5, r6, r7, r8, r9, hx, hb', rr⟩ := X; exact XT.ifnonnullYes Y.here hx rfl rfl (hb hb' hd) rfl ho hp st) n
theorem go_nnN {o : Int} (hd : decode b pc = .ok (.ifnonnull o, 3)) (hq : pc + 3 = q) (n : Go l Z K own mn b ml rt R Q h F c s q L S) : Go l Z K own mn b ml rt R Q h F c s pc L (.null :: S) := by
  subst hq; exact go_of (fun T X t st => by obtain ⟨vm, k, locs, Y, r1, r2, r3, r4, r5, r6, r7, r8, r9, hx, hb', rr⟩ := X; exact XT.ifnonnullNo Y.here hx rfl (hb hb' hd) rfl st) n
theorem go_acY {cd : ClassFile.ACond} {x y : Value} {o : Int} (hd : decode b pc = .ok (.if_acmp cd o, 3)) (h1 : x.isRef = true) (h2 : y.isRef = true) (hc : XT.acmp cd x y = true) (ho : 0 ≤ (pc : Int) + o) (hp : ((pc : Int) + o).toNat = q) (n : Go l Z K own mn b ml rt R Q h F c s q L S) : Go l Z K own mn b ml rt R Q h F c s pc L (y :: x :: S) := by
  exact go_of (fun T X t st => by obtain ⟨vm, k, locs, Y, r1, r2, r3, r4, r5, r6, r7, r8, r9, hx, hb', rr⟩ := X; exact XT.acmpYes Y.here hx rfl rfl (hb hb' hd) rfl h1 h2 hc ho hp st) n
theorem go_acN {cd : ClassFile.ACond} {x y : Value} {o : Int} (hd : decode b pc = .ok (.if_acmp cd o, 3)) (h1 : x.isRef = true) (h2 : y.isRef = true) (hc : XT.acmp cd x y = false) (hq : pc + 3 = q) (n : Go l Z K own mn b ml rt R Q h F c s q L S) : Go l Z K own mn b ml rt R Q h F c s pc L (y :: x :: S) := by
  subst hq; exact go_of (fun T X t st => by obtain ⟨vm, k, locs, Y, r1, r2, r3, r4, r5, r6, r7, r8, r9, hx, hb', rr⟩ := X; exact XT.acmpNo Y.here hx rfl (hb hb' hd) rfl h1 h2 hc st) n
theorem go_irem {x y r : Int32} (hd : decode b pc = .ok (.irem, 1)) (hy : y ≠ 0) (hr : x % y = r) (hq : pc + 1 = q) (n : Go l Z K own mn b ml rt R Q h F c s q L (.int r :: S)) : Go l Z K own mn b ml rt R Q h F c s pc L (.int y :: .int x :: S) := by
  subst hq hr; exact go_of (fun T X t st => by obtain ⟨vm, k, locs, Y, r1, r2, r3, r4, r5, r6, r7, r8, r9, hx, hb', r⟩ := X; exact iremM Y hx rfl (hb hb' hd) rfl hy st) n
theorem go_lrem {x y r : Int64} (hd : decode b pc = .ok (.lrem, 1)) (hy : y ≠ 0) (hr : x % y = r) (hq : pc + 1 = q) (n : Go l Z K own mn b ml rt R Q h F c s q L (.long r :: S)) : Go l Z K own mn b ml rt R Q h F c s pc L (.long y :: .long x :: S) := go_lrem0 hd hy ((lrem_mod x y).trans hr) hq n
end G
end Own
end Jvm.Pilot.@@N@@
/-! OWN FRAMEWORK, part 2: steps that touch the heap, returns, calls. -/
namespace Jvm.Pilot.@@N@@
namespace Own
open Jvm Jvm.ClassFile Sem Op Lib Jvm.Free Jvm.Stand Jvm.LawKit Jvm.RoadKit
section G
variable {l : Launch} {Z : State} {a0 : Array Value} {K : Cx} {own mn : String} {b : ByteArray} {ml : Nat} {rt : Option FieldType} {R : Room} {Q : QT} {h h' : Heap} {F : List Addr} {c s pc q c' s' : Nat} {L L' : Array Slot} {S S' : List Value}
theorem go_getfield {index : Nat} {R0 O n d : String} {a : Addr} {v : Value} (w : (Cond.fieldLink own index R0 n d).before a0 Z = true) (via : Via Z R0 O n d) (Fv : Fld Z h a O n d v) (hd : decode b pc = .ok (.getfield index, 3)) (hq : pc + 3 = q)
    (nx : Go l Z K own mn b ml rt R Q h F c s q L (v :: S)) : Go l Z K own mn b ml rt R Q h F c s pc L (.ref a :: S) := fun T X => by
  subst hq
  obtain ⟨vm, k, locs, Y, eT, hS, hk, hZ, hown, N, C, M, O, hx, hb', r⟩ := X
  obtain ⟨T', Y', e', st⟩ := getF Y hx hZ hown (host := "") (Or.inl w) via eT Fv (g := mkF K.2.2.2.1 pc L (.ref a :: S)) rfl rfl (hb hb' hd)
  obtain ⟨s₂, o, x, r'⟩ := nx T' ⟨vm, k, locs, Y', e', hS, hk, hZ, hown, N, C, M, O, hx, hb', r⟩
  exact ⟨s₂, o, st _ x, r'⟩
theorem go_getstatic {index : Nat} {R0 O n d : String} {v : Value} (w : (Cond.fieldLink own index R0 n d).before a0 Z = true) (via : Via Z R0 O n d) (Fv : Sta Z Z.heap O n d v) (hd : decode b pc = .ok (.getstatic index, 3)) (hq : pc + 3 = q)
    (nx : Go l Z K own mn b ml rt R Q h F c s q L (v :: S)) : Go l Z K own mn b ml rt R Q h F c s pc L S := fun T X => by
  subst hq
  obtain ⟨vm, k, locs, Y, eT, hS, hk, hZ, hown, N, C, M, O, hx, hb', r⟩ := X
  obtain ⟨T', Y', e', st⟩ := getS2 Y hx hZ hown (host := "") (Or.inl w) via eT (Fv.ext O.2) (g := mkF K.2.2.2.1 pc L S) rfl (hb hb' hd)
  obtain ⟨s₂, o, x, r'⟩ := nx T' ⟨vm, k, locs, Y', e', hS, hk, hZ, hown, N, C, M, O, hx, hb', r⟩
  exact ⟨s₂, o, st _ x, r'⟩
theorem St.wrote {vm : Vm} {k sl : Nat} {locs : List Loc} {T' : State} {a : Addr} {v : Value} (W : Wr h h' a sl v) (ha : a ∈ F) (Y : Stand K.1 l K.2.1 R (K.2.2.1.setVm vm) K.2.2.2.1 K.2.2.2.2.1 K.2.2.2.2.2.1 K.2.2.2.2.2.2.1 K.2.2.2.2.2.2.2 T' (locs ++ [⟨a, sl⟩]) c s) (e' : T'.heap = h')
    (hS : K.2.2.1.Since vm k) (hk : k ≤ h.size) (hZ : Z.Warmed39 vm) (hown : vm.findClass own = some K.2.2.2.1.cls) (N : Fr Z.heap.size locs) (C : CHr Z consts_1 K.2.2.1.vm K.2.2.1.heap vm h) (M : ∀ x ∈ F, Mine Z vm h x) (O : Old Z Z.heap.size h)
    (r : K.1.tables.exec = Jvm.exec ∧ K.2.2.2.2.2.2.2.code = b ∧ K.2.2.2.2.2.2.2.maxLocals = ml ∧ K.2.2.2.2.2.2.1.sig.returnType = rt ∧ K.2.2.2.2.2.2.1.name = mn ∧ K.2.2.2.2.2.2.1.locks = false) : St l Z K own mn b ml rt R T' h' F c s :=
  ⟨vm, k, _, Y, e', hS, by rw [W.size]; exact hk, hZ, hown, Fr.snoc Y N (M a ha).1, C.trans (CHr.wr W (M a ha).2.2 C.1), fun x hx => ⟨(M x hx).1, by rw [W.size]; exact (M x hx).2.1, Safe.wr W (M a ha).2.2 C.1 (M x hx).2.2⟩, O.wr W (M a ha).1, r⟩
theorem go_putfield {index kk : Nat} {R0 O n d C : String} {ty : FieldType} {a : Addr} {v old : Value} (w : (Cond.fieldLink own index R0 n d).before a0 Z = true) (via : Via Z R0 O n d) (Fv : Fld Z h a O n d old) (E : Exa Z h a C)
    (Ly : (Cond.lays C O n d).before a0 Z = true ∨ ((Cond.laysFinal C O n d).before a0 Z = true ∧ own = O ∧ mn = "<init>")) (wi : (Cond.instantiable C kk).before a0 Z = true) (hty : parseFieldDescriptor d = some ty) (hn : narrow ty v = v) (hf : fits ty v = true) (ha : a ∈ F)
    (hd : decode b pc = .ok (.putfield index, 3)) (hq : pc + 3 = q) (nx : ∀ h', Wr h h' a (RoadKit.slotOf Z O n d) v → Go l Z K own mn b ml rt R Q h' F c s q L S) : Go l Z K own mn b ml rt R Q h F c s pc L (v :: .ref a :: S) := fun T X => by
  subst hq
  obtain ⟨vm, k, locs, Y, eT, hS, hk, hZ, hown, N, C, M, O, hx, hb', r1, r2, r3, r4⟩ := X
  obtain ⟨T', h', Y', e', W, st⟩ := putF Y hx hZ hown (host := "") (Or.inl w) via eT Fv E (Ly.imp id fun z => ⟨z.1, z.2.1, r3.trans z.2.2⟩) wi hty hn hf (g := mkF K.2.2.2.1 pc L (v :: .ref a :: S)) rfl rfl (hb hb' hd)
  obtain ⟨s₂, o, x, r'⟩ := nx h' W T' (St.wrote W ha Y' e' hS hk hZ hown N C M O ⟨hx, hb', r1, r2, r3, r4⟩)
  exact ⟨s₂, o, st _ x, r'⟩
theorem St.grew {vm : Vm} {k : Nat} {locs : List Loc} {T' : State} (E : Ext h h') {F' : List Addr} (hF : ∀ x ∈ F', x ∈ F ∨ (h.size ≤ x ∧ x < h'.size)) (Y : Stand K.1 l K.2.1 R (K.2.2.1.setVm vm) K.2.2.2.1 K.2.2.2.2.1 K.2.2.2.2.2.1 K.2.2.2.2.2.2.1 K.2.2.2.2.2.2.2 T' locs c s) (e' : T'.heap = h')
    (hS : K.2.2.1.Since vm k) (hk : k ≤ h.size) (hZ : Z.Warmed39 vm) (hown : vm.findClass own = some K.2.2.2.1.cls) (N : Fr Z.heap.size locs) (C : CHr Z consts_1 K.2.2.1.vm K.2.2.1.heap vm h) (M : ∀ x ∈ F, Mine Z vm h x) (O : Old Z Z.heap.size h)
    (r : K.1.tables.exec = Jvm.exec ∧ K.2.2.2.2.2.2.2.code = b ∧ K.2.2.2.2.2.2.2.maxLocals = ml ∧ K.2.2.2.2.2.2.1.sig.returnType = rt ∧ K.2.2.2.2.2.2.1.name = mn ∧ K.2.2.2.2.2.2.1.locks = false) : St l Z K own mn b ml rt R T' h' F' c s :=
  ⟨vm, k, _, Y, e', hS, Nat.le_trans hk E.1, hZ, hown, N, C.trans (CHr.ext E C.1), fun x hx => by
    rcases hF x hx with q | ⟨q1, q2⟩
    · exact ⟨(M x q).1, Nat.lt_of_lt_of_le (M x q).2.1 E.1, Safe.ext E C.1 (M x q).2.2⟩
    · exact ⟨Nat.le_trans O.2.1 q1, q2, Safe.ext E C.1 (Safe.new q1)⟩, O.ext E, r⟩
theorem go_new {index n : Nat} {C : String} (w : (Cond.classLink own index C).before a0 Z = true) (wi : (Cond.instantiable C n).before a0 Z = true) (wz : (Cond.initialized C).before a0 Z = true) (hd : decode b pc = .ok (.new index, 3)) (hq : pc + 3 = q) (hc : c + 1 = c') (hs : s + n = s') (hc' : c' ≤ R.cells) (hs' : s' ≤ R.slots)
    (nx : ∀ h' a, a = h.size → Ext h h' → Exa Z h' a C → (∀ {O nm d : String} {ty : FieldType}, Laid Z a0 C O nm d → parseFieldDescriptor d = some ty → Fld Z h' a O nm d (defaultValue ty)) → Go l Z K own mn b ml rt R Q h' (a :: F) c' s' q L (.ref a :: S)) : Go l Z K own mn b ml rt R Q h F c s pc L S := fun T X => by
  subst hq hc hs
  obtain ⟨vm, k, locs, Y, eT, hS, hk, hZ, hown, N, C, M, O, r⟩ := X
  obtain ⟨T', h', Y', e', E, A, D, -, st⟩ := newO Y r.1 hZ hown w wi wz eT (g := mkF K.2.2.2.1 pc L S) rfl (hb r.2.1 hd) hc' hs'
  obtain ⟨s₂, o, x, r'⟩ := nx h' _ rfl E A D T' (St.grew E (fun x hx => by rcases List.mem_cons.mp hx with rfl | hx; exact Or.inr ⟨Nat.le_refl _, A.lt⟩; exact Or.inl hx) Y' e' hS hk hZ hown N C M O r)
  exact ⟨s₂, o, st _ x, r'⟩
/-- 'new', and the fresh cell as the exception laws want it -/
theorem go_newU {index n : Nat} {C : String} (w : (Cond.classLink own index C).before a0 Z = true) (wi : (Cond.instantiable C n).before a0 Z = true) (wz : (Cond.initialized C).before a0 Z = true) (hd : decode b pc = .ok (.new index, 3)) (hq : pc + 3 = q) (hc : c + 1 = c') (hs : s + n = s') (hc' : c' ≤ R.cells) (hs' : s' ≤ R.slots)
    (nx : ∀ h' a, a = h.size → Ext h h' → Exa Z h' a C → Unt h' a → (∀ {O nm d : String} {ty : FieldType}, Laid Z a0 C O nm d → parseFieldDescriptor d = some ty → Fld Z h' a O nm d (defaultValue ty)) → Go l Z K own mn b ml rt R Q h' (a :: F) c' s' q L (.ref a :: S)) : Go l Z K own mn b ml rt R Q h F c s pc L S := fun T X => by
  subst hq hc hs
  obtain ⟨vm, k, locs, Y, eT, hS, hk, hZ, hown, N, C, M, O, r⟩ := X
  obtain ⟨T', h', Y', e', E, A, D, U, st⟩ := newO Y r.1 hZ hown w wi wz eT (g := mkF K.2.2.2.1 pc L S) rfl (hb r.2.1 hd) hc' hs'
  obtain ⟨s₂, o, x, r'⟩ := nx h' _ rfl E A U D T' (St.grew E (fun x hx => by rcases List.mem_cons.mp hx with rfl | hx; exact Or.inr ⟨Nat.le_refl _, A.lt⟩; exact Or.inl hx) Y' e' hS hk hZ hown N C M O r)
  exact ⟨s₂, o, st _ x, r'⟩
theorem go_newarray {aty : ArrayType} {z : Int32} {cap n : Nat} {ad : String} {ty : FieldType} {dv : Value} (hty : newarray.typeOf aty = ty) (hdv : defaultValue ty = dv) (hzn : z.toNatClampNeg = n) (w : (Cond.arrayClass ty).before a0 Z = true) (hd : decode b pc = .ok (.newarray aty, 2)) (hz : ¬ z < 0) (hcap : n ≤ cap) (hbig : cap * 8 ≤ 536870912) (had : "[" ++ ty.toString = ad) (hq : pc + 2 = q) (hc : c + 1 = c') (hs : s + cap = s') (hc' : c' ≤ R.cells) (hs' : s' ≤ R.slots)
    (nx : ∀ h' a k, a = h.size → Ext h h' → Arv Z h' a k ty z (List.replicate n dv) dv → Exa Z h' a ad → Go l Z K own mn b ml rt R Q h' (a :: F) c' s' q L (.ref a :: S)) : Go l Z K own mn b ml rt R Q h F c s pc L (.int z :: S) := fun T X => by
  subst hq hc hs hty hdv hzn
  obtain ⟨vm, k, locs, Y, eT, hS, hk, hZ, hown, N, C, M, O, r⟩ := X
  obtain ⟨T', h', cA, Y', e', E, A, Ex, st⟩ := newPE Y r.1 hZ w eT (g := mkF K.2.2.2.1 pc L (.int z :: S)) rfl (hb r.2.1 hd) rfl hz hcap hbig hc' hs' had
  have V := (Arv.new A hz).pad (vs' := List.replicate z.toNatClampNeg (defaultValue (newarray.typeOf aty))) (fun i => by
    have := pad_rep [] (defaultValue (newarray.typeOf aty)) z.toNatClampNeg i
    simpa using this)
  obtain ⟨s₂, o, x, r'⟩ := nx h' _ _ rfl E V Ex T' (St.grew E (fun x hx => by rcases List.mem_cons.mp hx with rfl | hx; exact Or.inr ⟨Nat.le_refl _, A.lt⟩; exact Or.inl hx) Y' e' hS hk hZ hown N C M O r)
  exact ⟨s₂, o, st _ x, r'⟩
theorem go_anewarray {index : Nat} {C : String} {z : Int32} {cap : Nat} {ad : String} (w : (Cond.classLink own index C).before a0 Z = true) (w2 : (Cond.arrayOver (.object C)).before a0 Z = true) (hd : decode b pc = .ok (.anewarray index, 3)) (hz : ¬ z < 0) (hcap : z.toNatClampNeg ≤ cap) (hbig : cap * 8 ≤ 536870912) (had : "[" ++ (FieldType.object C).toString = ad) (hq : pc + 3 = q) (hc : c + 1 = c') (hs : s + cap = s') (hc' : c' ≤ R.cells) (hs' : s' ≤ R.slots)
    (nx : ∀ h' a k, a = h.size → Ext h h' → Arv Z h' a k (.object C) z (List.replicate z.toNatClampNeg .null) .null → Exa Z h' a ad → Ovr Z k C → Go l Z K own mn b ml rt R Q h' (a :: F) c' s' q L (.ref a :: S)) : Go l Z K own mn b ml rt R Q h F c s pc L (.int z :: S) := fun T X => by
  subst hq hc hs
  obtain ⟨vm, k, locs, Y, eT, hS, hk, hZ, hown, N, C, M, O, r⟩ := X
  obtain ⟨T', h', cA, Y', e', E, A, Ex, Ov, st⟩ := newRE Y r.1 hZ hown w w2 eT (g := mkF K.2.2.2.1 pc L (.int z :: S)) rfl (hb r.2.1 hd) rfl hz hcap hbig hc' hs' had
  have V0 : Arv Z h' h.size cA (.object _) z [] .null := Arv.new A hz
  have V := V0.pad (vs' := List.replicate z.toNatClampNeg .null) (fun i => by
    have := pad_rep [] .null z.toNatClampNeg i
    simpa using this)
  obtain ⟨s₂, o, x, r'⟩ := nx h' _ _ rfl E V Ex Ov T' (St.grew E (fun x hx => by rcases List.mem_cons.mp hx with rfl | hx; exact Or.inr ⟨Nat.le_refl _, A.lt⟩; exact Or.inl hx) Y' e' hS hk hZ hown N C M O r)
  exact ⟨s₂, o, st _ x, r'⟩
theorem fits_nar_byte (x : Int32) : fits .byte (.int (nar .byte x)) = true := Jvm.Free.SBG.fits_of_int8 _
theorem go_castore {a : Addr} {k : ClassId} {z j x y : Int32} {vs : List Value} {dv : Value} {i : Nat} (A : Arv Z h a k .char z vs dv) (hj : ¬ j < 0 ∧ j < z) (hi : j.toNatClampNeg = i) (hl : i < vs.length) (ha : a ∈ F) (hy : nar .char x = y) (hd : decode b pc = .ok (.castore, 1)) (hq : pc + 1 = q)
    (nx : ∀ h', Keep h h' [a] → h'.size = h.size → Arv Z h' a k .char z (vs.set i (.int y)) dv → Go l Z K own mn b ml rt R Q h' F c s q L S) : Go l Z K own mn b ml rt R Q h F c s pc L (.int x :: .int j :: .ref a :: S) := fun T X => by
  subst hq hy
  obtain ⟨vm, k, locs, Y, eT, hS, hk, hZ, hown, N, C, M, O, r⟩ := X
  obtain ⟨cl, Ar, q1, q2, q3, q4, q5⟩ := A
  have hin := inb_of q2 hj
  obtain ⟨T', h', Y', e', W, st⟩ := stC Y r.1 hZ eT Ar hin (g := mkF K.2.2.2.1 pc L (.int x :: .int j :: .ref a :: S)) rfl rfl (hb r.2.1 hd)
  obtain ⟨s₂, o, x, r'⟩ := nx h' (Keep.of_wr W) W.size (Arv.set Ar q1 q2 q3 q4 q5 (fits_nar_char x) W i hi hl) T' (St.wrote W ha Y' e' hS hk hZ hown N C M O r)
  exact ⟨s₂, o, st _ x, r'⟩
theorem go_bastore {a : Addr} {k : ClassId} {z j x y : Int32} {vs : List Value} {dv : Value} {i : Nat} (A : Arv Z h a k .byte z vs dv) (hj : ¬ j < 0 ∧ j < z) (hi : j.toNatClampNeg = i) (hl : i < vs.length) (ha : a ∈ F) (hy : nar .byte x = y) (hd : decode b pc = .ok (.bastore, 1)) (hq : pc + 1 = q)
    (nx : ∀ h', Keep h h' [a] → h'.size = h.size → Arv Z h' a k .byte z (vs.set i (.int y)) dv → Go l Z K own mn b ml rt R Q h' F c s q L S) : Go l Z K own mn b ml rt R Q h F c s pc L (.int x :: .int j :: .ref a :: S) := fun T X => by
  subst hq hy
  obtain ⟨vm, k, locs, Y, eT, hS, hk, hZ, hown, N, C, M, O, r⟩ := X
  obtain ⟨cl, Ar, q1, q2, q3, q4, q5⟩ := A
  have hin := inb_of q2 hj
  obtain ⟨T', h', Y', e', W, st⟩ := stB Y r.1 hZ eT Ar hin (g := mkF K.2.2.2.1 pc L (.int x :: .int j :: .ref a :: S)) rfl rfl (hb r.2.1 hd)
  obtain ⟨s₂, o, x, r'⟩ := nx h' (Keep.of_wr W) W.size (Arv.set Ar q1 q2 q3 q4 q5 (fits_nar_byte x) W i hi hl) T' (St.wrote W ha Y' e' hS hk hZ hown N C M O r)
  exact ⟨s₂, o, st _ x, r'⟩
theorem go_lastore {a : Addr} {k : ClassId} {z j : Int32} {x : Int64} {vs : List Value} {dv : Value} {i : Nat} (A : Arv Z h a k .long z vs dv) (hj : ¬ j < 0 ∧ j < z) (hi : j.toNatClampNeg = i) (hl : i < vs.length) (ha : a ∈ F) (hd : decode b pc = .ok (.lastore, 1)) (hq : pc + 1 = q)
    (nx : ∀ h', Keep h h' [a] → h'.size = h.size → Arv Z h' a k .long z (vs.set i (.long x)) dv → Go l Z K own mn b ml rt R Q h' F c s q L S) : Go l Z K own mn b ml rt R Q h F c s pc L (.long x :: .int j :: .ref a :: S) := fun T X => by
  subst hq
  obtain ⟨vm, k, locs, Y, eT, hS, hk, hZ, hown, N, C, M, O, r⟩ := X
  obtain ⟨cl, Ar, q1, q2, q3, q4, q5⟩ := A
  have hin := inb_of q2 hj
  obtain ⟨T', h', Y', e', W, st⟩ := stJ Y r.1 hZ eT Ar hin (g := mkF K.2.2.2.1 pc L (.long x :: .int j :: .ref a :: S)) rfl rfl (hb r.2.1 hd)
  obtain ⟨s₂, o, x, r'⟩ := nx h' (Keep.of_wr W) W.size (Arv.set Ar q1 q2 q3 q4 q5 rfl W i hi hl) T' (St.wrote W ha Y' e' hS hk hZ hown N C M O r)
  exact ⟨s₂, o, st _ x, r'⟩
theorem go_arraylength {a : Addr} {k : ClassId} {ty : FieldType} {z : Int32} {vs : List Value} {dv : Value} (A : Arv Z h a k ty z vs dv) (hd : decode b pc = .ok (.arraylength, 1)) (hq : pc + 1 = q)
    (nx : Go l Z K own mn b ml rt R Q h F c s q L (.int z :: S)) : Go l Z K own mn b ml rt R Q h F c s pc L (.ref a :: S) := by
  subst hq
  exact go_of (fun T X t st => by
    obtain ⟨vm, k, locs, Y, eT, hS, hk, hZ, hown, N, C, M, O, r⟩ := X
    obtain ⟨cl, Ar, q1, q2, q3, q4, q5⟩ := A
    refine Y.arraylength r.1 (by rw [eT]; exact Ar.1) (State.isArrayOf_alike hZ.alike Ar.2.1) (g := mkF K.2.2.2.1 pc L (.ref a :: S)) rfl rfl (hb r.2.1 hd) _ ?_
    rw [len_of q2 q3]; exact st) nx
theorem go_caload {a : Addr} {k : ClassId} {z j : Int32} {vs : List Value} {dv v : Value} (A : Arv Z h a k .char z vs dv) (hj : ¬ j < 0 ∧ j < z) (hv : vs.getD j.toNatClampNeg dv = v) (hd : decode b pc = .ok (.caload, 1)) (hq : pc + 1 = q)
    (nx : Go l Z K own mn b ml rt R Q h F c s q L (v :: S)) : Go l Z K own mn b ml rt R Q h F c s pc L (.int j :: .ref a :: S) := by
  subst hq
  exact go_of (fun T X t st => by
    obtain ⟨vm, k, locs, Y, eT, hS, hk, hZ, hown, N, C, M, O, r⟩ := X
    obtain ⟨cl, Ar, q1, q2, q3, q4, q5⟩ := A
    exact Y.caload r.1 (by rw [eT]; exact Ar.1) (State.isArrayOf_alike hZ.alike Ar.2.1) Ar.2.2 (inb_of q2 hj) (q4.at (inb_of q2 hj) hv) (g := mkF K.2.2.2.1 pc L (.int j :: .ref a :: S)) rfl rfl (hb r.2.1 hd) _ st) nx
theorem go_baload {a : Addr} {k : ClassId} {z j : Int32} {vs : List Value} {dv v : Value} (A : Arv Z h a k .byte z vs dv) (hj : ¬ j < 0 ∧ j < z) (hv : vs.getD j.toNatClampNeg dv = v) (hd : decode b pc = .ok (.baload, 1)) (hq : pc + 1 = q)
    (nx : Go l Z K own mn b ml rt R Q h F c s q L (v :: S)) : Go l Z K own mn b ml rt R Q h F c s pc L (.int j :: .ref a :: S) := by
  subst hq
  exact go_of (fun T X t st => by
    obtain ⟨vm, k, locs, Y, eT, hS, hk, hZ, hown, N, C, M, O, r⟩ := X
    obtain ⟨cl, Ar, q1, q2, q3, q4, q5⟩ := A
    exact Y.baloadBytes r.1 (by rw [eT]; exact Ar.1) (State.isArrayOf_alike hZ.alike Ar.2.1) Ar.2.2 (inb_of q2 hj) (q4.at (inb_of q2 hj) hv) (g := mkF K.2.2.2.1 pc L (.int j :: .ref a :: S)) rfl rfl (hb r.2.1 hd) _ st) nx
theorem go_laload {a : Addr} {k : ClassId} {z j : Int32} {vs : List Value} {dv v : Value} (A : Arv Z h a k .long z vs dv) (hj : ¬ j < 0 ∧ j < z) (hv : vs.getD j.toNatClampNeg dv = v) (hd : decode b pc = .ok (.laload, 1)) (hq : pc + 1 = q)
    (nx : Go l Z K own mn b ml rt R Q h F c s q L (v :: S)) : Go l Z K own mn b ml rt R Q h F c s pc L (.int j :: .ref a :: S) := by
  subst hq
  exact go_of (fun T X t st => by
    obtain ⟨vm, k, locs, Y, eT, hS, hk, hZ, hown, N, C, M, O, r⟩ := X
    obtain ⟨cl, Ar, q1, q2, q3, q4, q5⟩ := A
    exact Y.laload r.1 (by rw [eT]; exact Ar.1) (State.isArrayOf_alike hZ.alike Ar.2.1) Ar.2.2 (inb_of q2 hj) (q4.at (inb_of q2 hj) hv) (g := mkF K.2.2.2.1 pc L (.int j :: .ref a :: S)) rfl rfl (hb r.2.1 hd) _ st) nx
theorem go_aaload {a : Addr} {k : ClassId} {ty : FieldType} {z j : Int32} {vs : List Value} {dv v : Value} (A : Arv Z h a k ty z vs dv) (hty : ty.isReference = true) (hj : ¬ j < 0 ∧ j < z) (hv : vs.getD j.toNatClampNeg dv = v) (hd : decode b pc = .ok (.aaload, 1)) (hq : pc + 1 = q)
    (nx : Go l Z K own mn b ml rt R Q h F c s q L (v :: S)) : Go l Z K own mn b ml rt R Q h F c s pc L (.int j :: .ref a :: S) := by
  subst hq
  exact go_of (fun T X t st => by
    obtain ⟨vm, k, locs, Y, eT, hS, hk, hZ, hown, N, C, M, O, r⟩ := X
    obtain ⟨cl, Ar, q1, q2, q3, q4, q5⟩ := A
    exact Y.aaload r.1 (by rw [eT]; exact Ar.1) (State.isArrayOf_alike hZ.alike Ar.2.1) hty Ar.2.2 (inb_of q2 hj) (q4.at (inb_of q2 hj) hv) (g := mkF K.2.2.2.1 pc L (.int j :: .ref a :: S)) rfl rfl (hb r.2.1 hd) _ st) nx
theorem go_checkcast {index : Nat} {C : String} {a : Addr} (w : (Cond.classLink own index C).before a0 Z = true) (I : Ins Z h a C true) (hd : decode b pc = .ok (.checkcast index, 3)) (hq : pc + 3 = q)
    (nx : Go l Z K own mn b ml rt R Q h F c s q L (.ref a :: S)) : Go l Z K own mn b ml rt R Q h F c s pc L (.ref a :: S) := fun T X => by
  subst hq
  obtain ⟨vm, k, locs, Y, eT, hS, hk, hZ, hown, N, C, M, O, r⟩ := X
  obtain ⟨T', Y', e', st⟩ := castY Y r.1 hZ hown w eT I (g := mkF K.2.2.2.1 pc L (.ref a :: S)) rfl rfl (hb r.2.1 hd)
  obtain ⟨s₂, o, x, r'⟩ := nx T' ⟨vm, k, locs, Y', e', hS, hk, hZ, hown, N, C, M, O, r⟩
  exact ⟨s₂, o, st _ x, r'⟩
theorem go_instY {index : Nat} {C : String} {a : Addr} (w : (Cond.classLink own index C).before a0 Z = true) (I : Ins Z h a C true) (hd : decode b pc = .ok (.instanceof index, 3)) (hq : pc + 3 = q)
    (nx : Go l Z K own mn b ml rt R Q h F c s q L (.int 1 :: S)) : Go l Z K own mn b ml rt R Q h F c s pc L (.ref a :: S) := fun T X => by
  subst hq
  obtain ⟨vm, k, locs, Y, eT, hS, hk, hZ, hown, N, C, M, O, r⟩ := X
  obtain ⟨T', Y', e', st⟩ := instY Y r.1 hZ hown w eT I (g := mkF K.2.2.2.1 pc L (.ref a :: S)) rfl rfl (hb r.2.1 hd)
  obtain ⟨s₂, o, x, r'⟩ := nx T' ⟨vm, k, locs, Y', e', hS, hk, hZ, hown, N, C, M, O, r⟩
  exact ⟨s₂, o, st _ x, r'⟩
theorem go_instNo {index : Nat} {C D : String} {a : Addr} (w : (Cond.classLink own index D).before a0 Z = true) (E : Exa Z h a C) (Fn : ∃ c t, Z.vm.findClass C = some c ∧ Z.vm.findClass D = some t ∧ Z.vm.assignable c t = false) (hd : decode b pc = .ok (.instanceof index, 3)) (hq : pc + 3 = q)
    (nx : Go l Z K own mn b ml rt R Q h F c s q L (.int 0 :: S)) : Go l Z K own mn b ml rt R Q h F c s pc L (.ref a :: S) := fun T X => by
  subst hq
  obtain ⟨vm, k, locs, Y, eT, hS, hk, hZ, hown, N, C, M, O, r⟩ := X
  obtain ⟨T', Y', e', st⟩ := instNo Y r.1 hZ hown w eT E Fn (g := mkF K.2.2.2.1 pc L (.ref a :: S)) rfl rfl (hb r.2.1 hd)
  obtain ⟨s₂, o, x, r'⟩ := nx T' ⟨vm, k, locs, Y', e', hS, hk, hZ, hown, N, C, M, O, r⟩
  exact ⟨s₂, o, st _ x, r'⟩
theorem go_ldcInt {index : Nat} {v : Int32} (w : (Cond.constant own index v).before a0 Z = true) (hd : decode b pc = .ok (.ldc index, 2)) (hq : pc + 2 = q) (nx : Go l Z K own mn b ml rt R Q h F c s q L (.int v :: S)) : Go l Z K own mn b ml rt R Q h F c s pc L S := by
  subst hq
  exact go_of (fun T X t st => by
    obtain ⟨vm, k, locs, Y, eT, hS, hk, hZ, hown, N, C, M, O, r⟩ := X
    exact Y.ldcInt r.1 hown (mvT (s := K.2.2.1.setVm vm) hZ w) (g := mkF K.2.2.2.1 pc L S) rfl (hb r.2.1 hd) _ st) nx
theorem go_ldc2 {index : Nat} {v : Int64} (w : (Cond.constantLong own index v).before a0 Z = true) (hd : decode b pc = .ok (.ldc2_w index, 3)) (hq : pc + 3 = q) (nx : Go l Z K own mn b ml rt R Q h F c s q L (.long v :: S)) : Go l Z K own mn b ml rt R Q h F c s pc L S := by
  subst hq
  exact go_of (fun T X t st => by
    obtain ⟨vm, k, locs, Y, eT, hS, hk, hZ, hown, N, C, M, O, r⟩ := X
    exact Y.ldc2Long r.1 hown (mvT (s := K.2.2.1.setVm vm) hZ w) (g := mkF K.2.2.2.1 pc L S) rfl (hb r.2.1 hd) _ st) nx
/-- ldc of a String constant, read -/
theorem go_ldcS (H : Wd Z a0) {index : Nat} {text : String} (w : (Cond.stringLink own index text).before a0 Z = true) (hm : (own, index) ∈ consts_1) {vs : List Value} {z : Int32} (ht : (∀ c ∈ text.toList, c.toNat < 256) ∧ text.toList.map (fun c => Value.int (Jvm.Lit.byteI c.toNat.toUInt16)) = vs) (hz : ¬ z < 0) (hl : z.toNatClampNeg = vs.length)
    (hd : decode b pc = .ok (.ldc index, 2)) {n : Nat} (hn : 4 * text.toList.length ≤ n) (hbig : n ≤ 536870912) (hq : pc + 2 = q) (hc : c + 2 = c') (hs : s + (n + 4) = s') (hc' : c' ≤ R.cells) (hs' : s' ≤ R.slots)
    (nx : ∀ h' a bb k, Ext h h' → Exa Z h' a "java/lang/String" → Fld Z h' a "java/lang/String" "coder" "B" (.int 0) → Fld Z h' a "java/lang/String" "value" "[B" (.ref bb) → Arv Z h' bb k .byte z vs (.int 0) → (∀ x ∈ F, x ≠ a ∧ x ≠ bb) → Go l Z K own mn b ml rt R Q h' F c' s' q L (.ref a :: S)) : Go l Z K own mn b ml rt R Q h F c s pc L S := fun T X => by
  subst hq hc hs
  obtain ⟨vm, k, locs, Y, eT, hS, hk, hZ, hown, N, C, M, O, r⟩ := X
  obtain ⟨a, T', h', k1, bb, kc, Y', e', E, hS', hk', hZ', hown', A, Fc, Fv, V, -, -, C', -, Sf, st⟩ := ldcCH Y r.1 hZ hown w H.2.2.1 eT hS hk H.2.1 hm C.1 ht hz hl (g := mkF K.2.2.2.1 pc L S) rfl (hb r.2.1 hd) hn hbig hc' hs'
  have M' : ∀ x ∈ F, Mine Z T'.vm h' x := fun x hx => ⟨(M x hx).1, Nat.lt_of_lt_of_le (M x hx).2.1 E.1, C'.safe (M x hx).2.1 (M x hx).2.2⟩
  obtain ⟨s₂, o, x, r'⟩ := nx h' a bb kc E A Fc Fv V (fun x hx => Sf x (M' x hx).2.2) T' ⟨T'.vm, k1, locs, Y', e', hS', hk', hZ', hown', N, C.trans C', M', O.ext E, r⟩
  exact ⟨s₂, o, st _ x, r'⟩
theorem go_initO {index : Nat} {a : Addr} (w1 : (Cond.methodLink own index Lib.objectInit).before a0 Z = true) (w2 : (Cond.instanceMethod Lib.objectInit).before a0 Z = true) (w3 : (Cond.code Lib.objectInit ⟨#[0xb1]⟩ 1 none).before a0 Z = true) (hL : L.size = ml) (hd : decode b pc = .ok (.invokespecial index, 3)) (hq : pc + 3 = q) (hf : 1 ≤ R.frames) (hlo : (S.map fun v => v.category).sum + 12 ≤ R.locals)
    (nx : Go l Z K own mn b ml rt R Q h F c s q L S) : Go l Z K own mn b ml rt R Q h F c s pc L (.ref a :: S) := fun T X => by
  subst hq
  obtain ⟨vm, k, locs, Y, eT, hS, hk, hZ, hown, N, C, M, O, r⟩ := X
  obtain ⟨T', Y', e', st⟩ := initO Y r.1 hZ hown w1 w2 w3 eT (g := mkF K.2.2.2.1 pc L (.ref a :: S)) rfl (by rw [r.2.2.1]; exact hL) rfl (hb r.2.1 hd) hf (W := (S.map fun v => v.category).sum) (by show 2 * 0 + _ ≤ _; omega) hlo
  obtain ⟨s₂, o, x, r'⟩ := nx T' ⟨vm, k, locs, Y', e', hS, hk, hZ, hown, N, C, M, O, r⟩
  exact ⟨s₂, o, st _ x, r'⟩
/-! ### returns -/
theorem St.end_ (H : Wd Z a0) {T : State} (X : St l Z K own mn b ml rt R T h F c s) {G : List Addr} {v : Option Value} (hq : Q v h G) (hG : ∀ x ∈ G, x ∈ F) (hc : c ≤ R.cells) (hs : s ≤ R.slots) (hv : rt = none → v = none) :
    ∃ fs, (∀ (f : JFrame) (acts : List Action), f.method = K.2.2.2.1 → f.locked = none → f.entered = [] → (doReturn K.2.1 (T.setTop f) acts v).1 = T.setFrames fs) ∧ (T.setFrames fs).status = .running ∧ Ended (T.setFrames fs) K.2.2.2.2.2.1 (.returned v) ∧ End Z K.2.2.1 R Q (.returned v) (T.setFrames fs) := by
  obtain ⟨vm, k, locs, Y, eT, hS, hk, hZ, hown, N, C, M, O, hx, hb', r1, r2, r3, r4⟩ := X
  obtain ⟨fs, h1, h2, h3, h4⟩ := Y.leaveW hS (by rw [eT]; exact hk) (v := v) (fun e => hv (r2.symm.trans e)) r4
  have A := CHv.at Y hZ H.2.1 C.1
  refine ⟨fs, h1, h2, h3, v, locs, G, rfl, by show Q v T.heap G; rw [eT]; exact hq, N, fun x hx => ?_, by show CHr Z consts_1 _ _ T.vm T.heap; rw [eT]; exact C.trans A, by show Old Z _ T.heap; rw [eT]; exact O, h4.1, h4.2.1, h4.2.2.1, h4.2.2.2.mono hc hs⟩
  have m := M x (hG x hx)
  exact ⟨m.1, by show x < T.heap.size; rw [eT]; exact m.2.1, by show Safe Z consts_1 T.vm T.heap x; rw [eT]; exact A.safe m.2.1 m.2.2⟩
theorem go_return (H : Wd Z a0) {G : List Addr} (hr : rt = none) (hd : decode b pc = .ok (.return_, 1)) (hc : c ≤ R.cells) (hs : s ≤ R.slots) (hG : ∀ x ∈ G, x ∈ F) (hq : Q none h G) : Go l Z K own mn b ml rt R Q h F c s pc L [] := fun T X => by
  obtain ⟨fs, h1, h2, h3, h4⟩ := X.end_ H hq hG hc hs (fun _ => rfl)
  obtain ⟨vm, k, locs, Y, eT, hS, hk, hZ, hown, N, C, M, O, hx, hb', r1, r2, r3, r4⟩ := X
  exact ⟨_, _, Y.returnOut hx (r2.trans hr) (hb hb' hd) h1, h2, h3, h4⟩
theorem go_areturn (H : Wd Z a0) {G : List Addr} {w : Value} {t : FieldType} (hr : rt = some t) (ht : t.isReference = true) (hw : w.isRef = true) (hd : decode b pc = .ok (.areturn, 1)) (hc : c ≤ R.cells) (hs : s ≤ R.slots) (hG : ∀ x ∈ G, x ∈ F) (hq : Q (some w) h G) : Go l Z K own mn b ml rt R Q h F c s pc L (w :: S) := fun T X => by
  obtain ⟨fs, h1, h2, h3, h4⟩ := X.end_ H hq hG hc hs (fun e => by rw [hr] at e; cases e)
  obtain ⟨vm, k, locs, Y, eT, hS, hk, hZ, hown, N, C, M, O, hx, hb', r1, r2, r3, r4⟩ := X
  have hn : narrow t w = w := by cases t <;> cases w <;> simp_all [narrow, Value.isRef, FieldType.isReference]
  exact ⟨_, _, retOut Y hx (r2.trans hr) hn (Or.inr (Or.inr (Or.inr (Or.inr ⟨rfl, ht, hw⟩)))) (hb hb' hd) h1, h2, h3, h4⟩
theorem go_ireturn (H : Wd Z a0) {G : List Addr} {x : Int32} {t : FieldType} (hr : rt = some t) (ht : t = .int ∨ t = .boolean ∨ t = .byte ∨ t = .char ∨ t = .short) (hn : narrow t (.int x) = .int x) (hd : decode b pc = .ok (.ireturn, 1)) (hc : c ≤ R.cells) (hs : s ≤ R.slots) (hG : ∀ x ∈ G, x ∈ F) (hq : Q (some (.int x)) h G) : Go l Z K own mn b ml rt R Q h F c s pc L (.int x :: S) := fun T X => by
  obtain ⟨fs, h1, h2, h3, h4⟩ := X.end_ H hq hG hc hs (fun e => by rw [hr] at e; cases e)
  obtain ⟨vm, k, locs, Y, eT, hS, hk, hZ, hown, N, C, M, O, hx, hb', r1, r2, r3, r4⟩ := X
  exact ⟨_, _, retOut Y hx (r2.trans hr) hn (Or.inl ⟨rfl, ht, x, rfl⟩) (hb hb' hd) h1, h2, h3, h4⟩
theorem go_lreturn (H : Wd Z a0) {G : List Addr} {x : Int64} (hr : rt = some .long) (hd : decode b pc = .ok (.lreturn, 1)) (hc : c ≤ R.cells) (hs : s ≤ R.slots) (hG : ∀ x ∈ G, x ∈ F) (hq : Q (some (.long x)) h G) : Go l Z K own mn b ml rt R Q h F c s pc L (.long x :: S) := fun T X => by
  obtain ⟨fs, h1, h2, h3, h4⟩ := X.end_ H hq hG hc hs (fun e => by rw [hr] at e; cases e)
  obtain ⟨vm, k, locs, Y, eT, hS, hk, hZ, hown, N, C, M, O, hx, hb', r1, r2, r3, r4⟩ := X
  exact ⟨_, _, retOut Y hx (r2.trans hr) rfl (Or.inr (Or.inl ⟨rfl, rfl, x, rfl⟩)) (hb hb' hd) h1, h2, h3, h4⟩
/-! ### calls -/
/-- what a callee leaves, as the caller's law sees it -/
def Left (Z : State) (vm0 : Vm) (h : Heap) (R' : Room) (Q' : QT) (A : Pt) (v : Option Value) (B : Pt) : Prop :=
  ∃ L G, Q' v B.U.heap G ∧ Fr Z.heap.size L ∧ (∀ x ∈ G, Mine Z B.U.vm B.U.heap x) ∧ CHr Z consts_1 vm0 h B.U.vm B.U.heap ∧ Old Z Z.heap.size B.U.heap ∧ B.locs = A.locs ++ L ∧ B.cells = A.cells + R'.cells ∧ B.slots = A.slots + R'.slots
theorem Met.back {y : MethodName} {b' : ByteArray} {ml' : Nat} {rt' : Option FieldType} {R' : Room} {F' : List Addr} {as : Array Value} {Q' : QT} {len W : Nat} {vm0 : Vm} {p : Program} {e : Env} {below : List Frame} {s : State} {args : Array Value} (H : Wd Z a0) (M : Met l Z y b' ml' rt' R' h F' as Q') (hZ : Z.Warmed39 vm0)
    (wc : (Cond.code y b' ml' rt').before a0 Z = true) (wz : (Cond.initialized y.cls).before a0 Z = true) (hf : R'.frames + 1 ≤ R.frames) (hl : W + (ml' + 11) + R'.locals ≤ R.locals) (C : CHv Z consts_1 vm0 h) (hM : ∀ x ∈ F', Mine Z vm0 h x) (hO : Old Z Z.heap.size h) :
    BackS l R p e below (s.setVm vm0) args y len W (fun A a => a = as ∧ A.U.heap = h ∧ A.cells + R'.cells ≤ R.cells ∧ A.slots + R'.slots ≤ R.slots) (fun A _ v B => Left Z vm0 h R' Q' A v B) :=
  BackS.of_freeW (bytes := b') (maxL := ml') (ret := rt') (E := fun _ first o t L k n => k = R'.cells ∧ n = R'.slots ∧ ∃ v G, o = .returned v ∧ Q' v t.heap G ∧ Fr Z.heap.size L ∧ (∀ x ∈ G, Mine Z t.vm t.heap x) ∧ CHr Z consts_1 first.vm first.heap t.vm t.heap ∧ Old Z Z.heap.size t.heap) M hf hl
    (fun m meth c A a Y hp => have hU : Z.Warmed39 A.U.vm := wtrans (s := s.setVm vm0) hZ Y.warmed
      ⟨by show (Cond.and _ .tt).before a A.U = true; rw [Cond.before_and, mv hU wc]; rfl, mv hU wc, mv hU wz, hp.2.2.1, hp.2.2.2⟩)
    (fun m meth c A a g mk Y hp => ⟨hp.1, wtrans (s := s.setVm vm0) hZ Y.warmed, hp.2.1, (CHv.at Y hZ H.2.1 C).1, fun x hx => ⟨(hM x hx).1, (hM x hx).2.1, (CHv.at Y hZ H.2.1 C).safe (hM x hx).2.1 (hM x hx).2.2⟩, hO⟩) (fun _ _ _ _ _ _ _ _ _ => trivial)
    (fun _ _ _ _ ⟨v, L, G, h1, h2, h3, h4, h5, h6, h7⟩ => ⟨L, _, _, h7, rfl, rfl, v, G, h1, h2, h3, h4, h5, h6⟩)
    (fun m meth c A a g mk v t L k n Y hp _ _ ⟨e1, e2, v', G, e3, e4, e5, e6, e7, e8⟩ => by
      cases e3; subst e1 e2
      refine ⟨L, G, e4, e5, e6, (CHv.at Y hZ H.2.1 C).trans ?_, e8, rfl, rfl, rfl⟩
      rw [← hp.2.1]; exact e7)
/-- behind a call -/
theorem St.came {vm : Vm} {k : Nat} {locs : List Loc} {T : State} {R' : Room} {Q' : QT} {v : Option Value} {vm₁ : Vm} {B : Pt} (Y : Stand K.1 l K.2.1 R (K.2.2.1.setVm vm) K.2.2.2.1 K.2.2.2.2.1 K.2.2.2.2.2.1 K.2.2.2.2.2.2.1 K.2.2.2.2.2.2.2 T locs c s) (eT : T.heap = h) (hS : K.2.2.1.Since vm k) (hk : k ≤ h.size)
    (hZ : Z.Warmed39 vm) (hown : vm.findClass own = some K.2.2.2.1.cls) (N : Fr Z.heap.size locs) (C : CHr Z consts_1 K.2.2.1.vm K.2.2.1.heap vm h) (M : ∀ x ∈ F, Mine Z vm h x)
    (r : K.1.tables.exec = Jvm.exec ∧ K.2.2.2.2.2.2.2.code = b ∧ K.2.2.2.2.2.2.2.maxLocals = ml ∧ K.2.2.2.2.2.2.1.sig.returnType = rt ∧ K.2.2.2.2.2.2.1.name = mn ∧ K.2.2.2.2.2.2.1.locks = false)
    (Y' : Stand K.1 l K.2.1 R ((K.2.2.1.setVm vm).setVm B.U.vm) K.2.2.2.1 K.2.2.2.2.1 K.2.2.2.2.2.1 K.2.2.2.2.2.2.1 K.2.2.2.2.2.2.2 B.U B.locs B.cells B.slots) (hS' : (K.2.2.1.setVm vm).Since B.U.vm B.U.heap.size) (hg : T.heap.size ≤ B.U.heap.size) (P : Left Z vm h R' Q' ⟨T.setVm vm₁, locs, c, s⟩ v B) :
    ∃ G, Q' v B.U.heap G ∧ (∀ F2, (∀ x ∈ F2, x ∈ G ∨ x ∈ F) → St l Z K own mn b ml rt R B.U B.U.heap F2 (c + R'.cells) (s + R'.slots)) := by
  obtain ⟨Lc, G, q1, q2, q3, q4, q5, q6, q7, q8⟩ := P
  have hkT : k ≤ T.heap.size := by rw [eT]; exact hk
  obtain ⟨w1, w2, w3, w4⟩ := rebS hS hkT Y' hS' hg hZ hown
  try dsimp only at q6 q7 q8
  rw [q6, q7, q8] at w1
  exact ⟨G, q1, fun F2 hF => ⟨B.U.vm, _, _, w1, rfl, w2, Nat.le_refl _, w3, w4, N.app q2, C.trans q4, fun x hx => by
    rcases hF x hx with z | z
    · exact q3 x z
    · have m := M x z
      exact ⟨m.1, Nat.lt_of_lt_of_le m.2.1 (by rw [← eT]; exact hg), q4.safe m.2.1 m.2.2⟩, q5, r⟩⟩
theorem decl_of {y : MethodName} {b' : ByteArray} {ml' : Nat} {rt' : Option FieldType} (w1 : (Cond.instanceMethod y).before a0 Z = true) (w2 : (Cond.code y b' ml' rt').before a0 Z = true) : (Cond.declares y).before a0 Z = true := by
  obtain ⟨mk, methM, hn, hm, hst, -⟩ := Cond.instanceMethod_spec w1
  obtain ⟨m2, cM, q1, -, -, -, -, -, -, hsig⟩ := Cond.code_spec hn w2
  cases hm.symm.trans q1
  simp [Cond.before, Cond.holds, Cond.value, hn, hm, hst, hsig]
theorem nf_mate {y w : MethodName} {C : String} (hc : w.cls = y.cls) (hs : (Cond.selects C w w).before a0 Z = true) : ∀ s : State, Z.Warmed39 s.vm → NotFace s y := fun s hZ r0 h0 => by
  obtain ⟨c, r, m, q1, q2, q3, q4, mk, q5, q6⟩ := Cond.selects_spec (mvT (s := s) (args := #[]) hZ hs)
  have e1 := findClass_of_methodNamed q3
  have e2 := findClass_of_methodNamed h0
  rw [hc] at e1
  have e3 : m.cls = r0.cls := Option.some.inj (e1.symm.trans e2)
  exact ⟨mk, by rw [← e3]; exact q5, q6⟩
theorem same_of {y w : MethodName} {C : String} (hc : w.cls = y.cls) (hs : (Cond.selects C w w).before a0 Z = true) (hd : (Cond.declares y).before a0 Z = true) (hy : y.cls ≠ "java/lang/invoke/MethodHandle" ∧ y.cls ≠ "java/lang/invoke/VarHandle") : (Cond.sameMethod y.cls y.cls y.name y.desc).before a0 Z = true := by
  obtain ⟨r0, r, hn, hrm, -, -⟩ := Cond.declares_spec hd
  obtain ⟨k, hk, hi⟩ := nf_mate hc hs Z (State.Warmed39.refl Z) r0 hn
  have hf := State.methodFound?_of_named hn hy
  have hcn := findClass_of_methodNamed hn
  have hn' : Z.methodNamed? ⟨y.cls, y.name, y.desc⟩ = some r0 := hn
  simp [Cond.before, Cond.holds, Cond.value, hcn, hf, hn', hk, hi]
section Calls
variable {index : Nat} {y : MethodName} {b' : ByteArray} {ml' : Nat} {rt' : Option FieldType} {R' : Room} {F' : List Addr} {as : Array Value} {Q' : QT} {argsL : List Value}
theorem go_static (H : Wd Z a0) (w1 : (Cond.methodLink own index y).before a0 Z = true) (w2 : (Cond.static y).before a0 Z = true) (w3 : (Cond.initialized y.cls).before a0 Z = true) (w4 : (Cond.code y b' ml' rt').before a0 Z = true) (hy : y.cls ≠ "java/lang/invoke/MethodHandle" ∧ y.cls ≠ "java/lang/invoke/VarHandle") (M' : Met l Z y b' ml' rt' R' h F' as Q')
    (ha : argsL.toArray = as) (hst : S' = argsL.reverse ++ S) (hlen : ∀ sig, parseMethodDescriptor y.desc = some sig → argsL.length = sig.parameters.length) (hF : ∀ x ∈ F', x ∈ F) (hL : L.size = ml) (hfr : R'.frames + 1 ≤ R.frames) (hlo : (S.map fun v => v.category).sum + (ml' + 11) + R'.locals ≤ R.locals) (hc : c + R'.cells = c') (hs : s + R'.slots = s') (hc' : c' ≤ R.cells) (hs' : s' ≤ R.slots)
    (hd : decode b pc = .ok (.invokestatic index, 3)) (hq : pc + 3 = q) (nx : ∀ v h' G, h.size ≤ h'.size → Q' v h' G → ∃ F2, (∀ x ∈ F2, x ∈ G ∨ x ∈ F) ∧ Go l Z K own mn b ml rt R Q h' F2 c' s' q L (v.toList ++ S)) : Go l Z K own mn b ml rt R Q h F c s pc L S' := fun T X => by
  subst hq hc hs hst ha
  obtain ⟨vm, k, locs, Y, eT, hS, hk, hZ, hown, N, C, M, O, r⟩ := X
  obtain ⟨v, vm₁, B, -, Y', hS', hg, P, st⟩ := callSS Y r.1 hown (mvT (s := K.2.2.1.setVm vm) hZ w1) (mvT (s := K.2.2.1.setVm vm) hZ w2) (mvT (s := K.2.2.1.setVm vm) hZ w3) (mvT (s := K.2.2.1.setVm vm) hZ w4) hy (W := (S.map fun v => v.category).sum) (M'.back H hZ w4 w3 hfr hlo C.1 (fun x hx => M x (hF x hx)) O) (g := mkF K.2.2.2.1 pc L (argsL.reverse ++ S)) rfl (by rw [r.2.2.1]; exact hL) (argsL := argsL) (rest := S) hlen rfl (by show 2 * 0 + _ ≤ _; omega) (hb r.2.1 hd) (fun _ _ => ⟨rfl, eT, hc', hs'⟩)
  obtain ⟨G, q1, q2⟩ := St.came Y eT hS hk hZ hown N C M r Y' hS' hg P
  obtain ⟨F2, f1, f2⟩ := nx v B.U.heap G (by rw [← eT]; exact hg) q1
  obtain ⟨s₂, o, x, r'⟩ := f2 B.U (q2 F2 f1)
  exact ⟨s₂, o, st.trans x, r'⟩
theorem go_special (H : Wd Z a0) {a : Addr} (hy1 : y.name = "<init>") (w1 : (Cond.methodLink own index y).before a0 Z = true) (w2 : (Cond.instanceMethod y).before a0 Z = true) (w3 : (Cond.initialized y.cls).before a0 Z = true) (w4 : (Cond.code y b' ml' none).before a0 Z = true) (hy : y.cls ≠ "java/lang/invoke/MethodHandle" ∧ y.cls ≠ "java/lang/invoke/VarHandle") (M' : Met l Z y b' ml' none R' h F' as Q')
    (ha : (.ref a :: argsL).toArray = as) (hst : S' = argsL.reverse ++ .ref a :: S) (hlen : ∀ sig, parseMethodDescriptor y.desc = some sig → argsL.length = sig.parameters.length) (hF : ∀ x ∈ F', x ∈ F) (hL : L.size = ml) (hfr : R'.frames + 1 ≤ R.frames) (hlo : (S.map fun v => v.category).sum + (ml' + 11) + R'.locals ≤ R.locals) (hc : c + R'.cells = c') (hs : s + R'.slots = s') (hc' : c' ≤ R.cells) (hs' : s' ≤ R.slots)
    (hd : decode b pc = .ok (.invokespecial index, 3)) (hq : pc + 3 = q) (nx : ∀ v h' G, h.size ≤ h'.size → Q' v h' G → ∃ F2, (∀ x ∈ F2, x ∈ G ∨ x ∈ F) ∧ Go l Z K own mn b ml rt R Q h' F2 c' s' q L (v.toList ++ S)) : Go l Z K own mn b ml rt R Q h F c s pc L S' := fun T X => by
  subst hq hc hs hst ha
  obtain ⟨vm, k, locs, Y, eT, hS, hk, hZ, hown, N, C, M, O, r⟩ := X
  obtain ⟨v, vm₁, B, -, Y', hS', hg, P, st⟩ := Y.specialBackS r.1 hy1 hown (mvT (s := K.2.2.1.setVm vm) hZ w1) (mvT (s := K.2.2.1.setVm vm) hZ w2) (mvT (s := K.2.2.1.setVm vm) hZ w4) hy (W := (S.map fun v => v.category).sum) (M'.back H hZ w4 w3 hfr hlo C.1 (fun x hx => M x (hF x hx)) O) (g := mkF K.2.2.2.1 pc L (argsL.reverse ++ .ref a :: S)) rfl (by rw [r.2.2.1]; exact hL) (Steps.refl _) (argsL := argsL) (rest := S) hlen rfl (by show 2 * 0 + _ ≤ _; omega) (hb r.2.1 hd) (fun _ _ => ⟨rfl, eT, hc', hs'⟩)
  obtain ⟨G, q1, q2⟩ := St.came Y eT hS hk hZ hown N C M r Y' hS' hg P
  obtain ⟨F2, f1, f2⟩ := nx v B.U.heap G (by rw [← eT]; exact hg) q1
  obtain ⟨s₂, o, x, r'⟩ := f2 B.U (q2 F2 f1)
  exact ⟨s₂, o, st.trans x, r'⟩
/-- invokevirtual of y on an object exactly of class C: the body is z's -/
theorem go_virtual (H : Wd Z a0) {a : Addr} {C : String} {z : MethodName} (w1 : (Cond.methodLink own index y).before a0 Z = true) (w2 : (Cond.declares y).before a0 Z = true) (wnf : ∀ s : State, Z.Warmed39 s.vm → NotFace s y) (w3 : (Cond.selects C y z).before a0 Z = true) (w4 : (Cond.instanceMethod z).before a0 Z = true) (w5 : (Cond.initialized z.cls).before a0 Z = true) (w6 : (Cond.code z b' ml' rt').before a0 Z = true)
    (hy : y.cls ≠ "java/lang/invoke/MethodHandle" ∧ y.cls ≠ "java/lang/invoke/VarHandle") (E : Exa Z h a C) (M' : Met l Z z b' ml' rt' R' h F' as Q')
    (ha : (.ref a :: argsL).toArray = as) (hst : S' = argsL.reverse ++ .ref a :: S) (hlen : ∀ sig, parseMethodDescriptor y.desc = some sig → argsL.length = sig.parameters.length) (hF : ∀ x ∈ F', x ∈ F) (hL : L.size = ml) (hfr : R'.frames + 1 ≤ R.frames) (hlo : (S.map fun v => v.category).sum + (ml' + 11) + R'.locals ≤ R.locals) (hc : c + R'.cells = c') (hs : s + R'.slots = s') (hc' : c' ≤ R.cells) (hs' : s' ≤ R.slots)
    (hd : decode b pc = .ok (.invokevirtual index, 3)) (hq : pc + 3 = q) (nx : ∀ v h' G, h.size ≤ h'.size → Q' v h' G → ∃ F2, (∀ x ∈ F2, x ∈ G ∨ x ∈ F) ∧ Go l Z K own mn b ml rt R Q h' F2 c' s' q L (v.toList ++ S)) : Go l Z K own mn b ml rt R Q h F c s pc L S' := fun T X => by
  subst hq hc hs hst ha
  obtain ⟨vm, k, locs, Y, eT, hS, hk, hZ, hown, N, C, M, O, r⟩ := X
  obtain ⟨cB, kB, g1, g2, g3⟩ := isOf (s := K.2.2.1.setVm vm) hZ eT E
  obtain ⟨v, vm₁, B, -, Y', hS', hg, P, st⟩ := Y.virtualBackS r.1 hown (mvT (s := K.2.2.1.setVm vm) hZ w1) (mvT (s := K.2.2.1.setVm vm) hZ w2) (wnf (K.2.2.1.setVm vm) hZ) (mvT (s := K.2.2.1.setVm vm) hZ w3) (mvT (s := K.2.2.1.setVm vm) hZ w4) hy (W := (S.map fun v => v.category).sum) (M'.back H hZ w6 w5 hfr hlo C.1 (fun x hx => M x (hF x hx)) O) g1 g3 (g := mkF K.2.2.2.1 pc L (argsL.reverse ++ .ref a :: S)) rfl (by rw [r.2.2.1]; exact hL) (Steps.refl _) (argsL := argsL) (rest := S) hlen rfl (by show 2 * 0 + _ ≤ _; omega) (hb r.2.1 hd) (fun _ _ => ⟨rfl, eT, hc', hs'⟩)
  obtain ⟨G, q1, q2⟩ := St.came Y eT hS hk hZ hown N C M r Y' hS' hg P
  obtain ⟨F2, f1, f2⟩ := nx v B.U.heap G (by rw [← eT]; exact hg) q1
  obtain ⟨s₂, o, x, r'⟩ := f2 B.U (q2 F2 f1)
  exact ⟨s₂, o, st.trans x, r'⟩
theorem go_interface (H : Wd Z a0) {a : Addr} {C : String} {z : MethodName} {count : Nat} (w1 : (Cond.methodLink own index y).before a0 Z = true) (w2 : (Cond.declares y).before a0 Z = true) (w3 : ∀ (s : State) (args : Array Value), Z.Warmed39 s.vm → (Cond.interfaceMethod y.cls y.cls y.name y.desc).before args s = true) (w4 : (Cond.selects C y z).before a0 Z = true) (w5 : (Cond.instanceMethod z).before a0 Z = true) (w6 : (Cond.publicMethod z).before a0 Z = true) (w7 : (Cond.unhidden C y.name y.desc).before a0 Z = true) (w8 : (Cond.castable C y.cls).before a0 Z = true) (w9 : (Cond.initialized z.cls).before a0 Z = true) (w10 : (Cond.code z b' ml' rt').before a0 Z = true)
    (hy : y.cls ≠ "java/lang/invoke/MethodHandle" ∧ y.cls ≠ "java/lang/invoke/VarHandle") (E : Exa Z h a C) (M' : Met l Z z b' ml' rt' R' h F' as Q')
    (ha : (.ref a :: argsL).toArray = as) (hst : S' = argsL.reverse ++ .ref a :: S) (hlen : ∀ sig, parseMethodDescriptor y.desc = some sig → argsL.length = sig.parameters.length) (hF : ∀ x ∈ F', x ∈ F) (hL : L.size = ml) (hfr : R'.frames + 1 ≤ R.frames) (hlo : (S.map fun v => v.category).sum + (ml' + 11) + R'.locals ≤ R.locals) (hc : c + R'.cells = c') (hs : s + R'.slots = s') (hc' : c' ≤ R.cells) (hs' : s' ≤ R.slots)
    (hd : decode b pc = .ok (.invokeinterface index count, 5)) (hq : pc + 5 = q) (nx : ∀ v h' G, h.size ≤ h'.size → Q' v h' G → ∃ F2, (∀ x ∈ F2, x ∈ G ∨ x ∈ F) ∧ Go l Z K own mn b ml rt R Q h' F2 c' s' q L (v.toList ++ S)) : Go l Z K own mn b ml rt R Q h F c s pc L S' := fun T X => by
  subst hq hc hs hst ha
  obtain ⟨vm, k, locs, Y, eT, hS, hk, hZ, hown, N, C, M, O, r⟩ := X
  obtain ⟨cB, kB, g1, g2, g3⟩ := isOf (s := K.2.2.1.setVm vm) hZ eT E
  obtain ⟨v, vm₁, B, -, Y', hS', hg, P, st⟩ := Y.interfaceBackS r.1 hown (mvT (s := K.2.2.1.setVm vm) hZ w1) (mvT (s := K.2.2.1.setVm vm) hZ w2) (w3 (K.2.2.1.setVm vm) _ hZ) (mvT (s := K.2.2.1.setVm vm) hZ w4) (mvT (s := K.2.2.1.setVm vm) hZ w5) (mvT (s := K.2.2.1.setVm vm) hZ w6) (mvT (s := K.2.2.1.setVm vm) hZ w7) (mvT (s := K.2.2.1.setVm vm) hZ w8) hy (W := (S.map fun v => v.category).sum) (M'.back H hZ w10 w9 hfr hlo C.1 (fun x hx => M x (hF x hx)) O) g1 g2 g3 (g := mkF K.2.2.2.1 pc L (argsL.reverse ++ .ref a :: S)) rfl (by rw [r.2.2.1]; exact hL) (Steps.refl _) (argsL := argsL) (rest := S) hlen rfl (by show 2 * 0 + _ ≤ _; omega) (hb r.2.1 hd) (fun _ _ => ⟨rfl, eT, hc', hs'⟩)
  obtain ⟨G, q1, q2⟩ := St.came Y eT hS hk hZ hown N C M r Y' hS' hg P
  obtain ⟨F2, f1, f2⟩ := nx v B.U.heap G (by rw [← eT]; exact hg) q1
  obtain ⟨s₂, o, x, r'⟩ := f2 B.U (q2 F2 f1)
  exact ⟨s₂, o, st.trans x, r'⟩
/-- invokespecial of the superclass's own method -/
theorem go_super (H : Wd Z a0) {a : Addr} {C : String} (w1 : (Cond.methodLink own index y).before a0 Z = true) (w2 : (Cond.sameMethod y.cls y.cls y.name y.desc).before a0 Z = true) (w3 : (Cond.instanceMethod y).before a0 Z = true) (w4 : (Cond.superclass own y.cls).before a0 Z = true) (w5 : (Cond.initialized y.cls).before a0 Z = true) (w6 : (Cond.code y b' ml' rt').before a0 Z = true) (hni : y.name ≠ "<init>") (E : Exa Z h a C) (M' : Met l Z y b' ml' rt' R' h F' as Q')
    (ha : (.ref a :: argsL).toArray = as) (hst : S' = argsL.reverse ++ .ref a :: S) (hlen : ∀ sig, parseMethodDescriptor y.desc = some sig → argsL.length = sig.parameters.length) (hF : ∀ x ∈ F', x ∈ F) (hL : L.size = ml) (hfr : R'.frames + 1 ≤ R.frames) (hlo : (S.map fun v => v.category).sum + (ml' + 11) + R'.locals ≤ R.locals) (hc : c + R'.cells = c') (hs : s + R'.slots = s') (hc' : c' ≤ R.cells) (hs' : s' ≤ R.slots)
    (hd : decode b pc = .ok (.invokespecial index, 3)) (hq : pc + 3 = q) (nx : ∀ v h' G, h.size ≤ h'.size → Q' v h' G → ∃ F2, (∀ x ∈ F2, x ∈ G ∨ x ∈ F) ∧ Go l Z K own mn b ml rt R Q h' F2 c' s' q L (v.toList ++ S)) : Go l Z K own mn b ml rt R Q h F c s pc L S' := fun T X => by
  subst hq hc hs hst ha
  obtain ⟨vm, k, locs, Y, eT, hS, hk, hZ, hown, N, C, M, O, r⟩ := X
  obtain ⟨v, vm₁, B, -, Y', hS', hg, P, st⟩ := superBackS Y r.1 (show Z.Warmed39 (K.2.2.1.setVm vm).vm from hZ) hown w1 w2 w3 w4 hni (W := (S.map fun v => v.category).sum) (M'.back H hZ w6 w5 hfr hlo C.1 (fun x hx => M x (hF x hx)) O) eT (Ins.self E) (g := mkF K.2.2.2.1 pc L (argsL.reverse ++ .ref a :: S)) rfl (by rw [r.2.2.1]; exact hL) w6 (argsL := argsL) (rest := S) hlen rfl (by show 2 * 0 + _ ≤ _; omega) (hb r.2.1 hd) (fun _ _ => ⟨rfl, eT, hc', hs'⟩)
  obtain ⟨G, q1, q2⟩ := St.came Y eT hS hk hZ hown N C M r Y' hS' hg P
  obtain ⟨F2, f1, f2⟩ := nx v B.U.heap G (by rw [← eT]; exact hg) q1
  obtain ⟨s₂, o, x, r'⟩ := f2 B.U (q2 F2 f1)
  exact ⟨s₂, o, st.trans x, r'⟩
/-- System.arraycopy of bytes -/
theorem go_arraycopy {a d : Addr} {ka kd : ClassId} {ty : FieldType} {z z' sp dp nn : Int32} {vs vd us : List Value} {dv dd : Value} (w1 : (Cond.methodLink own index Jvm.Stand.acN).before a0 Z = true) (w2 : (Cond.native Jvm.Stand.acN).before a0 Z = true) (w3 : (Cond.static Jvm.Stand.acN).before a0 Z = true) (w4 : (Cond.initialized "java/lang/System").before a0 Z = true)
    (A : Arv Z h a ka ty z vs dv) (B : Arv Z h d kd ty z' vd dd) (hty : refKind ty = false) (h1 : ¬ sp < 0) (h2 : ¬ dp < 0) (h3 : ¬ nn < 0) (h4 : sp.toNatClampNeg + nn.toNatClampNeg ≤ z.toNatClampNeg) (h5 : dp.toNatClampNeg + nn.toNatClampNeg ≤ z'.toNatClampNeg) (hus : us = (List.range nn.toNatClampNeg).map fun i => vs.getD (sp.toNatClampNeg + i) dv) (hl : dp.toNatClampNeg + nn.toNatClampNeg ≤ vd.length) (ha : d ∈ F)
    (hL : L.size = ml) (hfr : 1 ≤ R.frames) (hlo : (S.map fun v => v.category).sum + (nativeFrameWords "java/lang/System" "arraycopy" 5 + 11) ≤ R.locals) (hd : decode b pc = .ok (.invokestatic index, 3)) (hq : pc + 3 = q)
    (nx : ∀ h', Keep h h' [d] → Arv Z h' d kd ty z' (vd.take dp.toNatClampNeg ++ us ++ vd.drop (dp.toNatClampNeg + nn.toNatClampNeg)) dd → Go l Z K own mn b ml rt R Q h' F c s q L S) : Go l Z K own mn b ml rt R Q h F c s pc L (.int nn :: .int dp :: .ref d :: .int sp :: .ref a :: S) := fun T X => by
  subst hq
  obtain ⟨vm, k, locs, Y, eT, hS, hk, hZ, hown, N, C, M, O, r⟩ := X
  obtain ⟨T', h', L', Y', e', N', Kp, V, st⟩ := cpA Y r.1 (show Z.Warmed39 (K.2.2.1.setVm vm).vm from hZ) hown w1 w2 w3 w4 eT A B (Or.inl ⟨rfl, hty⟩) h1 h2 h3 h4 h5 hus hl N (M d ha).1 (g := mkF K.2.2.2.1 pc L (.int nn :: .int dp :: .ref d :: .int sp :: .ref a :: S)) rfl (by rw [r.2.2.1]; exact hL) (rest := S) rfl (hb r.2.1 hd) hfr (W := (S.map fun v => v.category).sum) (by show 2 * 0 + _ ≤ _; omega) hlo
  have hsf : ∀ x ∈ [d], Safe Z consts_1 vm h x := fun x hx => by cases List.mem_singleton.mp hx; exact (M d ha).2.2
  obtain ⟨s₂, o, x, r'⟩ := nx h' Kp V T' ⟨vm, k, L', Y', e', hS, Nat.le_trans hk Kp.1, hZ, hown, N', C.trans (CHr.keep Kp hsf C.1), fun x hx => ⟨(M x hx).1, Nat.lt_of_lt_of_le (M x hx).2.1 Kp.1, Safe.keep Kp hsf C.1 (M x hx).2.2⟩, O.keep Kp (fun x hx => by cases List.mem_singleton.mp hx; exact (M d ha).1), r⟩
  exact ⟨s₂, o, st _ x, r'⟩
theorem nf_self {C : String} (w3 : (Cond.selects C y y).before a0 Z = true) : ∀ s : State, Z.Warmed39 s.vm → NotFace s y := fun s hZ => notFace_of_selects (args := #[]) (mvT hZ w3)
/-- the plain end of a call: nothing more to write -/
theorem nx_ {v : Option Value} {G : List Addr} (n : Go l Z K own mn b ml rt R Q h F c s pc L S) : ∃ F2, (∀ x ∈ F2, x ∈ G ∨ x ∈ F) ∧ Go l Z K own mn b ml rt R Q h F2 c s pc L S := ⟨F, fun _ q => Or.inr q, n⟩
end Calls
end G
end Own
end Jvm.Pilot.@@N@@
/-! OWN FRAMEWORK, part 3: Strings of Latin-1 chars. -/
namespace Jvm.Pilot.@@N@@
namespace Own
open Jvm Jvm.ClassFile Sem Op Lib Jvm.Free Jvm.Stand Jvm.LawKit Jvm.RoadKit
abbrev ST : String := "java/lang/String"
abbrev bts (cs : List Int32) : List Value := cs.map fun c => .int c.toInt8.toInt32
abbrev ints (cs : List Int32) : List Value := cs.map fun c => .int c
def Lat (cs : List Int32) : Prop := cs.length ≤ 4096 ∧ ∀ c ∈ cs, ¬ c < 0 ∧ ¬ 255 < c
/-- the String at a spells cs; its cells are none of F -/
def Str (Z : State) (h : Heap) (F : List Addr) (a : Addr) (cs : List Int32) : Prop :=
  Exa Z h a ST ∧ Fld Z h a ST "coder" "B" (.int 0) ∧ a ∉ F ∧ Lat cs ∧ ∃ bb k, bb ∉ F ∧ Fld Z h a ST "value" "[B" (.ref bb) ∧ Arv Z h bb k .byte (Int32.ofNat cs.length) (bts cs) (.int 0)
theorem toInt_ofNat {n : Nat} (h : n < 2147483648) : (Int32.ofNat n).toInt = n := by
  rw [Int32.toInt_ofNat_of_lt (by simpa using h)]
theorem cl_ofNat {n : Nat} (h : n < 2147483648) : (Int32.ofNat n).toNatClampNeg = n := by
  simp only [Int32.toNatClampNeg, toInt_ofNat h]; omega
theorem nn_ofNat {n : Nat} (h : n < 2147483648) : ¬ Int32.ofNat n < 0 := by
  rw [Int32.lt_iff_toInt_lt, toInt_ofNat h, show (0 : Int32).toInt = 0 from rfl]; omega
theorem lt_ofNat {i n : Nat} (hi : i < 2147483648) (hn : n < 2147483648) : Int32.ofNat i < Int32.ofNat n ↔ i < n := by
  rw [Int32.lt_iff_toInt_lt, toInt_ofNat hi, toInt_ofNat hn]; omega
theorem eq_ofNat {i n : Nat} (hi : i < 2147483648) (hn : n < 2147483648) : Int32.ofNat i = Int32.ofNat n ↔ i = n := by
  rw [← Int32.toInt_inj, toInt_ofNat hi, toInt_ofNat hn]; omega
theorem add1_ofNat {i : Nat} : Int32.ofNat i + Int32.ofInt 1 = Int32.ofNat (i + 1) := by
  rw [Int32.ofNat_add]; rfl
section
variable {Z : State} {h h' : Heap} {F F' : List Addr} {a : Addr} {cs : List Int32} {ws : List Addr}
theorem Str.exa (S : Str Z h F a cs) : Exa Z h a ST := S.1
theorem Str.lat (S : Str Z h F a cs) : Lat cs := S.2.2.2.1
theorem Str.lt (S : Str Z h F a cs) : a < h.size := S.1.lt
theorem Str.keep (S : Str Z h F a cs) (K : Keep h h' ws) (hw : ∀ x ∈ ws, x ∈ F ∨ h.size ≤ x) : Str Z h' F a cs := by
  obtain ⟨E, C, ha, hl, bb, k, hb, V, A⟩ := S
  have na : a ∉ ws := fun q => (hw a q).elim ha fun z => absurd E.lt (Nat.not_lt.mpr z)
  have nb : bb ∉ ws := fun q => (hw bb q).elim hb fun z => absurd A.lt (Nat.not_lt.mpr z)
  exact ⟨E.keep K, C.keep K na, ha, hl, bb, k, hb, V.keep K na, A.keep K nb⟩
theorem Str.keep0 (S : Str Z h F a cs) (K : Keep h h' []) : Str Z h' F a cs := S.keep K (fun _ q => nomatch q)
theorem Str.ext (S : Str Z h F a cs) (E : Ext h h') : Str Z h' F a cs := S.keep0 ((Keep.refl h []).ext E)
theorem Str.grow (S : Str Z h F a cs) (hF : ∀ x ∈ F', x ∈ F ∨ h.size ≤ x) : Str Z h F' a cs := by
  obtain ⟨E, C, ha, hl, bb, k, hb, V, A⟩ := S
  exact ⟨E, C, fun q => (hF a q).elim ha fun z => absurd E.lt (Nat.not_lt.mpr z), hl, bb, k, fun q => (hF bb q).elim hb fun z => absurd A.lt (Nat.not_lt.mpr z), V, A⟩
theorem Str.less (S : Str Z h F a cs) (hF : ∀ x ∈ F', x ∈ F) : Str Z h F' a cs := S.grow fun x q => Or.inl (hF x q)
theorem Str.nil (S : Str Z h F a cs) : Str Z h [] a cs := S.less (fun _ q => nomatch q)
theorem Str.ins (S : Str Z h F a cs) : Ins Z h a ST true := Ins.self S.1
end
theorem kless {h h' : Heap} {ws ws' : List Addr} (K : Keep h h' ws) (q : ∀ x ∈ ws, x ∈ ws') : Keep h h' ws' := ⟨K.1, fun x c e n => K.2.1 x c e fun m => n (q x m), K.2.2⟩
theorem kfresh {h h1 h2 : Heap} {a : Addr} (K : Keep h h1 []) (K' : Keep h1 h2 [a]) (q : h.size ≤ a) : Keep h h2 [] := K.trans K' fun x e => by cases List.mem_singleton.mp e; exact Or.inr q
theorem nref {t : FieldType} {v : Value} (ht : t.isReference = true) (hv : v.isRef = true) : narrow t v = v := by cases t <;> cases v <;> simp_all [narrow, Value.isRef, FieldType.isReference]
theorem fref {t : FieldType} {v : Value} (ht : t.isReference = true) (hv : v.isRef = true) : fits t v = true := by cases t <;> cases v <;> simp_all [fits, Value.isRef, FieldType.isReference]
theorem shr0 (z : Int32) : z >>> ((0 : Int32) &&& 31) = z := by
  rw [← Int32.toInt_inj, c_ishr z 0 0 rfl]; simp
theorem nar_char {x : Int32} (h0 : ¬ x < 0) (h1 : ¬ 255 < x) : nar .char x = x := by
  have h := c_i2c x
  rw [Int32.lt_iff_toInt_lt] at h0 h1
  have e0 : (0 : Int32).toInt = 0 := rfl
  have e1 : (255 : Int32).toInt = 255 := rfl
  rw [← Int32.toInt_inj]
  show x.toUInt32.toUInt16.toUInt32.toInt32.toInt = _
  omega
theorem msk (x : Int32) : ¬ (x &&& 255) < 0 ∧ ¬ 255 < (x &&& 255) := by
  have h := c_and x 255 (by decide)
  rw [Int32.lt_iff_toInt_lt, Int32.lt_iff_toInt_lt]
  have e0 : (0 : Int32).toInt = 0 := rfl
  have e1 : (255 : Int32).toInt = 255 := rfl
  omega
theorem i2c_msk (x : Int32) : (x &&& 255).toUInt32.toUInt16.toUInt32.toInt32 = x &&& 255 := nar_char (msk x).1 (msk x).2
theorem b_inj {x y : Int32} (hx : ¬ x < 0 ∧ ¬ 255 < x) (hy : ¬ y < 0 ∧ ¬ 255 < y) (h : x.toInt8.toInt32 = y.toInt8.toInt32) : x = y := by
  have h1 := c_i2b x; have h2 := c_i2b y
  rw [h] at h1
  rw [Int32.lt_iff_toInt_lt, Int32.lt_iff_toInt_lt] at hx hy
  have e0 : (0 : Int32).toInt = 0 := rfl
  have e1 : (255 : Int32).toInt = 255 := rfl
  rw [← Int32.toInt_inj]; omega
theorem b_and {x : Int32} (hx : ¬ x < 0 ∧ ¬ 255 < x) : x.toInt8.toInt32 &&& 255 = x := by
  have h1 := c_i2b x
  have h2 := c_mask (x.toInt8.toInt32) 255 8 (by decide) (by decide)
  rw [Int32.lt_iff_toInt_lt, Int32.lt_iff_toInt_lt] at hx
  have e0 : (0 : Int32).toInt = 0 := rfl
  have e1 : (255 : Int32).toInt = 255 := rfl
  rw [← Int32.toInt_inj, h2]; omega
theorem bts_at {cs : List Int32} {i : Nat} (hi : i < cs.length) : (bts cs).getD i (.int 0) = .int (cs[i].toInt8.toInt32) := by simp [bts, hi]
theorem Str.same {Z : State} {h : Heap} {F F' : List Addr} {a : Addr} {cs ds : List Int32} (S : Str Z h F a cs) (S2 : Str Z h F' a ds) : cs = ds := by
  obtain ⟨E, C, ha, hl, bb, k, hb, V, A⟩ := S
  obtain ⟨E2, C2, ha2, hl2, bb2, k2, hb2, V2, A2⟩ := S2
  obtain rfl : bb = bb2 := by
    by_cases e : bb = bb2
    · exact e
    · exact absurd rfl (V.ne V2 (by simpa using e))
  obtain ⟨c1, r1, q1, s1, n1, H1, G1⟩ := A
  obtain ⟨c2, r2, q2, s2, n2, H2, G2⟩ := A2
  obtain rfl : c1 = c2 := Option.some.inj (r1.1.symm.trans r2.1)
  have l1 := hl.1; have l2 := hl2.1
  rw [cl_ofNat (by omega)] at s1 s2
  have hlen : cs.length = ds.length := s1.symm.trans s2
  refine List.ext_getElem hlen fun i h1 h2 => ?_
  have e1 := H1 i (by omega)
  have e2 := H2 i (by omega)
  rw [bts_at h1] at e1; rw [bts_at h2] at e2
  have e3 := e1.symm.trans e2
  simp only [Option.some.injEq, Value.int.injEq] at e3
  exact b_inj (hl.2 _ (List.getElem_mem h1)) (hl2.2 _ (List.getElem_mem h2)) e3
section G
variable {l : Launch} {Z : State} {a0 : Array Value} {K : Cx} {own mn : String} {b : ByteArray} {ml : Nat} {rt : Option FieldType} {R : Room} {Q : QT} {h h' : Heap} {F : List Addr} {c s pc q c' s' : Nat} {L L' : Array Slot} {S S' : List Value}
theorem go_istoreO {k : Nat} {x : Int32} {o : Slot} (hd : decode b pc = .ok (.istore k, 2)) (hold : L[k]? = some o) (ho : One o) (hL : L.setIfInBounds k (.val (.int x)) = L') (hq : pc + 2 = q) (n : Go l Z K own mn b ml rt R Q h F c s q L' S) : Go l Z K own mn b ml rt R Q h F c s pc L (.int x :: S) := by
  subst hq hL; exact go_of (fun T X t st => by obtain ⟨vm, k, locs, Y, r1, r2, r3, r4, r5, r6, r7, r8, r9, hx, hb', rr⟩ := X; exact XS.istoreS Y.here hx rfl (hb hb' hd) rfl hold ho st) n
/-- ldc of a Latin-1 constant -/
theorem go_lit (H : Wd Z a0) {index : Nat} {text : String} {cs : List Int32} {n : Nat} (w : (Cond.stringLink own index text).before a0 Z = true) (hm : (own, index) ∈ consts_1) (ht1 : ∀ c ∈ text.toList, c.toNat < 256) (ht2 : text.toList.map (fun c => Value.int (Jvm.Lit.byteI c.toNat.toUInt16)) = bts cs) (h1 : cs.length ≤ 4096) (h2 : ∀ c ∈ cs, ¬ c < 0 ∧ ¬ 255 < c)
    (hd : decode b pc = .ok (.ldc index, 2)) (hn : 4 * text.toList.length ≤ n) (hbig : n ≤ 536870912) (hq : pc + 2 = q) (hc : c + 2 = c') (hs : s + (n + 4) = s') (hc' : c' ≤ R.cells) (hs' : s' ≤ R.slots)
    (nx : ∀ h' a, Ext h h' → Str Z h' F a cs → Go l Z K own mn b ml rt R Q h' F c' s' q L (.ref a :: S)) : Go l Z K own mn b ml rt R Q h F c s pc L S :=
  go_ldcS H w hm ⟨ht1, ht2⟩ (nn_ofNat (n := cs.length) (by omega)) (by rw [cl_ofNat (by omega)]; simp) hd hn hbig hq hc hs hc' hs' fun h' a bb k E A Fc Fv V ne => nx h' a E ⟨A, Fc, fun q => (ne a q).1 rfl, ⟨h1, h2⟩, bb, k, fun q => (ne bb q).2 rfl, Fv, V⟩
end G
end Own
end Jvm.Pilot.@@N@@
/-! OWN FRAMEWORK, part 4: StringBuilder. -/
namespace Jvm.Pilot.@@N@@
namespace Own
open Jvm Jvm.ClassFile Sem Op Lib Jvm.Free Jvm.Stand Jvm.LawKit Jvm.RoadKit
abbrev SBN : String := "java/lang/StringBuilder"
abbrev ABN : String := "java/lang/AbstractStringBuilder"
abbrev zs (n : Nat) : List Value := List.replicate n (.int 0)
/-- the builder x, whose array is v (cap bytes), spells cs -/
def SBd (Z : State) (h : Heap) (x v : Addr) (cap : Nat) (cs : List Int32) : Prop :=
  Exa Z h x SBN ∧ Fld Z h x ABN "value" "[B" (.ref v) ∧ Fld Z h x ABN "coder" "B" (.int 0) ∧ Fld Z h x ABN "count" "I" (.int (Int32.ofNat cs.length)) ∧ Lat cs ∧ cs.length ≤ cap ∧ cap ≤ 4096 ∧ ∃ k, Arv Z h v k .byte (Int32.ofNat cap) (bts cs ++ zs (cap - cs.length)) (.int 0)
section
variable {Z : State} {h h' : Heap} {x v : Addr} {cap : Nat} {cs ds : List Int32} {ws : List Addr}
theorem SBd.keep (S : SBd Z h x v cap cs) (K : Keep h h' ws) (nx : x ∉ ws) (nv : v ∉ ws) : SBd Z h' x v cap cs := by
  obtain ⟨E, V, C, N, L, l1, l2, k, A⟩ := S
  exact ⟨E.keep K, V.keep K nx, C.keep K nx, N.keep K nx, L, l1, l2, k, A.keep K nv⟩
theorem SBd.keep0 (S : SBd Z h x v cap cs) (K : Keep h h' []) : SBd Z h' x v cap cs := S.keep K nin0 nin0
theorem SBd.ext (S : SBd Z h x v cap cs) (E : Ext h h') : SBd Z h' x v cap cs := S.keep0 ((Keep.refl h []).ext E)
theorem SBd.exa (S : SBd Z h x v cap cs) : Exa Z h x SBN := S.1
theorem SBd.lat (S : SBd Z h x v cap cs) : Lat cs := S.2.2.2.2.1
theorem SBd.le (S : SBd Z h x v cap cs) : cs.length ≤ cap := S.2.2.2.2.2.1
theorem bts_len (cs : List Int32) : (bts cs).length = cs.length := by simp [bts]
theorem us_eq (ds : List Int32) : (List.range ds.length).map (fun i => (bts ds).getD i (.int 0)) = bts ds := by
  refine List.ext_getElem (by simp [bts]) fun i h1 h2 => ?_
  simp only [bts_len] at h2
  simp [bts, h2]
theorem cat_eq {n : Nat} (h1 : cs.length + ds.length ≤ n) : (bts cs ++ zs (n - cs.length)).take cs.length ++ bts ds ++ (bts cs ++ zs (n - cs.length)).drop (cs.length + ds.length) = bts (cs ++ ds) ++ zs (n - (cs ++ ds).length) := by
  have e1 : (bts cs ++ zs (n - cs.length)).take cs.length = bts cs := by
    rw [List.take_append_of_le_length (by rw [bts_len]; exact Nat.le_refl _), List.take_of_length_le (by rw [bts_len]; exact Nat.le_refl _)]
  have e2 : (bts cs ++ zs (n - cs.length)).drop (cs.length + ds.length) = zs (n - (cs ++ ds).length) := by
    rw [List.drop_append, List.drop_of_length_le (by rw [bts_len]; omega), List.nil_append, bts_len, List.drop_replicate, List.length_append]
    congr 1; omega
  rw [e1, e2]
  simp [bts]
theorem Lat.app (h1 : Lat cs) (h2 : Lat ds) (h : cs.length + ds.length ≤ 4096) : Lat (cs ++ ds) := ⟨by simpa using h, fun c hc => (List.mem_append.mp hc).elim (h1.2 c) (h2.2 c)⟩
theorem add_ofNat (i j : Nat) : Int32.ofNat i + Int32.ofNat j = Int32.ofNat (i + j) := (Int32.ofNat_add i j).symm
theorem shl0 (z : Int32) : z <<< ((0 : Int32) &&& 31) = z := by
  rw [show (0 : Int32) &&& 31 = 0 from by decide]; exact Int32.shiftLeft_zero
theorem sub_ofNat {i j : Nat} (hi : i < 2147483648) (hj : j < 2147483648) : (Int32.ofNat i - Int32.ofNat j).toInt = (i : Int) - j := by
  have h := c_isub (Int32.ofNat i) (Int32.ofNat j)
  rw [toInt_ofNat hi, toInt_ofNat hj] at h
  have h3 := (Int32.ofNat i - Int32.ofNat j).le_toInt; have h4 := (Int32.ofNat i - Int32.ofNat j).toInt_lt
  omega
theorem subNat {i j : Nat} (hj : j ≤ i) (hi : i < 2147483648) : Int32.ofNat i - Int32.ofNat j = Int32.ofNat (i - j) := by
  rw [← Int32.toInt_inj, sub_ofNat hi (by omega), toInt_ofNat (by omega)]; omega
theorem not_pos_sub {i j : Nat} (h : i ≤ j) (hj : j < 2147483648) : ¬ (0 : Int32) < Int32.ofNat i - Int32.ofNat j := by
  rw [Int32.lt_iff_toInt_lt, sub_ofNat (by omega) hj, show (0 : Int32).toInt = 0 from rfl]; omega
end
end Own
end Jvm.Pilot.@@N@@
namespace Jvm.Pilot.@@N@@
namespace Own
open Jvm Jvm.ClassFile Sem Op Lib Jvm.Free Jvm.Stand Jvm.LawKit Jvm.RoadKit
theorem us_pre (cs : List Int32) (t : List Value) : (List.range cs.length).map (fun i => (bts cs ++ t).getD i (.int 0)) = bts cs := by
  refine List.ext_getElem (by simp [bts]) fun i h1 h2 => ?_
  simp only [bts_len] at h2
  simp [bts, h2, List.getElem?_append]
/-- draw's answer -/
def Dr (n a b c : Int32) (cs : List Int32) : Prop := (n = 0 ∧ cs = []) ∨ (n = 1 ∧ cs = [a]) ∨ (n = 2 ∧ cs = [a, b]) ∨ (n = 3 ∧ cs = [a, b, c])
theorem Dr.len {n a b c : Int32} {cs : List Int32} (D : Dr n a b c cs) : Int32.ofNat cs.length = n := by
  rcases D with ⟨rfl, rfl⟩ | ⟨rfl, rfl⟩ | ⟨rfl, rfl⟩ | ⟨rfl, rfl⟩ <;> rfl
theorem and3 (x : Int32) : x &&& 3 = 0 ∨ x &&& 3 = 1 ∨ x &&& 3 = 2 ∨ x &&& 3 = 3 := by
  have h := c_and x 3 (by decide)
  have e : ∀ k : Int32, x &&& 3 = k ↔ (x &&& 3).toInt = k.toInt := fun k => Int32.toInt_inj.symm
  rw [e, e, e, e]
  have e0 : (0 : Int32).toInt = 0 := rfl
  have e1 : (1 : Int32).toInt = 1 := rfl
  have e2 : (2 : Int32).toInt = 2 := rfl
  have e3 : (3 : Int32).toInt = 3 := rfl
  omega
theorem Dr.any (x a b c : Int32) : ∃ cs, Dr (x &&& 3) a b c cs := by
  rcases and3 x with h | h | h | h <;> rw [h]
  · exact ⟨_, Or.inl ⟨rfl, rfl⟩⟩
  · exact ⟨_, Or.inr (Or.inl ⟨rfl, rfl⟩)⟩
  · exact ⟨_, Or.inr (Or.inr (Or.inl ⟨rfl, rfl⟩))⟩
  · exact ⟨_, Or.inr (Or.inr (Or.inr ⟨rfl, rfl⟩))⟩
abbrev EDN : String := "motifolio/patterns/memento/Editor"
theorem pos_ok (x n : Int32) (hn : n = 0 ∨ n = 1 ∨ n = 2 ∨ n = 3) : ¬ (x &&& 2147483647) % (n + 1) < 0 ∧ ¬ n < (x &&& 2147483647) % (n + 1) ∧ ¬ n + 1 = 0 := by
  have h := c_and x 2147483647 (by decide)
  have e0 : (0 : Int32).toInt = 0 := rfl
  have e1 : (1 : Int32).toInt = 1 := rfl
  have e2 : (2 : Int32).toInt = 2 := rfl
  have e3 : (3 : Int32).toInt = 3 := rfl
  rw [Int32.lt_iff_toInt_lt, Int32.lt_iff_toInt_lt]
  rcases hn with rfl | rfl | rfl | rfl
  · have g := (c_irem (x &&& 2147483647) (0 + 1) 1 rfl).1 h.1; exact ⟨by omega, by omega, by decide⟩
  · have g := (c_irem (x &&& 2147483647) (1 + 1) 2 rfl).1 h.1; exact ⟨by omega, by omega, by decide⟩
  · have g := (c_irem (x &&& 2147483647) (2 + 1) 3 rfl).1 h.1; exact ⟨by omega, by omega, by decide⟩
  · have g := (c_irem (x &&& 2147483647) (3 + 1) 4 rfl).1 h.1; exact ⟨by omega, by omega, by decide⟩
theorem Dr.four {n a b c : Int32} {cs : List Int32} (D : Dr n a b c cs) : n = 0 ∨ n = 1 ∨ n = 2 ∨ n = 3 := by
  rcases D with ⟨rfl, rfl⟩ | ⟨rfl, rfl⟩ | ⟨rfl, rfl⟩ | ⟨rfl, rfl⟩ <;> simp
theorem Dr.le {n a b c : Int32} {cs : List Int32} (D : Dr n a b c cs) : cs.length ≤ 3 := by
  rcases D with ⟨rfl, rfl⟩ | ⟨rfl, rfl⟩ | ⟨rfl, rfl⟩ | ⟨rfl, rfl⟩ <;> simp
theorem w_0 {Z : State} {a0 : Array Value} (H : Wd Z a0) : ((Jvm.Cond.methodLink "motifolio/patterns/memento/EditorClearPinLaw" (12 : Nat) ({ cls := "motifolio/patterns/memento/EditorClearPinLaw", name := "drawn", desc := "(ICCC)Ljava/lang/String;" } : Jvm.MethodName)) : Jvm.Cond).before a0 Z = true := H.1 _ (List.mem_of_getElem? (i := 0) rfl)
theorem w_1 {Z : State} {a0 : Array Value} (H : Wd Z a0) : ((Jvm.Cond.static ({ cls := "motifolio/patterns/memento/EditorClearPinLaw", name := "drawn", desc := "(ICCC)Ljava/lang/String;" } : Jvm.MethodName)) : Jvm.Cond).before a0 Z = true := H.1 _ (List.mem_of_getElem? (i := 1) rfl)
theorem w_2 {Z : State} {a0 : Array Value} (H : Wd Z a0) : ((Jvm.Cond.initialized "motifolio/patterns/memento/EditorClearPinLaw") : Jvm.Cond).before a0 Z = true := H.1 _ (List.mem_of_getElem? (i := 2) rfl)
theorem w_3 {Z : State} {a0 : Array Value} (H : Wd Z a0) : ((Jvm.Cond.code ({ cls := "motifolio/patterns/memento/EditorClearPinLaw", name := "drawn", desc := "(ICCC)Ljava/lang/String;" } : Jvm.MethodName) method_2_code (4 : Nat) (Option.some (Jvm.ClassFile.FieldType.object "java/lang/String"))) : Jvm.Cond).before a0 Z = true := H.1 _ (List.mem_of_getElem? (i := 3) rfl)
theorem w_4 {Z : State} {a0 : Array Value} (H : Wd Z a0) : ((Jvm.Cond.classLink "motifolio/patterns/memento/EditorClearPinLaw" (7 : Nat) "java/lang/String") : Jvm.Cond).before a0 Z = true := H.1 _ (List.mem_of_getElem? (i := 4) rfl)
theorem w_5 {Z : State} {a0 : Array Value} (H : Wd Z a0) : ((Jvm.Cond.instantiable "java/lang/String" (4 : Nat)) : Jvm.Cond).before a0 Z = true := H.1 _ (List.mem_of_getElem? (i := 5) rfl)
theorem w_6 {Z : State} {a0 : Array Value} (H : Wd Z a0) : ((Jvm.Cond.initialized "java/lang/String") : Jvm.Cond).before a0 Z = true := H.1 _ (List.mem_of_getElem? (i := 6) rfl)
theorem w_7 {Z : State} {a0 : Array Value} (H : Wd Z a0) : ((Jvm.Cond.arrayClass Jvm.ClassFile.FieldType.char) : Jvm.Cond).before a0 Z = true := H.1 _ (List.mem_of_getElem? (i := 7) rfl)
theorem w_8 {Z : State} {a0 : Array Value} (H : Wd Z a0) : ((Jvm.Cond.methodLink "motifolio/patterns/memento/EditorClearPinLaw" (9 : Nat) ({ cls := "java/lang/String", name := "<init>", desc := "([C)V" } : Jvm.MethodName)) : Jvm.Cond).before a0 Z = true := H.1 _ (List.mem_of_getElem? (i := 8) rfl)
theorem w_9 {Z : State} {a0 : Array Value} (H : Wd Z a0) : ((Jvm.Cond.instanceMethod ({ cls := "java/lang/String", name := "<init>", desc := "([C)V" } : Jvm.MethodName)) : Jvm.Cond).before a0 Z = true := H.1 _ (List.mem_of_getElem? (i := 9) rfl)
theorem w_10 {Z : State} {a0 : Array Value} (H : Wd Z a0) : ((Jvm.Cond.code ({ cls := "java/lang/String", name := "<init>", desc := "([C)V" } : Jvm.MethodName) jdk_42_method_3_code (2 : Nat) (Option.none : Option Jvm.ClassFile.FieldType)) : Jvm.Cond).before a0 Z = true := H.1 _ (List.mem_of_getElem? (i := 10) rfl)
theorem w_11 {Z : State} {a0 : Array Value} (H : Wd Z a0) : ((Jvm.Cond.methodLink "java/lang/String" (27 : Nat) ({ cls := "java/lang/String", name := "<init>", desc := "([CIILjava/lang/Void;)V" } : Jvm.MethodName)) : Jvm.Cond).before a0 Z = true := H.1 _ (List.mem_of_getElem? (i := 11) rfl)
theorem w_12 {Z : State} {a0 : Array Value} (H : Wd Z a0) : ((Jvm.Cond.instanceMethod ({ cls := "java/lang/String", name := "<init>", desc := "([CIILjava/lang/Void;)V" } : Jvm.MethodName)) : Jvm.Cond).before a0 Z = true := H.1 _ (List.mem_of_getElem? (i := 12) rfl)
theorem w_14 {Z : State} {a0 : Array Value} (H : Wd Z a0) : ((Jvm.Cond.code ({ cls := "java/lang/String", name := "<init>", desc := "([CIILjava/lang/Void;)V" } : Jvm.MethodName) jdk_42_method_149_code (6 : Nat) (Option.none : Option Jvm.ClassFile.FieldType)) : Jvm.Cond).before a0 Z = true := H.1 _ (List.mem_of_getElem? (i := 14) rfl)
theorem w_15 {Z : State} {a0 : Array Value} (H : Wd Z a0) : ((Jvm.Cond.methodLink "java/lang/String" (1 : Nat) ({ cls := "java/lang/Object", name := "<init>", desc := "()V" } : Jvm.MethodName)) : Jvm.Cond).before a0 Z = true := H.1 _ (List.mem_of_getElem? (i := 15) rfl)
theorem w_16 {Z : State} {a0 : Array Value} (H : Wd Z a0) : ((Jvm.Cond.instanceMethod ({ cls := "java/lang/Object", name := "<init>", desc := "()V" } : Jvm.MethodName)) : Jvm.Cond).before a0 Z = true := H.1 _ (List.mem_of_getElem? (i := 16) rfl)
theorem w_17 {Z : State} {a0 : Array Value} (H : Wd Z a0) : ((Jvm.Cond.code ({ cls := "java/lang/Object", name := "<init>", desc := "()V" } : Jvm.MethodName) object_method_1_code (1 : Nat) (Option.none : Option Jvm.ClassFile.FieldType)) : Jvm.Cond).before a0 Z = true := H.1 _ (List.mem_of_getElem? (i := 17) rfl)
theorem w_18 {Z : State} {a0 : Array Value} (H : Wd Z a0) : ((Jvm.Cond.stringLink "java/lang/String" (7 : Nat) "") : Jvm.Cond).before a0 Z = true := H.1 _ (List.mem_of_getElem? (i := 18) rfl)
theorem w_19 {Z : State} {a0 : Array Value} (H : Wd Z a0) : ((Jvm.Cond.arrayClass Jvm.ClassFile.FieldType.byte) : Jvm.Cond).before a0 Z = true := H.1 _ (List.mem_of_getElem? (i := 19) rfl)
theorem w_20 {Z : State} {a0 : Array Value} (H : Wd Z a0) : ((Jvm.Cond.laysFinal "java/lang/String" "java/lang/String" "value" "[B") : Jvm.Cond).before a0 Z = true := H.1 _ (List.mem_of_getElem? (i := 20) rfl)
theorem w_21 {Z : State} {a0 : Array Value} (H : Wd Z a0) : ((Jvm.Cond.laysFinal "java/lang/String" "java/lang/String" "coder" "B") : Jvm.Cond).before a0 Z = true := H.1 _ (List.mem_of_getElem? (i := 21) rfl)
theorem w_22 {Z : State} {a0 : Array Value} (H : Wd Z a0) : ((Jvm.Cond.soleField "java/lang/String" "value") : Jvm.Cond).before a0 Z = true := H.1 _ (List.mem_of_getElem? (i := 22) rfl)
theorem w_23 {Z : State} {a0 : Array Value} (H : Wd Z a0) : ((Jvm.Cond.soleField "java/lang/String" "coder") : Jvm.Cond).before a0 Z = true := H.1 _ (List.mem_of_getElem? (i := 23) rfl)
theorem w_24 {Z : State} {a0 : Array Value} (H : Wd Z a0) : ((Jvm.Cond.fieldLink "java/lang/String" (9 : Nat) "java/lang/String" "value" "[B") : Jvm.Cond).before a0 Z = true := H.1 _ (List.mem_of_getElem? (i := 24) rfl)
theorem w_25 {Z : State} {a0 : Array Value} (H : Wd Z a0) : ((Jvm.Cond.fieldLink "java/lang/String" (15 : Nat) "java/lang/String" "coder" "B") : Jvm.Cond).before a0 Z = true := H.1 _ (List.mem_of_getElem? (i := 25) rfl)
theorem w_26 {Z : State} {a0 : Array Value} (H : Wd Z a0) : ((Jvm.Cond.constant "motifolio/patterns/memento/EditorClearPinLaw" (18 : Nat) (2147483647 : Int32)) : Jvm.Cond).before a0 Z = true := H.1 _ (List.mem_of_getElem? (i := 26) rfl)
theorem w_27 {Z : State} {a0 : Array Value} (H : Wd Z a0) : ((Jvm.Cond.methodLink "motifolio/patterns/memento/EditorClearPinLaw" (19 : Nat) ({ cls := "java/lang/String", name := "valueOf", desc := "(C)Ljava/lang/String;" } : Jvm.MethodName)) : Jvm.Cond).before a0 Z = true := H.1 _ (List.mem_of_getElem? (i := 27) rfl)
theorem w_28 {Z : State} {a0 : Array Value} (H : Wd Z a0) : ((Jvm.Cond.static ({ cls := "java/lang/String", name := "valueOf", desc := "(C)Ljava/lang/String;" } : Jvm.MethodName)) : Jvm.Cond).before a0 Z = true := H.1 _ (List.mem_of_getElem? (i := 28) rfl)
theorem w_29 {Z : State} {a0 : Array Value} (H : Wd Z a0) : ((Jvm.Cond.code ({ cls := "java/lang/String", name := "valueOf", desc := "(C)Ljava/lang/String;" } : Jvm.MethodName) jdk_42_method_139_code (1 : Nat) (Option.some (Jvm.ClassFile.FieldType.object "java/lang/String"))) : Jvm.Cond).before a0 Z = true := H.1 _ (List.mem_of_getElem? (i := 29) rfl)
theorem w_30 {Z : State} {a0 : Array Value} (H : Wd Z a0) : ((Jvm.Cond.fieldLink "java/lang/String" (38 : Nat) "java/lang/String" "COMPACT_STRINGS" "Z") : Jvm.Cond).before a0 Z = true := H.1 _ (List.mem_of_getElem? (i := 30) rfl)
theorem w_31 {Z : State} {a0 : Array Value} (H : Wd Z a0) : ((Jvm.Cond.methodLink "java/lang/String" (1015 : Nat) ({ cls := "java/lang/StringLatin1", name := "canEncode", desc := "(C)Z" } : Jvm.MethodName)) : Jvm.Cond).before a0 Z = true := H.1 _ (List.mem_of_getElem? (i := 31) rfl)
theorem w_32 {Z : State} {a0 : Array Value} (H : Wd Z a0) : ((Jvm.Cond.static ({ cls := "java/lang/StringLatin1", name := "canEncode", desc := "(C)Z" } : Jvm.MethodName)) : Jvm.Cond).before a0 Z = true := H.1 _ (List.mem_of_getElem? (i := 32) rfl)
theorem w_33 {Z : State} {a0 : Array Value} (H : Wd Z a0) : ((Jvm.Cond.initialized "java/lang/StringLatin1") : Jvm.Cond).before a0 Z = true := H.1 _ (List.mem_of_getElem? (i := 33) rfl)
theorem w_34 {Z : State} {a0 : Array Value} (H : Wd Z a0) : ((Jvm.Cond.code ({ cls := "java/lang/StringLatin1", name := "canEncode", desc := "(C)Z" } : Jvm.MethodName) jdk_43_method_3_code (1 : Nat) (Option.some Jvm.ClassFile.FieldType.boolean)) : Jvm.Cond).before a0 Z = true := H.1 _ (List.mem_of_getElem? (i := 34) rfl)
theorem w_35 {Z : State} {a0 : Array Value} (H : Wd Z a0) : ((Jvm.Cond.classLink "java/lang/String" (10 : Nat) "java/lang/String") : Jvm.Cond).before a0 Z = true := H.1 _ (List.mem_of_getElem? (i := 35) rfl)
theorem w_36 {Z : State} {a0 : Array Value} (H : Wd Z a0) : ((Jvm.Cond.methodLink "java/lang/String" (1018 : Nat) ({ cls := "java/lang/StringLatin1", name := "toBytes", desc := "(C)[B" } : Jvm.MethodName)) : Jvm.Cond).before a0 Z = true := H.1 _ (List.mem_of_getElem? (i := 36) rfl)
theorem w_37 {Z : State} {a0 : Array Value} (H : Wd Z a0) : ((Jvm.Cond.static ({ cls := "java/lang/StringLatin1", name := "toBytes", desc := "(C)[B" } : Jvm.MethodName)) : Jvm.Cond).before a0 Z = true := H.1 _ (List.mem_of_getElem? (i := 37) rfl)
theorem w_38 {Z : State} {a0 : Array Value} (H : Wd Z a0) : ((Jvm.Cond.code ({ cls := "java/lang/StringLatin1", name := "toBytes", desc := "(C)[B" } : Jvm.MethodName) jdk_43_method_46_code (1 : Nat) (Option.some (Jvm.ClassFile.FieldType.array Jvm.ClassFile.FieldType.byte))) : Jvm.Cond).before a0 Z = true := H.1 _ (List.mem_of_getElem? (i := 38) rfl)
theorem w_39 {Z : State} {a0 : Array Value} (H : Wd Z a0) : ((Jvm.Cond.methodLink "java/lang/String" (209 : Nat) ({ cls := "java/lang/String", name := "<init>", desc := "([BB)V" } : Jvm.MethodName)) : Jvm.Cond).before a0 Z = true := H.1 _ (List.mem_of_getElem? (i := 39) rfl)
theorem w_40 {Z : State} {a0 : Array Value} (H : Wd Z a0) : ((Jvm.Cond.instanceMethod ({ cls := "java/lang/String", name := "<init>", desc := "([BB)V" } : Jvm.MethodName)) : Jvm.Cond).before a0 Z = true := H.1 _ (List.mem_of_getElem? (i := 40) rfl)
theorem w_41 {Z : State} {a0 : Array Value} (H : Wd Z a0) : ((Jvm.Cond.code ({ cls := "java/lang/String", name := "<init>", desc := "([BB)V" } : Jvm.MethodName) jdk_42_method_151_code (3 : Nat) (Option.none : Option Jvm.ClassFile.FieldType)) : Jvm.Cond).before a0 Z = true := H.1 _ (List.mem_of_getElem? (i := 41) rfl)
theorem w_42 {Z : State} {a0 : Array Value} (H : Wd Z a0) : ((Jvm.Cond.classLink "motifolio/patterns/memento/EditorClearPinLaw" (23 : Nat) "motifolio/patterns/memento/Editor") : Jvm.Cond).before a0 Z = true := H.1 _ (List.mem_of_getElem? (i := 42) rfl)
theorem w_43 {Z : State} {a0 : Array Value} (H : Wd Z a0) : ((Jvm.Cond.instantiable "motifolio/patterns/memento/Editor" (2 : Nat)) : Jvm.Cond).before a0 Z = true := H.1 _ (List.mem_of_getElem? (i := 43) rfl)
theorem w_44 {Z : State} {a0 : Array Value} (H : Wd Z a0) : ((Jvm.Cond.initialized "motifolio/patterns/memento/Editor") : Jvm.Cond).before a0 Z = true := H.1 _ (List.mem_of_getElem? (i := 44) rfl)
theorem w_45 {Z : State} {a0 : Array Value} (H : Wd Z a0) : ((Jvm.Cond.methodLink "motifolio/patterns/memento/EditorClearPinLaw" (25 : Nat) ({ cls := "motifolio/patterns/memento/Editor", name := "<init>", desc := "()V" } : Jvm.MethodName)) : Jvm.Cond).before a0 Z = true := H.1 _ (List.mem_of_getElem? (i := 45) rfl)
theorem w_46 {Z : State} {a0 : Array Value} (H : Wd Z a0) : ((Jvm.Cond.instanceMethod ({ cls := "motifolio/patterns/memento/Editor", name := "<init>", desc := "()V" } : Jvm.MethodName)) : Jvm.Cond).before a0 Z = true := H.1 _ (List.mem_of_getElem? (i := 46) rfl)
theorem w_47 {Z : State} {a0 : Array Value} (H : Wd Z a0) : ((Jvm.Cond.code ({ cls := "motifolio/patterns/memento/Editor", name := "<init>", desc := "()V" } : Jvm.MethodName) prog_146_method_1_code (1 : Nat) (Option.none : Option Jvm.ClassFile.FieldType)) : Jvm.Cond).before a0 Z = true := H.1 _ (List.mem_of_getElem? (i := 47) rfl)
theorem w_48 {Z : State} {a0 : Array Value} (H : Wd Z a0) : ((Jvm.Cond.methodLink "motifolio/patterns/memento/Editor" (1 : Nat) ({ cls := "java/lang/Object", name := "<init>", desc := "()V" } : Jvm.MethodName)) : Jvm.Cond).before a0 Z = true := H.1 _ (List.mem_of_getElem? (i := 48) rfl)
theorem w_49 {Z : State} {a0 : Array Value} (H : Wd Z a0) : ((Jvm.Cond.stringLink "motifolio/patterns/memento/Editor" (7 : Nat) "") : Jvm.Cond).before a0 Z = true := H.1 _ (List.mem_of_getElem? (i := 49) rfl)
theorem w_50 {Z : State} {a0 : Array Value} (H : Wd Z a0) : ((Jvm.Cond.fieldLink "motifolio/patterns/memento/Editor" (9 : Nat) "motifolio/patterns/memento/Editor" "text" "Ljava/lang/String;") : Jvm.Cond).before a0 Z = true := H.1 _ (List.mem_of_getElem? (i := 50) rfl)
theorem w_51 {Z : State} {a0 : Array Value} (H : Wd Z a0) : ((Jvm.Cond.lays "motifolio/patterns/memento/Editor" "motifolio/patterns/memento/Editor" "text" "Ljava/lang/String;") : Jvm.Cond).before a0 Z = true := H.1 _ (List.mem_of_getElem? (i := 51) rfl)
theorem w_52 {Z : State} {a0 : Array Value} (H : Wd Z a0) : ((Jvm.Cond.methodLink "motifolio/patterns/memento/EditorClearPinLaw" (26 : Nat) ({ cls := "motifolio/patterns/memento/Editor", name := "type", desc := "(Ljava/lang/String;)V" } : Jvm.MethodName)) : Jvm.Cond).before a0 Z = true := H.1 _ (List.mem_of_getElem? (i := 52) rfl)
theorem w_53 {Z : State} {a0 : Array Value} (H : Wd Z a0) : ((Jvm.Cond.declares ({ cls := "motifolio/patterns/memento/Editor", name := "type", desc := "(Ljava/lang/String;)V" } : Jvm.MethodName)) : Jvm.Cond).before a0 Z = true := H.1 _ (List.mem_of_getElem? (i := 53) rfl)
theorem w_54 {Z : State} {a0 : Array Value} (H : Wd Z a0) : ((Jvm.Cond.instanceMethod ({ cls := "motifolio/patterns/memento/Editor", name := "type", desc := "(Ljava/lang/String;)V" } : Jvm.MethodName)) : Jvm.Cond).before a0 Z = true := H.1 _ (List.mem_of_getElem? (i := 54) rfl)
theorem w_55 {Z : State} {a0 : Array Value} (H : Wd Z a0) : ((Jvm.Cond.selects "motifolio/patterns/memento/Editor" ({ cls := "motifolio/patterns/memento/Editor", name := "type", desc := "(Ljava/lang/String;)V" } : Jvm.MethodName) ({ cls := "motifolio/patterns/memento/Editor", name := "type", desc := "(Ljava/lang/String;)V" } : Jvm.MethodName)) : Jvm.Cond).before a0 Z = true := H.1 _ (List.mem_of_getElem? (i := 55) rfl)
theorem w_56 {Z : State} {a0 : Array Value} (H : Wd Z a0) : ((Jvm.Cond.code ({ cls := "motifolio/patterns/memento/Editor", name := "type", desc := "(Ljava/lang/String;)V" } : Jvm.MethodName) prog_146_method_4_code (2 : Nat) (Option.none : Option Jvm.ClassFile.FieldType)) : Jvm.Cond).before a0 Z = true := H.1 _ (List.mem_of_getElem? (i := 56) rfl)
theorem w_57 {Z : State} {a0 : Array Value} (H : Wd Z a0) : ((Jvm.Cond.stringLink "motifolio/patterns/memento/Editor" (19 : Nat) "typed") : Jvm.Cond).before a0 Z = true := H.1 _ (List.mem_of_getElem? (i := 57) rfl)
theorem w_58 {Z : State} {a0 : Array Value} (H : Wd Z a0) : ((Jvm.Cond.methodLink "motifolio/patterns/memento/Editor" (21 : Nat) ({ cls := "java/util/Objects", name := "requireNonNull", desc := "(Ljava/lang/Object;Ljava/lang/String;)Ljava/lang/Object;" } : Jvm.MethodName)) : Jvm.Cond).before a0 Z = true := H.1 _ (List.mem_of_getElem? (i := 58) rfl)
theorem w_59 {Z : State} {a0 : Array Value} (H : Wd Z a0) : ((Jvm.Cond.static ({ cls := "java/util/Objects", name := "requireNonNull", desc := "(Ljava/lang/Object;Ljava/lang/String;)Ljava/lang/Object;" } : Jvm.MethodName)) : Jvm.Cond).before a0 Z = true := H.1 _ (List.mem_of_getElem? (i := 59) rfl)
theorem w_60 {Z : State} {a0 : Array Value} (H : Wd Z a0) : ((Jvm.Cond.initialized "java/util/Objects") : Jvm.Cond).before a0 Z = true := H.1 _ (List.mem_of_getElem? (i := 60) rfl)
theorem w_61 {Z : State} {a0 : Array Value} (H : Wd Z a0) : ((Jvm.Cond.code ({ cls := "java/util/Objects", name := "requireNonNull", desc := "(Ljava/lang/Object;Ljava/lang/String;)Ljava/lang/Object;" } : Jvm.MethodName) jdk_31_method_11_code (2 : Nat) (Option.some (Jvm.ClassFile.FieldType.object "java/lang/Object"))) : Jvm.Cond).before a0 Z = true := H.1 _ (List.mem_of_getElem? (i := 61) rfl)
theorem w_62 {Z : State} {a0 : Array Value} (H : Wd Z a0) : ((Jvm.Cond.classLink "motifolio/patterns/memento/Editor" (27 : Nat) "java/lang/StringBuilder") : Jvm.Cond).before a0 Z = true := H.1 _ (List.mem_of_getElem? (i := 62) rfl)
theorem w_63 {Z : State} {a0 : Array Value} (H : Wd Z a0) : ((Jvm.Cond.instantiable "java/lang/StringBuilder" (4 : Nat)) : Jvm.Cond).before a0 Z = true := H.1 _ (List.mem_of_getElem? (i := 63) rfl)
theorem w_64 {Z : State} {a0 : Array Value} (H : Wd Z a0) : ((Jvm.Cond.initialized "java/lang/StringBuilder") : Jvm.Cond).before a0 Z = true := H.1 _ (List.mem_of_getElem? (i := 64) rfl)
theorem w_65 {Z : State} {a0 : Array Value} (H : Wd Z a0) : ((Jvm.Cond.methodLink "motifolio/patterns/memento/Editor" (29 : Nat) ({ cls := "java/lang/StringBuilder", name := "<init>", desc := "()V" } : Jvm.MethodName)) : Jvm.Cond).before a0 Z = true := H.1 _ (List.mem_of_getElem? (i := 65) rfl)
theorem w_66 {Z : State} {a0 : Array Value} (H : Wd Z a0) : ((Jvm.Cond.instanceMethod ({ cls := "java/lang/StringBuilder", name := "<init>", desc := "()V" } : Jvm.MethodName)) : Jvm.Cond).before a0 Z = true := H.1 _ (List.mem_of_getElem? (i := 66) rfl)
theorem w_67 {Z : State} {a0 : Array Value} (H : Wd Z a0) : ((Jvm.Cond.code ({ cls := "java/lang/StringBuilder", name := "<init>", desc := "()V" } : Jvm.MethodName) jdk_67_method_1_code (1 : Nat) (Option.none : Option Jvm.ClassFile.FieldType)) : Jvm.Cond).before a0 Z = true := H.1 _ (List.mem_of_getElem? (i := 67) rfl)
theorem w_68 {Z : State} {a0 : Array Value} (H : Wd Z a0) : ((Jvm.Cond.methodLink "java/lang/StringBuilder" (1 : Nat) ({ cls := "java/lang/AbstractStringBuilder", name := "<init>", desc := "(I)V" } : Jvm.MethodName)) : Jvm.Cond).before a0 Z = true := H.1 _ (List.mem_of_getElem? (i := 68) rfl)
theorem w_69 {Z : State} {a0 : Array Value} (H : Wd Z a0) : ((Jvm.Cond.instanceMethod ({ cls := "java/lang/AbstractStringBuilder", name := "<init>", desc := "(I)V" } : Jvm.MethodName)) : Jvm.Cond).before a0 Z = true := H.1 _ (List.mem_of_getElem? (i := 69) rfl)
theorem w_72 {Z : State} {a0 : Array Value} (H : Wd Z a0) : ((Jvm.Cond.initialized "java/lang/AbstractStringBuilder") : Jvm.Cond).before a0 Z = true := H.1 _ (List.mem_of_getElem? (i := 72) rfl)
theorem w_73 {Z : State} {a0 : Array Value} (H : Wd Z a0) : ((Jvm.Cond.code ({ cls := "java/lang/AbstractStringBuilder", name := "<init>", desc := "(I)V" } : Jvm.MethodName) jdk_68_method_2_code (2 : Nat) (Option.none : Option Jvm.ClassFile.FieldType)) : Jvm.Cond).before a0 Z = true := H.1 _ (List.mem_of_getElem? (i := 73) rfl)
theorem w_74 {Z : State} {a0 : Array Value} (H : Wd Z a0) : ((Jvm.Cond.methodLink "java/lang/AbstractStringBuilder" (3 : Nat) ({ cls := "java/lang/Object", name := "<init>", desc := "()V" } : Jvm.MethodName)) : Jvm.Cond).before a0 Z = true := H.1 _ (List.mem_of_getElem? (i := 74) rfl)
theorem w_75 {Z : State} {a0 : Array Value} (H : Wd Z a0) : ((Jvm.Cond.fieldLink "java/lang/AbstractStringBuilder" (18 : Nat) "java/lang/String" "COMPACT_STRINGS" "Z") : Jvm.Cond).before a0 Z = true := H.1 _ (List.mem_of_getElem? (i := 75) rfl)
theorem w_76 {Z : State} {a0 : Array Value} (H : Wd Z a0) : ((Jvm.Cond.fieldLink "java/lang/AbstractStringBuilder" (15 : Nat) "java/lang/AbstractStringBuilder" "value" "[B") : Jvm.Cond).before a0 Z = true := H.1 _ (List.mem_of_getElem? (i := 76) rfl)
theorem w_77 {Z : State} {a0 : Array Value} (H : Wd Z a0) : ((Jvm.Cond.lays "java/lang/StringBuilder" "java/lang/AbstractStringBuilder" "value" "[B") : Jvm.Cond).before a0 Z = true := H.1 _ (List.mem_of_getElem? (i := 77) rfl)
theorem w_78 {Z : State} {a0 : Array Value} (H : Wd Z a0) : ((Jvm.Cond.fieldLink "java/lang/AbstractStringBuilder" (22 : Nat) "java/lang/AbstractStringBuilder" "coder" "B") : Jvm.Cond).before a0 Z = true := H.1 _ (List.mem_of_getElem? (i := 78) rfl)
theorem w_79 {Z : State} {a0 : Array Value} (H : Wd Z a0) : ((Jvm.Cond.lays "java/lang/StringBuilder" "java/lang/AbstractStringBuilder" "coder" "B") : Jvm.Cond).before a0 Z = true := H.1 _ (List.mem_of_getElem? (i := 79) rfl)
theorem w_80 {Z : State} {a0 : Array Value} (H : Wd Z a0) : ((Jvm.Cond.fieldLink "motifolio/patterns/memento/Editor" (15 : Nat) "motifolio/patterns/memento/Editor" "cursor" "I") : Jvm.Cond).before a0 Z = true := H.1 _ (List.mem_of_getElem? (i := 80) rfl)
theorem w_81 {Z : State} {a0 : Array Value} (H : Wd Z a0) : ((Jvm.Cond.lays "motifolio/patterns/memento/Editor" "motifolio/patterns/memento/Editor" "cursor" "I") : Jvm.Cond).before a0 Z = true := H.1 _ (List.mem_of_getElem? (i := 81) rfl)
theorem w_82 {Z : State} {a0 : Array Value} (H : Wd Z a0) : ((Jvm.Cond.methodLink "motifolio/patterns/memento/Editor" (30 : Nat) ({ cls := "java/lang/String", name := "substring", desc := "(II)Ljava/lang/String;" } : Jvm.MethodName)) : Jvm.Cond).before a0 Z = true := H.1 _ (List.mem_of_getElem? (i := 82) rfl)
theorem w_83 {Z : State} {a0 : Array Value} (H : Wd Z a0) : ((Jvm.Cond.declares ({ cls := "java/lang/String", name := "substring", desc := "(II)Ljava/lang/String;" } : Jvm.MethodName)) : Jvm.Cond).before a0 Z = true := H.1 _ (List.mem_of_getElem? (i := 83) rfl)
theorem w_84 {Z : State} {a0 : Array Value} (H : Wd Z a0) : ((Jvm.Cond.instanceMethod ({ cls := "java/lang/String", name := "substring", desc := "(II)Ljava/lang/String;" } : Jvm.MethodName)) : Jvm.Cond).before a0 Z = true := H.1 _ (List.mem_of_getElem? (i := 84) rfl)
theorem w_85 {Z : State} {a0 : Array Value} (H : Wd Z a0) : ((Jvm.Cond.selects "java/lang/String" ({ cls := "java/lang/String", name := "substring", desc := "(II)Ljava/lang/String;" } : Jvm.MethodName) ({ cls := "java/lang/String", name := "substring", desc := "(II)Ljava/lang/String;" } : Jvm.MethodName)) : Jvm.Cond).before a0 Z = true := H.1 _ (List.mem_of_getElem? (i := 85) rfl)
theorem w_86 {Z : State} {a0 : Array Value} (H : Wd Z a0) : ((Jvm.Cond.code ({ cls := "java/lang/String", name := "substring", desc := "(II)Ljava/lang/String;" } : Jvm.MethodName) jdk_42_method_92_code (5 : Nat) (Option.some (Jvm.ClassFile.FieldType.object "java/lang/String"))) : Jvm.Cond).before a0 Z = true := H.1 _ (List.mem_of_getElem? (i := 86) rfl)
theorem w_87 {Z : State} {a0 : Array Value} (H : Wd Z a0) : ((Jvm.Cond.methodLink "java/lang/String" (505 : Nat) ({ cls := "java/lang/String", name := "length", desc := "()I" } : Jvm.MethodName)) : Jvm.Cond).before a0 Z = true := H.1 _ (List.mem_of_getElem? (i := 87) rfl)
theorem w_88 {Z : State} {a0 : Array Value} (H : Wd Z a0) : ((Jvm.Cond.declares ({ cls := "java/lang/String", name := "length", desc := "()I" } : Jvm.MethodName)) : Jvm.Cond).before a0 Z = true := H.1 _ (List.mem_of_getElem? (i := 88) rfl)
theorem w_89 {Z : State} {a0 : Array Value} (H : Wd Z a0) : ((Jvm.Cond.instanceMethod ({ cls := "java/lang/String", name := "length", desc := "()I" } : Jvm.MethodName)) : Jvm.Cond).before a0 Z = true := H.1 _ (List.mem_of_getElem? (i := 89) rfl)
theorem w_90 {Z : State} {a0 : Array Value} (H : Wd Z a0) : ((Jvm.Cond.selects "java/lang/String" ({ cls := "java/lang/String", name := "length", desc := "()I" } : Jvm.MethodName) ({ cls := "java/lang/String", name := "length", desc := "()I" } : Jvm.MethodName)) : Jvm.Cond).before a0 Z = true := H.1 _ (List.mem_of_getElem? (i := 90) rfl)
theorem w_91 {Z : State} {a0 : Array Value} (H : Wd Z a0) : ((Jvm.Cond.code ({ cls := "java/lang/String", name := "length", desc := "()I" } : Jvm.MethodName) jdk_42_method_54_code (1 : Nat) (Option.some Jvm.ClassFile.FieldType.int)) : Jvm.Cond).before a0 Z = true := H.1 _ (List.mem_of_getElem? (i := 91) rfl)
theorem w_92 {Z : State} {a0 : Array Value} (H : Wd Z a0) : ((Jvm.Cond.methodLink "java/lang/String" (335 : Nat) ({ cls := "java/lang/String", name := "coder", desc := "()B" } : Jvm.MethodName)) : Jvm.Cond).before a0 Z = true := H.1 _ (List.mem_of_getElem? (i := 92) rfl)
theorem w_93 {Z : State} {a0 : Array Value} (H : Wd Z a0) : ((Jvm.Cond.declares ({ cls := "java/lang/String", name := "coder", desc := "()B" } : Jvm.MethodName)) : Jvm.Cond).before a0 Z = true := H.1 _ (List.mem_of_getElem? (i := 93) rfl)
theorem w_94 {Z : State} {a0 : Array Value} (H : Wd Z a0) : ((Jvm.Cond.instanceMethod ({ cls := "java/lang/String", name := "coder", desc := "()B" } : Jvm.MethodName)) : Jvm.Cond).before a0 Z = true := H.1 _ (List.mem_of_getElem? (i := 94) rfl)
theorem w_95 {Z : State} {a0 : Array Value} (H : Wd Z a0) : ((Jvm.Cond.selects "java/lang/String" ({ cls := "java/lang/String", name := "coder", desc := "()B" } : Jvm.MethodName) ({ cls := "java/lang/String", name := "coder", desc := "()B" } : Jvm.MethodName)) : Jvm.Cond).before a0 Z = true := H.1 _ (List.mem_of_getElem? (i := 95) rfl)
theorem w_96 {Z : State} {a0 : Array Value} (H : Wd Z a0) : ((Jvm.Cond.code ({ cls := "java/lang/String", name := "coder", desc := "()B" } : Jvm.MethodName) jdk_42_method_152_code (1 : Nat) (Option.some Jvm.ClassFile.FieldType.byte)) : Jvm.Cond).before a0 Z = true := H.1 _ (List.mem_of_getElem? (i := 96) rfl)
theorem w_97 {Z : State} {a0 : Array Value} (H : Wd Z a0) : ((Jvm.Cond.methodLink "java/lang/String" (521 : Nat) ({ cls := "java/lang/String", name := "checkBoundsBeginEnd", desc := "(III)V" } : Jvm.MethodName)) : Jvm.Cond).before a0 Z = true := H.1 _ (List.mem_of_getElem? (i := 97) rfl)
theorem w_98 {Z : State} {a0 : Array Value} (H : Wd Z a0) : ((Jvm.Cond.static ({ cls := "java/lang/String", name := "checkBoundsBeginEnd", desc := "(III)V" } : Jvm.MethodName)) : Jvm.Cond).before a0 Z = true := H.1 _ (List.mem_of_getElem? (i := 98) rfl)
theorem w_99 {Z : State} {a0 : Array Value} (H : Wd Z a0) : ((Jvm.Cond.code ({ cls := "java/lang/String", name := "checkBoundsBeginEnd", desc := "(III)V" } : Jvm.MethodName) jdk_42_method_158_code (3 : Nat) (Option.none : Option Jvm.ClassFile.FieldType)) : Jvm.Cond).before a0 Z = true := H.1 _ (List.mem_of_getElem? (i := 99) rfl)
theorem w_100 {Z : State} {a0 : Array Value} (H : Wd Z a0) : ((Jvm.Cond.fieldLink "java/lang/String" (1053 : Nat) "jdk/internal/util/Preconditions" "SIOOBE_FORMATTER" "Ljava/util/function/BiFunction;") : Jvm.Cond).before a0 Z = true := H.1 _ (List.mem_of_getElem? (i := 100) rfl)
theorem w_101 {Z : State} {a0 : Array Value} (H : Wd Z a0) : ((Jvm.Cond.initialized "jdk/internal/util/Preconditions") : Jvm.Cond).before a0 Z = true := H.1 _ (List.mem_of_getElem? (i := 101) rfl)
theorem w_102 {Z : State} {a0 : Array Value} (H : Wd Z a0) : ((Jvm.Cond.methodLink "java/lang/String" (1062 : Nat) ({ cls := "jdk/internal/util/Preconditions", name := "checkFromToIndex", desc := "(IIILjava/util/function/BiFunction;)I" } : Jvm.MethodName)) : Jvm.Cond).before a0 Z = true := H.1 _ (List.mem_of_getElem? (i := 102) rfl)
theorem w_103 {Z : State} {a0 : Array Value} (H : Wd Z a0) : ((Jvm.Cond.static ({ cls := "jdk/internal/util/Preconditions", name := "checkFromToIndex", desc := "(IIILjava/util/function/BiFunction;)I" } : Jvm.MethodName)) : Jvm.Cond).before a0 Z = true := H.1 _ (List.mem_of_getElem? (i := 103) rfl)
theorem w_104 {Z : State} {a0 : Array Value} (H : Wd Z a0) : ((Jvm.Cond.code ({ cls := "jdk/internal/util/Preconditions", name := "checkFromToIndex", desc := "(IIILjava/util/function/BiFunction;)I" } : Jvm.MethodName) jdk_41_method_12_code (4 : Nat) (Option.some Jvm.ClassFile.FieldType.int)) : Jvm.Cond).before a0 Z = true := H.1 _ (List.mem_of_getElem? (i := 104) rfl)
theorem w_105 {Z : State} {a0 : Array Value} (H : Wd Z a0) : ((Jvm.Cond.methodLink "motifolio/patterns/memento/Editor" (36 : Nat) ({ cls := "java/lang/StringBuilder", name := "append", desc := "(Ljava/lang/String;)Ljava/lang/StringBuilder;" } : Jvm.MethodName)) : Jvm.Cond).before a0 Z = true := H.1 _ (List.mem_of_getElem? (i := 105) rfl)
theorem w_106 {Z : State} {a0 : Array Value} (H : Wd Z a0) : ((Jvm.Cond.declares ({ cls := "java/lang/StringBuilder", name := "append", desc := "(Ljava/lang/String;)Ljava/lang/StringBuilder;" } : Jvm.MethodName)) : Jvm.Cond).before a0 Z = true := H.1 _ (List.mem_of_getElem? (i := 106) rfl)
theorem w_107 {Z : State} {a0 : Array Value} (H : Wd Z a0) : ((Jvm.Cond.instanceMethod ({ cls := "java/lang/StringBuilder", name := "append", desc := "(Ljava/lang/String;)Ljava/lang/StringBuilder;" } : Jvm.MethodName)) : Jvm.Cond).before a0 Z = true := H.1 _ (List.mem_of_getElem? (i := 107) rfl)
theorem w_108 {Z : State} {a0 : Array Value} (H : Wd Z a0) : ((Jvm.Cond.selects "java/lang/StringBuilder" ({ cls := "java/lang/StringBuilder", name := "append", desc := "(Ljava/lang/String;)Ljava/lang/StringBuilder;" } : Jvm.MethodName) ({ cls := "java/lang/StringBuilder", name := "append", desc := "(Ljava/lang/String;)Ljava/lang/StringBuilder;" } : Jvm.MethodName)) : Jvm.Cond).before a0 Z = true := H.1 _ (List.mem_of_getElem? (i := 108) rfl)
theorem w_109 {Z : State} {a0 : Array Value} (H : Wd Z a0) : ((Jvm.Cond.code ({ cls := "java/lang/StringBuilder", name := "append", desc := "(Ljava/lang/String;)Ljava/lang/StringBuilder;" } : Jvm.MethodName) jdk_67_method_7_code (2 : Nat) (Option.some (Jvm.ClassFile.FieldType.object "java/lang/StringBuilder"))) : Jvm.Cond).before a0 Z = true := H.1 _ (List.mem_of_getElem? (i := 109) rfl)
theorem w_110 {Z : State} {a0 : Array Value} (H : Wd Z a0) : ((Jvm.Cond.methodLink "java/lang/StringBuilder" (29 : Nat) ({ cls := "java/lang/AbstractStringBuilder", name := "append", desc := "(Ljava/lang/String;)Ljava/lang/AbstractStringBuilder;" } : Jvm.MethodName)) : Jvm.Cond).before a0 Z = true := H.1 _ (List.mem_of_getElem? (i := 110) rfl)
theorem w_111 {Z : State} {a0 : Array Value} (H : Wd Z a0) : ((Jvm.Cond.instanceMethod ({ cls := "java/lang/AbstractStringBuilder", name := "append", desc := "(Ljava/lang/String;)Ljava/lang/AbstractStringBuilder;" } : Jvm.MethodName)) : Jvm.Cond).before a0 Z = true := H.1 _ (List.mem_of_getElem? (i := 111) rfl)
theorem w_112 {Z : State} {a0 : Array Value} (H : Wd Z a0) : ((Jvm.Cond.superclass "java/lang/StringBuilder" "java/lang/AbstractStringBuilder") : Jvm.Cond).before a0 Z = true := H.1 _ (List.mem_of_getElem? (i := 112) rfl)
theorem w_113 {Z : State} {a0 : Array Value} (H : Wd Z a0) : ((Jvm.Cond.declares ({ cls := "java/lang/AbstractStringBuilder", name := "append", desc := "(Ljava/lang/String;)Ljava/lang/AbstractStringBuilder;" } : Jvm.MethodName)) : Jvm.Cond).before a0 Z = true := H.1 _ (List.mem_of_getElem? (i := 113) rfl)
theorem w_114 {Z : State} {a0 : Array Value} (H : Wd Z a0) : ((Jvm.Cond.code ({ cls := "java/lang/AbstractStringBuilder", name := "append", desc := "(Ljava/lang/String;)Ljava/lang/AbstractStringBuilder;" } : Jvm.MethodName) jdk_68_method_22_code (3 : Nat) (Option.some (Jvm.ClassFile.FieldType.object "java/lang/AbstractStringBuilder"))) : Jvm.Cond).before a0 Z = true := H.1 _ (List.mem_of_getElem? (i := 114) rfl)
theorem w_115 {Z : State} {a0 : Array Value} (H : Wd Z a0) : ((Jvm.Cond.methodLink "java/lang/AbstractStringBuilder" (32 : Nat) ({ cls := "java/lang/String", name := "length", desc := "()I" } : Jvm.MethodName)) : Jvm.Cond).before a0 Z = true := H.1 _ (List.mem_of_getElem? (i := 115) rfl)
theorem w_116 {Z : State} {a0 : Array Value} (H : Wd Z a0) : ((Jvm.Cond.fieldLink "java/lang/AbstractStringBuilder" (79 : Nat) "java/lang/AbstractStringBuilder" "count" "I") : Jvm.Cond).before a0 Z = true := H.1 _ (List.mem_of_getElem? (i := 116) rfl)
theorem w_117 {Z : State} {a0 : Array Value} (H : Wd Z a0) : ((Jvm.Cond.lays "java/lang/StringBuilder" "java/lang/AbstractStringBuilder" "count" "I") : Jvm.Cond).before a0 Z = true := H.1 _ (List.mem_of_getElem? (i := 117) rfl)
theorem w_118 {Z : State} {a0 : Array Value} (H : Wd Z a0) : ((Jvm.Cond.methodLink "java/lang/AbstractStringBuilder" (100 : Nat) ({ cls := "java/lang/AbstractStringBuilder", name := "ensureCapacityInternal", desc := "(I)V" } : Jvm.MethodName)) : Jvm.Cond).before a0 Z = true := H.1 _ (List.mem_of_getElem? (i := 118) rfl)
theorem w_119 {Z : State} {a0 : Array Value} (H : Wd Z a0) : ((Jvm.Cond.instanceMethod ({ cls := "java/lang/AbstractStringBuilder", name := "ensureCapacityInternal", desc := "(I)V" } : Jvm.MethodName)) : Jvm.Cond).before a0 Z = true := H.1 _ (List.mem_of_getElem? (i := 119) rfl)
theorem w_121 {Z : State} {a0 : Array Value} (H : Wd Z a0) : ((Jvm.Cond.selects "java/lang/StringBuilder" ({ cls := "java/lang/AbstractStringBuilder", name := "ensureCapacityInternal", desc := "(I)V" } : Jvm.MethodName) ({ cls := "java/lang/AbstractStringBuilder", name := "ensureCapacityInternal", desc := "(I)V" } : Jvm.MethodName)) : Jvm.Cond).before a0 Z = true := H.1 _ (List.mem_of_getElem? (i := 121) rfl)
theorem w_122 {Z : State} {a0 : Array Value} (H : Wd Z a0) : ((Jvm.Cond.code ({ cls := "java/lang/AbstractStringBuilder", name := "ensureCapacityInternal", desc := "(I)V" } : Jvm.MethodName) jdk_68_method_9_code (3 : Nat) (Option.none : Option Jvm.ClassFile.FieldType)) : Jvm.Cond).before a0 Z = true := H.1 _ (List.mem_of_getElem? (i := 122) rfl)
theorem w_123 {Z : State} {a0 : Array Value} (H : Wd Z a0) : ((Jvm.Cond.methodLink "java/lang/AbstractStringBuilder" (208 : Nat) ({ cls := "java/lang/AbstractStringBuilder", name := "putStringAt", desc := "(ILjava/lang/String;)V" } : Jvm.MethodName)) : Jvm.Cond).before a0 Z = true := H.1 _ (List.mem_of_getElem? (i := 123) rfl)
theorem w_124 {Z : State} {a0 : Array Value} (H : Wd Z a0) : ((Jvm.Cond.instanceMethod ({ cls := "java/lang/AbstractStringBuilder", name := "putStringAt", desc := "(ILjava/lang/String;)V" } : Jvm.MethodName)) : Jvm.Cond).before a0 Z = true := H.1 _ (List.mem_of_getElem? (i := 124) rfl)
theorem w_126 {Z : State} {a0 : Array Value} (H : Wd Z a0) : ((Jvm.Cond.selects "java/lang/StringBuilder" ({ cls := "java/lang/AbstractStringBuilder", name := "putStringAt", desc := "(ILjava/lang/String;)V" } : Jvm.MethodName) ({ cls := "java/lang/AbstractStringBuilder", name := "putStringAt", desc := "(ILjava/lang/String;)V" } : Jvm.MethodName)) : Jvm.Cond).before a0 Z = true := H.1 _ (List.mem_of_getElem? (i := 126) rfl)
theorem w_127 {Z : State} {a0 : Array Value} (H : Wd Z a0) : ((Jvm.Cond.code ({ cls := "java/lang/AbstractStringBuilder", name := "putStringAt", desc := "(ILjava/lang/String;)V" } : Jvm.MethodName) jdk_68_method_73_code (3 : Nat) (Option.none : Option Jvm.ClassFile.FieldType)) : Jvm.Cond).before a0 Z = true := H.1 _ (List.mem_of_getElem? (i := 127) rfl)
theorem w_128 {Z : State} {a0 : Array Value} (H : Wd Z a0) : ((Jvm.Cond.methodLink "java/lang/AbstractStringBuilder" (397 : Nat) ({ cls := "java/lang/AbstractStringBuilder", name := "inflateIfNeededFor", desc := "(Ljava/lang/String;)V" } : Jvm.MethodName)) : Jvm.Cond).before a0 Z = true := H.1 _ (List.mem_of_getElem? (i := 128) rfl)
theorem w_129 {Z : State} {a0 : Array Value} (H : Wd Z a0) : ((Jvm.Cond.instanceMethod ({ cls := "java/lang/AbstractStringBuilder", name := "inflateIfNeededFor", desc := "(Ljava/lang/String;)V" } : Jvm.MethodName)) : Jvm.Cond).before a0 Z = true := H.1 _ (List.mem_of_getElem? (i := 129) rfl)
theorem w_131 {Z : State} {a0 : Array Value} (H : Wd Z a0) : ((Jvm.Cond.selects "java/lang/StringBuilder" ({ cls := "java/lang/AbstractStringBuilder", name := "inflateIfNeededFor", desc := "(Ljava/lang/String;)V" } : Jvm.MethodName) ({ cls := "java/lang/AbstractStringBuilder", name := "inflateIfNeededFor", desc := "(Ljava/lang/String;)V" } : Jvm.MethodName)) : Jvm.Cond).before a0 Z = true := H.1 _ (List.mem_of_getElem? (i := 131) rfl)
theorem w_132 {Z : State} {a0 : Array Value} (H : Wd Z a0) : ((Jvm.Cond.code ({ cls := "java/lang/AbstractStringBuilder", name := "inflateIfNeededFor", desc := "(Ljava/lang/String;)V" } : Jvm.MethodName) jdk_68_method_71_code (2 : Nat) (Option.none : Option Jvm.ClassFile.FieldType)) : Jvm.Cond).before a0 Z = true := H.1 _ (List.mem_of_getElem? (i := 132) rfl)
theorem w_133 {Z : State} {a0 : Array Value} (H : Wd Z a0) : ((Jvm.Cond.methodLink "java/lang/AbstractStringBuilder" (40 : Nat) ({ cls := "java/lang/String", name := "coder", desc := "()B" } : Jvm.MethodName)) : Jvm.Cond).before a0 Z = true := H.1 _ (List.mem_of_getElem? (i := 133) rfl)
theorem w_134 {Z : State} {a0 : Array Value} (H : Wd Z a0) : ((Jvm.Cond.methodLink "java/lang/AbstractStringBuilder" (399 : Nat) ({ cls := "java/lang/String", name := "getBytes", desc := "([BIB)V" } : Jvm.MethodName)) : Jvm.Cond).before a0 Z = true := H.1 _ (List.mem_of_getElem? (i := 134) rfl)
theorem w_135 {Z : State} {a0 : Array Value} (H : Wd Z a0) : ((Jvm.Cond.declares ({ cls := "java/lang/String", name := "getBytes", desc := "([BIB)V" } : Jvm.MethodName)) : Jvm.Cond).before a0 Z = true := H.1 _ (List.mem_of_getElem? (i := 135) rfl)
theorem w_136 {Z : State} {a0 : Array Value} (H : Wd Z a0) : ((Jvm.Cond.instanceMethod ({ cls := "java/lang/String", name := "getBytes", desc := "([BIB)V" } : Jvm.MethodName)) : Jvm.Cond).before a0 Z = true := H.1 _ (List.mem_of_getElem? (i := 136) rfl)
theorem w_137 {Z : State} {a0 : Array Value} (H : Wd Z a0) : ((Jvm.Cond.selects "java/lang/String" ({ cls := "java/lang/String", name := "getBytes", desc := "([BIB)V" } : Jvm.MethodName) ({ cls := "java/lang/String", name := "getBytes", desc := "([BIB)V" } : Jvm.MethodName)) : Jvm.Cond).before a0 Z = true := H.1 _ (List.mem_of_getElem? (i := 137) rfl)
theorem w_138 {Z : State} {a0 : Array Value} (H : Wd Z a0) : ((Jvm.Cond.code ({ cls := "java/lang/String", name := "getBytes", desc := "([BIB)V" } : Jvm.MethodName) jdk_42_method_147_code (4 : Nat) (Option.none : Option Jvm.ClassFile.FieldType)) : Jvm.Cond).before a0 Z = true := H.1 _ (List.mem_of_getElem? (i := 138) rfl)
theorem w_139 {Z : State} {a0 : Array Value} (H : Wd Z a0) : ((Jvm.Cond.methodLink "java/lang/String" (212 : Nat) ({ cls := "java/lang/System", name := "arraycopy", desc := "(Ljava/lang/Object;ILjava/lang/Object;II)V" } : Jvm.MethodName)) : Jvm.Cond).before a0 Z = true := H.1 _ (List.mem_of_getElem? (i := 139) rfl)
theorem w_140 {Z : State} {a0 : Array Value} (H : Wd Z a0) : ((Jvm.Cond.static ({ cls := "java/lang/System", name := "arraycopy", desc := "(Ljava/lang/Object;ILjava/lang/Object;II)V" } : Jvm.MethodName)) : Jvm.Cond).before a0 Z = true := H.1 _ (List.mem_of_getElem? (i := 140) rfl)
theorem w_141 {Z : State} {a0 : Array Value} (H : Wd Z a0) : ((Jvm.Cond.initialized "java/lang/System") : Jvm.Cond).before a0 Z = true := H.1 _ (List.mem_of_getElem? (i := 141) rfl)
theorem w_142 {Z : State} {a0 : Array Value} (H : Wd Z a0) : ((Jvm.Cond.native ({ cls := "java/lang/System", name := "arraycopy", desc := "(Ljava/lang/Object;ILjava/lang/Object;II)V" } : Jvm.MethodName)) : Jvm.Cond).before a0 Z = true := H.1 _ (List.mem_of_getElem? (i := 142) rfl)
theorem w_143 {Z : State} {a0 : Array Value} (H : Wd Z a0) : ((Jvm.Cond.methodLink "motifolio/patterns/memento/Editor" (40 : Nat) ({ cls := "java/lang/String", name := "substring", desc := "(I)Ljava/lang/String;" } : Jvm.MethodName)) : Jvm.Cond).before a0 Z = true := H.1 _ (List.mem_of_getElem? (i := 143) rfl)
theorem w_144 {Z : State} {a0 : Array Value} (H : Wd Z a0) : ((Jvm.Cond.declares ({ cls := "java/lang/String", name := "substring", desc := "(I)Ljava/lang/String;" } : Jvm.MethodName)) : Jvm.Cond).before a0 Z = true := H.1 _ (List.mem_of_getElem? (i := 144) rfl)
theorem w_145 {Z : State} {a0 : Array Value} (H : Wd Z a0) : ((Jvm.Cond.instanceMethod ({ cls := "java/lang/String", name := "substring", desc := "(I)Ljava/lang/String;" } : Jvm.MethodName)) : Jvm.Cond).before a0 Z = true := H.1 _ (List.mem_of_getElem? (i := 145) rfl)
theorem w_146 {Z : State} {a0 : Array Value} (H : Wd Z a0) : ((Jvm.Cond.selects "java/lang/String" ({ cls := "java/lang/String", name := "substring", desc := "(I)Ljava/lang/String;" } : Jvm.MethodName) ({ cls := "java/lang/String", name := "substring", desc := "(I)Ljava/lang/String;" } : Jvm.MethodName)) : Jvm.Cond).before a0 Z = true := H.1 _ (List.mem_of_getElem? (i := 146) rfl)
theorem w_147 {Z : State} {a0 : Array Value} (H : Wd Z a0) : ((Jvm.Cond.code ({ cls := "java/lang/String", name := "substring", desc := "(I)Ljava/lang/String;" } : Jvm.MethodName) jdk_42_method_91_code (2 : Nat) (Option.some (Jvm.ClassFile.FieldType.object "java/lang/String"))) : Jvm.Cond).before a0 Z = true := H.1 _ (List.mem_of_getElem? (i := 147) rfl)
theorem w_148 {Z : State} {a0 : Array Value} (H : Wd Z a0) : ((Jvm.Cond.methodLink "java/lang/String" (681 : Nat) ({ cls := "java/lang/String", name := "substring", desc := "(II)Ljava/lang/String;" } : Jvm.MethodName)) : Jvm.Cond).before a0 Z = true := H.1 _ (List.mem_of_getElem? (i := 148) rfl)
theorem w_149 {Z : State} {a0 : Array Value} (H : Wd Z a0) : ((Jvm.Cond.methodLink "motifolio/patterns/memento/Editor" (43 : Nat) ({ cls := "java/lang/StringBuilder", name := "toString", desc := "()Ljava/lang/String;" } : Jvm.MethodName)) : Jvm.Cond).before a0 Z = true := H.1 _ (List.mem_of_getElem? (i := 149) rfl)
theorem w_150 {Z : State} {a0 : Array Value} (H : Wd Z a0) : ((Jvm.Cond.declares ({ cls := "java/lang/StringBuilder", name := "toString", desc := "()Ljava/lang/String;" } : Jvm.MethodName)) : Jvm.Cond).before a0 Z = true := H.1 _ (List.mem_of_getElem? (i := 150) rfl)
theorem w_151 {Z : State} {a0 : Array Value} (H : Wd Z a0) : ((Jvm.Cond.instanceMethod ({ cls := "java/lang/StringBuilder", name := "toString", desc := "()Ljava/lang/String;" } : Jvm.MethodName)) : Jvm.Cond).before a0 Z = true := H.1 _ (List.mem_of_getElem? (i := 151) rfl)
theorem w_152 {Z : State} {a0 : Array Value} (H : Wd Z a0) : ((Jvm.Cond.selects "java/lang/StringBuilder" ({ cls := "java/lang/StringBuilder", name := "toString", desc := "()Ljava/lang/String;" } : Jvm.MethodName) ({ cls := "java/lang/StringBuilder", name := "toString", desc := "()Ljava/lang/String;" } : Jvm.MethodName)) : Jvm.Cond).before a0 Z = true := H.1 _ (List.mem_of_getElem? (i := 152) rfl)
theorem w_153 {Z : State} {a0 : Array Value} (H : Wd Z a0) : ((Jvm.Cond.code ({ cls := "java/lang/StringBuilder", name := "toString", desc := "()Ljava/lang/String;" } : Jvm.MethodName) jdk_67_method_42_code (1 : Nat) (Option.some (Jvm.ClassFile.FieldType.object "java/lang/String"))) : Jvm.Cond).before a0 Z = true := H.1 _ (List.mem_of_getElem? (i := 153) rfl)
theorem w_154 {Z : State} {a0 : Array Value} (H : Wd Z a0) : ((Jvm.Cond.classLink "java/lang/StringBuilder" (18 : Nat) "java/lang/String") : Jvm.Cond).before a0 Z = true := H.1 _ (List.mem_of_getElem? (i := 154) rfl)
theorem w_155 {Z : State} {a0 : Array Value} (H : Wd Z a0) : ((Jvm.Cond.methodLink "java/lang/StringBuilder" (137 : Nat) ({ cls := "java/lang/String", name := "<init>", desc := "(Ljava/lang/StringBuilder;)V" } : Jvm.MethodName)) : Jvm.Cond).before a0 Z = true := H.1 _ (List.mem_of_getElem? (i := 155) rfl)
theorem w_156 {Z : State} {a0 : Array Value} (H : Wd Z a0) : ((Jvm.Cond.instanceMethod ({ cls := "java/lang/String", name := "<init>", desc := "(Ljava/lang/StringBuilder;)V" } : Jvm.MethodName)) : Jvm.Cond).before a0 Z = true := H.1 _ (List.mem_of_getElem? (i := 156) rfl)
theorem w_157 {Z : State} {a0 : Array Value} (H : Wd Z a0) : ((Jvm.Cond.code ({ cls := "java/lang/String", name := "<init>", desc := "(Ljava/lang/StringBuilder;)V" } : Jvm.MethodName) jdk_42_method_53_code (2 : Nat) (Option.none : Option Jvm.ClassFile.FieldType)) : Jvm.Cond).before a0 Z = true := H.1 _ (List.mem_of_getElem? (i := 157) rfl)
theorem w_158 {Z : State} {a0 : Array Value} (H : Wd Z a0) : ((Jvm.Cond.methodLink "java/lang/String" (489 : Nat) ({ cls := "java/lang/String", name := "<init>", desc := "(Ljava/lang/AbstractStringBuilder;Ljava/lang/Void;)V" } : Jvm.MethodName)) : Jvm.Cond).before a0 Z = true := H.1 _ (List.mem_of_getElem? (i := 158) rfl)
theorem w_159 {Z : State} {a0 : Array Value} (H : Wd Z a0) : ((Jvm.Cond.instanceMethod ({ cls := "java/lang/String", name := "<init>", desc := "(Ljava/lang/AbstractStringBuilder;Ljava/lang/Void;)V" } : Jvm.MethodName)) : Jvm.Cond).before a0 Z = true := H.1 _ (List.mem_of_getElem? (i := 159) rfl)
theorem w_160 {Z : State} {a0 : Array Value} (H : Wd Z a0) : ((Jvm.Cond.code ({ cls := "java/lang/String", name := "<init>", desc := "(Ljava/lang/AbstractStringBuilder;Ljava/lang/Void;)V" } : Jvm.MethodName) jdk_42_method_150_code (5 : Nat) (Option.none : Option Jvm.ClassFile.FieldType)) : Jvm.Cond).before a0 Z = true := H.1 _ (List.mem_of_getElem? (i := 160) rfl)
theorem w_161 {Z : State} {a0 : Array Value} (H : Wd Z a0) : ((Jvm.Cond.methodLink "java/lang/String" (552 : Nat) ({ cls := "java/lang/AbstractStringBuilder", name := "getValue", desc := "()[B" } : Jvm.MethodName)) : Jvm.Cond).before a0 Z = true := H.1 _ (List.mem_of_getElem? (i := 161) rfl)
theorem w_162 {Z : State} {a0 : Array Value} (H : Wd Z a0) : ((Jvm.Cond.declares ({ cls := "java/lang/AbstractStringBuilder", name := "getValue", desc := "()[B" } : Jvm.MethodName)) : Jvm.Cond).before a0 Z = true := H.1 _ (List.mem_of_getElem? (i := 162) rfl)
theorem w_163 {Z : State} {a0 : Array Value} (H : Wd Z a0) : ((Jvm.Cond.instanceMethod ({ cls := "java/lang/AbstractStringBuilder", name := "getValue", desc := "()[B" } : Jvm.MethodName)) : Jvm.Cond).before a0 Z = true := H.1 _ (List.mem_of_getElem? (i := 163) rfl)
theorem w_164 {Z : State} {a0 : Array Value} (H : Wd Z a0) : ((Jvm.Cond.selects "java/lang/StringBuilder" ({ cls := "java/lang/AbstractStringBuilder", name := "getValue", desc := "()[B" } : Jvm.MethodName) ({ cls := "java/lang/AbstractStringBuilder", name := "getValue", desc := "()[B" } : Jvm.MethodName)) : Jvm.Cond).before a0 Z = true := H.1 _ (List.mem_of_getElem? (i := 164) rfl)
theorem w_165 {Z : State} {a0 : Array Value} (H : Wd Z a0) : ((Jvm.Cond.code ({ cls := "java/lang/AbstractStringBuilder", name := "getValue", desc := "()[B" } : Jvm.MethodName) jdk_68_method_64_code (1 : Nat) (Option.some (Jvm.ClassFile.FieldType.array Jvm.ClassFile.FieldType.byte))) : Jvm.Cond).before a0 Z = true := H.1 _ (List.mem_of_getElem? (i := 165) rfl)
theorem w_166 {Z : State} {a0 : Array Value} (H : Wd Z a0) : ((Jvm.Cond.methodLink "java/lang/String" (549 : Nat) ({ cls := "java/lang/AbstractStringBuilder", name := "length", desc := "()I" } : Jvm.MethodName)) : Jvm.Cond).before a0 Z = true := H.1 _ (List.mem_of_getElem? (i := 166) rfl)
theorem w_167 {Z : State} {a0 : Array Value} (H : Wd Z a0) : ((Jvm.Cond.declares ({ cls := "java/lang/AbstractStringBuilder", name := "length", desc := "()I" } : Jvm.MethodName)) : Jvm.Cond).before a0 Z = true := H.1 _ (List.mem_of_getElem? (i := 167) rfl)
theorem w_168 {Z : State} {a0 : Array Value} (H : Wd Z a0) : ((Jvm.Cond.instanceMethod ({ cls := "java/lang/AbstractStringBuilder", name := "length", desc := "()I" } : Jvm.MethodName)) : Jvm.Cond).before a0 Z = true := H.1 _ (List.mem_of_getElem? (i := 168) rfl)
theorem w_169 {Z : State} {a0 : Array Value} (H : Wd Z a0) : ((Jvm.Cond.selects "java/lang/StringBuilder" ({ cls := "java/lang/AbstractStringBuilder", name := "length", desc := "()I" } : Jvm.MethodName) ({ cls := "java/lang/StringBuilder", name := "length", desc := "()I" } : Jvm.MethodName)) : Jvm.Cond).before a0 Z = true := H.1 _ (List.mem_of_getElem? (i := 169) rfl)
theorem w_170 {Z : State} {a0 : Array Value} (H : Wd Z a0) : ((Jvm.Cond.instanceMethod ({ cls := "java/lang/StringBuilder", name := "length", desc := "()I" } : Jvm.MethodName)) : Jvm.Cond).before a0 Z = true := H.1 _ (List.mem_of_getElem? (i := 170) rfl)
theorem w_171 {Z : State} {a0 : Array Value} (H : Wd Z a0) : ((Jvm.Cond.code ({ cls := "java/lang/StringBuilder", name := "length", desc := "()I" } : Jvm.MethodName) jdk_67_method_93_code (1 : Nat) (Option.some Jvm.ClassFile.FieldType.int)) : Jvm.Cond).before a0 Z = true := H.1 _ (List.mem_of_getElem? (i := 171) rfl)
theorem w_172 {Z : State} {a0 : Array Value} (H : Wd Z a0) : ((Jvm.Cond.methodLink "java/lang/StringBuilder" (343 : Nat) ({ cls := "java/lang/AbstractStringBuilder", name := "length", desc := "()I" } : Jvm.MethodName)) : Jvm.Cond).before a0 Z = true := H.1 _ (List.mem_of_getElem? (i := 172) rfl)
theorem w_173 {Z : State} {a0 : Array Value} (H : Wd Z a0) : ((Jvm.Cond.code ({ cls := "java/lang/AbstractStringBuilder", name := "length", desc := "()I" } : Jvm.MethodName) jdk_68_method_6_code (1 : Nat) (Option.some Jvm.ClassFile.FieldType.int)) : Jvm.Cond).before a0 Z = true := H.1 _ (List.mem_of_getElem? (i := 173) rfl)
theorem w_174 {Z : State} {a0 : Array Value} (H : Wd Z a0) : ((Jvm.Cond.methodLink "java/lang/String" (1047 : Nat) ({ cls := "java/lang/AbstractStringBuilder", name := "isLatin1", desc := "()Z" } : Jvm.MethodName)) : Jvm.Cond).before a0 Z = true := H.1 _ (List.mem_of_getElem? (i := 174) rfl)
theorem w_175 {Z : State} {a0 : Array Value} (H : Wd Z a0) : ((Jvm.Cond.declares ({ cls := "java/lang/AbstractStringBuilder", name := "isLatin1", desc := "()Z" } : Jvm.MethodName)) : Jvm.Cond).before a0 Z = true := H.1 _ (List.mem_of_getElem? (i := 175) rfl)
theorem w_176 {Z : State} {a0 : Array Value} (H : Wd Z a0) : ((Jvm.Cond.instanceMethod ({ cls := "java/lang/AbstractStringBuilder", name := "isLatin1", desc := "()Z" } : Jvm.MethodName)) : Jvm.Cond).before a0 Z = true := H.1 _ (List.mem_of_getElem? (i := 176) rfl)
theorem w_177 {Z : State} {a0 : Array Value} (H : Wd Z a0) : ((Jvm.Cond.selects "java/lang/StringBuilder" ({ cls := "java/lang/AbstractStringBuilder", name := "isLatin1", desc := "()Z" } : Jvm.MethodName) ({ cls := "java/lang/AbstractStringBuilder", name := "isLatin1", desc := "()Z" } : Jvm.MethodName)) : Jvm.Cond).before a0 Z = true := H.1 _ (List.mem_of_getElem? (i := 177) rfl)
theorem w_178 {Z : State} {a0 : Array Value} (H : Wd Z a0) : ((Jvm.Cond.code ({ cls := "java/lang/AbstractStringBuilder", name := "isLatin1", desc := "()Z" } : Jvm.MethodName) jdk_68_method_68_code (1 : Nat) (Option.some Jvm.ClassFile.FieldType.boolean)) : Jvm.Cond).before a0 Z = true := H.1 _ (List.mem_of_getElem? (i := 178) rfl)
theorem w_179 {Z : State} {a0 : Array Value} (H : Wd Z a0) : ((Jvm.Cond.methodLink "java/lang/String" (54 : Nat) ({ cls := "java/util/Arrays", name := "copyOfRange", desc := "([BII)[B" } : Jvm.MethodName)) : Jvm.Cond).before a0 Z = true := H.1 _ (List.mem_of_getElem? (i := 179) rfl)
theorem w_180 {Z : State} {a0 : Array Value} (H : Wd Z a0) : ((Jvm.Cond.static ({ cls := "java/util/Arrays", name := "copyOfRange", desc := "([BII)[B" } : Jvm.MethodName)) : Jvm.Cond).before a0 Z = true := H.1 _ (List.mem_of_getElem? (i := 180) rfl)
theorem w_181 {Z : State} {a0 : Array Value} (H : Wd Z a0) : ((Jvm.Cond.initialized "java/util/Arrays") : Jvm.Cond).before a0 Z = true := H.1 _ (List.mem_of_getElem? (i := 181) rfl)
theorem w_182 {Z : State} {a0 : Array Value} (H : Wd Z a0) : ((Jvm.Cond.code ({ cls := "java/util/Arrays", name := "copyOfRange", desc := "([BII)[B" } : Jvm.MethodName) jdk_65_method_132_code (3 : Nat) (Option.some (Jvm.ClassFile.FieldType.array Jvm.ClassFile.FieldType.byte))) : Jvm.Cond).before a0 Z = true := H.1 _ (List.mem_of_getElem? (i := 182) rfl)
theorem w_183 {Z : State} {a0 : Array Value} (H : Wd Z a0) : ((Jvm.Cond.methodLink "java/util/Arrays" (339 : Nat) ({ cls := "java/util/Arrays", name := "copyOfRangeByte", desc := "([BII)[B" } : Jvm.MethodName)) : Jvm.Cond).before a0 Z = true := H.1 _ (List.mem_of_getElem? (i := 183) rfl)
theorem w_184 {Z : State} {a0 : Array Value} (H : Wd Z a0) : ((Jvm.Cond.static ({ cls := "java/util/Arrays", name := "copyOfRangeByte", desc := "([BII)[B" } : Jvm.MethodName)) : Jvm.Cond).before a0 Z = true := H.1 _ (List.mem_of_getElem? (i := 184) rfl)
theorem w_185 {Z : State} {a0 : Array Value} (H : Wd Z a0) : ((Jvm.Cond.code ({ cls := "java/util/Arrays", name := "copyOfRangeByte", desc := "([BII)[B" } : Jvm.MethodName) jdk_65_method_133_code (5 : Nat) (Option.some (Jvm.ClassFile.FieldType.array Jvm.ClassFile.FieldType.byte))) : Jvm.Cond).before a0 Z = true := H.1 _ (List.mem_of_getElem? (i := 185) rfl)
theorem w_186 {Z : State} {a0 : Array Value} (H : Wd Z a0) : ((Jvm.Cond.methodLink "java/util/Arrays" (343 : Nat) ({ cls := "java/util/Arrays", name := "checkLength", desc := "(II)V" } : Jvm.MethodName)) : Jvm.Cond).before a0 Z = true := H.1 _ (List.mem_of_getElem? (i := 186) rfl)
theorem w_187 {Z : State} {a0 : Array Value} (H : Wd Z a0) : ((Jvm.Cond.static ({ cls := "java/util/Arrays", name := "checkLength", desc := "(II)V" } : Jvm.MethodName)) : Jvm.Cond).before a0 Z = true := H.1 _ (List.mem_of_getElem? (i := 187) rfl)
theorem w_188 {Z : State} {a0 : Array Value} (H : Wd Z a0) : ((Jvm.Cond.code ({ cls := "java/util/Arrays", name := "checkLength", desc := "(II)V" } : Jvm.MethodName) jdk_65_method_131_code (2 : Nat) (Option.none : Option Jvm.ClassFile.FieldType)) : Jvm.Cond).before a0 Z = true := H.1 _ (List.mem_of_getElem? (i := 188) rfl)
theorem w_189 {Z : State} {a0 : Array Value} (H : Wd Z a0) : ((Jvm.Cond.methodLink "java/util/Arrays" (304 : Nat) ({ cls := "java/lang/Math", name := "min", desc := "(II)I" } : Jvm.MethodName)) : Jvm.Cond).before a0 Z = true := H.1 _ (List.mem_of_getElem? (i := 189) rfl)
theorem w_190 {Z : State} {a0 : Array Value} (H : Wd Z a0) : ((Jvm.Cond.static ({ cls := "java/lang/Math", name := "min", desc := "(II)I" } : Jvm.MethodName)) : Jvm.Cond).before a0 Z = true := H.1 _ (List.mem_of_getElem? (i := 190) rfl)
theorem w_191 {Z : State} {a0 : Array Value} (H : Wd Z a0) : ((Jvm.Cond.initialized "java/lang/Math") : Jvm.Cond).before a0 Z = true := H.1 _ (List.mem_of_getElem? (i := 191) rfl)
theorem w_192 {Z : State} {a0 : Array Value} (H : Wd Z a0) : ((Jvm.Cond.code ({ cls := "java/lang/Math", name := "min", desc := "(II)I" } : Jvm.MethodName) jdk_29_method_69_code (2 : Nat) (Option.some Jvm.ClassFile.FieldType.int)) : Jvm.Cond).before a0 Z = true := H.1 _ (List.mem_of_getElem? (i := 192) rfl)
theorem w_193 {Z : State} {a0 : Array Value} (H : Wd Z a0) : ((Jvm.Cond.methodLink "java/util/Arrays" (150 : Nat) ({ cls := "java/lang/System", name := "arraycopy", desc := "(Ljava/lang/Object;ILjava/lang/Object;II)V" } : Jvm.MethodName)) : Jvm.Cond).before a0 Z = true := H.1 _ (List.mem_of_getElem? (i := 193) rfl)
theorem w_194 {Z : State} {a0 : Array Value} (H : Wd Z a0) : ((Jvm.Cond.methodLink "motifolio/patterns/memento/Editor" (47 : Nat) ({ cls := "java/lang/String", name := "length", desc := "()I" } : Jvm.MethodName)) : Jvm.Cond).before a0 Z = true := H.1 _ (List.mem_of_getElem? (i := 194) rfl)
theorem w_195 {Z : State} {a0 : Array Value} (H : Wd Z a0) : ((Jvm.Cond.methodLink "motifolio/patterns/memento/EditorClearPinLaw" (30 : Nat) ({ cls := "motifolio/patterns/memento/Editor", name := "moveTo", desc := "(I)V" } : Jvm.MethodName)) : Jvm.Cond).before a0 Z = true := H.1 _ (List.mem_of_getElem? (i := 195) rfl)
theorem w_196 {Z : State} {a0 : Array Value} (H : Wd Z a0) : ((Jvm.Cond.declares ({ cls := "motifolio/patterns/memento/Editor", name := "moveTo", desc := "(I)V" } : Jvm.MethodName)) : Jvm.Cond).before a0 Z = true := H.1 _ (List.mem_of_getElem? (i := 196) rfl)
theorem w_197 {Z : State} {a0 : Array Value} (H : Wd Z a0) : ((Jvm.Cond.instanceMethod ({ cls := "motifolio/patterns/memento/Editor", name := "moveTo", desc := "(I)V" } : Jvm.MethodName)) : Jvm.Cond).before a0 Z = true := H.1 _ (List.mem_of_getElem? (i := 197) rfl)
theorem w_198 {Z : State} {a0 : Array Value} (H : Wd Z a0) : ((Jvm.Cond.selects "motifolio/patterns/memento/Editor" ({ cls := "motifolio/patterns/memento/Editor", name := "moveTo", desc := "(I)V" } : Jvm.MethodName) ({ cls := "motifolio/patterns/memento/Editor", name := "moveTo", desc := "(I)V" } : Jvm.MethodName)) : Jvm.Cond).before a0 Z = true := H.1 _ (List.mem_of_getElem? (i := 198) rfl)
theorem w_199 {Z : State} {a0 : Array Value} (H : Wd Z a0) : ((Jvm.Cond.code ({ cls := "motifolio/patterns/memento/Editor", name := "moveTo", desc := "(I)V" } : Jvm.MethodName) prog_146_method_5_code (2 : Nat) (Option.none : Option Jvm.ClassFile.FieldType)) : Jvm.Cond).before a0 Z = true := H.1 _ (List.mem_of_getElem? (i := 199) rfl)
theorem w_200 {Z : State} {a0 : Array Value} (H : Wd Z a0) : ((Jvm.Cond.methodLink "motifolio/patterns/memento/EditorClearPinLaw" (34 : Nat) ({ cls := "motifolio/patterns/memento/Editor", name := "clear", desc := "()V" } : Jvm.MethodName)) : Jvm.Cond).before a0 Z = true := H.1 _ (List.mem_of_getElem? (i := 200) rfl)
theorem w_201 {Z : State} {a0 : Array Value} (H : Wd Z a0) : ((Jvm.Cond.declares ({ cls := "motifolio/patterns/memento/Editor", name := "clear", desc := "()V" } : Jvm.MethodName)) : Jvm.Cond).before a0 Z = true := H.1 _ (List.mem_of_getElem? (i := 201) rfl)
theorem w_202 {Z : State} {a0 : Array Value} (H : Wd Z a0) : ((Jvm.Cond.instanceMethod ({ cls := "motifolio/patterns/memento/Editor", name := "clear", desc := "()V" } : Jvm.MethodName)) : Jvm.Cond).before a0 Z = true := H.1 _ (List.mem_of_getElem? (i := 202) rfl)
theorem w_203 {Z : State} {a0 : Array Value} (H : Wd Z a0) : ((Jvm.Cond.selects "motifolio/patterns/memento/Editor" ({ cls := "motifolio/patterns/memento/Editor", name := "clear", desc := "()V" } : Jvm.MethodName) ({ cls := "motifolio/patterns/memento/Editor", name := "clear", desc := "()V" } : Jvm.MethodName)) : Jvm.Cond).before a0 Z = true := H.1 _ (List.mem_of_getElem? (i := 203) rfl)
theorem w_204 {Z : State} {a0 : Array Value} (H : Wd Z a0) : ((Jvm.Cond.code ({ cls := "motifolio/patterns/memento/Editor", name := "clear", desc := "()V" } : Jvm.MethodName) prog_146_method_6_code (1 : Nat) (Option.none : Option Jvm.ClassFile.FieldType)) : Jvm.Cond).before a0 Z = true := H.1 _ (List.mem_of_getElem? (i := 204) rfl)
theorem w_205 {Z : State} {a0 : Array Value} (H : Wd Z a0) : ((Jvm.Cond.methodLink "motifolio/patterns/memento/EditorClearPinLaw" (37 : Nat) ({ cls := "motifolio/patterns/memento/Editor", name := "text", desc := "()Ljava/lang/String;" } : Jvm.MethodName)) : Jvm.Cond).before a0 Z = true := H.1 _ (List.mem_of_getElem? (i := 205) rfl)
theorem w_206 {Z : State} {a0 : Array Value} (H : Wd Z a0) : ((Jvm.Cond.declares ({ cls := "motifolio/patterns/memento/Editor", name := "text", desc := "()Ljava/lang/String;" } : Jvm.MethodName)) : Jvm.Cond).before a0 Z = true := H.1 _ (List.mem_of_getElem? (i := 206) rfl)
theorem w_207 {Z : State} {a0 : Array Value} (H : Wd Z a0) : ((Jvm.Cond.instanceMethod ({ cls := "motifolio/patterns/memento/Editor", name := "text", desc := "()Ljava/lang/String;" } : Jvm.MethodName)) : Jvm.Cond).before a0 Z = true := H.1 _ (List.mem_of_getElem? (i := 207) rfl)
theorem w_208 {Z : State} {a0 : Array Value} (H : Wd Z a0) : ((Jvm.Cond.selects "motifolio/patterns/memento/Editor" ({ cls := "motifolio/patterns/memento/Editor", name := "text", desc := "()Ljava/lang/String;" } : Jvm.MethodName) ({ cls := "motifolio/patterns/memento/Editor", name := "text", desc := "()Ljava/lang/String;" } : Jvm.MethodName)) : Jvm.Cond).before a0 Z = true := H.1 _ (List.mem_of_getElem? (i := 208) rfl)
theorem w_209 {Z : State} {a0 : Array Value} (H : Wd Z a0) : ((Jvm.Cond.code ({ cls := "motifolio/patterns/memento/Editor", name := "text", desc := "()Ljava/lang/String;" } : Jvm.MethodName) prog_146_method_2_code (1 : Nat) (Option.some (Jvm.ClassFile.FieldType.object "java/lang/String"))) : Jvm.Cond).before a0 Z = true := H.1 _ (List.mem_of_getElem? (i := 209) rfl)
theorem w_210 {Z : State} {a0 : Array Value} (H : Wd Z a0) : ((Jvm.Cond.methodLink "motifolio/patterns/memento/EditorClearPinLaw" (41 : Nat) ({ cls := "java/lang/String", name := "length", desc := "()I" } : Jvm.MethodName)) : Jvm.Cond).before a0 Z = true := H.1 _ (List.mem_of_getElem? (i := 210) rfl)
theorem w_211 {Z : State} {a0 : Array Value} (H : Wd Z a0) : ((Jvm.Cond.methodLink "motifolio/patterns/memento/EditorClearPinLaw" (45 : Nat) ({ cls := "motifolio/patterns/memento/Editor", name := "cursor", desc := "()I" } : Jvm.MethodName)) : Jvm.Cond).before a0 Z = true := H.1 _ (List.mem_of_getElem? (i := 211) rfl)
theorem w_212 {Z : State} {a0 : Array Value} (H : Wd Z a0) : ((Jvm.Cond.declares ({ cls := "motifolio/patterns/memento/Editor", name := "cursor", desc := "()I" } : Jvm.MethodName)) : Jvm.Cond).before a0 Z = true := H.1 _ (List.mem_of_getElem? (i := 212) rfl)
theorem w_213 {Z : State} {a0 : Array Value} (H : Wd Z a0) : ((Jvm.Cond.instanceMethod ({ cls := "motifolio/patterns/memento/Editor", name := "cursor", desc := "()I" } : Jvm.MethodName)) : Jvm.Cond).before a0 Z = true := H.1 _ (List.mem_of_getElem? (i := 213) rfl)
theorem w_214 {Z : State} {a0 : Array Value} (H : Wd Z a0) : ((Jvm.Cond.selects "motifolio/patterns/memento/Editor" ({ cls := "motifolio/patterns/memento/Editor", name := "cursor", desc := "()I" } : Jvm.MethodName) ({ cls := "motifolio/patterns/memento/Editor", name := "cursor", desc := "()I" } : Jvm.MethodName)) : Jvm.Cond).before a0 Z = true := H.1 _ (List.mem_of_getElem? (i := 214) rfl)
theorem w_215 {Z : State} {a0 : Array Value} (H : Wd Z a0) : ((Jvm.Cond.code ({ cls := "motifolio/patterns/memento/Editor", name := "cursor", desc := "()I" } : Jvm.MethodName) prog_146_method_3_code (1 : Nat) (Option.some Jvm.ClassFile.FieldType.int)) : Jvm.Cond).before a0 Z = true := H.1 _ (List.mem_of_getElem? (i := 215) rfl)
theorem w_216 {Z : State} {a0 : Array Value} (H : Wd Z a0) : ((Jvm.Cond.methodLink "motifolio/patterns/memento/EditorClearPinLaw" (48 : Nat) ({ cls := "java/lang/String", name := "equals", desc := "(Ljava/lang/Object;)Z" } : Jvm.MethodName)) : Jvm.Cond).before a0 Z = true := H.1 _ (List.mem_of_getElem? (i := 216) rfl)
theorem w_217 {Z : State} {a0 : Array Value} (H : Wd Z a0) : ((Jvm.Cond.declares ({ cls := "java/lang/String", name := "equals", desc := "(Ljava/lang/Object;)Z" } : Jvm.MethodName)) : Jvm.Cond).before a0 Z = true := H.1 _ (List.mem_of_getElem? (i := 217) rfl)
theorem w_218 {Z : State} {a0 : Array Value} (H : Wd Z a0) : ((Jvm.Cond.instanceMethod ({ cls := "java/lang/String", name := "equals", desc := "(Ljava/lang/Object;)Z" } : Jvm.MethodName)) : Jvm.Cond).before a0 Z = true := H.1 _ (List.mem_of_getElem? (i := 218) rfl)
theorem w_219 {Z : State} {a0 : Array Value} (H : Wd Z a0) : ((Jvm.Cond.selects "java/lang/String" ({ cls := "java/lang/String", name := "equals", desc := "(Ljava/lang/Object;)Z" } : Jvm.MethodName) ({ cls := "java/lang/String", name := "equals", desc := "(Ljava/lang/Object;)Z" } : Jvm.MethodName)) : Jvm.Cond).before a0 Z = true := H.1 _ (List.mem_of_getElem? (i := 219) rfl)
theorem w_220 {Z : State} {a0 : Array Value} (H : Wd Z a0) : ((Jvm.Cond.code ({ cls := "java/lang/String", name := "equals", desc := "(Ljava/lang/Object;)Z" } : Jvm.MethodName) jdk_42_method_66_code (3 : Nat) (Option.some Jvm.ClassFile.FieldType.boolean)) : Jvm.Cond).before a0 Z = true := H.1 _ (List.mem_of_getElem? (i := 220) rfl)
theorem w_221 {Z : State} {a0 : Array Value} (H : Wd Z a0) : ((Jvm.Cond.methodLink "java/lang/String" (541 : Nat) ({ cls := "java/lang/StringLatin1", name := "equals", desc := "([B[B)Z" } : Jvm.MethodName)) : Jvm.Cond).before a0 Z = true := H.1 _ (List.mem_of_getElem? (i := 221) rfl)
theorem w_222 {Z : State} {a0 : Array Value} (H : Wd Z a0) : ((Jvm.Cond.static ({ cls := "java/lang/StringLatin1", name := "equals", desc := "([B[B)Z" } : Jvm.MethodName)) : Jvm.Cond).before a0 Z = true := H.1 _ (List.mem_of_getElem? (i := 222) rfl)
theorem w_223 {Z : State} {a0 : Array Value} (H : Wd Z a0) : ((Jvm.Cond.code ({ cls := "java/lang/StringLatin1", name := "equals", desc := "([B[B)Z" } : Jvm.MethodName) jdk_43_method_13_code (3 : Nat) (Option.some Jvm.ClassFile.FieldType.boolean)) : Jvm.Cond).before a0 Z = true := H.1 _ (List.mem_of_getElem? (i := 223) rfl)
theorem w_224 {Z : State} {a0 : Array Value} (H : Wd Z a0) : ((Jvm.Cond.methodLink "java/lang/String" (177 : Nat) ({ cls := "java/lang/StringUTF16", name := "compress", desc := "([CII)[B" } : Jvm.MethodName)) : Jvm.Cond).before a0 Z = true := H.1 _ (List.mem_of_getElem? (i := 224) rfl)
theorem w_225 {Z : State} {a0 : Array Value} (H : Wd Z a0) : ((Jvm.Cond.static ({ cls := "java/lang/StringUTF16", name := "compress", desc := "([CII)[B" } : Jvm.MethodName)) : Jvm.Cond).before a0 Z = true := H.1 _ (List.mem_of_getElem? (i := 225) rfl)
theorem w_226 {Z : State} {a0 : Array Value} (H : Wd Z a0) : ((Jvm.Cond.initialized "java/lang/StringUTF16") : Jvm.Cond).before a0 Z = true := H.1 _ (List.mem_of_getElem? (i := 226) rfl)
theorem w_227 {Z : State} {a0 : Array Value} (H : Wd Z a0) : ((Jvm.Cond.code ({ cls := "java/lang/StringUTF16", name := "compress", desc := "([CII)[B" } : Jvm.MethodName) jdk_52_method_16_code (6 : Nat) (Option.some (Jvm.ClassFile.FieldType.array Jvm.ClassFile.FieldType.byte))) : Jvm.Cond).before a0 Z = true := H.1 _ (List.mem_of_getElem? (i := 227) rfl)
theorem w_228 {Z : State} {a0 : Array Value} (H : Wd Z a0) : ((Jvm.Cond.methodLink "java/lang/StringUTF16" (115 : Nat) ({ cls := "java/lang/StringUTF16", name := "compress", desc := "([CI[BII)I" } : Jvm.MethodName)) : Jvm.Cond).before a0 Z = true := H.1 _ (List.mem_of_getElem? (i := 228) rfl)
theorem w_229 {Z : State} {a0 : Array Value} (H : Wd Z a0) : ((Jvm.Cond.static ({ cls := "java/lang/StringUTF16", name := "compress", desc := "([CI[BII)I" } : Jvm.MethodName)) : Jvm.Cond).before a0 Z = true := H.1 _ (List.mem_of_getElem? (i := 229) rfl)
theorem w_230 {Z : State} {a0 : Array Value} (H : Wd Z a0) : ((Jvm.Cond.code ({ cls := "java/lang/StringUTF16", name := "compress", desc := "([CI[BII)I" } : Jvm.MethodName) jdk_52_method_21_code (7 : Nat) (Option.some Jvm.ClassFile.FieldType.int)) : Jvm.Cond).before a0 Z = true := H.1 _ (List.mem_of_getElem? (i := 230) rfl)
theorem w_231 {Z : State} {a0 : Array Value} (H : Wd Z a0) : ((Jvm.Cond.methodLink "java/lang/String" (47 : Nat) ({ cls := "java/lang/StringUTF16", name := "coderFromArrayLen", desc := "([BI)B" } : Jvm.MethodName)) : Jvm.Cond).before a0 Z = true := H.1 _ (List.mem_of_getElem? (i := 231) rfl)
theorem w_232 {Z : State} {a0 : Array Value} (H : Wd Z a0) : ((Jvm.Cond.static ({ cls := "java/lang/StringUTF16", name := "coderFromArrayLen", desc := "([BI)B" } : Jvm.MethodName)) : Jvm.Cond).before a0 Z = true := H.1 _ (List.mem_of_getElem? (i := 232) rfl)
theorem w_233 {Z : State} {a0 : Array Value} (H : Wd Z a0) : ((Jvm.Cond.code ({ cls := "java/lang/StringUTF16", name := "coderFromArrayLen", desc := "([BI)B" } : Jvm.MethodName) jdk_52_method_15_code (2 : Nat) (Option.some Jvm.ClassFile.FieldType.byte)) : Jvm.Cond).before a0 Z = true := H.1 _ (List.mem_of_getElem? (i := 233) rfl)
theorem d0_0 : decode method_2_code 0 = .ok (.iload_n 0, 1) := by decide +kernel
theorem d0_1 : decode method_2_code 1 = .ok (.ifCond .ne 14, 3) := by decide +kernel
theorem d0_4 : decode method_2_code 4 = .ok (.new 7, 3) := by decide +kernel
theorem d0_7 : decode method_2_code 7 = .ok (.dup, 1) := by decide +kernel
theorem d0_8 : decode method_2_code 8 = .ok (.iconst 0, 1) := by decide +kernel
theorem d0_9 : decode method_2_code 9 = .ok (.newarray .char, 2) := by decide +kernel
theorem d0_11 : decode method_2_code 11 = .ok (.invokespecial 9, 3) := by decide +kernel
theorem d0_14 : decode method_2_code 14 = .ok (.areturn, 1) := by decide +kernel
theorem d0_15 : decode method_2_code 15 = .ok (.iload_n 0, 1) := by decide +kernel
theorem d0_16 : decode method_2_code 16 = .ok (.iconst 1, 1) := by decide +kernel
theorem d0_17 : decode method_2_code 17 = .ok (.if_icmp .ne 18, 3) := by decide +kernel
theorem d0_20 : decode method_2_code 20 = .ok (.new 7, 3) := by decide +kernel
theorem d0_23 : decode method_2_code 23 = .ok (.dup, 1) := by decide +kernel
theorem d0_24 : decode method_2_code 24 = .ok (.iconst 1, 1) := by decide +kernel
theorem d0_25 : decode method_2_code 25 = .ok (.newarray .char, 2) := by decide +kernel
theorem d0_27 : decode method_2_code 27 = .ok (.dup, 1) := by decide +kernel
theorem d0_28 : decode method_2_code 28 = .ok (.iconst 0, 1) := by decide +kernel
theorem d0_29 : decode method_2_code 29 = .ok (.iload_n 1, 1) := by decide +kernel
theorem d0_30 : decode method_2_code 30 = .ok (.castore, 1) := by decide +kernel
theorem d0_31 : decode method_2_code 31 = .ok (.invokespecial 9, 3) := by decide +kernel
theorem d0_34 : decode method_2_code 34 = .ok (.areturn, 1) := by decide +kernel
theorem d0_35 : decode method_2_code 35 = .ok (.iload_n 0, 1) := by decide +kernel
theorem d0_36 : decode method_2_code 36 = .ok (.iconst 2, 1) := by decide +kernel
theorem d0_37 : decode method_2_code 37 = .ok (.if_icmp .ne 22, 3) := by decide +kernel
theorem d0_40 : decode method_2_code 40 = .ok (.new 7, 3) := by decide +kernel
theorem d0_43 : decode method_2_code 43 = .ok (.dup, 1) := by decide +kernel
theorem d0_44 : decode method_2_code 44 = .ok (.iconst 2, 1) := by decide +kernel
theorem d0_45 : decode method_2_code 45 = .ok (.newarray .char, 2) := by decide +kernel
theorem d0_47 : decode method_2_code 47 = .ok (.dup, 1) := by decide +kernel
theorem d0_48 : decode method_2_code 48 = .ok (.iconst 0, 1) := by decide +kernel
theorem d0_49 : decode method_2_code 49 = .ok (.iload_n 1, 1) := by decide +kernel
theorem d0_50 : decode method_2_code 50 = .ok (.castore, 1) := by decide +kernel
theorem d0_51 : decode method_2_code 51 = .ok (.dup, 1) := by decide +kernel
theorem d0_52 : decode method_2_code 52 = .ok (.iconst 1, 1) := by decide +kernel
theorem d0_53 : decode method_2_code 53 = .ok (.iload_n 2, 1) := by decide +kernel
theorem d0_54 : decode method_2_code 54 = .ok (.castore, 1) := by decide +kernel
theorem d0_55 : decode method_2_code 55 = .ok (.invokespecial 9, 3) := by decide +kernel
theorem d0_58 : decode method_2_code 58 = .ok (.areturn, 1) := by decide +kernel
theorem d0_59 : decode method_2_code 59 = .ok (.new 7, 3) := by decide +kernel
theorem d0_62 : decode method_2_code 62 = .ok (.dup, 1) := by decide +kernel
theorem d0_63 : decode method_2_code 63 = .ok (.iconst 3, 1) := by decide +kernel
theorem d0_64 : decode method_2_code 64 = .ok (.newarray .char, 2) := by decide +kernel
theorem d0_66 : decode method_2_code 66 = .ok (.dup, 1) := by decide +kernel
theorem d0_67 : decode method_2_code 67 = .ok (.iconst 0, 1) := by decide +kernel
theorem d0_68 : decode method_2_code 68 = .ok (.iload_n 1, 1) := by decide +kernel
theorem d0_69 : decode method_2_code 69 = .ok (.castore, 1) := by decide +kernel
theorem d0_70 : decode method_2_code 70 = .ok (.dup, 1) := by decide +kernel
theorem d0_71 : decode method_2_code 71 = .ok (.iconst 1, 1) := by decide +kernel
theorem d0_72 : decode method_2_code 72 = .ok (.iload_n 2, 1) := by decide +kernel
theorem d0_73 : decode method_2_code 73 = .ok (.castore, 1) := by decide +kernel
theorem d0_74 : decode method_2_code 74 = .ok (.dup, 1) := by decide +kernel
theorem d0_75 : decode method_2_code 75 = .ok (.iconst 2, 1) := by decide +kernel
theorem d0_76 : decode method_2_code 76 = .ok (.iload_n 3, 1) := by decide +kernel
theorem d0_77 : decode method_2_code 77 = .ok (.castore, 1) := by decide +kernel
theorem d0_78 : decode method_2_code 78 = .ok (.invokespecial 9, 3) := by decide +kernel
theorem d0_81 : decode method_2_code 81 = .ok (.areturn, 1) := by decide +kernel
theorem d1_0 : decode jdk_42_method_3_code 0 = .ok (.aload_n 0, 1) := by decide +kernel
theorem d1_1 : decode jdk_42_method_3_code 1 = .ok (.aload_n 1, 1) := by decide +kernel
theorem d1_2 : decode jdk_42_method_3_code 2 = .ok (.iconst 0, 1) := by decide +kernel
theorem d1_3 : decode jdk_42_method_3_code 3 = .ok (.aload_n 1, 1) := by decide +kernel
theorem d1_4 : decode jdk_42_method_3_code 4 = .ok (.arraylength, 1) := by decide +kernel
theorem d1_5 : decode jdk_42_method_3_code 5 = .ok (.aconst_null, 1) := by decide +kernel
theorem d1_6 : decode jdk_42_method_3_code 6 = .ok (.invokespecial 27, 3) := by decide +kernel
theorem d1_9 : decode jdk_42_method_3_code 9 = .ok (.return_, 1) := by decide +kernel
theorem d2_0 : decode jdk_42_method_149_code 0 = .ok (.aload_n 0, 1) := by decide +kernel
theorem d2_1 : decode jdk_42_method_149_code 1 = .ok (.invokespecial 1, 3) := by decide +kernel
theorem d2_4 : decode jdk_42_method_149_code 4 = .ok (.iload_n 3, 1) := by decide +kernel
theorem d2_5 : decode jdk_42_method_149_code 5 = .ok (.ifCond .ne 22, 3) := by decide +kernel
theorem d2_8 : decode jdk_42_method_149_code 8 = .ok (.aload_n 0, 1) := by decide +kernel
theorem d2_9 : decode jdk_42_method_149_code 9 = .ok (.ldc 7, 2) := by decide +kernel
theorem d2_11 : decode jdk_42_method_149_code 11 = .ok (.getfield 9, 3) := by decide +kernel
theorem d2_14 : decode jdk_42_method_149_code 14 = .ok (.putfield 9, 3) := by decide +kernel
theorem d2_17 : decode jdk_42_method_149_code 17 = .ok (.aload_n 0, 1) := by decide +kernel
theorem d2_18 : decode jdk_42_method_149_code 18 = .ok (.ldc 7, 2) := by decide +kernel
theorem d2_20 : decode jdk_42_method_149_code 20 = .ok (.getfield 15, 3) := by decide +kernel
theorem d2_23 : decode jdk_42_method_149_code 23 = .ok (.putfield 15, 3) := by decide +kernel
theorem d2_26 : decode jdk_42_method_149_code 26 = .ok (.return_, 1) := by decide +kernel
theorem d2_27 : decode jdk_42_method_149_code 27 = .ok (.getstatic 38, 3) := by decide +kernel
theorem d2_30 : decode jdk_42_method_149_code 30 = .ok (.ifCond .eq 28, 3) := by decide +kernel
theorem d2_33 : decode jdk_42_method_149_code 33 = .ok (.aload_n 1, 1) := by decide +kernel
theorem d2_34 : decode jdk_42_method_149_code 34 = .ok (.iload_n 2, 1) := by decide +kernel
theorem d2_35 : decode jdk_42_method_149_code 35 = .ok (.iload_n 3, 1) := by decide +kernel
theorem d2_36 : decode jdk_42_method_149_code 36 = .ok (.invokestatic 177, 3) := by decide +kernel
theorem d2_39 : decode jdk_42_method_149_code 39 = .ok (.astore 5, 2) := by decide +kernel
theorem d2_41 : decode jdk_42_method_149_code 41 = .ok (.aload_n 0, 1) := by decide +kernel
theorem d2_42 : decode jdk_42_method_149_code 42 = .ok (.aload 5, 2) := by decide +kernel
theorem d2_44 : decode jdk_42_method_149_code 44 = .ok (.iload_n 3, 1) := by decide +kernel
theorem d2_45 : decode jdk_42_method_149_code 45 = .ok (.invokestatic 47, 3) := by decide +kernel
theorem d2_48 : decode jdk_42_method_149_code 48 = .ok (.putfield 15, 3) := by decide +kernel
theorem d2_51 : decode jdk_42_method_149_code 51 = .ok (.aload_n 0, 1) := by decide +kernel
theorem d2_52 : decode jdk_42_method_149_code 52 = .ok (.aload 5, 2) := by decide +kernel
theorem d2_54 : decode jdk_42_method_149_code 54 = .ok (.putfield 9, 3) := by decide +kernel
theorem d2_57 : decode jdk_42_method_149_code 57 = .ok (.return_, 1) := by decide +kernel
theorem d4_0 : decode jdk_42_method_139_code 0 = .ok (.getstatic 38, 3) := by decide +kernel
theorem d4_3 : decode jdk_42_method_139_code 3 = .ok (.ifCond .eq 23, 3) := by decide +kernel
theorem d4_6 : decode jdk_42_method_139_code 6 = .ok (.iload_n 0, 1) := by decide +kernel
theorem d4_7 : decode jdk_42_method_139_code 7 = .ok (.invokestatic 1015, 3) := by decide +kernel
theorem d4_10 : decode jdk_42_method_139_code 10 = .ok (.ifCond .eq 16, 3) := by decide +kernel
theorem d4_13 : decode jdk_42_method_139_code 13 = .ok (.new 10, 3) := by decide +kernel
theorem d4_16 : decode jdk_42_method_139_code 16 = .ok (.dup, 1) := by decide +kernel
theorem d4_17 : decode jdk_42_method_139_code 17 = .ok (.iload_n 0, 1) := by decide +kernel
theorem d4_18 : decode jdk_42_method_139_code 18 = .ok (.invokestatic 1018, 3) := by decide +kernel
theorem d4_21 : decode jdk_42_method_139_code 21 = .ok (.iconst 0, 1) := by decide +kernel
theorem d4_22 : decode jdk_42_method_139_code 22 = .ok (.invokespecial 209, 3) := by decide +kernel
theorem d4_25 : decode jdk_42_method_139_code 25 = .ok (.areturn, 1) := by decide +kernel
theorem d5_0 : decode jdk_43_method_3_code 0 = .ok (.iload_n 0, 1) := by decide +kernel
theorem d5_1 : decode jdk_43_method_3_code 1 = .ok (.sipush 255, 3) := by decide +kernel
theorem d5_4 : decode jdk_43_method_3_code 4 = .ok (.if_icmp .gt 7, 3) := by decide +kernel
theorem d5_7 : decode jdk_43_method_3_code 7 = .ok (.iconst 1, 1) := by decide +kernel
theorem d5_8 : decode jdk_43_method_3_code 8 = .ok (.goto 4, 3) := by decide +kernel
theorem d5_12 : decode jdk_43_method_3_code 12 = .ok (.ireturn, 1) := by decide +kernel
theorem d6_0 : decode jdk_43_method_46_code 0 = .ok (.iconst 1, 1) := by decide +kernel
theorem d6_1 : decode jdk_43_method_46_code 1 = .ok (.newarray .byte, 2) := by decide +kernel
theorem d6_3 : decode jdk_43_method_46_code 3 = .ok (.dup, 1) := by decide +kernel
theorem d6_4 : decode jdk_43_method_46_code 4 = .ok (.iconst 0, 1) := by decide +kernel
theorem d6_5 : decode jdk_43_method_46_code 5 = .ok (.iload_n 0, 1) := by decide +kernel
theorem d6_6 : decode jdk_43_method_46_code 6 = .ok (.i2b, 1) := by decide +kernel
theorem d6_7 : decode jdk_43_method_46_code 7 = .ok (.bastore, 1) := by decide +kernel
theorem d6_8 : decode jdk_43_method_46_code 8 = .ok (.areturn, 1) := by decide +kernel
theorem d7_0 : decode jdk_42_method_151_code 0 = .ok (.aload_n 0, 1) := by decide +kernel
theorem d7_1 : decode jdk_42_method_151_code 1 = .ok (.invokespecial 1, 3) := by decide +kernel
theorem d7_4 : decode jdk_42_method_151_code 4 = .ok (.aload_n 0, 1) := by decide +kernel
theorem d7_5 : decode jdk_42_method_151_code 5 = .ok (.aload_n 1, 1) := by decide +kernel
theorem d7_6 : decode jdk_42_method_151_code 6 = .ok (.putfield 9, 3) := by decide +kernel
theorem d7_9 : decode jdk_42_method_151_code 9 = .ok (.aload_n 0, 1) := by decide +kernel
theorem d7_10 : decode jdk_42_method_151_code 10 = .ok (.iload_n 2, 1) := by decide +kernel
theorem d7_11 : decode jdk_42_method_151_code 11 = .ok (.putfield 15, 3) := by decide +kernel
theorem d7_14 : decode jdk_42_method_151_code 14 = .ok (.return_, 1) := by decide +kernel
theorem d8_0 : decode prog_146_method_1_code 0 = .ok (.aload_n 0, 1) := by decide +kernel
theorem d8_1 : decode prog_146_method_1_code 1 = .ok (.invokespecial 1, 3) := by decide +kernel
theorem d8_4 : decode prog_146_method_1_code 4 = .ok (.aload_n 0, 1) := by decide +kernel
theorem d8_5 : decode prog_146_method_1_code 5 = .ok (.ldc 7, 2) := by decide +kernel
theorem d8_7 : decode prog_146_method_1_code 7 = .ok (.putfield 9, 3) := by decide +kernel
theorem d8_10 : decode prog_146_method_1_code 10 = .ok (.return_, 1) := by decide +kernel
theorem d9_0 : decode prog_146_method_4_code 0 = .ok (.aload_n 1, 1) := by decide +kernel
theorem d9_1 : decode prog_146_method_4_code 1 = .ok (.ldc 19, 2) := by decide +kernel
theorem d9_3 : decode prog_146_method_4_code 3 = .ok (.invokestatic 21, 3) := by decide +kernel
theorem d9_6 : decode prog_146_method_4_code 6 = .ok (.pop, 1) := by decide +kernel
theorem d9_7 : decode prog_146_method_4_code 7 = .ok (.aload_n 0, 1) := by decide +kernel
theorem d9_8 : decode prog_146_method_4_code 8 = .ok (.new 27, 3) := by decide +kernel
theorem d9_11 : decode prog_146_method_4_code 11 = .ok (.dup, 1) := by decide +kernel
theorem d9_12 : decode prog_146_method_4_code 12 = .ok (.invokespecial 29, 3) := by decide +kernel
theorem d9_15 : decode prog_146_method_4_code 15 = .ok (.aload_n 0, 1) := by decide +kernel
theorem d9_16 : decode prog_146_method_4_code 16 = .ok (.getfield 9, 3) := by decide +kernel
theorem d9_19 : decode prog_146_method_4_code 19 = .ok (.iconst 0, 1) := by decide +kernel
theorem d9_20 : decode prog_146_method_4_code 20 = .ok (.aload_n 0, 1) := by decide +kernel
theorem d9_21 : decode prog_146_method_4_code 21 = .ok (.getfield 15, 3) := by decide +kernel
theorem d9_24 : decode prog_146_method_4_code 24 = .ok (.invokevirtual 30, 3) := by decide +kernel
theorem d9_27 : decode prog_146_method_4_code 27 = .ok (.invokevirtual 36, 3) := by decide +kernel
theorem d9_30 : decode prog_146_method_4_code 30 = .ok (.aload_n 1, 1) := by decide +kernel
theorem d9_31 : decode prog_146_method_4_code 31 = .ok (.invokevirtual 36, 3) := by decide +kernel
theorem d9_34 : decode prog_146_method_4_code 34 = .ok (.aload_n 0, 1) := by decide +kernel
theorem d9_35 : decode prog_146_method_4_code 35 = .ok (.getfield 9, 3) := by decide +kernel
theorem d9_38 : decode prog_146_method_4_code 38 = .ok (.aload_n 0, 1) := by decide +kernel
theorem d9_39 : decode prog_146_method_4_code 39 = .ok (.getfield 15, 3) := by decide +kernel
theorem d9_42 : decode prog_146_method_4_code 42 = .ok (.invokevirtual 40, 3) := by decide +kernel
theorem d9_45 : decode prog_146_method_4_code 45 = .ok (.invokevirtual 36, 3) := by decide +kernel
theorem d9_48 : decode prog_146_method_4_code 48 = .ok (.invokevirtual 43, 3) := by decide +kernel
theorem d9_51 : decode prog_146_method_4_code 51 = .ok (.putfield 9, 3) := by decide +kernel
theorem d9_54 : decode prog_146_method_4_code 54 = .ok (.aload_n 0, 1) := by decide +kernel
theorem d9_55 : decode prog_146_method_4_code 55 = .ok (.dup, 1) := by decide +kernel
theorem d9_56 : decode prog_146_method_4_code 56 = .ok (.getfield 15, 3) := by decide +kernel
theorem d9_59 : decode prog_146_method_4_code 59 = .ok (.aload_n 1, 1) := by decide +kernel
theorem d9_60 : decode prog_146_method_4_code 60 = .ok (.invokevirtual 47, 3) := by decide +kernel
theorem d9_63 : decode prog_146_method_4_code 63 = .ok (.iadd, 1) := by decide +kernel
theorem d9_64 : decode prog_146_method_4_code 64 = .ok (.putfield 15, 3) := by decide +kernel
theorem d9_67 : decode prog_146_method_4_code 67 = .ok (.return_, 1) := by decide +kernel
theorem d10_0 : decode jdk_31_method_11_code 0 = .ok (.aload_n 0, 1) := by decide +kernel
theorem d10_1 : decode jdk_31_method_11_code 1 = .ok (.ifnonnull 12, 3) := by decide +kernel
theorem d10_13 : decode jdk_31_method_11_code 13 = .ok (.aload_n 0, 1) := by decide +kernel
theorem d10_14 : decode jdk_31_method_11_code 14 = .ok (.areturn, 1) := by decide +kernel
theorem d11_0 : decode jdk_67_method_1_code 0 = .ok (.aload_n 0, 1) := by decide +kernel
theorem d11_1 : decode jdk_67_method_1_code 1 = .ok (.bipush 16, 2) := by decide +kernel
theorem d11_3 : decode jdk_67_method_1_code 3 = .ok (.invokespecial 1, 3) := by decide +kernel
theorem d11_6 : decode jdk_67_method_1_code 6 = .ok (.return_, 1) := by decide +kernel
theorem d12_0 : decode jdk_68_method_2_code 0 = .ok (.aload_n 0, 1) := by decide +kernel
theorem d12_1 : decode jdk_68_method_2_code 1 = .ok (.invokespecial 3, 3) := by decide +kernel
theorem d12_4 : decode jdk_68_method_2_code 4 = .ok (.getstatic 18, 3) := by decide +kernel
theorem d12_7 : decode jdk_68_method_2_code 7 = .ok (.ifCond .eq 18, 3) := by decide +kernel
theorem d12_10 : decode jdk_68_method_2_code 10 = .ok (.aload_n 0, 1) := by decide +kernel
theorem d12_11 : decode jdk_68_method_2_code 11 = .ok (.iload_n 1, 1) := by decide +kernel
theorem d12_12 : decode jdk_68_method_2_code 12 = .ok (.newarray .byte, 2) := by decide +kernel
theorem d12_14 : decode jdk_68_method_2_code 14 = .ok (.putfield 15, 3) := by decide +kernel
theorem d12_17 : decode jdk_68_method_2_code 17 = .ok (.aload_n 0, 1) := by decide +kernel
theorem d12_18 : decode jdk_68_method_2_code 18 = .ok (.iconst 0, 1) := by decide +kernel
theorem d12_19 : decode jdk_68_method_2_code 19 = .ok (.putfield 22, 3) := by decide +kernel
theorem d12_22 : decode jdk_68_method_2_code 22 = .ok (.goto 16, 3) := by decide +kernel
theorem d12_38 : decode jdk_68_method_2_code 38 = .ok (.return_, 1) := by decide +kernel
theorem d13_0 : decode jdk_42_method_92_code 0 = .ok (.aload_n 0, 1) := by decide +kernel
theorem d13_1 : decode jdk_42_method_92_code 1 = .ok (.invokevirtual 505, 3) := by decide +kernel
theorem d13_4 : decode jdk_42_method_92_code 4 = .ok (.istore_n 3, 1) := by decide +kernel
theorem d13_5 : decode jdk_42_method_92_code 5 = .ok (.iload_n 1, 1) := by decide +kernel
theorem d13_6 : decode jdk_42_method_92_code 6 = .ok (.iload_n 2, 1) := by decide +kernel
theorem d13_7 : decode jdk_42_method_92_code 7 = .ok (.iload_n 3, 1) := by decide +kernel
theorem d13_8 : decode jdk_42_method_92_code 8 = .ok (.invokestatic 521, 3) := by decide +kernel
theorem d13_11 : decode jdk_42_method_92_code 11 = .ok (.iload_n 1, 1) := by decide +kernel
theorem d13_12 : decode jdk_42_method_92_code 12 = .ok (.ifCond .ne 10, 3) := by decide +kernel
theorem d13_15 : decode jdk_42_method_92_code 15 = .ok (.iload_n 2, 1) := by decide +kernel
theorem d13_16 : decode jdk_42_method_92_code 16 = .ok (.iload_n 3, 1) := by decide +kernel
theorem d13_17 : decode jdk_42_method_92_code 17 = .ok (.if_icmp .ne 5, 3) := by decide +kernel
theorem d13_20 : decode jdk_42_method_92_code 20 = .ok (.aload_n 0, 1) := by decide +kernel
theorem d13_21 : decode jdk_42_method_92_code 21 = .ok (.areturn, 1) := by decide +kernel
theorem d14_0 : decode jdk_42_method_54_code 0 = .ok (.aload_n 0, 1) := by decide +kernel
theorem d14_1 : decode jdk_42_method_54_code 1 = .ok (.getfield 9, 3) := by decide +kernel
theorem d14_4 : decode jdk_42_method_54_code 4 = .ok (.arraylength, 1) := by decide +kernel
theorem d14_5 : decode jdk_42_method_54_code 5 = .ok (.aload_n 0, 1) := by decide +kernel
theorem d14_6 : decode jdk_42_method_54_code 6 = .ok (.invokevirtual 335, 3) := by decide +kernel
theorem d14_9 : decode jdk_42_method_54_code 9 = .ok (.ishr, 1) := by decide +kernel
theorem d14_10 : decode jdk_42_method_54_code 10 = .ok (.ireturn, 1) := by decide +kernel
theorem d15_0 : decode jdk_42_method_152_code 0 = .ok (.getstatic 38, 3) := by decide +kernel
theorem d15_3 : decode jdk_42_method_152_code 3 = .ok (.ifCond .eq 10, 3) := by decide +kernel
theorem d15_6 : decode jdk_42_method_152_code 6 = .ok (.aload_n 0, 1) := by decide +kernel
theorem d15_7 : decode jdk_42_method_152_code 7 = .ok (.getfield 15, 3) := by decide +kernel
theorem d15_10 : decode jdk_42_method_152_code 10 = .ok (.goto 4, 3) := by decide +kernel
theorem d15_14 : decode jdk_42_method_152_code 14 = .ok (.ireturn, 1) := by decide +kernel
theorem d16_0 : decode jdk_42_method_158_code 0 = .ok (.iload_n 0, 1) := by decide +kernel
theorem d16_1 : decode jdk_42_method_158_code 1 = .ok (.iload_n 1, 1) := by decide +kernel
theorem d16_2 : decode jdk_42_method_158_code 2 = .ok (.iload_n 2, 1) := by decide +kernel
theorem d16_3 : decode jdk_42_method_158_code 3 = .ok (.getstatic 1053, 3) := by decide +kernel
theorem d16_6 : decode jdk_42_method_158_code 6 = .ok (.invokestatic 1062, 3) := by decide +kernel
theorem d16_9 : decode jdk_42_method_158_code 9 = .ok (.pop, 1) := by decide +kernel
theorem d16_10 : decode jdk_42_method_158_code 10 = .ok (.return_, 1) := by decide +kernel
theorem d17_0 : decode jdk_41_method_12_code 0 = .ok (.iload_n 0, 1) := by decide +kernel
theorem d17_1 : decode jdk_41_method_12_code 1 = .ok (.ifCond .lt 13, 3) := by decide +kernel
theorem d17_4 : decode jdk_41_method_12_code 4 = .ok (.iload_n 0, 1) := by decide +kernel
theorem d17_5 : decode jdk_41_method_12_code 5 = .ok (.iload_n 1, 1) := by decide +kernel
theorem d17_6 : decode jdk_41_method_12_code 6 = .ok (.if_icmp .gt 8, 3) := by decide +kernel
theorem d17_9 : decode jdk_41_method_12_code 9 = .ok (.iload_n 1, 1) := by decide +kernel
theorem d17_10 : decode jdk_41_method_12_code 10 = .ok (.iload_n 2, 1) := by decide +kernel
theorem d17_11 : decode jdk_41_method_12_code 11 = .ok (.if_icmp .le 11, 3) := by decide +kernel
theorem d17_22 : decode jdk_41_method_12_code 22 = .ok (.iload_n 0, 1) := by decide +kernel
theorem d17_23 : decode jdk_41_method_12_code 23 = .ok (.ireturn, 1) := by decide +kernel
theorem d18_0 : decode jdk_67_method_7_code 0 = .ok (.aload_n 0, 1) := by decide +kernel
theorem d18_1 : decode jdk_67_method_7_code 1 = .ok (.aload_n 1, 1) := by decide +kernel
theorem d18_2 : decode jdk_67_method_7_code 2 = .ok (.invokespecial 29, 3) := by decide +kernel
theorem d18_5 : decode jdk_67_method_7_code 5 = .ok (.pop, 1) := by decide +kernel
theorem d18_6 : decode jdk_67_method_7_code 6 = .ok (.aload_n 0, 1) := by decide +kernel
theorem d18_7 : decode jdk_67_method_7_code 7 = .ok (.areturn, 1) := by decide +kernel
theorem d19_0 : decode jdk_68_method_22_code 0 = .ok (.aload_n 1, 1) := by decide +kernel
theorem d19_1 : decode jdk_68_method_22_code 1 = .ok (.ifnonnull 8, 3) := by decide +kernel
theorem d19_9 : decode jdk_68_method_22_code 9 = .ok (.aload_n 1, 1) := by decide +kernel
theorem d19_10 : decode jdk_68_method_22_code 10 = .ok (.invokevirtual 32, 3) := by decide +kernel
theorem d19_13 : decode jdk_68_method_22_code 13 = .ok (.istore_n 2, 1) := by decide +kernel
theorem d19_14 : decode jdk_68_method_22_code 14 = .ok (.aload_n 0, 1) := by decide +kernel
theorem d19_15 : decode jdk_68_method_22_code 15 = .ok (.aload_n 0, 1) := by decide +kernel
theorem d19_16 : decode jdk_68_method_22_code 16 = .ok (.getfield 79, 3) := by decide +kernel
theorem d19_19 : decode jdk_68_method_22_code 19 = .ok (.iload_n 2, 1) := by decide +kernel
theorem d19_20 : decode jdk_68_method_22_code 20 = .ok (.iadd, 1) := by decide +kernel
theorem d19_21 : decode jdk_68_method_22_code 21 = .ok (.invokevirtual 100, 3) := by decide +kernel
theorem d19_24 : decode jdk_68_method_22_code 24 = .ok (.aload_n 0, 1) := by decide +kernel
theorem d19_25 : decode jdk_68_method_22_code 25 = .ok (.aload_n 0, 1) := by decide +kernel
theorem d19_26 : decode jdk_68_method_22_code 26 = .ok (.getfield 79, 3) := by decide +kernel
theorem d19_29 : decode jdk_68_method_22_code 29 = .ok (.aload_n 1, 1) := by decide +kernel
theorem d19_30 : decode jdk_68_method_22_code 30 = .ok (.invokevirtual 208, 3) := by decide +kernel
theorem d19_33 : decode jdk_68_method_22_code 33 = .ok (.aload_n 0, 1) := by decide +kernel
theorem d19_34 : decode jdk_68_method_22_code 34 = .ok (.dup, 1) := by decide +kernel
theorem d19_35 : decode jdk_68_method_22_code 35 = .ok (.getfield 79, 3) := by decide +kernel
theorem d19_38 : decode jdk_68_method_22_code 38 = .ok (.iload_n 2, 1) := by decide +kernel
theorem d19_39 : decode jdk_68_method_22_code 39 = .ok (.iadd, 1) := by decide +kernel
theorem d19_40 : decode jdk_68_method_22_code 40 = .ok (.putfield 79, 3) := by decide +kernel
theorem d19_43 : decode jdk_68_method_22_code 43 = .ok (.aload_n 0, 1) := by decide +kernel
theorem d19_44 : decode jdk_68_method_22_code 44 = .ok (.areturn, 1) := by decide +kernel
theorem d20_0 : decode jdk_68_method_9_code 0 = .ok (.aload_n 0, 1) := by decide +kernel
theorem d20_1 : decode jdk_68_method_9_code 1 = .ok (.getfield 15, 3) := by decide +kernel
theorem d20_4 : decode jdk_68_method_9_code 4 = .ok (.arraylength, 1) := by decide +kernel
theorem d20_5 : decode jdk_68_method_9_code 5 = .ok (.aload_n 0, 1) := by decide +kernel
theorem d20_6 : decode jdk_68_method_9_code 6 = .ok (.getfield 22, 3) := by decide +kernel
theorem d20_9 : decode jdk_68_method_9_code 9 = .ok (.ishr, 1) := by decide +kernel
theorem d20_10 : decode jdk_68_method_9_code 10 = .ok (.istore_n 2, 1) := by decide +kernel
theorem d20_11 : decode jdk_68_method_9_code 11 = .ok (.iload_n 1, 1) := by decide +kernel
theorem d20_12 : decode jdk_68_method_9_code 12 = .ok (.iload_n 2, 1) := by decide +kernel
theorem d20_13 : decode jdk_68_method_9_code 13 = .ok (.isub, 1) := by decide +kernel
theorem d20_14 : decode jdk_68_method_9_code 14 = .ok (.ifCond .le 24, 3) := by decide +kernel
theorem d20_38 : decode jdk_68_method_9_code 38 = .ok (.return_, 1) := by decide +kernel
theorem d21_0 : decode jdk_68_method_73_code 0 = .ok (.aload_n 0, 1) := by decide +kernel
theorem d21_1 : decode jdk_68_method_73_code 1 = .ok (.aload_n 2, 1) := by decide +kernel
theorem d21_2 : decode jdk_68_method_73_code 2 = .ok (.invokevirtual 397, 3) := by decide +kernel
theorem d21_5 : decode jdk_68_method_73_code 5 = .ok (.aload_n 2, 1) := by decide +kernel
theorem d21_6 : decode jdk_68_method_73_code 6 = .ok (.aload_n 0, 1) := by decide +kernel
theorem d21_7 : decode jdk_68_method_73_code 7 = .ok (.getfield 15, 3) := by decide +kernel
theorem d21_10 : decode jdk_68_method_73_code 10 = .ok (.iload_n 1, 1) := by decide +kernel
theorem d21_11 : decode jdk_68_method_73_code 11 = .ok (.aload_n 0, 1) := by decide +kernel
theorem d21_12 : decode jdk_68_method_73_code 12 = .ok (.getfield 22, 3) := by decide +kernel
theorem d21_15 : decode jdk_68_method_73_code 15 = .ok (.invokevirtual 399, 3) := by decide +kernel
theorem d21_18 : decode jdk_68_method_73_code 18 = .ok (.return_, 1) := by decide +kernel
theorem d22_0 : decode jdk_68_method_71_code 0 = .ok (.getstatic 18, 3) := by decide +kernel
theorem d22_3 : decode jdk_68_method_71_code 3 = .ok (.ifCond .eq 18, 3) := by decide +kernel
theorem d22_6 : decode jdk_68_method_71_code 6 = .ok (.aload_n 0, 1) := by decide +kernel
theorem d22_7 : decode jdk_68_method_71_code 7 = .ok (.getfield 22, 3) := by decide +kernel
theorem d22_10 : decode jdk_68_method_71_code 10 = .ok (.aload_n 1, 1) := by decide +kernel
theorem d22_11 : decode jdk_68_method_71_code 11 = .ok (.invokevirtual 40, 3) := by decide +kernel
theorem d22_14 : decode jdk_68_method_71_code 14 = .ok (.if_icmp .eq 7, 3) := by decide +kernel
theorem d22_21 : decode jdk_68_method_71_code 21 = .ok (.return_, 1) := by decide +kernel
theorem d23_0 : decode jdk_42_method_147_code 0 = .ok (.aload_n 0, 1) := by decide +kernel
theorem d23_1 : decode jdk_42_method_147_code 1 = .ok (.invokevirtual 335, 3) := by decide +kernel
theorem d23_4 : decode jdk_42_method_147_code 4 = .ok (.iload_n 3, 1) := by decide +kernel
theorem d23_5 : decode jdk_42_method_147_code 5 = .ok (.if_icmp .ne 23, 3) := by decide +kernel
theorem d23_8 : decode jdk_42_method_147_code 8 = .ok (.aload_n 0, 1) := by decide +kernel
theorem d23_9 : decode jdk_42_method_147_code 9 = .ok (.getfield 9, 3) := by decide +kernel
theorem d23_12 : decode jdk_42_method_147_code 12 = .ok (.iconst 0, 1) := by decide +kernel
theorem d23_13 : decode jdk_42_method_147_code 13 = .ok (.aload_n 1, 1) := by decide +kernel
theorem d23_14 : decode jdk_42_method_147_code 14 = .ok (.iload_n 2, 1) := by decide +kernel
theorem d23_15 : decode jdk_42_method_147_code 15 = .ok (.iload_n 3, 1) := by decide +kernel
theorem d23_16 : decode jdk_42_method_147_code 16 = .ok (.ishl, 1) := by decide +kernel
theorem d23_17 : decode jdk_42_method_147_code 17 = .ok (.aload_n 0, 1) := by decide +kernel
theorem d23_18 : decode jdk_42_method_147_code 18 = .ok (.getfield 9, 3) := by decide +kernel
theorem d23_21 : decode jdk_42_method_147_code 21 = .ok (.arraylength, 1) := by decide +kernel
theorem d23_22 : decode jdk_42_method_147_code 22 = .ok (.invokestatic 212, 3) := by decide +kernel
theorem d23_25 : decode jdk_42_method_147_code 25 = .ok (.goto 18, 3) := by decide +kernel
theorem d23_43 : decode jdk_42_method_147_code 43 = .ok (.return_, 1) := by decide +kernel
theorem d24_0 : decode jdk_42_method_91_code 0 = .ok (.aload_n 0, 1) := by decide +kernel
theorem d24_1 : decode jdk_42_method_91_code 1 = .ok (.iload_n 1, 1) := by decide +kernel
theorem d24_2 : decode jdk_42_method_91_code 2 = .ok (.aload_n 0, 1) := by decide +kernel
theorem d24_3 : decode jdk_42_method_91_code 3 = .ok (.invokevirtual 505, 3) := by decide +kernel
theorem d24_6 : decode jdk_42_method_91_code 6 = .ok (.invokevirtual 681, 3) := by decide +kernel
theorem d24_9 : decode jdk_42_method_91_code 9 = .ok (.areturn, 1) := by decide +kernel
theorem d25_0 : decode jdk_67_method_42_code 0 = .ok (.new 18, 3) := by decide +kernel
theorem d25_3 : decode jdk_67_method_42_code 3 = .ok (.dup, 1) := by decide +kernel
theorem d25_4 : decode jdk_67_method_42_code 4 = .ok (.aload_n 0, 1) := by decide +kernel
theorem d25_5 : decode jdk_67_method_42_code 5 = .ok (.invokespecial 137, 3) := by decide +kernel
theorem d25_8 : decode jdk_67_method_42_code 8 = .ok (.areturn, 1) := by decide +kernel
theorem d26_0 : decode jdk_42_method_53_code 0 = .ok (.aload_n 0, 1) := by decide +kernel
theorem d26_1 : decode jdk_42_method_53_code 1 = .ok (.aload_n 1, 1) := by decide +kernel
theorem d26_2 : decode jdk_42_method_53_code 2 = .ok (.aconst_null, 1) := by decide +kernel
theorem d26_3 : decode jdk_42_method_53_code 3 = .ok (.invokespecial 489, 3) := by decide +kernel
theorem d26_6 : decode jdk_42_method_53_code 6 = .ok (.return_, 1) := by decide +kernel
theorem d27_0 : decode jdk_42_method_150_code 0 = .ok (.aload_n 0, 1) := by decide +kernel
theorem d27_1 : decode jdk_42_method_150_code 1 = .ok (.invokespecial 1, 3) := by decide +kernel
theorem d27_4 : decode jdk_42_method_150_code 4 = .ok (.aload_n 1, 1) := by decide +kernel
theorem d27_5 : decode jdk_42_method_150_code 5 = .ok (.invokevirtual 552, 3) := by decide +kernel
theorem d27_8 : decode jdk_42_method_150_code 8 = .ok (.astore_n 3, 1) := by decide +kernel
theorem d27_9 : decode jdk_42_method_150_code 9 = .ok (.aload_n 1, 1) := by decide +kernel
theorem d27_10 : decode jdk_42_method_150_code 10 = .ok (.invokevirtual 549, 3) := by decide +kernel
theorem d27_13 : decode jdk_42_method_150_code 13 = .ok (.istore 4, 2) := by decide +kernel
theorem d27_15 : decode jdk_42_method_150_code 15 = .ok (.aload_n 1, 1) := by decide +kernel
theorem d27_16 : decode jdk_42_method_150_code 16 = .ok (.invokevirtual 1047, 3) := by decide +kernel
theorem d27_19 : decode jdk_42_method_150_code 19 = .ok (.ifCond .eq 22, 3) := by decide +kernel
theorem d27_22 : decode jdk_42_method_150_code 22 = .ok (.aload_n 0, 1) := by decide +kernel
theorem d27_23 : decode jdk_42_method_150_code 23 = .ok (.iconst 0, 1) := by decide +kernel
theorem d27_24 : decode jdk_42_method_150_code 24 = .ok (.putfield 15, 3) := by decide +kernel
theorem d27_27 : decode jdk_42_method_150_code 27 = .ok (.aload_n 0, 1) := by decide +kernel
theorem d27_28 : decode jdk_42_method_150_code 28 = .ok (.aload_n 3, 1) := by decide +kernel
theorem d27_29 : decode jdk_42_method_150_code 29 = .ok (.iconst 0, 1) := by decide +kernel
theorem d27_30 : decode jdk_42_method_150_code 30 = .ok (.iload 4, 2) := by decide +kernel
theorem d27_32 : decode jdk_42_method_150_code 32 = .ok (.invokestatic 54, 3) := by decide +kernel
theorem d27_35 : decode jdk_42_method_150_code 35 = .ok (.putfield 9, 3) := by decide +kernel
theorem d27_38 : decode jdk_42_method_150_code 38 = .ok (.goto 59, 3) := by decide +kernel
theorem d27_97 : decode jdk_42_method_150_code 97 = .ok (.return_, 1) := by decide +kernel
theorem d28_0 : decode jdk_68_method_64_code 0 = .ok (.aload_n 0, 1) := by decide +kernel
theorem d28_1 : decode jdk_68_method_64_code 1 = .ok (.getfield 15, 3) := by decide +kernel
theorem d28_4 : decode jdk_68_method_64_code 4 = .ok (.areturn, 1) := by decide +kernel
theorem d29_0 : decode jdk_67_method_93_code 0 = .ok (.aload_n 0, 1) := by decide +kernel
theorem d29_1 : decode jdk_67_method_93_code 1 = .ok (.invokespecial 343, 3) := by decide +kernel
theorem d29_4 : decode jdk_67_method_93_code 4 = .ok (.ireturn, 1) := by decide +kernel
theorem d30_0 : decode jdk_68_method_6_code 0 = .ok (.aload_n 0, 1) := by decide +kernel
theorem d30_1 : decode jdk_68_method_6_code 1 = .ok (.getfield 79, 3) := by decide +kernel
theorem d30_4 : decode jdk_68_method_6_code 4 = .ok (.ireturn, 1) := by decide +kernel
theorem d31_0 : decode jdk_68_method_68_code 0 = .ok (.getstatic 18, 3) := by decide +kernel
theorem d31_3 : decode jdk_68_method_68_code 3 = .ok (.ifCond .eq 14, 3) := by decide +kernel
theorem d31_6 : decode jdk_68_method_68_code 6 = .ok (.aload_n 0, 1) := by decide +kernel
theorem d31_7 : decode jdk_68_method_68_code 7 = .ok (.getfield 22, 3) := by decide +kernel
theorem d31_10 : decode jdk_68_method_68_code 10 = .ok (.ifCond .ne 7, 3) := by decide +kernel
theorem d31_13 : decode jdk_68_method_68_code 13 = .ok (.iconst 1, 1) := by decide +kernel
theorem d31_14 : decode jdk_68_method_68_code 14 = .ok (.goto 4, 3) := by decide +kernel
theorem d31_18 : decode jdk_68_method_68_code 18 = .ok (.ireturn, 1) := by decide +kernel
theorem d32_0 : decode jdk_65_method_132_code 0 = .ok (.iload_n 1, 1) := by decide +kernel
theorem d32_1 : decode jdk_65_method_132_code 1 = .ok (.ifCond .ne 9, 3) := by decide +kernel
theorem d32_4 : decode jdk_65_method_132_code 4 = .ok (.iload_n 2, 1) := by decide +kernel
theorem d32_5 : decode jdk_65_method_132_code 5 = .ok (.aload_n 0, 1) := by decide +kernel
theorem d32_6 : decode jdk_65_method_132_code 6 = .ok (.arraylength, 1) := by decide +kernel
theorem d32_7 : decode jdk_65_method_132_code 7 = .ok (.if_icmp .eq 10, 3) := by decide +kernel
theorem d32_10 : decode jdk_65_method_132_code 10 = .ok (.aload_n 0, 1) := by decide +kernel
theorem d32_11 : decode jdk_65_method_132_code 11 = .ok (.iload_n 1, 1) := by decide +kernel
theorem d32_12 : decode jdk_65_method_132_code 12 = .ok (.iload_n 2, 1) := by decide +kernel
theorem d32_13 : decode jdk_65_method_132_code 13 = .ok (.invokestatic 339, 3) := by decide +kernel
theorem d32_16 : decode jdk_65_method_132_code 16 = .ok (.areturn, 1) := by decide +kernel
theorem d33_0 : decode jdk_65_method_133_code 0 = .ok (.iload_n 1, 1) := by decide +kernel
theorem d33_1 : decode jdk_65_method_133_code 1 = .ok (.iload_n 2, 1) := by decide +kernel
theorem d33_2 : decode jdk_65_method_133_code 2 = .ok (.invokestatic 343, 3) := by decide +kernel
theorem d33_5 : decode jdk_65_method_133_code 5 = .ok (.iload_n 2, 1) := by decide +kernel
theorem d33_6 : decode jdk_65_method_133_code 6 = .ok (.iload_n 1, 1) := by decide +kernel
theorem d33_7 : decode jdk_65_method_133_code 7 = .ok (.isub, 1) := by decide +kernel
theorem d33_8 : decode jdk_65_method_133_code 8 = .ok (.istore_n 3, 1) := by decide +kernel
theorem d33_9 : decode jdk_65_method_133_code 9 = .ok (.iload_n 3, 1) := by decide +kernel
theorem d33_10 : decode jdk_65_method_133_code 10 = .ok (.newarray .byte, 2) := by decide +kernel
theorem d33_12 : decode jdk_65_method_133_code 12 = .ok (.astore 4, 2) := by decide +kernel
theorem d33_14 : decode jdk_65_method_133_code 14 = .ok (.aload_n 0, 1) := by decide +kernel
theorem d33_15 : decode jdk_65_method_133_code 15 = .ok (.iload_n 1, 1) := by decide +kernel
theorem d33_16 : decode jdk_65_method_133_code 16 = .ok (.aload 4, 2) := by decide +kernel
theorem d33_18 : decode jdk_65_method_133_code 18 = .ok (.iconst 0, 1) := by decide +kernel
theorem d33_19 : decode jdk_65_method_133_code 19 = .ok (.aload_n 0, 1) := by decide +kernel
theorem d33_20 : decode jdk_65_method_133_code 20 = .ok (.arraylength, 1) := by decide +kernel
theorem d33_21 : decode jdk_65_method_133_code 21 = .ok (.iload_n 1, 1) := by decide +kernel
theorem d33_22 : decode jdk_65_method_133_code 22 = .ok (.isub, 1) := by decide +kernel
theorem d33_23 : decode jdk_65_method_133_code 23 = .ok (.iload_n 3, 1) := by decide +kernel
theorem d33_24 : decode jdk_65_method_133_code 24 = .ok (.invokestatic 304, 3) := by decide +kernel
theorem d33_27 : decode jdk_65_method_133_code 27 = .ok (.invokestatic 150, 3) := by decide +kernel
theorem d33_30 : decode jdk_65_method_133_code 30 = .ok (.aload 4, 2) := by decide +kernel
theorem d33_32 : decode jdk_65_method_133_code 32 = .ok (.areturn, 1) := by decide +kernel
theorem d34_0 : decode jdk_65_method_131_code 0 = .ok (.iload_n 1, 1) := by decide +kernel
theorem d34_1 : decode jdk_65_method_131_code 1 = .ok (.iload_n 0, 1) := by decide +kernel
theorem d34_2 : decode jdk_65_method_131_code 2 = .ok (.if_icmp .ge 35, 3) := by decide +kernel
theorem d34_37 : decode jdk_65_method_131_code 37 = .ok (.return_, 1) := by decide +kernel
theorem d35_0 : decode jdk_29_method_69_code 0 = .ok (.iload_n 0, 1) := by decide +kernel
theorem d35_1 : decode jdk_29_method_69_code 1 = .ok (.iload_n 1, 1) := by decide +kernel
theorem d35_2 : decode jdk_29_method_69_code 2 = .ok (.if_icmp .gt 7, 3) := by decide +kernel
theorem d35_5 : decode jdk_29_method_69_code 5 = .ok (.iload_n 0, 1) := by decide +kernel
theorem d35_6 : decode jdk_29_method_69_code 6 = .ok (.goto 4, 3) := by decide +kernel
theorem d35_9 : decode jdk_29_method_69_code 9 = .ok (.iload_n 1, 1) := by decide +kernel
theorem d35_10 : decode jdk_29_method_69_code 10 = .ok (.ireturn, 1) := by decide +kernel
theorem d36_0 : decode prog_146_method_5_code 0 = .ok (.iload_n 1, 1) := by decide +kernel
theorem d36_1 : decode prog_146_method_5_code 1 = .ok (.ifCond .lt 14, 3) := by decide +kernel
theorem d36_4 : decode prog_146_method_5_code 4 = .ok (.iload_n 1, 1) := by decide +kernel
theorem d36_5 : decode prog_146_method_5_code 5 = .ok (.aload_n 0, 1) := by decide +kernel
theorem d36_6 : decode prog_146_method_5_code 6 = .ok (.getfield 9, 3) := by decide +kernel
theorem d36_9 : decode prog_146_method_5_code 9 = .ok (.invokevirtual 47, 3) := by decide +kernel
theorem d36_12 : decode prog_146_method_5_code 12 = .ok (.if_icmp .le 50, 3) := by decide +kernel
theorem d36_62 : decode prog_146_method_5_code 62 = .ok (.aload_n 0, 1) := by decide +kernel
theorem d36_63 : decode prog_146_method_5_code 63 = .ok (.iload_n 1, 1) := by decide +kernel
theorem d36_64 : decode prog_146_method_5_code 64 = .ok (.putfield 15, 3) := by decide +kernel
theorem d36_67 : decode prog_146_method_5_code 67 = .ok (.return_, 1) := by decide +kernel
theorem d37_0 : decode prog_146_method_6_code 0 = .ok (.aload_n 0, 1) := by decide +kernel
theorem d37_1 : decode prog_146_method_6_code 1 = .ok (.ldc 7, 2) := by decide +kernel
theorem d37_3 : decode prog_146_method_6_code 3 = .ok (.putfield 9, 3) := by decide +kernel
theorem d37_6 : decode prog_146_method_6_code 6 = .ok (.aload_n 0, 1) := by decide +kernel
theorem d37_7 : decode prog_146_method_6_code 7 = .ok (.iconst 0, 1) := by decide +kernel
theorem d37_8 : decode prog_146_method_6_code 8 = .ok (.putfield 15, 3) := by decide +kernel
theorem d37_11 : decode prog_146_method_6_code 11 = .ok (.return_, 1) := by decide +kernel
theorem d38_0 : decode prog_146_method_2_code 0 = .ok (.aload_n 0, 1) := by decide +kernel
theorem d38_1 : decode prog_146_method_2_code 1 = .ok (.getfield 9, 3) := by decide +kernel
theorem d38_4 : decode prog_146_method_2_code 4 = .ok (.areturn, 1) := by decide +kernel
theorem d39_0 : decode prog_146_method_3_code 0 = .ok (.aload_n 0, 1) := by decide +kernel
theorem d39_1 : decode prog_146_method_3_code 1 = .ok (.getfield 15, 3) := by decide +kernel
theorem d39_4 : decode prog_146_method_3_code 4 = .ok (.ireturn, 1) := by decide +kernel
theorem d40_0 : decode jdk_42_method_66_code 0 = .ok (.aload_n 0, 1) := by decide +kernel
theorem d40_1 : decode jdk_42_method_66_code 1 = .ok (.aload_n 1, 1) := by decide +kernel
theorem d40_2 : decode jdk_42_method_66_code 2 = .ok (.if_acmp .ne 5, 3) := by decide +kernel
theorem d40_5 : decode jdk_42_method_66_code 5 = .ok (.iconst 1, 1) := by decide +kernel
theorem d40_6 : decode jdk_42_method_66_code 6 = .ok (.ireturn, 1) := by decide +kernel
theorem d40_7 : decode jdk_42_method_66_code 7 = .ok (.aload_n 1, 1) := by decide +kernel
theorem d40_8 : decode jdk_42_method_66_code 8 = .ok (.instanceof 10, 3) := by decide +kernel
theorem d40_11 : decode jdk_42_method_66_code 11 = .ok (.ifCond .eq 43, 3) := by decide +kernel
theorem d40_14 : decode jdk_42_method_66_code 14 = .ok (.aload_n 1, 1) := by decide +kernel
theorem d40_15 : decode jdk_42_method_66_code 15 = .ok (.checkcast 10, 3) := by decide +kernel
theorem d40_18 : decode jdk_42_method_66_code 18 = .ok (.astore_n 2, 1) := by decide +kernel
theorem d40_19 : decode jdk_42_method_66_code 19 = .ok (.getstatic 38, 3) := by decide +kernel
theorem d40_22 : decode jdk_42_method_66_code 22 = .ok (.ifCond .eq 14, 3) := by decide +kernel
theorem d40_25 : decode jdk_42_method_66_code 25 = .ok (.aload_n 0, 1) := by decide +kernel
theorem d40_26 : decode jdk_42_method_66_code 26 = .ok (.getfield 15, 3) := by decide +kernel
theorem d40_29 : decode jdk_42_method_66_code 29 = .ok (.aload_n 2, 1) := by decide +kernel
theorem d40_30 : decode jdk_42_method_66_code 30 = .ok (.getfield 15, 3) := by decide +kernel
theorem d40_33 : decode jdk_42_method_66_code 33 = .ok (.if_icmp .ne 21, 3) := by decide +kernel
theorem d40_36 : decode jdk_42_method_66_code 36 = .ok (.aload_n 0, 1) := by decide +kernel
theorem d40_37 : decode jdk_42_method_66_code 37 = .ok (.getfield 9, 3) := by decide +kernel
theorem d40_40 : decode jdk_42_method_66_code 40 = .ok (.aload_n 2, 1) := by decide +kernel
theorem d40_41 : decode jdk_42_method_66_code 41 = .ok (.getfield 9, 3) := by decide +kernel
theorem d40_44 : decode jdk_42_method_66_code 44 = .ok (.invokestatic 541, 3) := by decide +kernel
theorem d40_47 : decode jdk_42_method_66_code 47 = .ok (.ifCond .eq 7, 3) := by decide +kernel
theorem d40_50 : decode jdk_42_method_66_code 50 = .ok (.iconst 1, 1) := by decide +kernel
theorem d40_51 : decode jdk_42_method_66_code 51 = .ok (.goto 4, 3) := by decide +kernel
theorem d40_54 : decode jdk_42_method_66_code 54 = .ok (.iconst 0, 1) := by decide +kernel
theorem d40_55 : decode jdk_42_method_66_code 55 = .ok (.ireturn, 1) := by decide +kernel
theorem d41_0 : decode jdk_43_method_13_code 0 = .ok (.aload_n 0, 1) := by decide +kernel
theorem d41_1 : decode jdk_43_method_13_code 1 = .ok (.arraylength, 1) := by decide +kernel
theorem d41_2 : decode jdk_43_method_13_code 2 = .ok (.aload_n 1, 1) := by decide +kernel
theorem d41_3 : decode jdk_43_method_13_code 3 = .ok (.arraylength, 1) := by decide +kernel
theorem d41_4 : decode jdk_43_method_13_code 4 = .ok (.if_icmp .ne 30, 3) := by decide +kernel
theorem d41_7 : decode jdk_43_method_13_code 7 = .ok (.iconst 0, 1) := by decide +kernel
theorem d41_8 : decode jdk_43_method_13_code 8 = .ok (.istore_n 2, 1) := by decide +kernel
theorem d41_9 : decode jdk_43_method_13_code 9 = .ok (.iload_n 2, 1) := by decide +kernel
theorem d41_10 : decode jdk_43_method_13_code 10 = .ok (.aload_n 0, 1) := by decide +kernel
theorem d41_11 : decode jdk_43_method_13_code 11 = .ok (.arraylength, 1) := by decide +kernel
theorem d41_12 : decode jdk_43_method_13_code 12 = .ok (.if_icmp .ge 20, 3) := by decide +kernel
theorem d41_15 : decode jdk_43_method_13_code 15 = .ok (.aload_n 0, 1) := by decide +kernel
theorem d41_16 : decode jdk_43_method_13_code 16 = .ok (.iload_n 2, 1) := by decide +kernel
theorem d41_17 : decode jdk_43_method_13_code 17 = .ok (.baload, 1) := by decide +kernel
theorem d41_18 : decode jdk_43_method_13_code 18 = .ok (.aload_n 1, 1) := by decide +kernel
theorem d41_19 : decode jdk_43_method_13_code 19 = .ok (.iload_n 2, 1) := by decide +kernel
theorem d41_20 : decode jdk_43_method_13_code 20 = .ok (.baload, 1) := by decide +kernel
theorem d41_21 : decode jdk_43_method_13_code 21 = .ok (.if_icmp .eq 5, 3) := by decide +kernel
theorem d41_24 : decode jdk_43_method_13_code 24 = .ok (.iconst 0, 1) := by decide +kernel
theorem d41_25 : decode jdk_43_method_13_code 25 = .ok (.ireturn, 1) := by decide +kernel
theorem d41_26 : decode jdk_43_method_13_code 26 = .ok (.iinc 2 1, 3) := by decide +kernel
theorem d41_29 : decode jdk_43_method_13_code 29 = .ok (.goto (-20), 3) := by decide +kernel
theorem d41_32 : decode jdk_43_method_13_code 32 = .ok (.iconst 1, 1) := by decide +kernel
theorem d41_33 : decode jdk_43_method_13_code 33 = .ok (.ireturn, 1) := by decide +kernel
theorem d41_34 : decode jdk_43_method_13_code 34 = .ok (.iconst 0, 1) := by decide +kernel
theorem d41_35 : decode jdk_43_method_13_code 35 = .ok (.ireturn, 1) := by decide +kernel
theorem d42_0 : decode jdk_52_method_16_code 0 = .ok (.iload_n 2, 1) := by decide +kernel
theorem d42_1 : decode jdk_52_method_16_code 1 = .ok (.newarray .byte, 2) := by decide +kernel
theorem d42_3 : decode jdk_52_method_16_code 3 = .ok (.astore_n 3, 1) := by decide +kernel
theorem d42_4 : decode jdk_52_method_16_code 4 = .ok (.aload_n 0, 1) := by decide +kernel
theorem d42_5 : decode jdk_52_method_16_code 5 = .ok (.iload_n 1, 1) := by decide +kernel
theorem d42_6 : decode jdk_52_method_16_code 6 = .ok (.aload_n 3, 1) := by decide +kernel
theorem d42_7 : decode jdk_52_method_16_code 7 = .ok (.iconst 0, 1) := by decide +kernel
theorem d42_8 : decode jdk_52_method_16_code 8 = .ok (.iload_n 2, 1) := by decide +kernel
theorem d42_9 : decode jdk_52_method_16_code 9 = .ok (.invokestatic 115, 3) := by decide +kernel
theorem d42_12 : decode jdk_52_method_16_code 12 = .ok (.istore 4, 2) := by decide +kernel
theorem d42_14 : decode jdk_52_method_16_code 14 = .ok (.iload 4, 2) := by decide +kernel
theorem d42_16 : decode jdk_52_method_16_code 16 = .ok (.iload_n 2, 1) := by decide +kernel
theorem d42_17 : decode jdk_52_method_16_code 17 = .ok (.if_icmp .eq 40, 3) := by decide +kernel
theorem d42_57 : decode jdk_52_method_16_code 57 = .ok (.aload_n 3, 1) := by decide +kernel
theorem d42_58 : decode jdk_52_method_16_code 58 = .ok (.areturn, 1) := by decide +kernel
theorem d43_0 : decode jdk_52_method_21_code 0 = .ok (.iconst 0, 1) := by decide +kernel
theorem d43_1 : decode jdk_52_method_21_code 1 = .ok (.istore 5, 2) := by decide +kernel
theorem d43_3 : decode jdk_52_method_21_code 3 = .ok (.iload 5, 2) := by decide +kernel
theorem d43_5 : decode jdk_52_method_21_code 5 = .ok (.iload 4, 2) := by decide +kernel
theorem d43_7 : decode jdk_52_method_21_code 7 = .ok (.if_icmp .ge 37, 3) := by decide +kernel
theorem d43_10 : decode jdk_52_method_21_code 10 = .ok (.aload_n 0, 1) := by decide +kernel
theorem d43_11 : decode jdk_52_method_21_code 11 = .ok (.iload_n 1, 1) := by decide +kernel
theorem d43_12 : decode jdk_52_method_21_code 12 = .ok (.caload, 1) := by decide +kernel
theorem d43_13 : decode jdk_52_method_21_code 13 = .ok (.istore 6, 2) := by decide +kernel
theorem d43_15 : decode jdk_52_method_21_code 15 = .ok (.iload 6, 2) := by decide +kernel
theorem d43_17 : decode jdk_52_method_21_code 17 = .ok (.sipush 255, 3) := by decide +kernel
theorem d43_20 : decode jdk_52_method_21_code 20 = .ok (.if_icmp .le 6, 3) := by decide +kernel
theorem d43_26 : decode jdk_52_method_21_code 26 = .ok (.aload_n 2, 1) := by decide +kernel
theorem d43_27 : decode jdk_52_method_21_code 27 = .ok (.iload_n 3, 1) := by decide +kernel
theorem d43_28 : decode jdk_52_method_21_code 28 = .ok (.iload 6, 2) := by decide +kernel
theorem d43_30 : decode jdk_52_method_21_code 30 = .ok (.i2b, 1) := by decide +kernel
theorem d43_31 : decode jdk_52_method_21_code 31 = .ok (.bastore, 1) := by decide +kernel
theorem d43_32 : decode jdk_52_method_21_code 32 = .ok (.iinc 1 1, 3) := by decide +kernel
theorem d43_35 : decode jdk_52_method_21_code 35 = .ok (.iinc 3 1, 3) := by decide +kernel
theorem d43_38 : decode jdk_52_method_21_code 38 = .ok (.iinc 5 1, 3) := by decide +kernel
theorem d43_41 : decode jdk_52_method_21_code 41 = .ok (.goto (-38), 3) := by decide +kernel
theorem d43_44 : decode jdk_52_method_21_code 44 = .ok (.iload 4, 2) := by decide +kernel
theorem d43_46 : decode jdk_52_method_21_code 46 = .ok (.ireturn, 1) := by decide +kernel
theorem d44_0 : decode jdk_52_method_15_code 0 = .ok (.iload_n 1, 1) := by decide +kernel
theorem d44_1 : decode jdk_52_method_15_code 1 = .ok (.aload_n 0, 1) := by decide +kernel
theorem d44_2 : decode jdk_52_method_15_code 2 = .ok (.arraylength, 1) := by decide +kernel
theorem d44_3 : decode jdk_52_method_15_code 3 = .ok (.isub, 1) := by decide +kernel
theorem d44_4 : decode jdk_52_method_15_code 4 = .ok (.bipush 31, 2) := by decide +kernel
theorem d44_6 : decode jdk_52_method_15_code 6 = .ok (.iushr, 1) := by decide +kernel
theorem d44_7 : decode jdk_52_method_15_code 7 = .ok (.i2b, 1) := by decide +kernel
theorem d44_8 : decode jdk_52_method_15_code 8 = .ok (.ireturn, 1) := by decide +kernel
theorem pd_0 : parseMethodDescriptor "(Ljava/lang/Object;Ljava/lang/String;)Ljava/lang/Object;" = some ⟨[(.object "java/lang/Object"), (.object "java/lang/String")], (some (.object "java/lang/Object"))⟩ := by decide +kernel
theorem pd_1 : parseMethodDescriptor "()V" = some ⟨[], none⟩ := by decide +kernel
theorem pd_2 : parseMethodDescriptor "(II)Ljava/lang/String;" = some ⟨[.int, .int], (some (.object "java/lang/String"))⟩ := by decide +kernel
theorem pd_3 : parseMethodDescriptor "(Ljava/lang/String;)Ljava/lang/StringBuilder;" = some ⟨[(.object "java/lang/String")], (some (.object "java/lang/StringBuilder"))⟩ := by decide +kernel
theorem pd_4 : parseMethodDescriptor "(I)Ljava/lang/String;" = some ⟨[.int], (some (.object "java/lang/String"))⟩ := by decide +kernel
theorem pd_5 : parseMethodDescriptor "()Ljava/lang/String;" = some ⟨[], (some (.object "java/lang/String"))⟩ := by decide +kernel
theorem pd_6 : parseMethodDescriptor "()I" = some ⟨[], (some .int)⟩ := by decide +kernel
theorem pd_7 : parseMethodDescriptor "()B" = some ⟨[], (some .byte)⟩ := by decide +kernel
theorem pd_8 : parseMethodDescriptor "([CI[BII)I" = some ⟨[(.array .char), .int, (.array .byte), .int, .int], (some .int)⟩ := by decide +kernel
theorem pd_9 : parseMethodDescriptor "([CII)[B" = some ⟨[(.array .char), .int, .int], (some (.array .byte))⟩ := by decide +kernel
theorem pd_10 : parseMethodDescriptor "([BI)B" = some ⟨[(.array .byte), .int], (some .byte)⟩ := by decide +kernel
theorem pd_11 : parseMethodDescriptor "([CIILjava/lang/Void;)V" = some ⟨[(.array .char), .int, .int, (.object "java/lang/Void")], none⟩ := by decide +kernel
theorem pd_12 : parseMethodDescriptor "(C)Z" = some ⟨[.char], (some .boolean)⟩ := by decide +kernel
theorem pd_13 : parseMethodDescriptor "(C)[B" = some ⟨[.char], (some (.array .byte))⟩ := by decide +kernel
theorem pd_14 : parseMethodDescriptor "([BB)V" = some ⟨[(.array .byte), .byte], none⟩ := by decide +kernel
theorem pd_15 : parseMethodDescriptor "(I)V" = some ⟨[.int], none⟩ := by decide +kernel
theorem pd_16 : parseMethodDescriptor "(Ljava/lang/String;)V" = some ⟨[(.object "java/lang/String")], none⟩ := by decide +kernel
theorem pd_17 : parseMethodDescriptor "([BIB)V" = some ⟨[(.array .byte), .int, .byte], none⟩ := by decide +kernel
theorem pd_18 : parseMethodDescriptor "(ILjava/lang/String;)V" = some ⟨[.int, (.object "java/lang/String")], none⟩ := by decide +kernel
theorem pd_19 : parseMethodDescriptor "(Ljava/lang/String;)Ljava/lang/AbstractStringBuilder;" = some ⟨[(.object "java/lang/String")], (some (.object "java/lang/AbstractStringBuilder"))⟩ := by decide +kernel
theorem pd_20 : parseMethodDescriptor "(II)V" = some ⟨[.int, .int], none⟩ := by decide +kernel
theorem pd_21 : parseMethodDescriptor "(II)I" = some ⟨[.int, .int], (some .int)⟩ := by decide +kernel
theorem pd_22 : parseMethodDescriptor "([BII)[B" = some ⟨[(.array .byte), .int, .int], (some (.array .byte))⟩ := by decide +kernel
theorem pd_23 : parseMethodDescriptor "()[B" = some ⟨[], (some (.array .byte))⟩ := by decide +kernel
theorem pd_24 : parseMethodDescriptor "()Z" = some ⟨[], (some .boolean)⟩ := by decide +kernel
theorem pd_25 : parseMethodDescriptor "(Ljava/lang/AbstractStringBuilder;Ljava/lang/Void;)V" = some ⟨[(.object "java/lang/AbstractStringBuilder"), (.object "java/lang/Void")], none⟩ := by decide +kernel
theorem pd_26 : parseMethodDescriptor "(Ljava/lang/StringBuilder;)V" = some ⟨[(.object "java/lang/StringBuilder")], none⟩ := by decide +kernel
theorem pd_27 : parseMethodDescriptor "([B[B)Z" = some ⟨[(.array .byte), (.array .byte)], (some .boolean)⟩ := by decide +kernel
theorem pd_28 : parseMethodDescriptor "(IIILjava/util/function/BiFunction;)I" = some ⟨[.int, .int, .int, (.object "java/util/function/BiFunction")], (some .int)⟩ := by decide +kernel
theorem pd_29 : parseMethodDescriptor "(III)V" = some ⟨[.int, .int, .int], none⟩ := by decide +kernel
theorem pd_30 : parseMethodDescriptor "([C)V" = some ⟨[(.array .char)], none⟩ := by decide +kernel
theorem pd_31 : parseMethodDescriptor "(C)Ljava/lang/String;" = some ⟨[.char], (some (.object "java/lang/String"))⟩ := by decide +kernel
theorem pd_32 : parseMethodDescriptor "(Ljava/lang/Object;)Z" = some ⟨[(.object "java/lang/Object")], (some .boolean)⟩ := by decide +kernel
theorem pd_33 : parseMethodDescriptor "(ICCC)Ljava/lang/String;" = some ⟨[.int, .char, .char, .char], (some (.object "java/lang/String"))⟩ := by decide +kernel
set_option maxRecDepth 65536 in
set_option maxHeartbeats 4000000 in
theorem rm_coder {l : Launch} {Z : State} {a0 : Array Value} (H : Wd Z a0) {h : Heap} {a : Addr} (C : Fld Z h a ST "coder" "B" (.int 0)) : Met l Z (⟨"java/lang/String", "coder", "()B"⟩ : MethodName) jdk_42_method_152_code 1 (some .byte) ({ frames := 0, cells := 0, slots := 0, locals := 0 } : Room) h [] #[.ref a] (fun v h' G => v = some (.int 0) ∧ h = h') := by
  refine Met.mk (L := #[.val (.ref a)]) (by decide +kernel) (fun m => by first | (simp [entryFrame, mkF, argsToLocals, Value.category]; done) | rfl) (fun K => ?_)
  show Go _ _ K "java/lang/String" "coder" _ _ _ _ _ _ _ _ _ 0 _ _
  obtain ⟨cz, Sz, nz⟩ := H.2.2.2.1
  refine go_getstatic (v := .int cz) (q := 3) (w_30 H) Via.refl Sz d15_0 rfl ?_
  refine go_ifN (q := 6) d15_3 nz rfl ?_
  refine go_aloadN (v := .ref a) (q := 7) d15_6 rfl rfl rfl ?_
  refine go_getfield (v := .int 0) (q := 10) (w_25 H) Via.refl C d15_7 rfl ?_
  refine go_goto (q := 14) d15_10 (by decide) (by decide) ?_
  exact go_ireturn H (G := []) (t := .byte) rfl (by decide) rfl d15_14 (by decide) (by decide) (fun _ q => nomatch q) ⟨rfl, rfl⟩
set_option maxRecDepth 65536 in
set_option maxHeartbeats 4000000 in
theorem rm_len {l : Launch} {Z : State} {a0 : Array Value} (H : Wd Z a0) {h : Heap} {F : List Addr} {a : Addr} {cs : List Int32} (S : Str Z h F a cs) : Met l Z (⟨"java/lang/String", "length", "()I"⟩ : MethodName) jdk_42_method_54_code 1 (some .int) ({ frames := 1, cells := 0, slots := 0, locals := 13 } : Room) h [] #[.ref a] (fun v h' G => v = some (.int (Int32.ofNat cs.length)) ∧ h = h') := by
  refine Met.mk (L := #[.val (.ref a)]) (by decide +kernel) (fun m => by first | (simp [entryFrame, mkF, argsToLocals, Value.category]; done) | rfl) (fun K => ?_)
  show Go _ _ K "java/lang/String" "length" _ _ _ _ _ _ _ _ _ 0 _ _
  obtain ⟨E, C, ha, hl, bb, k, hb, Vv, A⟩ := S
  refine go_aloadN (v := .ref a) (q := 1) d14_0 rfl rfl rfl ?_
  refine go_getfield (v := .ref bb) (q := 4) (w_24 H) Via.refl Vv d14_1 rfl ?_
  refine go_arraylength (z := Int32.ofNat cs.length) (q := 5) A d14_4 rfl ?_
  refine go_aloadN (v := .ref a) (q := 6) d14_5 rfl rfl rfl ?_
  refine go_virtual (c' := 0) (s' := 0) (q := 9) (S := [.int (Int32.ofNat cs.length)]) (argsL := []) H (C := "java/lang/String") (w_92 H) (w_93 H) (nf_self (w_95 H)) (w_95 H) (w_94 H) (w_6 H) (w_96 H) (by decide) E (rm_coder H C) rfl rfl (lenOf pd_7 rfl) (fun _ q => nomatch q) rfl (by decide) (Nat.le_of_ble_eq_true rfl) rfl rfl (by decide) (by decide) d14_6 rfl ?_
  rintro _ _ G - ⟨rfl, rfl⟩
  refine nx_ (v := none) ?_
  show Go _ _ _ _ _ _ _ _ _ _ _ _ _ _ 9 #[.val (.ref a)] [.int 0, .int (Int32.ofNat cs.length)]
  refine go_ishr (r := Int32.ofNat cs.length) (q := 10) d14_9 (shr0 _) rfl ?_
  exact go_ireturn H (G := []) (t := .int) rfl (by decide) rfl d14_10 (by decide) (by decide) (fun _ q => nomatch q) ⟨rfl, rfl⟩
theorem bts_set {cs : List Int32} {i : Nat} (hi : i < cs.length) : (bts (cs.take i) ++ List.replicate (cs.length - i) (Value.int 0)).set i (.int (cs[i].toInt8.toInt32)) = bts (cs.take (i + 1)) ++ List.replicate (cs.length - (i + 1)) (Value.int 0) := by
  have hl : (bts (cs.take i)).length = i := by simp; omega
  rw [List.set_append_right _ _ (by omega), hl, Nat.sub_self]
  obtain ⟨m, hm⟩ : ∃ m, cs.length - i = m + 1 := ⟨cs.length - i - 1, by omega⟩
  rw [hm, show cs.length - (i + 1) = m by omega, List.replicate_succ, List.set_cons_zero, List.take_succ_eq_append_getElem hi]
  simp only [bts, List.map_append, List.map_cons, List.map_nil, List.append_assoc, List.singleton_append]

set_option maxRecDepth 65536 in
set_option maxHeartbeats 4000000 in
theorem lp_cmp5 {l : Launch} {Z : State} {a0 : Array Value} (H : Wd Z a0) {K : Cx} {h : Heap} {ca ba : Addr} {kc kb : ClassId} {cs : List Int32} (A : Arv Z h ca kc .char (Int32.ofNat cs.length) (ints cs) (.int 0)) (hl : Lat cs) (hne : ca ≠ ba) : ∀ (n i : Nat) (x6 : Slot) (h1 : Heap), n + i = cs.length → One x6 → Keep h h1 [ba] → Arv Z h1 ba kb .byte (Int32.ofNat cs.length) (bts (cs.take i) ++ List.replicate (cs.length - i) (.int 0)) (.int 0) → Go l Z K "java/lang/StringUTF16" "compress" jdk_52_method_21_code 7 (some .int) ({ frames := 0, cells := 0, slots := 0, locals := 0 } : Room) (fun v h' G => v = some (.int (Int32.ofNat cs.length)) ∧ Keep h h' [ba] ∧ Arv Z h' ba kb .byte (Int32.ofNat cs.length) (bts cs) (.int 0)) h1 [ba] 0 0 3 #[.val (.ref ca), .val (.int (Int32.ofNat i)), .val (.ref ba), .val (.int (Int32.ofNat i)), .val (.int (Int32.ofNat cs.length)), .val (.int (Int32.ofNat i)), x6] []

  | 0, i, x6, h1, hn, h6, K1, V1 => by
    obtain rfl : i = cs.length := by omega
    refine go_iload (v := (Int32.ofNat cs.length)) (q := 5) d43_3 rfl rfl ?_
    refine go_iload (v := (Int32.ofNat cs.length)) (q := 7) d43_5 rfl rfl ?_
    refine go_icY (q := 44) d43_7 (show ¬ Int32.ofNat cs.length < Int32.ofNat cs.length from Int32.lt_irrefl) (by decide) (by decide) ?_
    refine go_iload (v := (Int32.ofNat cs.length)) (q := 46) d43_44 rfl rfl ?_
    have V1 : Arv Z h1 ba kb .byte (Int32.ofNat cs.length) (bts cs) (.int 0) := by simpa using V1
    exact go_ireturn H (G := []) (t := .int) rfl (by decide) rfl d43_46 (by decide) (by decide) (fun _ q => nomatch q) ⟨rfl, K1, V1⟩
  | n + 1, i, x6, h1, hn, h6, K1, V1 => by
    have hi : i < cs.length := by omega
    have hb := hl.1
    have hc := hl.2 cs[i] (List.getElem_mem hi)
    refine go_iload (v := (Int32.ofNat i)) (q := 5) d43_3 rfl rfl ?_
    refine go_iload (v := (Int32.ofNat cs.length)) (q := 7) d43_5 rfl rfl ?_
    refine go_icN (q := 10) d43_7 ((lt_ofNat (by omega) (by omega)).mpr hi) rfl ?_
    refine go_aloadN (v := .ref ca) (q := 11) d43_10 rfl rfl rfl ?_
    refine go_iloadN (v := (Int32.ofNat i)) (q := 12) d43_11 rfl rfl ?_
    refine go_caload (v := .int (cs[i])) (q := 13) (A.keep K1 (ninS hne nin0)) ⟨nn_ofNat (by omega), (lt_ofNat (by omega) (by omega)).mpr hi⟩ (by rw [cl_ofNat (by omega)]; simp [ints, hi]) d43_12 rfl ?_
    refine go_istoreO (L' := #[.val (.ref ca), .val (.int (Int32.ofNat i)), .val (.ref ba), .val (.int (Int32.ofNat i)), .val (.int (Int32.ofNat cs.length)), .val (.int (Int32.ofNat i)), .val (.int (cs[i]))]) (q := 15) d43_13 rfl h6 rfl rfl ?_
    refine go_iload (v := cs[i]) (q := 17) d43_15 rfl rfl ?_
    refine go_sipush (x := (255 : Int32)) (q := 20) d43_17 rfl rfl ?_
    refine go_icY (q := 26) d43_20 (show ¬ (255 : Int32) < cs[i] from hc.2) (by decide) (by decide) ?_
    refine go_aloadN (v := .ref ba) (q := 27) d43_26 rfl rfl rfl ?_
    refine go_iloadN (v := (Int32.ofNat i)) (q := 28) d43_27 rfl rfl ?_
    refine go_iload (v := cs[i]) (q := 30) d43_28 rfl rfl ?_
    refine go_i2b (r := (cs[i]).toInt8.toInt32) (q := 31) d43_30 rfl rfl ?_
    refine go_bastore (i := i) (y := cs[i].toInt8.toInt32) (q := 32) V1 ⟨nn_ofNat (by omega), (lt_ofNat (by omega) (by omega)).mpr hi⟩ (cl_ofNat (by omega)) (by simp; omega) (by simp) (show (cs[i].toInt8.toInt32).toInt8.toInt32 = cs[i].toInt8.toInt32 by simp) d43_31 rfl ?_
    intro h2 K2 z2 V2
    rw [bts_set hi] at V2
    refine go_iinc (x := (Int32.ofNat i)) (y := (Int32.ofNat (i + 1))) (L' := #[.val (.ref ca), .val (.int (Int32.ofNat (i + 1))), .val (.ref ba), .val (.int (Int32.ofNat i)), .val (.int (Int32.ofNat cs.length)), .val (.int (Int32.ofNat i)), .val (.int (cs[i]))]) (q := 35) d43_32 rfl add1_ofNat rfl rfl ?_
    refine go_iinc (x := (Int32.ofNat i)) (y := (Int32.ofNat (i + 1))) (L' := #[.val (.ref ca), .val (.int (Int32.ofNat (i + 1))), .val (.ref ba), .val (.int (Int32.ofNat (i + 1))), .val (.int (Int32.ofNat cs.length)), .val (.int (Int32.ofNat i)), .val (.int (cs[i]))]) (q := 38) d43_35 rfl add1_ofNat rfl rfl ?_
    refine go_iinc (x := (Int32.ofNat i)) (y := (Int32.ofNat (i + 1))) (L' := #[.val (.ref ca), .val (.int (Int32.ofNat (i + 1))), .val (.ref ba), .val (.int (Int32.ofNat (i + 1))), .val (.int (Int32.ofNat cs.length)), .val (.int (Int32.ofNat (i + 1))), .val (.int (cs[i]))]) (q := 41) d43_38 rfl add1_ofNat rfl rfl ?_
    refine go_goto (q := 3) d43_41 (by decide) (by decide) ?_
    exact lp_cmp5 H A hl hne n (i + 1) _ h2 (by omega) (One.val rfl) (K1.trans K2 (fun x q => Or.inl q)) V2
set_option maxRecDepth 65536 in
set_option maxHeartbeats 4000000 in
theorem rm_cmp5 {l : Launch} {Z : State} {a0 : Array Value} (H : Wd Z a0) {h : Heap} {ca ba : Addr} {kc kb : ClassId} {cs : List Int32} (A : Arv Z h ca kc .char (Int32.ofNat cs.length) (ints cs) (.int 0)) (V : Arv Z h ba kb .byte (Int32.ofNat cs.length) (List.replicate cs.length (.int 0)) (.int 0)) (hl : Lat cs) (hne : ca ≠ ba) : Met l Z (⟨"java/lang/StringUTF16", "compress", "([CI[BII)I"⟩ : MethodName) jdk_52_method_21_code 7 (some .int) ({ frames := 0, cells := 0, slots := 0, locals := 0 } : Room) h [ba] #[.ref ca, .int 0, .ref ba, .int 0, .int (Int32.ofNat cs.length)] (fun v h' G => v = some (.int (Int32.ofNat cs.length)) ∧ Keep h h' [ba] ∧ Arv Z h' ba kb .byte (Int32.ofNat cs.length) (bts cs) (.int 0)) := by
  refine Met.mk (L := #[.val (.ref ca), .val (.int 0), .val (.ref ba), .val (.int 0), .val (.int (Int32.ofNat cs.length)), .unset, .unset]) (by decide +kernel) (fun m => by first | (simp [entryFrame, mkF, argsToLocals, Value.category]; done) | rfl) (fun K => ?_)
  show Go _ _ K "java/lang/StringUTF16" "compress" _ _ _ _ _ _ _ _ _ 0 _ _
  refine go_iconst (x := (0 : Int32)) (q := 1) d43_0 rfl rfl ?_
  refine go_istore (L' := #[.val (.ref ca), .val (.int 0), .val (.ref ba), .val (.int 0), .val (.int (Int32.ofNat cs.length)), .val (.int (0 : Int32)), .unset]) (q := 3) d43_1 rfl rfl ?_
  exact lp_cmp5 H A hl hne cs.length 0 _ h (by omega) One.u (Keep.refl _ _) (by simpa using V)
set_option maxRecDepth 65536 in
set_option maxHeartbeats 4000000 in
theorem rm_cmp3 {l : Launch} {Z : State} {a0 : Array Value} (H : Wd Z a0) {h : Heap} {ca : Addr} {kc : ClassId} {cs : List Int32} (A : Arv Z h ca kc .char (Int32.ofNat cs.length) (ints cs) (.int 0)) (hl : Lat cs) (hn : cs.length ≤ 16) : Met l Z (⟨"java/lang/StringUTF16", "compress", "([CII)[B"⟩ : MethodName) jdk_52_method_16_code 6 (some (.array .byte)) ({ frames := 1, cells := 1, slots := 16, locals := 18 } : Room) h [] #[.ref ca, .int 0, .int (Int32.ofNat cs.length)] (fun v h' G => ∃ ba kb, v = some (.ref ba) ∧ h.size ≤ ba ∧ Keep h h' [] ∧ Arv Z h' ba kb .byte (Int32.ofNat cs.length) (bts cs) (.int 0)) := by
  refine Met.mk (L := #[.val (.ref ca), .val (.int 0), .val (.int (Int32.ofNat cs.length)), .unset, .unset, .unset]) (by decide +kernel) (fun m => by first | (simp [entryFrame, mkF, argsToLocals, Value.category]; done) | rfl) (fun K => ?_)
  show Go _ _ K "java/lang/StringUTF16" "compress" _ _ _ _ _ _ _ _ _ 0 _ _
  refine go_iloadN (v := (Int32.ofNat cs.length)) (q := 1) d42_0 rfl rfl ?_
  refine go_newarray (ty := .byte) (dv := .int 0) (n := cs.length) (cap := 16) (ad := "[B") (c' := 1) (s' := 16) (q := 3) rfl rfl (cl_ofNat (by have := hl.1; omega)) (w_19 H) d42_1 (nn_ofNat (by have := hl.1; omega)) hn (by decide) rfl rfl rfl rfl (by decide) (by decide) ?_
  intro h1 ba kb g1 E1 V1 X1
  refine go_astoreN (L' := #[.val (.ref ca), .val (.int 0), .val (.int (Int32.ofNat cs.length)), .val (.ref ba), .unset, .unset]) (q := 4) d42_3 rfl rfl rfl ?_
  refine go_aloadN (v := .ref ca) (q := 5) d42_4 rfl rfl rfl ?_
  refine go_iloadN (v := 0) (q := 6) d42_5 rfl rfl ?_
  refine go_aloadN (v := .ref ba) (q := 7) d42_6 rfl rfl rfl ?_
  refine go_iconst (x := (0 : Int32)) (q := 8) d42_7 rfl rfl ?_
  refine go_iloadN (v := (Int32.ofNat cs.length)) (q := 9) d42_8 rfl rfl ?_
  have ne : ca ≠ ba := fun q => absurd A.lt (by rw [q, g1]; exact Nat.lt_irrefl _)
  refine go_static (c' := 1) (s' := 16) (q := 12) (S := []) (argsL := [.ref ca, .int 0, .ref ba, .int (0 : Int32), .int (Int32.ofNat cs.length)]) H (w_228 H) (w_229 H) (w_226 H) (w_230 H) (by decide) (rm_cmp5 H (A.ext E1) V1 hl ne) rfl rfl (lenOf pd_8 rfl) (fun _ q => q) rfl (by decide) (Nat.le_of_ble_eq_true rfl) rfl rfl (by decide) (by decide) d42_9 rfl ?_
  rintro _ h2 G - ⟨rfl, K2, V2⟩
  refine nx_ (v := none) ?_
  show Go _ _ _ _ _ _ _ _ _ _ _ _ _ _ 12 #[.val (.ref ca), .val (.int 0), .val (.int (Int32.ofNat cs.length)), .val (.ref ba), .unset, .unset] [.int (Int32.ofNat cs.length)]
  refine go_istore (L' := #[.val (.ref ca), .val (.int 0), .val (.int (Int32.ofNat cs.length)), .val (.ref ba), .val (.int (Int32.ofNat cs.length)), .unset]) (q := 14) d42_12 rfl rfl ?_
  refine go_iload (v := (Int32.ofNat cs.length)) (q := 16) d42_14 rfl rfl ?_
  refine go_iloadN (v := (Int32.ofNat cs.length)) (q := 17) d42_16 rfl rfl ?_
  refine go_icY (q := 57) d42_17 rfl (by decide) (by decide) ?_
  refine go_aloadN (v := .ref ba) (q := 58) d42_57 rfl rfl rfl ?_
  exact go_areturn H (G := []) (t := (.array .byte)) rfl rfl rfl d42_58 (by decide) (by decide) (fun _ q => nomatch q) ⟨ba, kb, rfl, by rw [g1]; exact Nat.le_refl _, ((Keep.refl h []).ext E1).trans K2 (fun x q => by cases List.mem_singleton.mp q; exact Or.inr (by rw [g1]; exact Nat.le_refl _)), V2⟩
set_option maxRecDepth 65536 in
set_option maxHeartbeats 4000000 in
theorem rm_codL {l : Launch} {Z : State} {a0 : Array Value} (H : Wd Z a0) {h : Heap} {ba : Addr} {kb : ClassId} {z : Int32} {vs : List Value} {dv : Value} (A : Arv Z h ba kb .byte z vs dv) : Met l Z (⟨"java/lang/StringUTF16", "coderFromArrayLen", "([BI)B"⟩ : MethodName) jdk_52_method_15_code 2 (some .byte) ({ frames := 0, cells := 0, slots := 0, locals := 0 } : Room) h [] #[.ref ba, .int z] (fun v h' G => v = some (.int 0) ∧ h = h') := by
  refine Met.mk (L := #[.val (.ref ba), .val (.int z)]) (by decide +kernel) (fun m => by first | (simp [entryFrame, mkF, argsToLocals, Value.category]; done) | rfl) (fun K => ?_)
  show Go _ _ K "java/lang/StringUTF16" "coderFromArrayLen" _ _ _ _ _ _ _ _ _ 0 _ _
  refine go_iloadN (v := z) (q := 1) d44_0 rfl rfl ?_
  refine go_aloadN (v := .ref ba) (q := 2) d44_1 rfl rfl rfl ?_
  refine go_arraylength (z := z) (q := 3) A d44_2 rfl ?_
  refine go_isub (r := 0) (q := 4) d44_3 (Int32.sub_self _) rfl ?_
  refine go_bipush (x := (31 : Int32)) (q := 6) d44_4 rfl rfl ?_
  refine go_iushr (r := 0) (q := 7) d44_6 rfl rfl ?_
  refine go_i2b (r := 0) (q := 8) d44_7 rfl rfl ?_
  exact go_ireturn H (G := []) (t := .byte) rfl (by decide) rfl d44_8 (by decide) (by decide) (fun _ q => nomatch q) ⟨rfl, rfl⟩
set_option maxRecDepth 65536 in
set_option maxHeartbeats 4000000 in
theorem rm_new4 {l : Launch} {Z : State} {a0 : Array Value} (H : Wd Z a0) {h : Heap} {F : List Addr} {x ca : Addr} {kc : ClassId} {cs : List Int32} (E : Exa Z h x ST) (C : Fld Z h x ST "coder" "B" (.int 0)) (Vv : Fld Z h x ST "value" "[B" .null) (A : Arv Z h ca kc .char (Int32.ofNat cs.length) (ints cs) (.int 0)) (hl : Lat cs) (hn : cs.length ≤ 16) (hx : x ∉ F) : Met l Z (⟨"java/lang/String", "<init>", "([CIILjava/lang/Void;)V"⟩ : MethodName) jdk_42_method_149_code 6 none ({ frames := 2, cells := 4, slots := 16, locals := 35 } : Room) h (x :: F) #[.ref x, .ref ca, .int 0, .int (Int32.ofNat cs.length), .null] (fun v h' G => v = none ∧ Keep h h' [x] ∧ Str Z h' F x cs) := by
  refine Met.mk (L := #[.val (.ref x), .val (.ref ca), .val (.int 0), .val (.int (Int32.ofNat cs.length)), .val (.null), .unset]) (by decide +kernel) (fun m => by first | (simp [entryFrame, mkF, argsToLocals, Value.category]; done) | rfl) (fun K => ?_)
  show Go _ _ K "java/lang/String" "<init>" _ _ _ _ _ _ _ _ _ 0 _ _
  obtain ⟨cz, Sz, nz⟩ := H.2.2.2.1
  have sne : RoadKit.slotOf Z ST "value" "[B" ≠ RoadKit.slotOf Z ST "coder" "B" := slot_ne (C := ST) (Or.inr (w_20 H)) (Or.inr (w_21 H)) (by decide) (t := .array .byte) (t' := .byte) (by decide) (by decide)
  have wiS := (w_5 H)
  refine go_aloadN (v := .ref x) (q := 1) d2_0 rfl rfl rfl ?_
  refine go_initO (q := 4) (w_15 H) (w_16 H) (w_17 H) rfl d2_1 rfl (by decide) (Nat.le_of_ble_eq_true rfl) ?_
  refine go_iloadN (v := (Int32.ofNat cs.length)) (q := 5) d2_4 rfl rfl ?_
  refine go_mine fun hMine hOld => ?_
  by_cases h0 : cs.length = 0
  · obtain rfl : cs = [] := List.length_eq_zero_iff.mp h0
    refine go_ifN (q := 8) d2_5 rfl rfl ?_
    refine go_aloadN (v := .ref x) (q := 9) d2_8 rfl rfl rfl ?_
    refine go_lit (cs := []) (n := 0) (c' := 2) (s' := 4) (q := 11) H (w_18 H) (by decide) (by decide) (by decide) (by decide) (by decide) d2_9 (by decide) (by decide) rfl rfl rfl (by decide) (by decide) ?_
    intro h1 a1 E1 S1
    obtain ⟨X1, C1, n1, -, b1, k1, m1, V1, A1⟩ := S1
    refine go_getfield (v := .ref b1) (q := 14) (w_24 H) Via.refl V1 d2_11 rfl ?_
    have nxb : x ≠ b1 := fun q => m1 (by rw [← q]; simp)
    refine go_putfield (q := 17) (w_24 H) Via.refl (Vv.ext E1) (E.ext E1) (Or.inr ⟨(w_20 H), rfl, rfl⟩) (w_5 H) (ty := (.array .byte)) (by decide) rfl rfl (by simp) d2_14 rfl ?_
    intro h2 W2
    refine go_aloadN (v := .ref x) (q := 18) d2_17 rfl rfl rfl ?_
    refine go_lit (cs := []) (n := 0) (c' := 4) (s' := 8) (q := 20) H (w_18 H) (by decide) (by decide) (by decide) (by decide) (by decide) d2_18 (by decide) (by decide) rfl rfl rfl (by decide) (by decide) ?_
    intro h3 a3 E3 S3
    obtain ⟨X3, C3, n3, -, b3, k3, m3, V3, A3⟩ := S3
    refine go_getfield (v := .int 0) (q := 23) (w_25 H) Via.refl C3 d2_20 rfl ?_
    refine go_putfield (q := 26) (w_25 H) Via.refl (((C.ext E1).other W2 (Or.inr sne.symm)).ext E3) (((E.ext E1).wr W2).ext E3) (Or.inr ⟨(w_21 H), rfl, rfl⟩) (w_5 H) (ty := .byte) (by decide) rfl rfl (by simp) d2_23 rfl ?_
    intro h4 W4
    have Kp : Keep h h4 [x] := ((((Keep.refl h [x]).ext E1).wr W2 (Or.inl (by simp))).ext E3).wr W4 (Or.inl (by simp))
    have Ar : Arv Z h4 b1 k1 .byte (Int32.ofNat ([] : List Int32).length) (bts []) (.int 0) := ((A1.other W2 nxb.symm).ext E3).other W4 nxb.symm
    exact go_return H (G := []) rfl d2_26 (by decide) (by decide) (fun _ q => nomatch q) ⟨rfl, Kp, (((E.ext E1).wr W2).ext E3).wr W4, ((((C.ext E1).other W2 (Or.inr sne.symm)).ext E3).same W4), hx, hl, b1, k1, fun q => m1 (by simp [q]), ((((Vv.ext E1).same W2).ext E3).other W4 (Or.inr sne)), Ar⟩
  · refine go_ifY (q := 27) d2_5 (show ¬ _ = _ from fun q => h0 ((eq_ofNat (n := 0) (by have := hl.1; omega) (by decide)).mp q)) (by decide) (by decide) ?_
    refine go_getstatic (v := .int cz) (q := 30) (w_30 H) Via.refl Sz d2_27 rfl ?_
    refine go_ifN (q := 33) d2_30 nz rfl ?_
    refine go_aloadN (v := .ref ca) (q := 34) d2_33 rfl rfl rfl ?_
    refine go_iloadN (v := 0) (q := 35) d2_34 rfl rfl ?_
    refine go_iloadN (v := (Int32.ofNat cs.length)) (q := 36) d2_35 rfl rfl ?_
    refine go_static (c' := 1) (s' := 16) (q := 39) (S := []) (argsL := [.ref ca, .int 0, .int (Int32.ofNat cs.length)]) H (w_224 H) (w_225 H) (w_226 H) (w_227 H) (by decide) (rm_cmp3 H A hl hn) rfl rfl (lenOf pd_9 rfl) (fun _ q => nomatch q) rfl (by decide) (Nat.le_of_ble_eq_true rfl) rfl rfl (by decide) (by decide) d2_36 rfl ?_
    rintro _ h1 G - ⟨ba, kb, rfl, gb, K1, V1⟩
    refine nx_ (v := none) ?_
    show Go _ _ _ _ _ _ _ _ _ _ _ _ _ _ 39 #[.val (.ref x), .val (.ref ca), .val (.int 0), .val (.int (Int32.ofNat cs.length)), .val (.null), .unset] [.ref ba]
    refine go_astore (L' := #[.val (.ref x), .val (.ref ca), .val (.int 0), .val (.int (Int32.ofNat cs.length)), .val (.null), .val (.ref ba)]) (q := 41) d2_39 rfl rfl rfl ?_
    refine go_aloadN (v := .ref x) (q := 42) d2_41 rfl rfl rfl ?_
    refine go_aload (v := .ref ba) (q := 44) d2_42 rfl rfl rfl ?_
    refine go_iloadN (v := (Int32.ofNat cs.length)) (q := 45) d2_44 rfl rfl ?_
    refine go_static (c' := 1) (s' := 16) (q := 48) (S := [.ref x]) (argsL := [.ref ba, .int (Int32.ofNat cs.length)]) H (w_231 H) (w_232 H) (w_226 H) (w_233 H) (by decide) (rm_codL H V1) rfl rfl (lenOf pd_10 rfl) (fun _ q => nomatch q) rfl (by decide) (Nat.le_of_ble_eq_true rfl) rfl rfl (by decide) (by decide) d2_45 rfl ?_
    rintro _ _ G - ⟨rfl, rfl⟩
    refine nx_ (v := none) ?_
    show Go _ _ _ _ _ _ _ _ _ _ _ _ _ _ 48 #[.val (.ref x), .val (.ref ca), .val (.int 0), .val (.int (Int32.ofNat cs.length)), .val (.null), .val (.ref ba)] [.int 0, .ref x]
    refine go_putfield (q := 51) (w_25 H) Via.refl (C.keep K1 nin0) (E.keep K1) (Or.inr ⟨(w_21 H), rfl, rfl⟩) (w_5 H) (ty := .byte) (by decide) rfl rfl (by simp) d2_48 rfl ?_
    intro h2 W2
    have nxb : ba ≠ x := E.keep K1 |>.neArv V1 wiS |>.symm
    refine go_aloadN (v := .ref x) (q := 52) d2_51 rfl rfl rfl ?_
    refine go_aload (v := .ref ba) (q := 54) d2_52 rfl rfl rfl ?_
    refine go_putfield (q := 57) (w_24 H) Via.refl ((Vv.keep K1 nin0).other W2 (Or.inr sne)) ((E.keep K1).wr W2) (Or.inr ⟨(w_20 H), rfl, rfl⟩) (w_5 H) (ty := (.array .byte)) (by decide) rfl rfl (by simp) d2_54 rfl ?_
    intro h3 W3
    have Kp : Keep h h3 [x] := ((kless K1 (by simp)).wr W2 (Or.inl (by simp))).wr W3 (Or.inl (by simp))
    exact go_return H (G := []) rfl d2_57 (by decide) (by decide) (fun _ q => nomatch q) ⟨rfl, Kp, ((E.keep K1).wr W2).wr W3, (((C.keep K1 nin0).same W2).other W3 (Or.inr sne.symm)), hx, hl, ba, kb, fun q => absurd (hMine ba (by simp [q])).2 (Nat.not_lt.mpr gb), (((Vv.keep K1 nin0).other W2 (Or.inr sne)).same W3), ((V1.other W2 nxb).other W3 nxb)⟩
set_option maxRecDepth 65536 in
set_option maxHeartbeats 4000000 in
theorem rm_new1 {l : Launch} {Z : State} {a0 : Array Value} (H : Wd Z a0) {h : Heap} {F : List Addr} {x ca : Addr} {kc : ClassId} {cs : List Int32} (E : Exa Z h x ST) (C : Fld Z h x ST "coder" "B" (.int 0)) (Vv : Fld Z h x ST "value" "[B" .null) (A : Arv Z h ca kc .char (Int32.ofNat cs.length) (ints cs) (.int 0)) (hl : Lat cs) (hn : cs.length ≤ 16) (hx : x ∉ F) : Met l Z (⟨"java/lang/String", "<init>", "([C)V"⟩ : MethodName) jdk_42_method_3_code 2 none ({ frames := 3, cells := 4, slots := 16, locals := 52 } : Room) h (x :: F) #[.ref x, .ref ca] (fun v h' G => v = none ∧ Keep h h' [x] ∧ Str Z h' F x cs) := by
  refine Met.mk (L := #[.val (.ref x), .val (.ref ca)]) (by decide +kernel) (fun m => by first | (simp [entryFrame, mkF, argsToLocals, Value.category]; done) | rfl) (fun K => ?_)
  show Go _ _ K "java/lang/String" "<init>" _ _ _ _ _ _ _ _ _ 0 _ _
  refine go_aloadN (v := .ref x) (q := 1) d1_0 rfl rfl rfl ?_
  refine go_aloadN (v := .ref ca) (q := 2) d1_1 rfl rfl rfl ?_
  refine go_iconst (x := (0 : Int32)) (q := 3) d1_2 rfl rfl ?_
  refine go_aloadN (v := .ref ca) (q := 4) d1_3 rfl rfl rfl ?_
  refine go_arraylength (z := (Int32.ofNat cs.length)) (q := 5) A d1_4 rfl ?_
  refine go_null (q := 6) d1_5 rfl ?_
  refine go_special (c' := 4) (s' := 16) (q := 9) (S := []) (argsL := [.ref ca, .int (0 : Int32), .int (Int32.ofNat cs.length), .null]) H rfl (w_11 H) (w_12 H) (w_6 H) (w_14 H) (by decide) (rm_new4 H E C Vv A hl hn hx) rfl rfl (lenOf pd_11 rfl) (fun _ q => q) rfl (by decide) (Nat.le_of_ble_eq_true rfl) rfl rfl (by decide) (by decide) d1_6 rfl ?_
  rintro _ h1 G - ⟨rfl, K1, S1⟩
  refine nx_ (v := none) ?_
  show Go _ _ _ _ _ _ _ _ _ _ _ _ _ _ 9 #[.val (.ref x), .val (.ref ca)] []
  exact go_return H (G := []) rfl d1_9 (by decide) (by decide) (fun _ q => nomatch q) ⟨rfl, K1, S1⟩
set_option maxRecDepth 65536 in
set_option maxHeartbeats 4000000 in
theorem rm_canE {l : Launch} {Z : State} {a0 : Array Value} (H : Wd Z a0) {h : Heap} {c : Int32} (hc : ¬ 255 < c) : Met l Z (⟨"java/lang/StringLatin1", "canEncode", "(C)Z"⟩ : MethodName) jdk_43_method_3_code 1 (some .boolean) ({ frames := 0, cells := 0, slots := 0, locals := 0 } : Room) h [] #[.int c] (fun v h' G => v = some (.int 1) ∧ h = h') := by
  refine Met.mk (L := #[.val (.int c)]) (by decide +kernel) (fun m => by first | (simp [entryFrame, mkF, argsToLocals, Value.category]; done) | rfl) (fun K => ?_)
  show Go _ _ K "java/lang/StringLatin1" "canEncode" _ _ _ _ _ _ _ _ _ 0 _ _
  refine go_iloadN (v := c) (q := 1) d5_0 rfl rfl ?_
  refine go_sipush (x := (255 : Int32)) (q := 4) d5_1 rfl rfl ?_
  refine go_icN (q := 7) d5_4 (show ¬ (255 : Int32) < c from hc) rfl ?_
  refine go_iconst (x := (1 : Int32)) (q := 8) d5_7 rfl rfl ?_
  refine go_goto (q := 12) d5_8 (by decide) (by decide) ?_
  exact go_ireturn H (G := []) (t := .boolean) rfl (by decide) rfl d5_12 (by decide) (by decide) (fun _ q => nomatch q) ⟨rfl, rfl⟩
set_option maxRecDepth 65536 in
set_option maxHeartbeats 4000000 in
theorem rm_toB {l : Launch} {Z : State} {a0 : Array Value} (H : Wd Z a0) {h : Heap} {c : Int32}  : Met l Z (⟨"java/lang/StringLatin1", "toBytes", "(C)[B"⟩ : MethodName) jdk_43_method_46_code 1 (some (.array .byte)) ({ frames := 0, cells := 1, slots := 1, locals := 0 } : Room) h [] #[.int c] (fun v h' G => ∃ ba kb, v = some (.ref ba) ∧ h.size ≤ ba ∧ Keep h h' [] ∧ Arv Z h' ba kb .byte (Int32.ofNat [c].length) (bts [c]) (.int 0)) := by
  refine Met.mk (L := #[.val (.int c)]) (by decide +kernel) (fun m => by first | (simp [entryFrame, mkF, argsToLocals, Value.category]; done) | rfl) (fun K => ?_)
  show Go _ _ K "java/lang/StringLatin1" "toBytes" _ _ _ _ _ _ _ _ _ 0 _ _
  have Ka : Keep h h [] := Keep.refl _ _
  refine go_iconst (x := (1 : Int32)) (q := 1) d6_0 rfl rfl ?_
  refine go_newarray (ty := .byte) (dv := .int 0) (n := 1) (cap := 1) (ad := "[B") (c' := 1) (s' := 1) (q := 3) rfl rfl (by decide) (w_19 H) d6_1 (by decide) (by decide) (by decide) rfl rfl rfl rfl (by decide) (by decide) ?_
  intro h1 ba kb g1 E1 V1 X1
  have f_Ka_ba : h.size ≤ ba := by rw [g1]; exact Ka.1
  have Ka : Keep h h1 [] := Ka.ext E1
  have V1 : Arv Z h1 ba kb .byte 1 [.int 0] (.int 0) := V1
  refine go_dup (q := 4) d6_3 rfl rfl ?_
  refine go_iconst (x := (0 : Int32)) (q := 5) d6_4 rfl rfl ?_
  refine go_iloadN (v := c) (q := 6) d6_5 rfl rfl ?_
  refine go_i2b (r := c.toInt8.toInt32) (q := 7) d6_6 rfl rfl ?_
  refine go_bastore (i := 0) (y := c.toInt8.toInt32) (q := 8) V1 (by decide) rfl (Nat.le_of_ble_eq_true rfl) (by simp) (show (c.toInt8.toInt32).toInt8.toInt32 = c.toInt8.toInt32 by simp) d6_7 rfl ?_
  intro h2 K2 z2 V2
  have Ka : Keep h h2 [] := kfresh Ka K2 f_Ka_ba
  exact go_areturn H (G := []) (t := (.array .byte)) rfl rfl rfl d6_8 (by decide) (by decide) (fun _ q => nomatch q) ⟨ba, kb, rfl, f_Ka_ba, Ka, V2⟩
set_option maxRecDepth 65536 in
set_option maxHeartbeats 4000000 in
theorem rm_initBB {l : Launch} {Z : State} {a0 : Array Value} (H : Wd Z a0) {h : Heap} {F : List Addr} {x ba : Addr} {kb : ClassId} {cs : List Int32} (E : Exa Z h x ST) (C : Fld Z h x ST "coder" "B" (.int 0)) (Vv : Fld Z h x ST "value" "[B" .null) (A : Arv Z h ba kb .byte (Int32.ofNat cs.length) (bts cs) (.int 0)) (hl : Lat cs) (hx : x ∉ F) (hb : ba ∉ F) : Met l Z (⟨"java/lang/String", "<init>", "([BB)V"⟩ : MethodName) jdk_42_method_151_code 3 none ({ frames := 1, cells := 0, slots := 0, locals := 12 } : Room) h (x :: F) #[.ref x, .ref ba, .int 0] (fun v h' G => v = none ∧ Keep h h' [x] ∧ Str Z h' F x cs) := by
  refine Met.mk (L := #[.val (.ref x), .val (.ref ba), .val (.int 0)]) (by decide +kernel) (fun m => by first | (simp [entryFrame, mkF, argsToLocals, Value.category]; done) | rfl) (fun K => ?_)
  show Go _ _ K "java/lang/String" "<init>" _ _ _ _ _ _ _ _ _ 0 _ _
  have sne : RoadKit.slotOf Z ST "value" "[B" ≠ RoadKit.slotOf Z ST "coder" "B" := slot_ne (C := ST) (Or.inr (w_20 H)) (Or.inr (w_21 H)) (by decide) (t := .array .byte) (t' := .byte) (by decide) (by decide)
  have nxb : ba ≠ x := (E.neArv A (w_5 H)).symm
  refine go_aloadN (v := .ref x) (q := 1) d7_0 rfl rfl rfl ?_
  refine go_initO (q := 4) (w_15 H) (w_16 H) (w_17 H) rfl d7_1 rfl (by decide) (Nat.le_of_ble_eq_true rfl) ?_
  refine go_aloadN (v := .ref x) (q := 5) d7_4 rfl rfl rfl ?_
  refine go_aloadN (v := .ref ba) (q := 6) d7_5 rfl rfl rfl ?_
  refine go_putfield (q := 9) (w_24 H) Via.refl Vv E (Or.inr ⟨(w_20 H), rfl, rfl⟩) (w_5 H) (ty := (.array .byte)) (by decide) rfl rfl (by simp) d7_6 rfl ?_
  intro h1 W1
  refine go_aloadN (v := .ref x) (q := 10) d7_9 rfl rfl rfl ?_
  refine go_iloadN (v := 0) (q := 11) d7_10 rfl rfl ?_
  refine go_putfield (q := 14) (w_25 H) Via.refl (C.other W1 (Or.inr sne.symm)) (E.wr W1) (Or.inr ⟨(w_21 H), rfl, rfl⟩) (w_5 H) (ty := .byte) (by decide) rfl rfl (by simp) d7_11 rfl ?_
  intro h2 W2
  exact go_return H (G := []) rfl d7_14 (by decide) (by decide) (fun _ q => nomatch q) ⟨rfl, (Keep.of_wr W1).wr W2 (Or.inl (by simp)), (E.wr W1).wr W2, (C.other W1 (Or.inr sne.symm)).same W2, hx, hl, ba, kb, hb, (Vv.same W1).other W2 (Or.inr sne), (A.other W1 nxb).other W2 nxb⟩
set_option maxRecDepth 65536 in
set_option maxHeartbeats 4000000 in
theorem rm_vofC {l : Launch} {Z : State} {a0 : Array Value} (H : Wd Z a0) {h : Heap} {F : List Addr} {c : Int32} (hc : ¬ c < 0 ∧ ¬ 255 < c) (hFl : ∀ x ∈ F, x < h.size) : Met l Z (⟨"java/lang/String", "valueOf", "(C)Ljava/lang/String;"⟩ : MethodName) jdk_42_method_139_code 1 (some (.object "java/lang/String")) ({ frames := 2, cells := 2, slots := 5, locals := 27 } : Room) h F #[.int c] (fun v h' G => ∃ a, v = some (.ref a) ∧ Keep h h' [] ∧ Str Z h' F a [c]) := by
  refine Met.mk (L := #[.val (.int c)]) (by decide +kernel) (fun m => by first | (simp [entryFrame, mkF, argsToLocals, Value.category]; done) | rfl) (fun K => ?_)
  show Go _ _ K "java/lang/String" "valueOf" _ _ _ _ _ _ _ _ _ 0 _ _
  have Ka : Keep h h [] := Keep.refl _ _
  obtain ⟨cz, Sz, nz⟩ := H.2.2.2.1
  refine go_getstatic (v := .int cz) (q := 3) (w_30 H) Via.refl Sz d4_0 rfl ?_
  refine go_ifN (q := 6) d4_3 nz rfl ?_
  refine go_iloadN (v := c) (q := 7) d4_6 rfl rfl ?_
  refine go_static (c' := 0) (s' := 0) (q := 10) (S := []) (argsL := [.int c]) H (w_31 H) (w_32 H) (w_33 H) (w_34 H) (by decide) (rm_canE H hc.2) rfl rfl (lenOf pd_12 rfl) (fun _ q => nomatch q) rfl (by decide) (Nat.le_of_ble_eq_true rfl) rfl rfl (by decide) (by decide) d4_7 rfl ?_
  rintro _ _ G - ⟨rfl, rfl⟩
  refine nx_ (v := none) ?_
  show Go _ _ _ _ _ _ _ _ _ _ _ _ _ _ 10 #[.val (.int c)] [.int 1]
  refine go_ifN (q := 13) d4_10 (by decide) rfl ?_
  refine go_new (c' := 1) (s' := 4) (q := 16) (w_35 H) (w_5 H) (w_6 H) d4_13 rfl rfl rfl (by decide) (by decide) ?_
  intro h1 x g1 E1 A1 D1
  have f_Ka_x : h.size ≤ x := by rw [g1]; exact Ka.1
  have Ka : Keep h h1 [] := Ka.ext E1
  have C1 : Fld Z h1 x ST "coder" "B" (.int 0) := D1 (Or.inr (w_21 H)) (ty := .byte) (by decide)
  have V1 : Fld Z h1 x ST "value" "[B" .null := D1 (Or.inr (w_20 H)) (ty := .array .byte) (by decide)
  refine go_dup (q := 17) d4_16 rfl rfl ?_
  refine go_iloadN (v := c) (q := 18) d4_17 rfl rfl ?_
  refine go_static (c' := 2) (s' := 5) (q := 21) (S := [.ref x, .ref x]) (argsL := [.int c]) H (w_36 H) (w_37 H) (w_33 H) (w_38 H) (by decide) (rm_toB H) rfl rfl (lenOf pd_13 rfl) (fun _ q => nomatch q) rfl (by decide) (Nat.le_of_ble_eq_true rfl) rfl rfl (by decide) (by decide) d4_18 rfl ?_
  rintro _ h2 G - ⟨ba, kb, rfl, gb, K2, B2⟩
  refine nx_ (v := none) ?_
  have Ka : Keep h h2 [] := Ka.trans K2 (fun _ q => nomatch q)
  show Go _ _ _ _ _ _ _ _ _ _ _ _ _ _ 21 #[.val (.int c)] [.ref ba, .ref x, .ref x]
  have nF : x ∉ F := fun q => absurd (hFl x q) (Nat.not_lt.mpr f_Ka_x)
  have nb : ba ∉ F := fun q => absurd (hFl ba q) (Nat.not_lt.mpr (Nat.le_trans E1.1 gb))
  refine go_iconst (x := (0 : Int32)) (q := 22) d4_21 rfl rfl ?_
  refine go_special (c' := 2) (s' := 5) (q := 25) (S := [.ref x]) (argsL := [.ref ba, .int (0 : Int32)]) H rfl (w_39 H) (w_40 H) (w_6 H) (w_41 H) (by decide) (rm_initBB H (cs := [c]) (A1.keep K2) (C1.keep K2 nin0) (V1.keep K2 nin0) B2 ⟨Nat.le_of_ble_eq_true rfl, by intro d hd; simp only [List.mem_cons, List.not_mem_nil, or_false] at hd; subst hd; exact hc⟩ nF nb) rfl rfl (lenOf pd_14 rfl) (by intro z hz; simp only [List.mem_cons, List.not_mem_nil, or_false] at hz ⊢; first | exact hz | exact Or.inl hz | (rcases hz with hz | hz <;> simp [hz]; done) | (rcases hz with rfl | rfl <;> simp)) rfl (by decide) (Nat.le_of_ble_eq_true rfl) rfl rfl (by decide) (by decide) d4_22 rfl ?_
  rintro _ h3 G - ⟨rfl, K3, S⟩
  refine nx_ (v := none) ?_
  have Ka : Keep h h3 [] := kfresh Ka K3 f_Ka_x
  show Go _ _ _ _ _ _ _ _ _ _ _ _ _ _ 25 #[.val (.int c)] [.ref x]
  exact go_areturn H (G := []) (t := (.object "java/lang/String")) rfl rfl rfl d4_25 (by decide) (by decide) (fun _ q => nomatch q) ⟨x, rfl, Ka, S⟩
set_option maxRecDepth 65536 in
set_option maxHeartbeats 4000000 in
theorem rm_asbI {l : Launch} {Z : State} {a0 : Array Value} (H : Wd Z a0) {h : Heap} {x : Addr} {n : Nat} (E : Exa Z h x SBN) (Vv : Fld Z h x ABN "value" "[B" .null) (C : Fld Z h x ABN "coder" "B" (.int 0)) (N : Fld Z h x ABN "count" "I" (.int 0)) (hn : n ≤ 16) : Met l Z (⟨"java/lang/AbstractStringBuilder", "<init>", "(I)V"⟩ : MethodName) jdk_68_method_2_code 2 none ({ frames := 1, cells := 1, slots := 16, locals := 12 } : Room) h [x] #[.ref x, .int (Int32.ofNat n)] (fun u h' G => ∃ v, u = none ∧ G = [v] ∧ h.size ≤ v ∧ Keep h h' [x] ∧ SBd Z h' x v n []) := by
  refine Met.mk (L := #[.val (.ref x), .val (.int (Int32.ofNat n))]) (by decide +kernel) (fun m => by first | (simp [entryFrame, mkF, argsToLocals, Value.category]; done) | rfl) (fun K => ?_)
  show Go _ _ K "java/lang/AbstractStringBuilder" "<init>" _ _ _ _ _ _ _ _ _ 0 _ _
  obtain ⟨cz, Sz, nz⟩ := H.2.2.2.1
  have s1 : RoadKit.slotOf Z ABN "value" "[B" ≠ RoadKit.slotOf Z ABN "coder" "B" := slot_ne (C := SBN) (Or.inl (w_77 H)) (Or.inl (w_79 H)) (by decide) (t := .array .byte) (t' := .byte) (by decide) (by decide)
  have s2 : RoadKit.slotOf Z ABN "value" "[B" ≠ RoadKit.slotOf Z ABN "count" "I" := slot_ne (C := SBN) (Or.inl (w_77 H)) (Or.inl (w_117 H)) (by decide) (t := .array .byte) (t' := .int) (by decide) (by decide)
  have s3 : RoadKit.slotOf Z ABN "coder" "B" ≠ RoadKit.slotOf Z ABN "count" "I" := slot_ne (C := SBN) (Or.inl (w_79 H)) (Or.inl (w_117 H)) (by decide) (t := .byte) (t' := .int) (by decide) (by decide)
  refine go_aloadN (v := .ref x) (q := 1) d12_0 rfl rfl rfl ?_
  refine go_initO (q := 4) (w_74 H) (w_16 H) (w_17 H) rfl d12_1 rfl (by decide) (Nat.le_of_ble_eq_true rfl) ?_
  refine go_getstatic (v := .int cz) (q := 7) (w_75 H) Via.refl Sz d12_4 rfl ?_
  refine go_ifN (q := 10) d12_7 nz rfl ?_
  refine go_aloadN (v := .ref x) (q := 11) d12_10 rfl rfl rfl ?_
  refine go_iloadN (v := (Int32.ofNat n)) (q := 12) d12_11 rfl rfl ?_
  refine go_newarray (ty := .byte) (dv := .int 0) (n := n) (cap := 16) (ad := "[B") (c' := 1) (s' := 16) (q := 14) rfl rfl (cl_ofNat (by omega)) (w_19 H) d12_12 (nn_ofNat (by omega)) hn (by decide) rfl rfl rfl rfl (by decide) (by decide) ?_
  intro h1 v k g1 E1 V1 X1
  have nxv : v ≠ x := ((E.ext E1).neArv V1 (w_63 H)).symm
  refine go_putfield (q := 17) (w_76 H) Via.refl (Vv.ext E1) (E.ext E1) (Or.inl (w_77 H)) (w_63 H) (ty := (.array .byte)) (by decide) rfl rfl (by simp) d12_14 rfl ?_
  intro h2 W2
  refine go_aloadN (v := .ref x) (q := 18) d12_17 rfl rfl rfl ?_
  refine go_iconst (x := (0 : Int32)) (q := 19) d12_18 rfl rfl ?_
  refine go_putfield (q := 22) (w_78 H) Via.refl ((C.ext E1).other W2 (Or.inr s1.symm)) ((E.ext E1).wr W2) (Or.inl (w_79 H)) (w_63 H) (ty := .byte) (by decide) rfl rfl (by simp) d12_19 rfl ?_
  intro h3 W3
  refine go_goto (q := 38) d12_22 (by decide) (by decide) ?_
  have Kp : Keep h h3 [x] := (((Keep.refl h [x]).ext E1).wr W2 (Or.inl (by simp))).wr W3 (Or.inl (by simp))
  have Ar : Arv Z h3 v k .byte (Int32.ofNat n) (bts [] ++ zs (n - ([] : List Int32).length)) (.int 0) := (V1.other W2 nxv).other W3 nxv
  exact go_return H (G := [v]) rfl d12_38 (by decide) (by decide) (by simp) ⟨v, rfl, rfl, by rw [g1]; exact Nat.le_refl _, Kp, ((E.ext E1).wr W2).wr W3, (((Vv.ext E1).same W2).other W3 (Or.inr s1)), (((C.ext E1).other W2 (Or.inr s1.symm)).same W3), (((N.ext E1).other W2 (Or.inr s2.symm)).other W3 (Or.inr s3.symm)), ⟨by decide, by intro c hc; cases hc⟩, Nat.zero_le _, by omega, k, Ar⟩
set_option maxRecDepth 65536 in
set_option maxHeartbeats 4000000 in
theorem rm_sbI {l : Launch} {Z : State} {a0 : Array Value} (H : Wd Z a0) {h : Heap} {x : Addr} (E : Exa Z h x SBN) (Vv : Fld Z h x ABN "value" "[B" .null) (C : Fld Z h x ABN "coder" "B" (.int 0)) (N : Fld Z h x ABN "count" "I" (.int 0)) : Met l Z (⟨"java/lang/StringBuilder", "<init>", "()V"⟩ : MethodName) jdk_67_method_1_code 1 none ({ frames := 2, cells := 1, slots := 16, locals := 25 } : Room) h [x] #[.ref x] (fun u h' G => ∃ v, u = none ∧ G = [v] ∧ h.size ≤ v ∧ Keep h h' [x] ∧ SBd Z h' x v 16 []) := by
  refine Met.mk (L := #[.val (.ref x)]) (by decide +kernel) (fun m => by first | (simp [entryFrame, mkF, argsToLocals, Value.category]; done) | rfl) (fun K => ?_)
  show Go _ _ K "java/lang/StringBuilder" "<init>" _ _ _ _ _ _ _ _ _ 0 _ _
  refine go_aloadN (v := .ref x) (q := 1) d11_0 rfl rfl rfl ?_
  refine go_bipush (x := (16 : Int32)) (q := 3) d11_1 rfl rfl ?_
  refine go_special (c' := 1) (s' := 16) (q := 6) (S := []) (argsL := [.int (16 : Int32)]) H rfl (w_68 H) (w_69 H) (w_72 H) (w_73 H) (by decide) (rm_asbI H (n := 16) E Vv C N (by decide)) rfl rfl (lenOf pd_15 rfl) (fun _ q => q) rfl (by decide) (Nat.le_of_ble_eq_true rfl) rfl rfl (by decide) (by decide) d11_3 rfl ?_
  rintro _ h1 G - ⟨v, rfl, rfl, gv, K1, S1⟩
  refine ⟨[v], fun _ q => Or.inl q, ?_⟩
  show Go _ _ _ _ _ _ _ _ _ _ _ _ _ _ 6 #[.val (.ref x)] []
  exact go_return H (G := [v]) rfl d11_6 (by decide) (by decide) (fun _ q => q) ⟨v, rfl, rfl, gv, K1, S1⟩
set_option maxRecDepth 65536 in
set_option maxHeartbeats 4000000 in
theorem rm_ens {l : Launch} {Z : State} {a0 : Array Value} (H : Wd Z a0) {h : Heap} {x v : Addr} {cap n : Nat} {cs : List Int32} (S : SBd Z h x v cap cs) (hn : n ≤ cap) : Met l Z (⟨"java/lang/AbstractStringBuilder", "ensureCapacityInternal", "(I)V"⟩ : MethodName) jdk_68_method_9_code 3 none ({ frames := 0, cells := 0, slots := 0, locals := 0 } : Room) h [] #[.ref x, .int (Int32.ofNat n)] (fun u h' G => u = none ∧ h = h') := by
  refine Met.mk (L := #[.val (.ref x), .val (.int (Int32.ofNat n)), .unset]) (by decide +kernel) (fun m => by first | (simp [entryFrame, mkF, argsToLocals, Value.category]; done) | rfl) (fun K => ?_)
  show Go _ _ K "java/lang/AbstractStringBuilder" "ensureCapacityInternal" _ _ _ _ _ _ _ _ _ 0 _ _
  obtain ⟨E, Vv, C, N, hl, l1, l2, k, A⟩ := S
  refine go_aloadN (v := .ref x) (q := 1) d20_0 rfl rfl rfl ?_
  refine go_getfield (v := .ref v) (q := 4) (w_76 H) Via.refl Vv d20_1 rfl ?_
  refine go_arraylength (z := (Int32.ofNat cap)) (q := 5) A d20_4 rfl ?_
  refine go_aloadN (v := .ref x) (q := 6) d20_5 rfl rfl rfl ?_
  refine go_getfield (v := .int 0) (q := 9) (w_78 H) Via.refl C d20_6 rfl ?_
  refine go_ishr (r := (Int32.ofNat cap)) (q := 10) d20_9 (shr0 _) rfl ?_
  refine go_istoreN (L' := #[.val (.ref x), .val (.int (Int32.ofNat n)), .val (.int (Int32.ofNat cap))]) (q := 11) d20_10 rfl rfl ?_
  refine go_iloadN (v := (Int32.ofNat n)) (q := 12) d20_11 rfl rfl ?_
  refine go_iloadN (v := (Int32.ofNat cap)) (q := 13) d20_12 rfl rfl ?_
  refine go_isub (r := (Int32.ofNat n) - (Int32.ofNat cap)) (q := 14) d20_13 rfl rfl ?_
  refine go_ifY (q := 38) d20_14 (not_pos_sub hn (by omega)) (by decide) (by decide) ?_
  exact go_return H (G := []) rfl d20_38 (by decide) (by decide) (fun _ q => nomatch q) ⟨rfl, rfl⟩
set_option maxRecDepth 65536 in
set_option maxHeartbeats 4000000 in
theorem rm_infl {l : Launch} {Z : State} {a0 : Array Value} (H : Wd Z a0) {h : Heap} {F : List Addr} {x a : Addr} {cs : List Int32} (C : Fld Z h x ABN "coder" "B" (.int 0)) (S : Str Z h F a cs) : Met l Z (⟨"java/lang/AbstractStringBuilder", "inflateIfNeededFor", "(Ljava/lang/String;)V"⟩ : MethodName) jdk_68_method_71_code 2 none ({ frames := 1, cells := 0, slots := 0, locals := 13 } : Room) h [] #[.ref x, .ref a] (fun u h' G => u = none ∧ h = h') := by
  refine Met.mk (L := #[.val (.ref x), .val (.ref a)]) (by decide +kernel) (fun m => by first | (simp [entryFrame, mkF, argsToLocals, Value.category]; done) | rfl) (fun K => ?_)
  show Go _ _ K "java/lang/AbstractStringBuilder" "inflateIfNeededFor" _ _ _ _ _ _ _ _ _ 0 _ _
  obtain ⟨cz, Sz, nz⟩ := H.2.2.2.1
  refine go_getstatic (v := .int cz) (q := 3) (w_75 H) Via.refl Sz d22_0 rfl ?_
  refine go_ifN (q := 6) d22_3 nz rfl ?_
  refine go_aloadN (v := .ref x) (q := 7) d22_6 rfl rfl rfl ?_
  refine go_getfield (v := .int 0) (q := 10) (w_78 H) Via.refl C d22_7 rfl ?_
  refine go_aloadN (v := .ref a) (q := 11) d22_10 rfl rfl rfl ?_
  refine go_virtual (c' := 0) (s' := 0) (q := 14) (S := [.int 0]) (argsL := []) H (C := "java/lang/String") (w_133 H) (w_93 H) (nf_self (w_95 H)) (w_95 H) (w_94 H) (w_6 H) (w_96 H) (by decide) S.exa (rm_coder H S.2.1) rfl rfl (lenOf pd_7 rfl) (fun _ q => nomatch q) rfl (by decide) (Nat.le_of_ble_eq_true rfl) rfl rfl (by decide) (by decide) d22_11 rfl ?_
  rintro _ _ G - ⟨rfl, rfl⟩
  refine nx_ (v := none) ?_
  show Go _ _ _ _ _ _ _ _ _ _ _ _ _ _ 14 #[.val (.ref x), .val (.ref a)] [.int 0, .int 0]
  refine go_icY (q := 21) d22_14 rfl (by decide) (by decide) ?_
  exact go_return H (G := []) rfl d22_21 (by decide) (by decide) (fun _ q => nomatch q) ⟨rfl, rfl⟩
set_option maxRecDepth 65536 in
set_option maxHeartbeats 4000000 in
theorem rm_getB {l : Launch} {Z : State} {a0 : Array Value} (H : Wd Z a0) {h : Heap} {F : List Addr} {a v : Addr} {k : ClassId} {cap : Nat} {cs ds : List Int32} (S : Str Z h F a ds) (A : Arv Z h v k .byte (Int32.ofNat cap) (bts cs ++ zs (cap - cs.length)) (.int 0)) (hb : cs.length + ds.length ≤ cap) (hcap : cap ≤ 4096) : Met l Z (⟨"java/lang/String", "getBytes", "([BIB)V"⟩ : MethodName) jdk_42_method_147_code 4 none ({ frames := 1, cells := 0, slots := 0, locals := 40 } : Room) h [v] #[.ref a, .ref v, .int (Int32.ofNat cs.length), .int 0] (fun u h' G => u = none ∧ Keep h h' [v] ∧ Arv Z h' v k .byte (Int32.ofNat cap) (bts (cs ++ ds) ++ zs (cap - (cs ++ ds).length)) (.int 0)) := by
  refine Met.mk (L := #[.val (.ref a), .val (.ref v), .val (.int (Int32.ofNat cs.length)), .val (.int 0)]) (by decide +kernel) (fun m => by first | (simp [entryFrame, mkF, argsToLocals, Value.category]; done) | rfl) (fun K => ?_)
  show Go _ _ K "java/lang/String" "getBytes" _ _ _ _ _ _ _ _ _ 0 _ _
  obtain ⟨E, C, ha, hl, bb, kb, hbb, Vv, B⟩ := S
  refine go_aloadN (v := .ref a) (q := 1) d23_0 rfl rfl rfl ?_
  refine go_virtual (c' := 0) (s' := 0) (q := 4) (S := []) (argsL := []) H (C := "java/lang/String") (w_92 H) (w_93 H) (nf_self (w_95 H)) (w_95 H) (w_94 H) (w_6 H) (w_96 H) (by decide) E (rm_coder H C) rfl rfl (lenOf pd_7 rfl) (fun _ q => nomatch q) rfl (by decide) (Nat.le_of_ble_eq_true rfl) rfl rfl (by decide) (by decide) d23_1 rfl ?_
  rintro _ _ G - ⟨rfl, rfl⟩
  refine nx_ (v := none) ?_
  show Go _ _ _ _ _ _ _ _ _ _ _ _ _ _ 4 #[.val (.ref a), .val (.ref v), .val (.int (Int32.ofNat cs.length)), .val (.int 0)] [.int 0]
  refine go_iloadN (v := 0) (q := 5) d23_4 rfl rfl ?_
  refine go_icN (q := 8) d23_5 rfl rfl ?_
  refine go_aloadN (v := .ref a) (q := 9) d23_8 rfl rfl rfl ?_
  refine go_getfield (v := .ref bb) (q := 12) (w_24 H) Via.refl Vv d23_9 rfl ?_
  refine go_iconst (x := (0 : Int32)) (q := 13) d23_12 rfl rfl ?_
  refine go_aloadN (v := .ref v) (q := 14) d23_13 rfl rfl rfl ?_
  refine go_iloadN (v := (Int32.ofNat cs.length)) (q := 15) d23_14 rfl rfl ?_
  refine go_iloadN (v := 0) (q := 16) d23_15 rfl rfl ?_
  refine go_ishl (r := (Int32.ofNat cs.length)) (q := 17) d23_16 (shl0 _) rfl ?_
  refine go_aloadN (v := .ref a) (q := 18) d23_17 rfl rfl rfl ?_
  refine go_getfield (v := .ref bb) (q := 21) (w_24 H) Via.refl Vv d23_18 rfl ?_
  refine go_arraylength (z := (Int32.ofNat ds.length)) (q := 22) B d23_21 rfl ?_
  refine go_arraycopy (q := 25) (us := bts ds) (w_139 H) (w_142 H) (w_140 H) (w_141 H) B A rfl (by decide) (nn_ofNat (by omega)) (nn_ofNat (by omega)) (by rw [cl_ofNat (by omega)]; exact Nat.le_of_eq (Nat.zero_add _)) (by rw [cl_ofNat (by omega), cl_ofNat (by omega), cl_ofNat (by omega)]; exact hb) (by rw [cl_ofNat (by omega), show (0 : Int32).toNatClampNeg = 0 from rfl]; simp only [Nat.zero_add]; exact (us_eq ds).symm) (by rw [cl_ofNat (by omega), cl_ofNat (by omega), List.length_append, bts_len, List.length_replicate]; omega) (by simp) rfl (by decide) (Nat.le_of_ble_eq_true rfl) d23_22 rfl ?_
  intro h1 K1 V1
  rw [cl_ofNat (by omega), cl_ofNat (by omega), cat_eq hb] at V1
  refine go_goto (q := 43) d23_25 (by decide) (by decide) ?_
  exact go_return H (G := []) rfl d23_43 (by decide) (by decide) (fun _ q => nomatch q) ⟨rfl, K1, V1⟩
set_option maxRecDepth 65536 in
set_option maxHeartbeats 4000000 in
theorem rm_putS {l : Launch} {Z : State} {a0 : Array Value} (H : Wd Z a0) {h : Heap} {F : List Addr} {x a v : Addr} {cap : Nat} {cs ds : List Int32} (S : Str Z h F a ds) (B : SBd Z h x v cap cs) (hb : cs.length + ds.length ≤ cap) : Met l Z (⟨"java/lang/AbstractStringBuilder", "putStringAt", "(ILjava/lang/String;)V"⟩ : MethodName) jdk_68_method_73_code 3 none ({ frames := 2, cells := 0, slots := 0, locals := 55 } : Room) h [v] #[.ref x, .int (Int32.ofNat cs.length), .ref a] (fun u h' G => u = none ∧ Keep h h' [v] ∧ ∃ k, Arv Z h' v k .byte (Int32.ofNat cap) (bts (cs ++ ds) ++ zs (cap - (cs ++ ds).length)) (.int 0)) := by
  refine Met.mk (L := #[.val (.ref x), .val (.int (Int32.ofNat cs.length)), .val (.ref a)]) (by decide +kernel) (fun m => by first | (simp [entryFrame, mkF, argsToLocals, Value.category]; done) | rfl) (fun K => ?_)
  show Go _ _ K "java/lang/AbstractStringBuilder" "putStringAt" _ _ _ _ _ _ _ _ _ 0 _ _
  obtain ⟨E, Vv, C, N, hl, l1, l2, k, A⟩ := B
  refine go_aloadN (v := .ref x) (q := 1) d21_0 rfl rfl rfl ?_
  refine go_aloadN (v := .ref a) (q := 2) d21_1 rfl rfl rfl ?_
  refine go_virtual (c' := 0) (s' := 0) (q := 5) (S := []) (argsL := [.ref a]) H (C := "java/lang/StringBuilder") (w_128 H) (decl_of (w_129 H) (w_132 H)) (nf_self (w_131 H)) (w_131 H) (w_129 H) (w_72 H) (w_132 H) (by decide) E (rm_infl H C S) rfl rfl (lenOf pd_16 rfl) (fun _ q => nomatch q) rfl (by decide) (Nat.le_of_ble_eq_true rfl) rfl rfl (by decide) (by decide) d21_2 rfl ?_
  rintro _ _ G - ⟨rfl, rfl⟩
  refine nx_ (v := none) ?_
  show Go _ _ _ _ _ _ _ _ _ _ _ _ _ _ 5 #[.val (.ref x), .val (.int (Int32.ofNat cs.length)), .val (.ref a)] []
  refine go_aloadN (v := .ref a) (q := 6) d21_5 rfl rfl rfl ?_
  refine go_aloadN (v := .ref x) (q := 7) d21_6 rfl rfl rfl ?_
  refine go_getfield (v := .ref v) (q := 10) (w_76 H) Via.refl Vv d21_7 rfl ?_
  refine go_iloadN (v := (Int32.ofNat cs.length)) (q := 11) d21_10 rfl rfl ?_
  refine go_aloadN (v := .ref x) (q := 12) d21_11 rfl rfl rfl ?_
  refine go_getfield (v := .int 0) (q := 15) (w_78 H) Via.refl C d21_12 rfl ?_
  refine go_virtual (c' := 0) (s' := 0) (q := 18) (S := []) (argsL := [.ref v, .int (Int32.ofNat cs.length), .int 0]) H (C := "java/lang/String") (w_134 H) (w_135 H) (nf_self (w_137 H)) (w_137 H) (w_136 H) (w_6 H) (w_138 H) (by decide) S.exa (rm_getB H S A hb l2) rfl rfl (lenOf pd_17 rfl) (fun _ q => q) rfl (by decide) (Nat.le_of_ble_eq_true rfl) rfl rfl (by decide) (by decide) d21_15 rfl ?_
  rintro _ h1 G - ⟨rfl, K1, V1⟩
  refine nx_ (v := none) ?_
  show Go _ _ _ _ _ _ _ _ _ _ _ _ _ _ 18 #[.val (.ref x), .val (.int (Int32.ofNat cs.length)), .val (.ref a)] []
  exact go_return H (G := []) rfl d21_18 (by decide) (by decide) (fun _ q => nomatch q) ⟨rfl, K1, k, V1⟩
set_option maxRecDepth 65536 in
set_option maxHeartbeats 4000000 in
theorem rm_appA {l : Launch} {Z : State} {a0 : Array Value} (H : Wd Z a0) {h : Heap} {F : List Addr} {x a v : Addr} {cap : Nat} {cs ds : List Int32} (S : Str Z h F a ds) (B : SBd Z h x v cap cs) (hb : cs.length + ds.length ≤ cap) : Met l Z (⟨"java/lang/AbstractStringBuilder", "append", "(Ljava/lang/String;)Ljava/lang/AbstractStringBuilder;"⟩ : MethodName) jdk_68_method_22_code 3 (some (.object "java/lang/AbstractStringBuilder")) ({ frames := 3, cells := 0, slots := 0, locals := 70 } : Room) h [x, v] #[.ref x, .ref a] (fun u h' G => u = some (.ref x) ∧ Keep h h' [x, v] ∧ SBd Z h' x v cap (cs ++ ds)) := by
  refine Met.mk (L := #[.val (.ref x), .val (.ref a), .unset]) (by decide +kernel) (fun m => by first | (simp [entryFrame, mkF, argsToLocals, Value.category]; done) | rfl) (fun K => ?_)
  show Go _ _ K "java/lang/AbstractStringBuilder" "append" _ _ _ _ _ _ _ _ _ 0 _ _
  have B0 := B
  obtain ⟨E, Vv, C, N, hl, l1, l2, k, A⟩ := B
  have s2 : RoadKit.slotOf Z ABN "value" "[B" ≠ RoadKit.slotOf Z ABN "count" "I" := slot_ne (C := SBN) (Or.inl (w_77 H)) (Or.inl (w_117 H)) (by decide) (t := .array .byte) (t' := .int) (by decide) (by decide)
  have s3 : RoadKit.slotOf Z ABN "coder" "B" ≠ RoadKit.slotOf Z ABN "count" "I" := slot_ne (C := SBN) (Or.inl (w_79 H)) (Or.inl (w_117 H)) (by decide) (t := .byte) (t' := .int) (by decide) (by decide)
  have nxv : v ≠ x := (E.neArv A (w_63 H)).symm
  refine go_aloadN (v := .ref a) (q := 1) d19_0 rfl rfl rfl ?_
  refine go_nnY (q := 9) d19_1 (by decide) (by decide) ?_
  refine go_aloadN (v := .ref a) (q := 10) d19_9 rfl rfl rfl ?_
  refine go_virtual (c' := 0) (s' := 0) (q := 13) (S := []) (argsL := []) H (C := "java/lang/String") (w_115 H) (w_88 H) (nf_self (w_90 H)) (w_90 H) (w_89 H) (w_6 H) (w_91 H) (by decide) S.exa (rm_len H S) rfl rfl (lenOf pd_6 rfl) (fun _ q => nomatch q) rfl (by decide) (Nat.le_of_ble_eq_true rfl) rfl rfl (by decide) (by decide) d19_10 rfl ?_
  rintro _ _ G - ⟨rfl, rfl⟩
  refine nx_ (v := none) ?_
  show Go _ _ _ _ _ _ _ _ _ _ _ _ _ _ 13 #[.val (.ref x), .val (.ref a), .unset] [.int (Int32.ofNat ds.length)]
  refine go_istoreN (L' := #[.val (.ref x), .val (.ref a), .val (.int (Int32.ofNat ds.length))]) (q := 14) d19_13 rfl rfl ?_
  refine go_aloadN (v := .ref x) (q := 15) d19_14 rfl rfl rfl ?_
  refine go_aloadN (v := .ref x) (q := 16) d19_15 rfl rfl rfl ?_
  refine go_getfield (v := .int (Int32.ofNat cs.length)) (q := 19) (w_116 H) Via.refl N d19_16 rfl ?_
  refine go_iloadN (v := (Int32.ofNat ds.length)) (q := 20) d19_19 rfl rfl ?_
  refine go_iadd (r := (Int32.ofNat (cs.length + ds.length))) (q := 21) d19_20 (add_ofNat _ _) rfl ?_
  refine go_virtual (c' := 0) (s' := 0) (q := 24) (S := []) (argsL := [.int (Int32.ofNat (cs.length + ds.length))]) H (C := "java/lang/StringBuilder") (w_118 H) (decl_of (w_119 H) (w_122 H)) (nf_self (w_121 H)) (w_121 H) (w_119 H) (w_72 H) (w_122 H) (by decide) E (rm_ens H B0 hb) rfl rfl (lenOf pd_15 rfl) (fun _ q => nomatch q) rfl (by decide) (Nat.le_of_ble_eq_true rfl) rfl rfl (by decide) (by decide) d19_21 rfl ?_
  rintro _ _ G - ⟨rfl, rfl⟩
  refine nx_ (v := none) ?_
  show Go _ _ _ _ _ _ _ _ _ _ _ _ _ _ 24 #[.val (.ref x), .val (.ref a), .val (.int (Int32.ofNat ds.length))] []
  refine go_aloadN (v := .ref x) (q := 25) d19_24 rfl rfl rfl ?_
  refine go_aloadN (v := .ref x) (q := 26) d19_25 rfl rfl rfl ?_
  refine go_getfield (v := .int (Int32.ofNat cs.length)) (q := 29) (w_116 H) Via.refl N d19_26 rfl ?_
  refine go_aloadN (v := .ref a) (q := 30) d19_29 rfl rfl rfl ?_
  refine go_virtual (c' := 0) (s' := 0) (q := 33) (S := []) (argsL := [.int (Int32.ofNat cs.length), .ref a]) H (C := "java/lang/StringBuilder") (w_123 H) (decl_of (w_124 H) (w_127 H)) (nf_self (w_126 H)) (w_126 H) (w_124 H) (w_72 H) (w_127 H) (by decide) E (rm_putS H S B0 hb) rfl rfl (lenOf pd_18 rfl) (by simp) rfl (by decide) (Nat.le_of_ble_eq_true rfl) rfl rfl (by decide) (by decide) d19_30 rfl ?_
  rintro _ h1 G - ⟨rfl, K1, k1, V1⟩
  refine nx_ (v := none) ?_
  show Go _ _ _ _ _ _ _ _ _ _ _ _ _ _ 33 #[.val (.ref x), .val (.ref a), .val (.int (Int32.ofNat ds.length))] []
  refine go_aloadN (v := .ref x) (q := 34) d19_33 rfl rfl rfl ?_
  refine go_dup (q := 35) d19_34 rfl rfl ?_
  refine go_getfield (v := .int (Int32.ofNat cs.length)) (q := 38) (w_116 H) Via.refl (N.keep K1 (ninS nxv.symm nin0)) d19_35 rfl ?_
  refine go_iloadN (v := (Int32.ofNat ds.length)) (q := 39) d19_38 rfl rfl ?_
  refine go_iadd (r := (Int32.ofNat (cs ++ ds).length)) (q := 40) d19_39 ((add_ofNat _ _).trans (by rw [List.length_append])) rfl ?_
  refine go_putfield (q := 43) (w_116 H) Via.refl (N.keep K1 (ninS nxv.symm nin0)) (E.keep K1) (Or.inl (w_117 H)) (w_63 H) (ty := .int) (by decide) rfl rfl (by simp) d19_40 rfl ?_
  intro h2 W2
  have Kp : Keep h h2 [x, v] := (kless K1 (by simp)).wr W2 (Or.inl (by simp))
  refine go_aloadN (v := .ref x) (q := 44) d19_43 rfl rfl rfl ?_
  exact go_areturn H (G := []) (t := (.object "java/lang/AbstractStringBuilder")) rfl rfl rfl d19_44 (by decide) (by decide) (fun _ q => nomatch q) ⟨rfl, Kp, (E.keep K1).wr W2, (Vv.keep K1 (ninS nxv.symm nin0)).other W2 (Or.inr s2), (C.keep K1 (ninS nxv.symm nin0)).other W2 (Or.inr s3), (N.keep K1 (ninS nxv.symm nin0)).same W2, hl.app S.lat (by omega), by rw [List.length_append]; exact hb, l2, k1, V1.other W2 nxv⟩
set_option maxRecDepth 65536 in
set_option maxHeartbeats 4000000 in
theorem rm_app {l : Launch} {Z : State} {a0 : Array Value} (H : Wd Z a0) {h : Heap} {F : List Addr} {x a v : Addr} {cap : Nat} {cs ds : List Int32} (S : Str Z h F a ds) (B : SBd Z h x v cap cs) (hb : cs.length + ds.length ≤ cap) : Met l Z (⟨"java/lang/StringBuilder", "append", "(Ljava/lang/String;)Ljava/lang/StringBuilder;"⟩ : MethodName) jdk_67_method_7_code 2 (some (.object "java/lang/StringBuilder")) ({ frames := 4, cells := 0, slots := 0, locals := 85 } : Room) h [x, v] #[.ref x, .ref a] (fun u h' G => u = some (.ref x) ∧ Keep h h' [x, v] ∧ SBd Z h' x v cap (cs ++ ds)) := by
  refine Met.mk (L := #[.val (.ref x), .val (.ref a)]) (by decide +kernel) (fun m => by first | (simp [entryFrame, mkF, argsToLocals, Value.category]; done) | rfl) (fun K => ?_)
  show Go _ _ K "java/lang/StringBuilder" "append" _ _ _ _ _ _ _ _ _ 0 _ _
  refine go_aloadN (v := .ref x) (q := 1) d18_0 rfl rfl rfl ?_
  refine go_aloadN (v := .ref a) (q := 2) d18_1 rfl rfl rfl ?_
  refine go_super (c' := 0) (s' := 0) (q := 5) (S := []) (argsL := [.ref a]) H (C := "java/lang/StringBuilder") (w_110 H) (same_of (y := ({ cls := "java/lang/AbstractStringBuilder", name := "append", desc := "(Ljava/lang/String;)Ljava/lang/AbstractStringBuilder;" } : Jvm.MethodName)) (w := ({ cls := "java/lang/AbstractStringBuilder", name := "ensureCapacityInternal", desc := "(I)V" } : Jvm.MethodName)) (C := "java/lang/StringBuilder") rfl (w_121 H) (w_113 H) (by decide)) (w_111 H) (w_112 H) (w_72 H) (w_114 H) (by decide) B.exa (rm_appA H S B hb) rfl rfl (lenOf pd_19 rfl) (fun _ q => q) rfl (by decide) (Nat.le_of_ble_eq_true rfl) rfl rfl (by decide) (by decide) d18_2 rfl ?_
  rintro _ h1 G - ⟨rfl, K1, S1⟩
  refine nx_ (v := none) ?_
  show Go _ _ _ _ _ _ _ _ _ _ _ _ _ _ 5 #[.val (.ref x), .val (.ref a)] [.ref x]
  refine go_pop (q := 6) d18_5 rfl rfl ?_
  refine go_aloadN (v := .ref x) (q := 7) d18_6 rfl rfl rfl ?_
  exact go_areturn H (G := []) (t := (.object "java/lang/StringBuilder")) rfl rfl rfl d18_7 (by decide) (by decide) (fun _ q => nomatch q) ⟨rfl, K1, S1⟩
set_option maxRecDepth 65536 in
set_option maxHeartbeats 4000000 in
theorem rm_min {l : Launch} {Z : State} {a0 : Array Value} (H : Wd Z a0) {h : Heap} {i j : Int32}  : Met l Z (⟨"java/lang/Math", "min", "(II)I"⟩ : MethodName) jdk_29_method_69_code 2 (some .int) ({ frames := 0, cells := 0, slots := 0, locals := 0 } : Room) h [] #[.int i, .int j] (fun u h' G => u = some (.int (if j < i then j else i)) ∧ h = h') := by
  refine Met.mk (L := #[.val (.int i), .val (.int j)]) (by decide +kernel) (fun m => by first | (simp [entryFrame, mkF, argsToLocals, Value.category]; done) | rfl) (fun K => ?_)
  show Go _ _ K "java/lang/Math" "min" _ _ _ _ _ _ _ _ _ 0 _ _
  refine go_iloadN (v := i) (q := 1) d35_0 rfl rfl ?_
  refine go_iloadN (v := j) (q := 2) d35_1 rfl rfl ?_
  by_cases q : j < i
  · refine go_icY (q := 9) d35_2 q (by decide) (by decide) ?_
    refine go_iloadN (v := j) (q := 10) d35_9 rfl rfl ?_
    exact go_ireturn H (G := []) (t := .int) rfl (by decide) rfl d35_10 (by decide) (by decide) (fun _ q => nomatch q) ⟨by rw [if_pos q], rfl⟩
  · refine go_icN (q := 5) d35_2 q rfl ?_
    refine go_iloadN (v := i) (q := 6) d35_5 rfl rfl ?_
    refine go_goto (q := 10) d35_6 (by decide) (by decide) ?_
    exact go_ireturn H (G := []) (t := .int) rfl (by decide) rfl d35_10 (by decide) (by decide) (fun _ q => nomatch q) ⟨by rw [if_neg q], rfl⟩
set_option maxRecDepth 65536 in
set_option maxHeartbeats 4000000 in
theorem rm_ckL {l : Launch} {Z : State} {a0 : Array Value} (H : Wd Z a0) {h : Heap} {i j : Int32} (hij : ¬ j < i) : Met l Z (⟨"java/util/Arrays", "checkLength", "(II)V"⟩ : MethodName) jdk_65_method_131_code 2 none ({ frames := 0, cells := 0, slots := 0, locals := 0 } : Room) h [] #[.int i, .int j] (fun u h' G => u = none ∧ h = h') := by
  refine Met.mk (L := #[.val (.int i), .val (.int j)]) (by decide +kernel) (fun m => by first | (simp [entryFrame, mkF, argsToLocals, Value.category]; done) | rfl) (fun K => ?_)
  show Go _ _ K "java/util/Arrays" "checkLength" _ _ _ _ _ _ _ _ _ 0 _ _
  refine go_iloadN (v := j) (q := 1) d34_0 rfl rfl ?_
  refine go_iloadN (v := i) (q := 2) d34_1 rfl rfl ?_
  refine go_icY (q := 37) d34_2 hij (by decide) (by decide) ?_
  exact go_return H (G := []) rfl d34_37 (by decide) (by decide) (fun _ q => nomatch q) ⟨rfl, rfl⟩
set_option maxRecDepth 65536 in
set_option maxHeartbeats 4000000 in
theorem rm_cRB {l : Launch} {Z : State} {a0 : Array Value} (H : Wd Z a0) {h : Heap} {v : Addr} {k : ClassId} {n : Nat} {cs : List Int32} (A : Arv Z h v k .byte (Int32.ofNat n) (bts cs ++ zs (n - cs.length)) (.int 0)) (hb : cs.length ≤ n) (hn : n ≤ 4096) (hc : cs.length ≤ 16) : Met l Z (⟨"java/util/Arrays", "copyOfRangeByte", "([BII)[B"⟩ : MethodName) jdk_65_method_133_code 5 (some (.array .byte)) ({ frames := 1, cells := 1, slots := 16, locals := 40 } : Room) h [] #[.ref v, .int 0, .int (Int32.ofNat cs.length)] (fun u h' G => ∃ ba kb, u = some (.ref ba) ∧ h.size ≤ ba ∧ Keep h h' [] ∧ Arv Z h' ba kb .byte (Int32.ofNat cs.length) (bts cs) (.int 0)) := by
  refine Met.mk (L := #[.val (.ref v), .val (.int 0), .val (.int (Int32.ofNat cs.length)), .unset, .unset]) (by decide +kernel) (fun m => by first | (simp [entryFrame, mkF, argsToLocals, Value.category]; done) | rfl) (fun K => ?_)
  show Go _ _ K "java/util/Arrays" "copyOfRangeByte" _ _ _ _ _ _ _ _ _ 0 _ _
  have Ka : Keep h h [] := Keep.refl _ _
  refine go_iloadN (v := 0) (q := 1) d33_0 rfl rfl ?_
  refine go_iloadN (v := (Int32.ofNat cs.length)) (q := 2) d33_1 rfl rfl ?_
  refine go_static (c' := 0) (s' := 0) (q := 5) (S := []) (argsL := [.int 0, .int (Int32.ofNat cs.length)]) H (w_186 H) (w_187 H) (w_181 H) (w_188 H) (by decide) (rm_ckL H (nn_ofNat (by omega))) rfl rfl (lenOf pd_20 rfl) (fun _ q => nomatch q) rfl (by decide) (Nat.le_of_ble_eq_true rfl) rfl rfl (by decide) (by decide) d33_2 rfl ?_
  rintro _ _ G - ⟨rfl, rfl⟩
  refine nx_ (v := none) ?_
  show Go _ _ _ _ _ _ _ _ _ _ _ _ _ _ 5 #[.val (.ref v), .val (.int 0), .val (.int (Int32.ofNat cs.length)), .unset, .unset] []
  refine go_iloadN (v := (Int32.ofNat cs.length)) (q := 6) d33_5 rfl rfl ?_
  refine go_iloadN (v := 0) (q := 7) d33_6 rfl rfl ?_
  refine go_isub (r := (Int32.ofNat cs.length)) (q := 8) d33_7 (Int32.sub_zero _) rfl ?_
  refine go_istoreN (L' := #[.val (.ref v), .val (.int 0), .val (.int (Int32.ofNat cs.length)), .val (.int (Int32.ofNat cs.length)), .unset]) (q := 9) d33_8 rfl rfl ?_
  refine go_iloadN (v := (Int32.ofNat cs.length)) (q := 10) d33_9 rfl rfl ?_
  refine go_newarray (ty := .byte) (dv := .int 0) (n := cs.length) (cap := 16) (ad := "[B") (c' := 1) (s' := 16) (q := 12) rfl rfl (cl_ofNat (by omega)) (w_19 H) d33_10 (nn_ofNat (by omega)) hc (by decide) rfl rfl rfl rfl (by decide) (by decide) ?_
  intro h1 ba kb g1 E1 V1 X1
  have f_Ka_ba : h.size ≤ ba := by rw [g1]; exact Ka.1
  have Ka : Keep h h1 [] := Ka.ext E1
  refine go_astore (L' := #[.val (.ref v), .val (.int 0), .val (.int (Int32.ofNat cs.length)), .val (.int (Int32.ofNat cs.length)), .val (.ref ba)]) (q := 14) d33_12 rfl rfl rfl ?_
  refine go_aloadN (v := .ref v) (q := 15) d33_14 rfl rfl rfl ?_
  refine go_iloadN (v := 0) (q := 16) d33_15 rfl rfl ?_
  refine go_aload (v := .ref ba) (q := 18) d33_16 rfl rfl rfl ?_
  refine go_iconst (x := (0 : Int32)) (q := 19) d33_18 rfl rfl ?_
  refine go_aloadN (v := .ref v) (q := 20) d33_19 rfl rfl rfl ?_
  refine go_arraylength (z := (Int32.ofNat n)) (q := 21) (A.ext E1) d33_20 rfl ?_
  refine go_iloadN (v := 0) (q := 22) d33_21 rfl rfl ?_
  refine go_isub (r := (Int32.ofNat n)) (q := 23) d33_22 (Int32.sub_zero _) rfl ?_
  refine go_iloadN (v := (Int32.ofNat cs.length)) (q := 24) d33_23 rfl rfl ?_
  refine go_static (c' := 1) (s' := 16) (q := 27) (S := [.int (0 : Int32), .ref ba, .int 0, .ref v]) (argsL := [.int (Int32.ofNat n), .int (Int32.ofNat cs.length)]) H (w_189 H) (w_190 H) (w_191 H) (w_192 H) (by decide) (rm_min H) rfl rfl (lenOf pd_21 rfl) (fun _ q => nomatch q) rfl (by decide) (Nat.le_of_ble_eq_true rfl) rfl rfl (by decide) (by decide) d33_24 rfl ?_
  rintro _ _ G - ⟨rfl, rfl⟩
  refine nx_ (v := none) ?_
  show Go _ _ _ _ _ _ _ _ _ _ _ _ _ _ 27 #[.val (.ref v), .val (.int 0), .val (.int (Int32.ofNat cs.length)), .val (.int (Int32.ofNat cs.length)), .val (.ref ba)] [.int (if Int32.ofNat cs.length < Int32.ofNat n then Int32.ofNat cs.length else Int32.ofNat n), .int (0 : Int32), .ref ba, .int 0, .ref v]
  rw [show (if Int32.ofNat cs.length < Int32.ofNat n then Int32.ofNat cs.length else Int32.ofNat n) = Int32.ofNat cs.length from by split; rfl; rename_i q; rw [lt_ofNat (by omega) (by omega)] at q; rw [show n = cs.length by omega]]
  show Go _ _ _ _ _ _ _ _ _ _ _ _ _ _ 27 #[.val (.ref v), .val (.int 0), .val (.int (Int32.ofNat cs.length)), .val (.int (Int32.ofNat cs.length)), .val (.ref ba)] [.int (Int32.ofNat cs.length), .int (0 : Int32), .ref ba, .int 0, .ref v]
  refine go_arraycopy (q := 30) (us := bts cs) (w_193 H) (w_142 H) (w_140 H) (w_141 H) (A.ext E1) V1 rfl (by decide) (by decide) (nn_ofNat (by omega)) (by rw [cl_ofNat (by omega), cl_ofNat (by omega)]; exact Nat.le_trans (Nat.le_of_eq (Nat.zero_add _)) hb) (by rw [cl_ofNat (by omega)]; exact Nat.le_of_eq (Nat.zero_add _)) (by rw [cl_ofNat (by omega), show (0 : Int32).toNatClampNeg = 0 from rfl]; simp only [Nat.zero_add]; exact (us_pre _ _).symm) (by rw [cl_ofNat (by omega), List.length_replicate]; exact Nat.le_of_eq (Nat.zero_add _)) (by simp) rfl (by decide) (Nat.le_of_ble_eq_true rfl) d33_27 rfl ?_
  intro h2 K2 V2
  have Ka : Keep h h2 [] := kfresh Ka K2 f_Ka_ba
  rw [cl_ofNat (by omega), show (0 : Int32).toNatClampNeg = 0 from rfl, List.take_zero, List.nil_append, Nat.zero_add, List.drop_of_length_le (by simp), List.append_nil] at V2
  refine go_aload (v := .ref ba) (q := 32) d33_30 rfl rfl rfl ?_
  exact go_areturn H (G := []) (t := (.array .byte)) rfl rfl rfl d33_32 (by decide) (by decide) (fun _ q => nomatch q) ⟨ba, kb, rfl, f_Ka_ba, Ka, V2⟩
set_option maxRecDepth 65536 in
set_option maxHeartbeats 4000000 in
theorem rm_cR {l : Launch} {Z : State} {a0 : Array Value} (H : Wd Z a0) {h : Heap} {v : Addr} {k : ClassId} {n : Nat} {cs : List Int32} (A : Arv Z h v k .byte (Int32.ofNat n) (bts cs ++ zs (n - cs.length)) (.int 0)) (hb : cs.length < n) (hn : n ≤ 4096) (hc : cs.length ≤ 16) : Met l Z (⟨"java/util/Arrays", "copyOfRange", "([BII)[B"⟩ : MethodName) jdk_65_method_132_code 3 (some (.array .byte)) ({ frames := 2, cells := 1, slots := 16, locals := 56 } : Room) h [] #[.ref v, .int 0, .int (Int32.ofNat cs.length)] (fun u h' G => ∃ ba kb, u = some (.ref ba) ∧ h.size ≤ ba ∧ Keep h h' [] ∧ Arv Z h' ba kb .byte (Int32.ofNat cs.length) (bts cs) (.int 0)) := by
  refine Met.mk (L := #[.val (.ref v), .val (.int 0), .val (.int (Int32.ofNat cs.length))]) (by decide +kernel) (fun m => by first | (simp [entryFrame, mkF, argsToLocals, Value.category]; done) | rfl) (fun K => ?_)
  show Go _ _ K "java/util/Arrays" "copyOfRange" _ _ _ _ _ _ _ _ _ 0 _ _
  refine go_iloadN (v := 0) (q := 1) d32_0 rfl rfl ?_
  refine go_ifN (q := 4) d32_1 (by decide) rfl ?_
  refine go_iloadN (v := (Int32.ofNat cs.length)) (q := 5) d32_4 rfl rfl ?_
  refine go_aloadN (v := .ref v) (q := 6) d32_5 rfl rfl rfl ?_
  refine go_arraylength (z := (Int32.ofNat n)) (q := 7) A d32_6 rfl ?_
  refine go_icN (q := 10) d32_7 (fun e => absurd ((eq_ofNat (by omega) (by omega)).mp e) (by omega)) rfl ?_
  refine go_aloadN (v := .ref v) (q := 11) d32_10 rfl rfl rfl ?_
  refine go_iloadN (v := 0) (q := 12) d32_11 rfl rfl ?_
  refine go_iloadN (v := (Int32.ofNat cs.length)) (q := 13) d32_12 rfl rfl ?_
  refine go_static (c' := 1) (s' := 16) (q := 16) (S := []) (argsL := [.ref v, .int 0, .int (Int32.ofNat cs.length)]) H (w_183 H) (w_184 H) (w_181 H) (w_185 H) (by decide) (rm_cRB H A (Nat.le_of_lt hb) hn hc) rfl rfl (lenOf pd_22 rfl) (fun _ q => nomatch q) rfl (by decide) (Nat.le_of_ble_eq_true rfl) rfl rfl (by decide) (by decide) d32_13 rfl ?_
  rintro _ h1 G - ⟨ba, kb, rfl, gb, K1, V1⟩
  refine nx_ (v := none) ?_
  show Go _ _ _ _ _ _ _ _ _ _ _ _ _ _ 16 #[.val (.ref v), .val (.int 0), .val (.int (Int32.ofNat cs.length))] [.ref ba]
  exact go_areturn H (G := []) (t := (.array .byte)) rfl rfl rfl d32_16 (by decide) (by decide) (fun _ q => nomatch q) ⟨ba, kb, rfl, gb, K1, V1⟩
set_option maxRecDepth 65536 in
set_option maxHeartbeats 4000000 in
theorem rm_gV {l : Launch} {Z : State} {a0 : Array Value} (H : Wd Z a0) {h : Heap} {x v : Addr} (Vv : Fld Z h x ABN "value" "[B" (.ref v)) : Met l Z (⟨"java/lang/AbstractStringBuilder", "getValue", "()[B"⟩ : MethodName) jdk_68_method_64_code 1 (some (.array .byte)) ({ frames := 0, cells := 0, slots := 0, locals := 0 } : Room) h [] #[.ref x] (fun u h' G => u = some (.ref v) ∧ h = h') := by
  refine Met.mk (L := #[.val (.ref x)]) (by decide +kernel) (fun m => by first | (simp [entryFrame, mkF, argsToLocals, Value.category]; done) | rfl) (fun K => ?_)
  show Go _ _ K "java/lang/AbstractStringBuilder" "getValue" _ _ _ _ _ _ _ _ _ 0 _ _
  refine go_aloadN (v := .ref x) (q := 1) d28_0 rfl rfl rfl ?_
  refine go_getfield (v := .ref v) (q := 4) (w_76 H) Via.refl Vv d28_1 rfl ?_
  exact go_areturn H (G := []) (t := (.array .byte)) rfl rfl rfl d28_4 (by decide) (by decide) (fun _ q => nomatch q) ⟨rfl, rfl⟩
set_option maxRecDepth 65536 in
set_option maxHeartbeats 4000000 in
theorem rm_aLen {l : Launch} {Z : State} {a0 : Array Value} (H : Wd Z a0) {h : Heap} {x : Addr} {n : Int32} (N : Fld Z h x ABN "count" "I" (.int n)) : Met l Z (⟨"java/lang/AbstractStringBuilder", "length", "()I"⟩ : MethodName) jdk_68_method_6_code 1 (some .int) ({ frames := 0, cells := 0, slots := 0, locals := 0 } : Room) h [] #[.ref x] (fun u h' G => u = some (.int n) ∧ h = h') := by
  refine Met.mk (L := #[.val (.ref x)]) (by decide +kernel) (fun m => by first | (simp [entryFrame, mkF, argsToLocals, Value.category]; done) | rfl) (fun K => ?_)
  show Go _ _ K "java/lang/AbstractStringBuilder" "length" _ _ _ _ _ _ _ _ _ 0 _ _
  refine go_aloadN (v := .ref x) (q := 1) d30_0 rfl rfl rfl ?_
  refine go_getfield (v := .int n) (q := 4) (w_116 H) Via.refl N d30_1 rfl ?_
  exact go_ireturn H (G := []) (t := .int) rfl (by decide) rfl d30_4 (by decide) (by decide) (fun _ q => nomatch q) ⟨rfl, rfl⟩
set_option maxRecDepth 65536 in
set_option maxHeartbeats 4000000 in
theorem rm_sLen {l : Launch} {Z : State} {a0 : Array Value} (H : Wd Z a0) {h : Heap} {x : Addr} {n : Int32} (E : Exa Z h x SBN) (N : Fld Z h x ABN "count" "I" (.int n)) : Met l Z (⟨"java/lang/StringBuilder", "length", "()I"⟩ : MethodName) jdk_67_method_93_code 1 (some .int) ({ frames := 1, cells := 0, slots := 0, locals := 12 } : Room) h [] #[.ref x] (fun u h' G => u = some (.int n) ∧ h = h') := by
  refine Met.mk (L := #[.val (.ref x)]) (by decide +kernel) (fun m => by first | (simp [entryFrame, mkF, argsToLocals, Value.category]; done) | rfl) (fun K => ?_)
  show Go _ _ K "java/lang/StringBuilder" "length" _ _ _ _ _ _ _ _ _ 0 _ _
  refine go_aloadN (v := .ref x) (q := 1) d29_0 rfl rfl rfl ?_
  refine go_super (c' := 0) (s' := 0) (q := 4) (S := []) (argsL := []) H (C := "java/lang/StringBuilder") (w_172 H) (same_of (y := ({ cls := "java/lang/AbstractStringBuilder", name := "length", desc := "()I" } : Jvm.MethodName)) (w := ({ cls := "java/lang/AbstractStringBuilder", name := "ensureCapacityInternal", desc := "(I)V" } : Jvm.MethodName)) (C := "java/lang/StringBuilder") rfl (w_121 H) (w_167 H) (by decide)) (w_168 H) (w_112 H) (w_72 H) (w_173 H) (by decide) E (rm_aLen H N) rfl rfl (lenOf pd_6 rfl) (fun _ q => nomatch q) rfl (by decide) (Nat.le_of_ble_eq_true rfl) rfl rfl (by decide) (by decide) d29_1 rfl ?_
  rintro _ _ G - ⟨rfl, rfl⟩
  refine nx_ (v := none) ?_
  show Go _ _ _ _ _ _ _ _ _ _ _ _ _ _ 4 #[.val (.ref x)] [.int n]
  exact go_ireturn H (G := []) (t := .int) rfl (by decide) rfl d29_4 (by decide) (by decide) (fun _ q => nomatch q) ⟨rfl, rfl⟩
set_option maxRecDepth 65536 in
set_option maxHeartbeats 4000000 in
theorem rm_aL1 {l : Launch} {Z : State} {a0 : Array Value} (H : Wd Z a0) {h : Heap} {x : Addr} (C : Fld Z h x ABN "coder" "B" (.int 0)) : Met l Z (⟨"java/lang/AbstractStringBuilder", "isLatin1", "()Z"⟩ : MethodName) jdk_68_method_68_code 1 (some .boolean) ({ frames := 0, cells := 0, slots := 0, locals := 0 } : Room) h [] #[.ref x] (fun u h' G => u = some (.int 1) ∧ h = h') := by
  refine Met.mk (L := #[.val (.ref x)]) (by decide +kernel) (fun m => by first | (simp [entryFrame, mkF, argsToLocals, Value.category]; done) | rfl) (fun K => ?_)
  show Go _ _ K "java/lang/AbstractStringBuilder" "isLatin1" _ _ _ _ _ _ _ _ _ 0 _ _
  obtain ⟨cz, Sz, nz⟩ := H.2.2.2.1
  refine go_getstatic (v := .int cz) (q := 3) (w_75 H) Via.refl Sz d31_0 rfl ?_
  refine go_ifN (q := 6) d31_3 nz rfl ?_
  refine go_aloadN (v := .ref x) (q := 7) d31_6 rfl rfl rfl ?_
  refine go_getfield (v := .int 0) (q := 10) (w_78 H) Via.refl C d31_7 rfl ?_
  refine go_ifN (q := 13) d31_10 rfl rfl ?_
  refine go_iconst (x := (1 : Int32)) (q := 14) d31_13 rfl rfl ?_
  refine go_goto (q := 18) d31_14 (by decide) (by decide) ?_
  exact go_ireturn H (G := []) (t := .boolean) rfl (by decide) rfl d31_18 (by decide) (by decide) (fun _ q => nomatch q) ⟨rfl, rfl⟩
set_option maxRecDepth 65536 in
set_option maxHeartbeats 4000000 in
theorem rm_iASB {l : Launch} {Z : State} {a0 : Array Value} (H : Wd Z a0) {h : Heap} {F : List Addr} {x s v : Addr} {n : Nat} {cs : List Int32} (E : Exa Z h x ST) (C : Fld Z h x ST "coder" "B" (.int 0)) (Vv : Fld Z h x ST "value" "[B" .null) (B : SBd Z h s v n cs) (hb : cs.length < n) (hc : cs.length ≤ 16) (hx : x ∉ F) (hFl : ∀ y ∈ F, y < h.size) : Met l Z (⟨"java/lang/String", "<init>", "(Ljava/lang/AbstractStringBuilder;Ljava/lang/Void;)V"⟩ : MethodName) jdk_42_method_150_code 5 none ({ frames := 3, cells := 1, slots := 16, locals := 72 } : Room) h (x :: F) #[.ref x, .ref s, .null] (fun u h' G => u = none ∧ Keep h h' [x] ∧ Str Z h' F x cs) := by
  refine Met.mk (L := #[.val (.ref x), .val (.ref s), .val (.null), .unset, .unset]) (by decide +kernel) (fun m => by first | (simp [entryFrame, mkF, argsToLocals, Value.category]; done) | rfl) (fun K => ?_)
  show Go _ _ K "java/lang/String" "<init>" _ _ _ _ _ _ _ _ _ 0 _ _
  obtain ⟨BE, BV, BC, BN, hl, l1, l2, k, A⟩ := B
  have sne : RoadKit.slotOf Z ST "value" "[B" ≠ RoadKit.slotOf Z ST "coder" "B" := slot_ne (C := ST) (Or.inr (w_20 H)) (Or.inr (w_21 H)) (by decide) (t := .array .byte) (t' := .byte) (by decide) (by decide)
  have wiS := (w_5 H)
  have nvx : v ≠ x := (E.neArv A wiS).symm
  refine go_aloadN (v := .ref x) (q := 1) d27_0 rfl rfl rfl ?_
  refine go_initO (q := 4) (w_15 H) (w_16 H) (w_17 H) rfl d27_1 rfl (by decide) (Nat.le_of_ble_eq_true rfl) ?_
  refine go_aloadN (v := .ref s) (q := 5) d27_4 rfl rfl rfl ?_
  refine go_virtual (c' := 0) (s' := 0) (q := 8) (S := []) (argsL := []) H (C := "java/lang/StringBuilder") (w_161 H) (w_162 H) (nf_self (w_164 H)) (w_164 H) (w_163 H) (w_72 H) (w_165 H) (by decide) BE (rm_gV H BV) rfl rfl (lenOf pd_23 rfl) (fun _ q => nomatch q) rfl (by decide) (Nat.le_of_ble_eq_true rfl) rfl rfl (by decide) (by decide) d27_5 rfl ?_
  rintro _ _ G - ⟨rfl, rfl⟩
  refine nx_ (v := none) ?_
  show Go _ _ _ _ _ _ _ _ _ _ _ _ _ _ 8 #[.val (.ref x), .val (.ref s), .val (.null), .unset, .unset] [.ref v]
  refine go_astoreN (L' := #[.val (.ref x), .val (.ref s), .val (.null), .val (.ref v), .unset]) (q := 9) d27_8 rfl rfl rfl ?_
  refine go_aloadN (v := .ref s) (q := 10) d27_9 rfl rfl rfl ?_
  refine go_virtual (c' := 0) (s' := 0) (q := 13) (S := []) (argsL := []) H (C := "java/lang/StringBuilder") (w_166 H) (w_167 H) (nf_mate (y := ({ cls := "java/lang/AbstractStringBuilder", name := "length", desc := "()I" } : Jvm.MethodName)) (w := ({ cls := "java/lang/AbstractStringBuilder", name := "ensureCapacityInternal", desc := "(I)V" } : Jvm.MethodName)) (C := "java/lang/StringBuilder") rfl (w_121 H)) (w_169 H) (w_170 H) (w_64 H) (w_171 H) (by decide) BE (rm_sLen H BE BN) rfl rfl (lenOf pd_6 rfl) (fun _ q => nomatch q) rfl (by decide) (Nat.le_of_ble_eq_true rfl) rfl rfl (by decide) (by decide) d27_10 rfl ?_
  rintro _ _ G - ⟨rfl, rfl⟩
  refine nx_ (v := none) ?_
  show Go _ _ _ _ _ _ _ _ _ _ _ _ _ _ 13 #[.val (.ref x), .val (.ref s), .val (.null), .val (.ref v), .unset] [.int (Int32.ofNat cs.length)]
  refine go_istore (L' := #[.val (.ref x), .val (.ref s), .val (.null), .val (.ref v), .val (.int (Int32.ofNat cs.length))]) (q := 15) d27_13 rfl rfl ?_
  refine go_aloadN (v := .ref s) (q := 16) d27_15 rfl rfl rfl ?_
  refine go_virtual (c' := 0) (s' := 0) (q := 19) (S := []) (argsL := []) H (C := "java/lang/StringBuilder") (w_174 H) (w_175 H) (nf_self (w_177 H)) (w_177 H) (w_176 H) (w_72 H) (w_178 H) (by decide) BE (rm_aL1 H BC) rfl rfl (lenOf pd_24 rfl) (fun _ q => nomatch q) rfl (by decide) (Nat.le_of_ble_eq_true rfl) rfl rfl (by decide) (by decide) d27_16 rfl ?_
  rintro _ _ G - ⟨rfl, rfl⟩
  refine nx_ (v := none) ?_
  show Go _ _ _ _ _ _ _ _ _ _ _ _ _ _ 19 #[.val (.ref x), .val (.ref s), .val (.null), .val (.ref v), .val (.int (Int32.ofNat cs.length))] [.int 1]
  refine go_ifN (q := 22) d27_19 (by decide) rfl ?_
  refine go_aloadN (v := .ref x) (q := 23) d27_22 rfl rfl rfl ?_
  refine go_iconst (x := (0 : Int32)) (q := 24) d27_23 rfl rfl ?_
  refine go_putfield (q := 27) (w_25 H) Via.refl C E (Or.inr ⟨(w_21 H), rfl, rfl⟩) (w_5 H) (ty := .byte) (by decide) rfl rfl (by simp) d27_24 rfl ?_
  intro h1 W1
  refine go_aloadN (v := .ref x) (q := 28) d27_27 rfl rfl rfl ?_
  refine go_aloadN (v := .ref v) (q := 29) d27_28 rfl rfl rfl ?_
  refine go_iconst (x := (0 : Int32)) (q := 30) d27_29 rfl rfl ?_
  refine go_iload (v := (Int32.ofNat cs.length)) (q := 32) d27_30 rfl rfl ?_
  refine go_static (c' := 1) (s' := 16) (q := 35) (S := [.ref x]) (argsL := [.ref v, .int (0 : Int32), .int (Int32.ofNat cs.length)]) H (w_179 H) (w_180 H) (w_181 H) (w_182 H) (by decide) (rm_cR H (A.other W1 nvx) hb l2 hc) rfl rfl (lenOf pd_22 rfl) (fun _ q => nomatch q) rfl (by decide) (Nat.le_of_ble_eq_true rfl) rfl rfl (by decide) (by decide) d27_32 rfl ?_
  rintro _ h2 G - ⟨ba, kb, rfl, gb, K2, V2⟩
  refine nx_ (v := none) ?_
  show Go _ _ _ _ _ _ _ _ _ _ _ _ _ _ 35 #[.val (.ref x), .val (.ref s), .val (.null), .val (.ref v), .val (.int (Int32.ofNat cs.length))] [.ref ba, .ref x]
  have nxb : ba ≠ x := (((E.wr W1).keep K2).neArv V2 wiS).symm
  refine go_putfield (q := 38) (w_24 H) Via.refl ((Vv.other W1 (Or.inr sne)).keep K2 nin0) ((E.wr W1).keep K2) (Or.inr ⟨(w_20 H), rfl, rfl⟩) (w_5 H) (ty := (.array .byte)) (by decide) rfl rfl (by simp) d27_35 rfl ?_
  intro h3 W3
  refine go_goto (q := 97) d27_38 (by decide) (by decide) ?_
  have Kp : Keep h h3 [x] := ((Keep.of_wr W1).trans K2 (fun _ q => nomatch q)).wr W3 (Or.inl (by simp))
  exact go_return H (G := []) rfl d27_97 (by decide) (by decide) (fun _ q => nomatch q) ⟨rfl, Kp, ((E.wr W1).keep K2).wr W3, ((C.same W1).keep K2 nin0).other W3 (Or.inr sne.symm), hx, hl, ba, kb, fun q => absurd (hFl ba q) (Nat.not_lt.mpr (Nat.le_trans (Nat.le_of_eq W1.size.symm) gb)), ((Vv.other W1 (Or.inr sne)).keep K2 nin0).same W3, V2.other W3 nxb⟩
set_option maxRecDepth 65536 in
set_option maxHeartbeats 4000000 in
theorem rm_iSB {l : Launch} {Z : State} {a0 : Array Value} (H : Wd Z a0) {h : Heap} {F : List Addr} {x s v : Addr} {n : Nat} {cs : List Int32} (E : Exa Z h x ST) (C : Fld Z h x ST "coder" "B" (.int 0)) (Vv : Fld Z h x ST "value" "[B" .null) (B : SBd Z h s v n cs) (hb : cs.length < n) (hc : cs.length ≤ 16) (hx : x ∉ F) (hFl : ∀ y ∈ F, y < h.size) : Met l Z (⟨"java/lang/String", "<init>", "(Ljava/lang/StringBuilder;)V"⟩ : MethodName) jdk_42_method_53_code 2 none ({ frames := 4, cells := 1, slots := 16, locals := 90 } : Room) h (x :: F) #[.ref x, .ref s] (fun u h' G => u = none ∧ Keep h h' [x] ∧ Str Z h' F x cs) := by
  refine Met.mk (L := #[.val (.ref x), .val (.ref s)]) (by decide +kernel) (fun m => by first | (simp [entryFrame, mkF, argsToLocals, Value.category]; done) | rfl) (fun K => ?_)
  show Go _ _ K "java/lang/String" "<init>" _ _ _ _ _ _ _ _ _ 0 _ _
  refine go_aloadN (v := .ref x) (q := 1) d26_0 rfl rfl rfl ?_
  refine go_aloadN (v := .ref s) (q := 2) d26_1 rfl rfl rfl ?_
  refine go_null (q := 3) d26_2 rfl ?_
  refine go_special (c' := 1) (s' := 16) (q := 6) (S := []) (argsL := [.ref s, .null]) H rfl (w_158 H) (w_159 H) (w_6 H) (w_160 H) (by decide) (rm_iASB H E C Vv B hb hc hx hFl) rfl rfl (lenOf pd_25 rfl) (fun _ q => q) rfl (by decide) (Nat.le_of_ble_eq_true rfl) rfl rfl (by decide) (by decide) d26_3 rfl ?_
  rintro _ h1 G - ⟨rfl, K1, S1⟩
  refine nx_ (v := none) ?_
  show Go _ _ _ _ _ _ _ _ _ _ _ _ _ _ 6 #[.val (.ref x), .val (.ref s)] []
  exact go_return H (G := []) rfl d26_6 (by decide) (by decide) (fun _ q => nomatch q) ⟨rfl, K1, S1⟩
set_option maxRecDepth 65536 in
set_option maxHeartbeats 4000000 in
theorem rm_toS {l : Launch} {Z : State} {a0 : Array Value} (H : Wd Z a0) {h : Heap} {F : List Addr} {s v : Addr} {n : Nat} {cs : List Int32} (B : SBd Z h s v n cs) (hb : cs.length < n) (hc : cs.length ≤ 16) (hFl : ∀ y ∈ F, y < h.size) : Met l Z (⟨"java/lang/StringBuilder", "toString", "()Ljava/lang/String;"⟩ : MethodName) jdk_67_method_42_code 1 (some (.object "java/lang/String")) ({ frames := 5, cells := 2, slots := 20, locals := 106 } : Room) h F #[.ref s] (fun u h' G => ∃ a, u = some (.ref a) ∧ Keep h h' [] ∧ Str Z h' F a cs) := by
  refine Met.mk (L := #[.val (.ref s)]) (by decide +kernel) (fun m => by first | (simp [entryFrame, mkF, argsToLocals, Value.category]; done) | rfl) (fun K => ?_)
  show Go _ _ K "java/lang/StringBuilder" "toString" _ _ _ _ _ _ _ _ _ 0 _ _
  have Ka : Keep h h [] := Keep.refl _ _
  refine go_new (c' := 1) (s' := 4) (q := 3) (w_154 H) (w_5 H) (w_6 H) d25_0 rfl rfl rfl (by decide) (by decide) ?_
  intro h1 x g1 E1 A1 D1
  have f_Ka_x : h.size ≤ x := by rw [g1]; exact Ka.1
  have Ka : Keep h h1 [] := Ka.ext E1
  have C1 : Fld Z h1 x ST "coder" "B" (.int 0) := D1 (Or.inr (w_21 H)) (ty := .byte) (by decide)
  have V1 : Fld Z h1 x ST "value" "[B" .null := D1 (Or.inr (w_20 H)) (ty := .array .byte) (by decide)
  have nF : x ∉ F := fun q => absurd (hFl x q) (Nat.not_lt.mpr f_Ka_x)
  refine go_dup (q := 4) d25_3 rfl rfl ?_
  refine go_aloadN (v := .ref s) (q := 5) d25_4 rfl rfl rfl ?_
  refine go_special (c' := 2) (s' := 20) (q := 8) (S := [.ref x]) (argsL := [.ref s]) H rfl (w_155 H) (w_156 H) (w_6 H) (w_157 H) (by decide) (rm_iSB H A1 C1 V1 (B.ext E1) hb hc nF (fun y q => Nat.lt_of_lt_of_le (hFl y q) E1.1)) rfl rfl (lenOf pd_26 rfl) (fun _ q => q) rfl (by decide) (Nat.le_of_ble_eq_true rfl) rfl rfl (by decide) (by decide) d25_5 rfl ?_
  rintro _ h2 G - ⟨rfl, K2, S2⟩
  refine nx_ (v := none) ?_
  have Ka : Keep h h2 [] := kfresh Ka K2 f_Ka_x
  show Go _ _ _ _ _ _ _ _ _ _ _ _ _ _ 8 #[.val (.ref s)] [.ref x]
  exact go_areturn H (G := []) (t := (.object "java/lang/String")) rfl rfl rfl d25_8 (by decide) (by decide) (fun _ q => nomatch q) ⟨x, rfl, Ka, S2⟩
set_option maxRecDepth 65536 in
set_option maxHeartbeats 4000000 in
theorem lp_l1eq {l : Launch} {Z : State} {a0 : Array Value} (H : Wd Z a0) {K : Cx} {h : Heap} {ba bd : Addr} {kb kd : ClassId} {cs ds : List Int32} (A : Arv Z h ba kb .byte (Int32.ofNat cs.length) (bts cs) (.int 0)) (B : Arv Z h bd kd .byte (Int32.ofNat ds.length) (bts ds) (.int 0)) (hc : Lat cs) (hd : Lat ds) (hlen : cs.length = ds.length) : ∀ (n i : Nat), n + i = cs.length → cs.take i = ds.take i → Go l Z K "java/lang/StringLatin1" "equals" jdk_43_method_13_code 3 (some .boolean) ({ frames := 0, cells := 0, slots := 0, locals := 0 } : Room) (fun v h' G => v = some (.int (if cs = ds then 1 else 0)) ∧ h = h') h [] 0 0 9 #[.val (.ref ba), .val (.ref bd), .val (.int (Int32.ofNat i))] []
  | 0, i, hn, ht => by
    obtain rfl : i = cs.length := by omega
    refine go_iloadN (v := (Int32.ofNat cs.length)) (q := 10) d41_9 rfl rfl ?_
    refine go_aloadN (v := .ref ba) (q := 11) d41_10 rfl rfl rfl ?_
    refine go_arraylength (z := (Int32.ofNat cs.length)) (q := 12) A d41_11 rfl ?_
    refine go_icY (q := 32) d41_12 (show ¬ Int32.ofNat cs.length < Int32.ofNat cs.length from Int32.lt_irrefl) (by decide) (by decide) ?_
    refine go_iconst (x := (1 : Int32)) (q := 33) d41_32 rfl rfl ?_
    exact go_ireturn H (G := []) (t := .boolean) rfl (by decide) rfl d41_33 (by decide) (by decide) (fun _ q => nomatch q) ⟨by rw [if_pos (by rw [List.take_length, hlen, List.take_length] at ht; exact ht)], rfl⟩
  | n + 1, i, hn, ht => by
    have hi : i < cs.length := by omega
    have hi2 : i < ds.length := by omega
    refine go_iloadN (v := (Int32.ofNat i)) (q := 10) d41_9 rfl rfl ?_
    refine go_aloadN (v := .ref ba) (q := 11) d41_10 rfl rfl rfl ?_
    refine go_arraylength (z := (Int32.ofNat cs.length)) (q := 12) A d41_11 rfl ?_
    refine go_icN (q := 15) d41_12 ((lt_ofNat (by have := hc.1; omega) (by have := hc.1; omega)).mpr hi) rfl ?_
    refine go_aloadN (v := .ref ba) (q := 16) d41_15 rfl rfl rfl ?_
    refine go_iloadN (v := (Int32.ofNat i)) (q := 17) d41_16 rfl rfl ?_
    refine go_baload (v := .int (cs[i].toInt8.toInt32)) (q := 18) A ⟨nn_ofNat (by have := hc.1; omega), (lt_ofNat (by have := hc.1; have := hd.1; omega) (by have := hc.1; have := hd.1; omega)).mpr hi⟩ (by rw [cl_ofNat (by have := hc.1; omega)]; exact bts_at hi) d41_17 rfl ?_
    refine go_aloadN (v := .ref bd) (q := 19) d41_18 rfl rfl rfl ?_
    refine go_iloadN (v := (Int32.ofNat i)) (q := 20) d41_19 rfl rfl ?_
    refine go_baload (v := .int (ds[i].toInt8.toInt32)) (q := 21) B ⟨nn_ofNat (by have := hc.1; omega), (lt_ofNat (by have := hc.1; have := hd.1; omega) (by have := hc.1; have := hd.1; omega)).mpr hi2⟩ (by rw [cl_ofNat (by have := hc.1; omega)]; exact bts_at hi2) d41_20 rfl ?_
    by_cases q : cs[i].toInt8.toInt32 = ds[i].toInt8.toInt32
    · refine go_icY (q := 26) d41_21 q (by decide) (by decide) ?_
      refine go_iinc (x := (Int32.ofNat i)) (y := (Int32.ofNat (i + 1))) (L' := #[.val (.ref ba), .val (.ref bd), .val (.int (Int32.ofNat (i + 1)))]) (q := 29) d41_26 rfl add1_ofNat rfl rfl ?_
      refine go_goto (q := 9) d41_29 (by decide) (by decide) ?_
      exact lp_l1eq H A B hc hd hlen n (i + 1) (by omega) (by rw [List.take_succ_eq_append_getElem hi, List.take_succ_eq_append_getElem hi2, ht, b_inj (hc.2 _ (List.getElem_mem hi)) (hd.2 _ (List.getElem_mem hi2)) q])
    · refine go_icN (q := 24) d41_21 q rfl ?_
      refine go_iconst (x := (0 : Int32)) (q := 25) d41_24 rfl rfl ?_
      exact go_ireturn H (G := []) (t := .boolean) rfl (by decide) rfl d41_25 (by decide) (by decide) (fun _ q => nomatch q) ⟨by rw [if_neg (fun e => q (by subst e; rfl))], rfl⟩
set_option maxRecDepth 65536 in
set_option maxHeartbeats 4000000 in
theorem rm_l1eq {l : Launch} {Z : State} {a0 : Array Value} (H : Wd Z a0) {h : Heap} {ba bd : Addr} {kb kd : ClassId} {cs ds : List Int32} (A : Arv Z h ba kb .byte (Int32.ofNat cs.length) (bts cs) (.int 0)) (B : Arv Z h bd kd .byte (Int32.ofNat ds.length) (bts ds) (.int 0)) (hc : Lat cs) (hd : Lat ds) : Met l Z (⟨"java/lang/StringLatin1", "equals", "([B[B)Z"⟩ : MethodName) jdk_43_method_13_code 3 (some .boolean) ({ frames := 0, cells := 0, slots := 0, locals := 0 } : Room) h [] #[.ref ba, .ref bd] (fun v h' G => v = some (.int (if cs = ds then 1 else 0)) ∧ h = h') := by
  refine Met.mk (L := #[.val (.ref ba), .val (.ref bd), .unset]) (by decide +kernel) (fun m => by first | (simp [entryFrame, mkF, argsToLocals, Value.category]; done) | rfl) (fun K => ?_)
  show Go _ _ K "java/lang/StringLatin1" "equals" _ _ _ _ _ _ _ _ _ 0 _ _
  refine go_aloadN (v := .ref ba) (q := 1) d41_0 rfl rfl rfl ?_
  refine go_arraylength (z := (Int32.ofNat cs.length)) (q := 2) A d41_1 rfl ?_
  refine go_aloadN (v := .ref bd) (q := 3) d41_2 rfl rfl rfl ?_
  refine go_arraylength (z := (Int32.ofNat ds.length)) (q := 4) B d41_3 rfl ?_
  by_cases hlen : cs.length = ds.length
  · refine go_icN (q := 7) d41_4 (show Int32.ofNat cs.length = Int32.ofNat ds.length by rw [hlen]) rfl ?_
    refine go_iconst (x := (0 : Int32)) (q := 8) d41_7 rfl rfl ?_
    refine go_istoreN (L' := #[.val (.ref ba), .val (.ref bd), .val (.int (0 : Int32))]) (q := 9) d41_8 rfl rfl ?_
    exact lp_l1eq H A B hc hd hlen cs.length 0 (by omega) (by simp)
  · refine go_icY (q := 34) d41_4 (show ¬ _ = _ from fun e => hlen ((eq_ofNat (by have := hc.1; omega) (by have := hd.1; omega)).mp e)) (by decide) (by decide) ?_
    refine go_iconst (x := (0 : Int32)) (q := 35) d41_34 rfl rfl ?_
    exact go_ireturn H (G := []) (t := .boolean) rfl (by decide) rfl d41_35 (by decide) (by decide) (fun _ q => nomatch q) ⟨by rw [if_neg (fun e => hlen (by rw [e]))], rfl⟩
set_option maxRecDepth 65536 in
set_option maxHeartbeats 4000000 in
theorem rm_eq {l : Launch} {Z : State} {a0 : Array Value} (H : Wd Z a0) {h : Heap} {F F2 : List Addr} {a d : Addr} {cs ds : List Int32} (S : Str Z h F a cs) (S2 : Str Z h F2 d ds) : Met l Z (⟨"java/lang/String", "equals", "(Ljava/lang/Object;)Z"⟩ : MethodName) jdk_42_method_66_code 3 (some .boolean) ({ frames := 1, cells := 0, slots := 0, locals := 14 } : Room) h [] #[.ref a, .ref d] (fun v h' G => v = some (.int (if cs = ds then 1 else 0)) ∧ h = h') := by
  refine Met.mk (L := #[.val (.ref a), .val (.ref d), .unset]) (by decide +kernel) (fun m => by first | (simp [entryFrame, mkF, argsToLocals, Value.category]; done) | rfl) (fun K => ?_)
  show Go _ _ K "java/lang/String" "equals" _ _ _ _ _ _ _ _ _ 0 _ _
  obtain ⟨cz, Sz, nz⟩ := H.2.2.2.1
  have I2 := S2.ins
  have hsm : a = d → cs = ds := fun e => by subst e; exact S.same S2
  obtain ⟨E, C, ha, hl, bb, k, hb, Vv, A⟩ := S
  obtain ⟨E2, C2, ha2, hl2, bb2, k2, hb2, Vv2, A2⟩ := S2
  refine go_aloadN (v := .ref a) (q := 1) d40_0 rfl rfl rfl ?_
  refine go_aloadN (v := .ref d) (q := 2) d40_1 rfl rfl rfl ?_
  by_cases e : a = d
  · refine go_acN (q := 5) d40_2 rfl rfl (by simp [XT.acmp, e]) rfl ?_
    refine go_iconst (x := (1 : Int32)) (q := 6) d40_5 rfl rfl ?_
    exact go_ireturn H (G := []) (t := .boolean) rfl (by decide) rfl d40_6 (by decide) (by decide) (fun _ q => nomatch q) ⟨by rw [if_pos (hsm e)], rfl⟩
  · refine go_acY (q := 7) d40_2 rfl rfl (by simp [XT.acmp, e]) (by decide) (by decide) ?_
    refine go_aloadN (v := .ref d) (q := 8) d40_7 rfl rfl rfl ?_
    refine go_instY (q := 11) (w_35 H) I2 d40_8 rfl ?_
    refine go_ifN (q := 14) d40_11 (by decide) rfl ?_
    refine go_aloadN (v := .ref d) (q := 15) d40_14 rfl rfl rfl ?_
    refine go_checkcast (q := 18) (w_35 H) I2 d40_15 rfl ?_
    refine go_astoreN (L' := #[.val (.ref a), .val (.ref d), .val (.ref d)]) (q := 19) d40_18 rfl rfl rfl ?_
    refine go_getstatic (v := .int cz) (q := 22) (w_30 H) Via.refl Sz d40_19 rfl ?_
    refine go_ifN (q := 25) d40_22 nz rfl ?_
    refine go_aloadN (v := .ref a) (q := 26) d40_25 rfl rfl rfl ?_
    refine go_getfield (v := .int 0) (q := 29) (w_25 H) Via.refl C d40_26 rfl ?_
    refine go_aloadN (v := .ref d) (q := 30) d40_29 rfl rfl rfl ?_
    refine go_getfield (v := .int 0) (q := 33) (w_25 H) Via.refl C2 d40_30 rfl ?_
    refine go_icN (q := 36) d40_33 rfl rfl ?_
    refine go_aloadN (v := .ref a) (q := 37) d40_36 rfl rfl rfl ?_
    refine go_getfield (v := .ref bb) (q := 40) (w_24 H) Via.refl Vv d40_37 rfl ?_
    refine go_aloadN (v := .ref d) (q := 41) d40_40 rfl rfl rfl ?_
    refine go_getfield (v := .ref bb2) (q := 44) (w_24 H) Via.refl Vv2 d40_41 rfl ?_
    refine go_static (c' := 0) (s' := 0) (q := 47) (S := []) (argsL := [.ref bb, .ref bb2]) H (w_221 H) (w_222 H) (w_33 H) (w_223 H) (by decide) (rm_l1eq H A A2 hl hl2) rfl rfl (lenOf pd_27 rfl) (fun _ q => nomatch q) rfl (by decide) (Nat.le_of_ble_eq_true rfl) rfl rfl (by decide) (by decide) d40_44 rfl ?_
    rintro _ _ G - ⟨rfl, rfl⟩
    refine nx_ (v := none) ?_
    show Go _ _ _ _ _ _ _ _ _ _ _ _ _ _ 47 #[.val (.ref a), .val (.ref d), .val (.ref d)] [.int (if cs = ds then 1 else 0)]
    by_cases f : cs = ds
    · rw [if_pos f]
      show Go _ _ _ _ _ _ _ _ _ _ _ _ _ _ 47 #[.val (.ref a), .val (.ref d), .val (.ref d)] [.int 1]
      refine go_ifN (q := 50) d40_47 (by decide) rfl ?_
      refine go_iconst (x := (1 : Int32)) (q := 51) d40_50 rfl rfl ?_
      refine go_goto (q := 55) d40_51 (by decide) (by decide) ?_
      exact go_ireturn H (G := []) (t := .boolean) rfl (by decide) rfl d40_55 (by decide) (by decide) (fun _ q => nomatch q) ⟨by first | rfl | rw [if_pos f], rfl⟩
    · rw [if_neg f]
      show Go _ _ _ _ _ _ _ _ _ _ _ _ _ _ 47 #[.val (.ref a), .val (.ref d), .val (.ref d)] [.int 0]
      refine go_ifY (q := 54) d40_47 (by decide) (by decide) (by decide) ?_
      refine go_iconst (x := (0 : Int32)) (q := 55) d40_54 rfl rfl ?_
      exact go_ireturn H (G := []) (t := .boolean) rfl (by decide) rfl d40_55 (by decide) (by decide) (fun _ q => nomatch q) ⟨by first | rfl | rw [if_neg f], rfl⟩
set_option maxRecDepth 65536 in
set_option maxHeartbeats 4000000 in
theorem rm_rnn {l : Launch} {Z : State} {a0 : Array Value} (H : Wd Z a0) {h : Heap} {a m : Addr}  : Met l Z (⟨"java/util/Objects", "requireNonNull", "(Ljava/lang/Object;Ljava/lang/String;)Ljava/lang/Object;"⟩ : MethodName) jdk_31_method_11_code 2 (some (.object "java/lang/Object")) ({ frames := 0, cells := 0, slots := 0, locals := 0 } : Room) h [] #[.ref a, .ref m] (fun v h' G => v = some (.ref a) ∧ h = h') := by
  refine Met.mk (L := #[.val (.ref a), .val (.ref m)]) (by decide +kernel) (fun m => by first | (simp [entryFrame, mkF, argsToLocals, Value.category]; done) | rfl) (fun K => ?_)
  show Go _ _ K "java/util/Objects" "requireNonNull" _ _ _ _ _ _ _ _ _ 0 _ _
  refine go_aloadN (v := .ref a) (q := 1) d10_0 rfl rfl rfl ?_
  refine go_nnY (q := 13) d10_1 (by decide) (by decide) ?_
  refine go_aloadN (v := .ref a) (q := 14) d10_13 rfl rfl rfl ?_
  exact go_areturn H (G := []) (t := (.object "java/lang/Object")) rfl rfl rfl d10_14 (by decide) (by decide) (fun _ q => nomatch q) ⟨rfl, rfl⟩
set_option maxRecDepth 65536 in
set_option maxHeartbeats 4000000 in
theorem rm_ft {l : Launch} {Z : State} {a0 : Array Value} (H : Wd Z a0) {h : Heap} {i j n : Int32} {f : Value} (hf : f.isRef = true) (h0 : ¬ i < 0) (h1 : ¬ j < i) (h2 : ¬ n < j) : Met l Z (⟨"jdk/internal/util/Preconditions", "checkFromToIndex", "(IIILjava/util/function/BiFunction;)I"⟩ : MethodName) jdk_41_method_12_code 4 (some .int) ({ frames := 0, cells := 0, slots := 0, locals := 0 } : Room) h [] #[.int i, .int j, .int n, f] (fun v h' G => v = some (.int i) ∧ h = h') := by
  refine Met.mk (L := #[.val (.int i), .val (.int j), .val (.int n), .val (f)]) (by decide +kernel) (fun m => by rcases ref_cases hf with rfl | ⟨_, rfl⟩ <;> first | (simp [entryFrame, mkF, argsToLocals, Value.category]; done) | rfl) (fun K => ?_)
  show Go _ _ K "jdk/internal/util/Preconditions" "checkFromToIndex" _ _ _ _ _ _ _ _ _ 0 _ _
  refine go_iloadN (v := i) (q := 1) d17_0 rfl rfl ?_
  refine go_ifN (q := 4) d17_1 h0 rfl ?_
  refine go_iloadN (v := i) (q := 5) d17_4 rfl rfl ?_
  refine go_iloadN (v := j) (q := 6) d17_5 rfl rfl ?_
  refine go_icN (q := 9) d17_6 h1 rfl ?_
  refine go_iloadN (v := j) (q := 10) d17_9 rfl rfl ?_
  refine go_iloadN (v := n) (q := 11) d17_10 rfl rfl ?_
  refine go_icY (q := 22) d17_11 h2 (by decide) (by decide) ?_
  refine go_iloadN (v := i) (q := 23) d17_22 rfl rfl ?_
  exact go_ireturn H (G := []) (t := .int) rfl (by decide) rfl d17_23 (by decide) (by decide) (fun _ q => nomatch q) ⟨rfl, rfl⟩
set_option maxRecDepth 65536 in
set_option maxHeartbeats 4000000 in
theorem rm_cb {l : Launch} {Z : State} {a0 : Array Value} (H : Wd Z a0) {h : Heap} {i j n : Int32} (h0 : ¬ i < 0) (h1 : ¬ j < i) (h2 : ¬ n < j) : Met l Z (⟨"java/lang/String", "checkBoundsBeginEnd", "(III)V"⟩ : MethodName) jdk_42_method_158_code 3 none ({ frames := 1, cells := 0, slots := 0, locals := 15 } : Room) h [] #[.int i, .int j, .int n] (fun v h' G => v = none ∧ h = h') := by
  refine Met.mk (L := #[.val (.int i), .val (.int j), .val (.int n)]) (by decide +kernel) (fun m => by first | (simp [entryFrame, mkF, argsToLocals, Value.category]; done) | rfl) (fun K => ?_)
  show Go _ _ K "java/lang/String" "checkBoundsBeginEnd" _ _ _ _ _ _ _ _ _ 0 _ _
  obtain ⟨fm, Sf, rf⟩ := H.2.2.2.2.1
  refine go_iloadN (v := i) (q := 1) d16_0 rfl rfl ?_
  refine go_iloadN (v := j) (q := 2) d16_1 rfl rfl ?_
  refine go_iloadN (v := n) (q := 3) d16_2 rfl rfl ?_
  refine go_getstatic (v := fm) (q := 6) (w_100 H) Via.refl Sf d16_3 rfl ?_
  refine go_static (c' := 0) (s' := 0) (q := 9) (S := []) (argsL := [.int i, .int j, .int n, fm]) H (w_102 H) (w_103 H) (w_101 H) (w_104 H) (by decide) (rm_ft H rf h0 h1 h2) rfl rfl (lenOf pd_28 rfl) (fun _ q => nomatch q) rfl (by decide) (Nat.le_of_ble_eq_true rfl) rfl rfl (by decide) (by decide) d16_6 rfl ?_
  rintro _ _ G - ⟨rfl, rfl⟩
  refine nx_ (v := none) ?_
  show Go _ _ _ _ _ _ _ _ _ _ _ _ _ _ 9 #[.val (.int i), .val (.int j), .val (.int n)] [.int i]
  refine go_pop (q := 10) d16_9 rfl rfl ?_
  exact go_return H (G := []) rfl d16_10 (by decide) (by decide) (fun _ q => nomatch q) ⟨rfl, rfl⟩
set_option maxRecDepth 65536 in
set_option maxHeartbeats 4000000 in
theorem rm_sub2 {l : Launch} {Z : State} {a0 : Array Value} (H : Wd Z a0) {h : Heap} {F : List Addr} {a : Addr} (S : Str Z h F a []) : Met l Z (⟨"java/lang/String", "substring", "(II)Ljava/lang/String;"⟩ : MethodName) jdk_42_method_92_code 5 (some (.object "java/lang/String")) ({ frames := 2, cells := 0, slots := 0, locals := 29 } : Room) h [] #[.ref a, .int 0, .int 0] (fun v h' G => v = some (.ref a) ∧ h = h') := by
  refine Met.mk (L := #[.val (.ref a), .val (.int 0), .val (.int 0), .unset, .unset]) (by decide +kernel) (fun m => by first | (simp [entryFrame, mkF, argsToLocals, Value.category]; done) | rfl) (fun K => ?_)
  show Go _ _ K "java/lang/String" "substring" _ _ _ _ _ _ _ _ _ 0 _ _
  refine go_aloadN (v := .ref a) (q := 1) d13_0 rfl rfl rfl ?_
  refine go_virtual (c' := 0) (s' := 0) (q := 4) (S := []) (argsL := []) H (C := "java/lang/String") (w_87 H) (w_88 H) (nf_self (w_90 H)) (w_90 H) (w_89 H) (w_6 H) (w_91 H) (by decide) S.exa (rm_len H S) rfl rfl (lenOf pd_6 rfl) (fun _ q => nomatch q) rfl (by decide) (Nat.le_of_ble_eq_true rfl) rfl rfl (by decide) (by decide) d13_1 rfl ?_
  rintro _ _ G - ⟨rfl, rfl⟩
  refine nx_ (v := none) ?_
  show Go _ _ _ _ _ _ _ _ _ _ _ _ _ _ 4 #[.val (.ref a), .val (.int 0), .val (.int 0), .unset, .unset] [.int (0 : Int32)]
  refine go_istoreN (L' := #[.val (.ref a), .val (.int 0), .val (.int 0), .val (.int (0 : Int32)), .unset]) (q := 5) d13_4 rfl rfl ?_
  refine go_iloadN (v := 0) (q := 6) d13_5 rfl rfl ?_
  refine go_iloadN (v := 0) (q := 7) d13_6 rfl rfl ?_
  refine go_iloadN (v := (0 : Int32)) (q := 8) d13_7 rfl rfl ?_
  refine go_static (c' := 0) (s' := 0) (q := 11) (S := []) (argsL := [.int 0, .int 0, .int (0 : Int32)]) H (w_97 H) (w_98 H) (w_6 H) (w_99 H) (by decide) (rm_cb H (by decide) (by decide) (by decide)) rfl rfl (lenOf pd_29 rfl) (fun _ q => nomatch q) rfl (by decide) (Nat.le_of_ble_eq_true rfl) rfl rfl (by decide) (by decide) d13_8 rfl ?_
  rintro _ _ G - ⟨rfl, rfl⟩
  refine nx_ (v := none) ?_
  show Go _ _ _ _ _ _ _ _ _ _ _ _ _ _ 11 #[.val (.ref a), .val (.int 0), .val (.int 0), .val (.int (0 : Int32)), .unset] []
  refine go_iloadN (v := 0) (q := 12) d13_11 rfl rfl ?_
  refine go_ifN (q := 15) d13_12 (by decide) rfl ?_
  refine go_iloadN (v := 0) (q := 16) d13_15 rfl rfl ?_
  refine go_iloadN (v := (0 : Int32)) (q := 17) d13_16 rfl rfl ?_
  refine go_icN (q := 20) d13_17 (by decide) rfl ?_
  refine go_aloadN (v := .ref a) (q := 21) d13_20 rfl rfl rfl ?_
  exact go_areturn H (G := []) (t := (.object "java/lang/String")) rfl rfl rfl d13_21 (by decide) (by decide) (fun _ q => nomatch q) ⟨rfl, rfl⟩
set_option maxRecDepth 65536 in
set_option maxHeartbeats 4000000 in
theorem rm_sub1 {l : Launch} {Z : State} {a0 : Array Value} (H : Wd Z a0) {h : Heap} {F : List Addr} {a : Addr} (S : Str Z h F a []) : Met l Z (⟨"java/lang/String", "substring", "(I)Ljava/lang/String;"⟩ : MethodName) jdk_42_method_91_code 2 (some (.object "java/lang/String")) ({ frames := 3, cells := 0, slots := 0, locals := 45 } : Room) h [] #[.ref a, .int 0] (fun v h' G => v = some (.ref a) ∧ h = h') := by
  refine Met.mk (L := #[.val (.ref a), .val (.int 0)]) (by decide +kernel) (fun m => by first | (simp [entryFrame, mkF, argsToLocals, Value.category]; done) | rfl) (fun K => ?_)
  show Go _ _ K "java/lang/String" "substring" _ _ _ _ _ _ _ _ _ 0 _ _
  refine go_aloadN (v := .ref a) (q := 1) d24_0 rfl rfl rfl ?_
  refine go_iloadN (v := 0) (q := 2) d24_1 rfl rfl ?_
  refine go_aloadN (v := .ref a) (q := 3) d24_2 rfl rfl rfl ?_
  refine go_virtual (c' := 0) (s' := 0) (q := 6) (S := [.int 0, .ref a]) (argsL := []) H (C := "java/lang/String") (w_87 H) (w_88 H) (nf_self (w_90 H)) (w_90 H) (w_89 H) (w_6 H) (w_91 H) (by decide) S.exa (rm_len H S) rfl rfl (lenOf pd_6 rfl) (fun _ q => nomatch q) rfl (by decide) (Nat.le_of_ble_eq_true rfl) rfl rfl (by decide) (by decide) d24_3 rfl ?_
  rintro _ _ G - ⟨rfl, rfl⟩
  refine nx_ (v := none) ?_
  show Go _ _ _ _ _ _ _ _ _ _ _ _ _ _ 6 #[.val (.ref a), .val (.int 0)] [.int (0 : Int32), .int 0, .ref a]
  refine go_virtual (c' := 0) (s' := 0) (q := 9) (S := []) (argsL := [.int 0, .int (0 : Int32)]) H (C := "java/lang/String") (w_148 H) (w_83 H) (nf_self (w_85 H)) (w_85 H) (w_84 H) (w_6 H) (w_86 H) (by decide) S.exa (rm_sub2 H S) rfl rfl (lenOf pd_2 rfl) (fun _ q => nomatch q) rfl (by decide) (Nat.le_of_ble_eq_true rfl) rfl rfl (by decide) (by decide) d24_6 rfl ?_
  rintro _ _ G - ⟨rfl, rfl⟩
  refine nx_ (v := none) ?_
  show Go _ _ _ _ _ _ _ _ _ _ _ _ _ _ 9 #[.val (.ref a), .val (.int 0)] [.ref a]
  exact go_areturn H (G := []) (t := (.object "java/lang/String")) rfl rfl rfl d24_9 (by decide) (by decide) (fun _ q => nomatch q) ⟨rfl, rfl⟩
set_option maxRecDepth 65536 in
set_option maxHeartbeats 4000000 in
theorem rm_ei {l : Launch} {Z : State} {a0 : Array Value} (H : Wd Z a0) {h : Heap} {e : Addr} (E : Exa Z h e EDN) (T : Fld Z h e EDN "text" "Ljava/lang/String;" .null) (N : Fld Z h e EDN "cursor" "I" (.int 0)) : Met l Z (⟨"motifolio/patterns/memento/Editor", "<init>", "()V"⟩ : MethodName) prog_146_method_1_code 1 none ({ frames := 1, cells := 2, slots := 4, locals := 13 } : Room) h [e] #[.ref e] (fun v h' G => v = none ∧ Keep h h' [e] ∧ ∃ b, Fld Z h' e EDN "text" "Ljava/lang/String;" (.ref b) ∧ Fld Z h' e EDN "cursor" "I" (.int 0) ∧ Str Z h' [e] b []) := by
  refine Met.mk (L := #[.val (.ref e)]) (plainFor_of_name (by first | (simp [plainName, overriddenIn]; done) | decide +kernel)) (fun m => by first | (simp [entryFrame, mkF, argsToLocals, Value.category]; done) | rfl) (fun K => ?_)
  show Go _ _ K "motifolio/patterns/memento/Editor" "<init>" _ _ _ _ _ _ _ _ _ 0 _ _
  have sne : RoadKit.slotOf Z EDN "text" "Ljava/lang/String;" ≠ RoadKit.slotOf Z EDN "cursor" "I" := slot_ne (C := EDN) (Or.inl (w_51 H)) (Or.inl (w_81 H)) (by decide) (t := .object "java/lang/String") (t' := .int) (by decide) (by decide)
  refine go_aloadN (v := .ref e) (q := 1) d8_0 rfl rfl rfl ?_
  refine go_initO (q := 4) (w_48 H) (w_16 H) (w_17 H) rfl d8_1 rfl (by decide) (Nat.le_of_ble_eq_true rfl) ?_
  refine go_aloadN (v := .ref e) (q := 5) d8_4 rfl rfl rfl ?_
  refine go_lit (cs := []) (n := 0) (c' := 2) (s' := 4) (q := 7) H (w_49 H) (by decide) (by decide) (by decide) (by decide) (by decide) d8_5 (by decide) (by decide) rfl rfl rfl (by decide) (by decide) ?_
  intro h1 b E1 S1
  refine go_putfield (q := 10) (w_50 H) Via.refl (T.ext E1) (E.ext E1) (Or.inl (w_51 H)) (w_43 H) (ty := (.object "java/lang/String")) (by decide) rfl rfl (by simp) d8_7 rfl ?_
  intro h2 W2
  exact go_return H (G := []) rfl d8_10 (by decide) (by decide) (fun _ q => nomatch q) ⟨rfl, ((Keep.refl h [e]).ext E1).wr W2 (Or.inl (by simp)), b, (T.ext E1).same W2, (N.ext E1).other W2 (Or.inr sne.symm), S1.keep (Keep.of_wr W2) (by simp)⟩
set_option maxRecDepth 65536 in
set_option maxHeartbeats 4000000 in
theorem rm_ty {l : Launch} {Z : State} {a0 : Array Value} (H : Wd Z a0) {h : Heap} {e a b : Addr} {cs : List Int32} (E : Exa Z h e EDN) (T : Fld Z h e EDN "text" "Ljava/lang/String;" (.ref b)) (N : Fld Z h e EDN "cursor" "I" (.int 0)) (S0 : Str Z h [e] b []) (S : Str Z h [e] a cs) (hc : cs.length ≤ 3) : Met l Z (⟨"motifolio/patterns/memento/Editor", "type", "(Ljava/lang/String;)V"⟩ : MethodName) prog_146_method_4_code 2 none ({ frames := 6, cells := 6, slots := 64, locals := 125 } : Room) h [e] #[.ref e, .ref a] (fun v h' G => v = none ∧ Keep h h' [e] ∧ ∃ r, Fld Z h' e EDN "text" "Ljava/lang/String;" (.ref r) ∧ Fld Z h' e EDN "cursor" "I" (.int (Int32.ofNat cs.length)) ∧ Str Z h' [e] r cs) := by
  refine Met.mk (L := #[.val (.ref e), .val (.ref a)]) (plainFor_of_name (by first | (simp [plainName, overriddenIn]; done) | decide +kernel)) (fun m => by first | (simp [entryFrame, mkF, argsToLocals, Value.category]; done) | rfl) (fun K => ?_)
  show Go _ _ K "motifolio/patterns/memento/Editor" "type" _ _ _ _ _ _ _ _ _ 0 _ _
  have sne : RoadKit.slotOf Z EDN "text" "Ljava/lang/String;" ≠ RoadKit.slotOf Z EDN "cursor" "I" := slot_ne (C := EDN) (Or.inl (w_51 H)) (Or.inl (w_81 H)) (by decide) (t := .object "java/lang/String") (t' := .int) (by decide) (by decide)
  have Ka : Keep h h [] := Keep.refl _ _
  refine go_aloadN (v := .ref a) (q := 1) d9_0 rfl rfl rfl ?_
  refine go_lit (cs := [116, 121, 112, 101, 100]) (n := 20) (c' := 2) (s' := 24) (q := 3) H (w_57 H) (by decide) (by decide) (by decide) (by decide) (by decide) d9_1 (by decide) (by decide) rfl rfl rfl (by decide) (by decide) ?_
  intro h0 m0 E0 Sm
  have Ka : Keep h h0 [] := Ka.ext E0
  have S := S.ext E0
  have S0 := S0.ext E0
  refine go_static (c' := 2) (s' := 24) (q := 6) (S := []) (argsL := [.ref a, .ref m0]) H (w_58 H) (w_59 H) (w_60 H) (w_61 H) (by decide) (rm_rnn H) rfl rfl (lenOf pd_0 rfl) (fun _ q => nomatch q) rfl (by decide) (Nat.le_of_ble_eq_true rfl) rfl rfl (by decide) (by decide) d9_3 rfl ?_
  rintro _ _ G - ⟨rfl, rfl⟩
  refine nx_ (v := none) ?_
  show Go _ _ _ _ _ _ _ _ _ _ _ _ _ _ 6 #[.val (.ref e), .val (.ref a)] [.ref a]
  refine go_pop (q := 7) d9_6 rfl rfl ?_
  refine go_aloadN (v := .ref e) (q := 8) d9_7 rfl rfl rfl ?_
  have Kn : Keep h0 h0 [] := Keep.refl _ _
  refine go_new (c' := 3) (s' := 28) (q := 11) (w_62 H) (w_63 H) (w_64 H) d9_8 rfl rfl rfl (by decide) (by decide) ?_
  intro h1 x g1 E1 A1 D1
  have f_Ka_x : h.size ≤ x := by rw [g1]; exact Ka.1
  have f_Kn_x : h0.size ≤ x := by rw [g1]; exact Kn.1
  have Ka : Keep h h1 [] := Ka.ext E1
  have Kn : Keep h0 h1 [] := Kn.ext E1
  have V1 : Fld Z h1 x ABN "value" "[B" .null := D1 (Or.inl (w_77 H)) (ty := .array .byte) (by decide)
  have C1 : Fld Z h1 x ABN "coder" "B" (.int 0) := D1 (Or.inl (w_79 H)) (ty := .byte) (by decide)
  have N1 : Fld Z h1 x ABN "count" "I" (.int 0) := D1 (Or.inl (w_117 H)) (ty := .int) (by decide)
  refine go_dup (q := 12) d9_11 rfl rfl ?_
  refine go_special (c' := 4) (s' := 44) (q := 15) (S := [.ref x, .ref e]) (argsL := []) H rfl (w_65 H) (w_66 H) (w_64 H) (w_67 H) (by decide) (rm_sbI H A1 V1 C1 N1) rfl rfl (lenOf pd_1 rfl) (by intro z hz; simp only [List.mem_cons, List.not_mem_nil, or_false] at hz ⊢; first | exact hz | exact Or.inl hz | (rcases hz with hz | hz <;> simp [hz]; done) | (rcases hz with rfl | rfl <;> simp)) rfl (by decide) (Nat.le_of_ble_eq_true rfl) rfl rfl (by decide) (by decide) d9_12 rfl ?_
  rintro _ h2 G - ⟨v, rfl, rfl, gv, K2, B⟩
  refine ⟨v :: (x :: [e]), (by intro y q; simpa using q), ?_⟩
  have Ka : Keep h h2 [] := kfresh Ka K2 f_Ka_x
  have Kn : Keep h0 h2 [] := kfresh Kn K2 f_Kn_x
  show Go _ _ _ _ _ _ _ _ _ _ _ _ _ _ 15 #[.val (.ref e), .val (.ref a)] [.ref x, .ref e]
  have f_Ka_v : h.size ≤ v := Nat.le_trans (Nat.le_of_lt (Nat.lt_of_le_of_lt f_Ka_x A1.lt)) gv
  have f_Kn_v : h0.size ≤ v := Nat.le_trans (Nat.le_of_lt (Nat.lt_of_le_of_lt f_Kn_x A1.lt)) gv
  have S := ((S).grow (F' := (v :: (x :: [e]))) (by intro y q; rcases List.mem_cons.mp q with rfl | q; exact Or.inr f_Kn_v; rcases List.mem_cons.mp q with rfl | q; exact Or.inr f_Kn_x; exact Or.inl q)).keep0 Kn
  have S0 := ((S0).grow (F' := (v :: (x :: [e]))) (by intro y q; rcases List.mem_cons.mp q with rfl | q; exact Or.inr f_Kn_v; rcases List.mem_cons.mp q with rfl | q; exact Or.inr f_Kn_x; exact Or.inl q)).keep0 Kn
  refine go_aloadN (v := .ref e) (q := 16) d9_15 rfl rfl rfl ?_
  refine go_getfield (v := .ref b) (q := 19) (w_50 H) Via.refl (T.keep Ka nin0) d9_16 rfl ?_
  refine go_iconst (x := (0 : Int32)) (q := 20) d9_19 rfl rfl ?_
  refine go_aloadN (v := .ref e) (q := 21) d9_20 rfl rfl rfl ?_
  refine go_getfield (v := .int 0) (q := 24) (w_80 H) Via.refl (N.keep Ka nin0) d9_21 rfl ?_
  refine go_virtual (c' := 4) (s' := 44) (q := 27) (S := [.ref x, .ref e]) (argsL := [.int (0 : Int32), .int 0]) H (C := "java/lang/String") (w_82 H) (w_83 H) (nf_self (w_85 H)) (w_85 H) (w_84 H) (w_6 H) (w_86 H) (by decide) S0.exa (rm_sub2 H S0) rfl rfl (lenOf pd_2 rfl) (fun _ q => nomatch q) rfl (by decide) (Nat.le_of_ble_eq_true rfl) rfl rfl (by decide) (by decide) d9_24 rfl ?_
  rintro _ _ G - ⟨rfl, rfl⟩
  refine nx_ (v := none) ?_
  show Go _ _ _ _ _ _ _ _ _ _ _ _ _ _ 27 #[.val (.ref e), .val (.ref a)] [.ref b, .ref x, .ref e]
  refine go_virtual (c' := 4) (s' := 44) (q := 30) (S := [.ref e]) (argsL := [.ref b]) H (C := "java/lang/StringBuilder") (w_105 H) (w_106 H) (nf_self (w_108 H)) (w_108 H) (w_107 H) (w_64 H) (w_109 H) (by decide) B.exa (rm_app H S0 B (by simp <;> omega)) rfl rfl (lenOf pd_3 rfl) (by intro z hz; simp only [List.mem_cons, List.not_mem_nil, or_false] at hz ⊢; first | exact hz | exact Or.inl hz | (rcases hz with hz | hz <;> simp [hz]; done) | (rcases hz with rfl | rfl <;> simp)) rfl (by decide) (Nat.le_of_ble_eq_true rfl) rfl rfl (by decide) (by decide) d9_27 rfl ?_
  rintro _ ha0 G - ⟨rfl, Ka0, Bn⟩
  refine nx_ (v := none) ?_
  show Go _ _ _ _ _ _ _ _ _ _ _ _ _ _ 30 #[.val (.ref e), .val (.ref a)] [.ref x, .ref e]
  have B := Bn
  have Ka : Keep h ha0 [] := Ka.trans Ka0 (by intro y q; simp only [List.mem_cons, List.not_mem_nil, or_false] at q; rcases q with rfl | rfl; exact Or.inr f_Ka_x; exact Or.inr f_Ka_v)
  have Kn : Keep h0 ha0 [] := Kn.trans Ka0 (by intro y q; simp only [List.mem_cons, List.not_mem_nil, or_false] at q; rcases q with rfl | rfl; exact Or.inr f_Kn_x; exact Or.inr f_Kn_v)
  have S := S.keep Ka0 (by intro y q; simp only [List.mem_cons, List.not_mem_nil, or_false] at q ⊢; rcases q with rfl | rfl <;> simp)
  have S0 := S0.keep Ka0 (by intro y q; simp only [List.mem_cons, List.not_mem_nil, or_false] at q ⊢; rcases q with rfl | rfl <;> simp)
  refine go_aloadN (v := .ref a) (q := 31) d9_30 rfl rfl rfl ?_
  refine go_virtual (c' := 4) (s' := 44) (q := 34) (S := [.ref e]) (argsL := [.ref a]) H (C := "java/lang/StringBuilder") (w_105 H) (w_106 H) (nf_self (w_108 H)) (w_108 H) (w_107 H) (w_64 H) (w_109 H) (by decide) B.exa (rm_app H S B (by simp <;> omega)) rfl rfl (lenOf pd_3 rfl) (by intro z hz; simp only [List.mem_cons, List.not_mem_nil, or_false] at hz ⊢; first | exact hz | exact Or.inl hz | (rcases hz with hz | hz <;> simp [hz]; done) | (rcases hz with rfl | rfl <;> simp)) rfl (by decide) (Nat.le_of_ble_eq_true rfl) rfl rfl (by decide) (by decide) d9_31 rfl ?_
  rintro _ ha1 G - ⟨rfl, Ka1, Bn⟩
  refine nx_ (v := none) ?_
  show Go _ _ _ _ _ _ _ _ _ _ _ _ _ _ 34 #[.val (.ref e), .val (.ref a)] [.ref x, .ref e]
  have B := Bn
  have Ka : Keep h ha1 [] := Ka.trans Ka1 (by intro y q; simp only [List.mem_cons, List.not_mem_nil, or_false] at q; rcases q with rfl | rfl; exact Or.inr f_Ka_x; exact Or.inr f_Ka_v)
  have Kn : Keep h0 ha1 [] := Kn.trans Ka1 (by intro y q; simp only [List.mem_cons, List.not_mem_nil, or_false] at q; rcases q with rfl | rfl; exact Or.inr f_Kn_x; exact Or.inr f_Kn_v)
  have S := S.keep Ka1 (by intro y q; simp only [List.mem_cons, List.not_mem_nil, or_false] at q ⊢; rcases q with rfl | rfl <;> simp)
  have S0 := S0.keep Ka1 (by intro y q; simp only [List.mem_cons, List.not_mem_nil, or_false] at q ⊢; rcases q with rfl | rfl <;> simp)
  refine go_aloadN (v := .ref e) (q := 35) d9_34 rfl rfl rfl ?_
  refine go_getfield (v := .ref b) (q := 38) (w_50 H) Via.refl (T.keep Ka nin0) d9_35 rfl ?_
  refine go_aloadN (v := .ref e) (q := 39) d9_38 rfl rfl rfl ?_
  refine go_getfield (v := .int 0) (q := 42) (w_80 H) Via.refl (N.keep Ka nin0) d9_39 rfl ?_
  refine go_virtual (c' := 4) (s' := 44) (q := 45) (S := [.ref x, .ref e]) (argsL := [.int 0]) H (C := "java/lang/String") (w_143 H) (w_144 H) (nf_self (w_146 H)) (w_146 H) (w_145 H) (w_6 H) (w_147 H) (by decide) S0.exa (rm_sub1 H S0) rfl rfl (lenOf pd_4 rfl) (fun _ q => nomatch q) rfl (by decide) (Nat.le_of_ble_eq_true rfl) rfl rfl (by decide) (by decide) d9_42 rfl ?_
  rintro _ _ G - ⟨rfl, rfl⟩
  refine nx_ (v := none) ?_
  show Go _ _ _ _ _ _ _ _ _ _ _ _ _ _ 45 #[.val (.ref e), .val (.ref a)] [.ref b, .ref x, .ref e]
  refine go_virtual (c' := 4) (s' := 44) (q := 48) (S := [.ref e]) (argsL := [.ref b]) H (C := "java/lang/StringBuilder") (w_105 H) (w_106 H) (nf_self (w_108 H)) (w_108 H) (w_107 H) (w_64 H) (w_109 H) (by decide) B.exa (rm_app H S0 B (by simp <;> omega)) rfl rfl (lenOf pd_3 rfl) (by intro z hz; simp only [List.mem_cons, List.not_mem_nil, or_false] at hz ⊢; first | exact hz | exact Or.inl hz | (rcases hz with hz | hz <;> simp [hz]; done) | (rcases hz with rfl | rfl <;> simp)) rfl (by decide) (Nat.le_of_ble_eq_true rfl) rfl rfl (by decide) (by decide) d9_45 rfl ?_
  rintro _ ha2 G - ⟨rfl, Ka2, Bn⟩
  refine nx_ (v := none) ?_
  show Go _ _ _ _ _ _ _ _ _ _ _ _ _ _ 48 #[.val (.ref e), .val (.ref a)] [.ref x, .ref e]
  have B := Bn
  have Ka : Keep h ha2 [] := Ka.trans Ka2 (by intro y q; simp only [List.mem_cons, List.not_mem_nil, or_false] at q; rcases q with rfl | rfl; exact Or.inr f_Ka_x; exact Or.inr f_Ka_v)
  have Kn : Keep h0 ha2 [] := Kn.trans Ka2 (by intro y q; simp only [List.mem_cons, List.not_mem_nil, or_false] at q; rcases q with rfl | rfl; exact Or.inr f_Kn_x; exact Or.inr f_Kn_v)
  have S := S.keep Ka2 (by intro y q; simp only [List.mem_cons, List.not_mem_nil, or_false] at q ⊢; rcases q with rfl | rfl <;> simp)
  have S0 := S0.keep Ka2 (by intro y q; simp only [List.mem_cons, List.not_mem_nil, or_false] at q ⊢; rcases q with rfl | rfl <;> simp)
  refine go_mine fun hM _ => ?_
  refine go_virtual (c' := 6) (s' := 64) (q := 51) (S := [.ref e]) (argsL := []) H (C := "java/lang/StringBuilder") (w_149 H) (w_150 H) (nf_self (w_152 H)) (w_152 H) (w_151 H) (w_64 H) (w_153 H) (by decide) B.exa (rm_toS H (F := [e]) B (by simp <;> omega) (by simp <;> omega) (fun y q => (hM y (by simp at q; simp [q])).2)) rfl rfl (lenOf pd_5 rfl) (by intro y q; simp at q; simp [q]) rfl (by decide) (Nat.le_of_ble_eq_true rfl) rfl rfl (by decide) (by decide) d9_48 rfl ?_
  rintro _ hz G - ⟨r, rfl, Kz, Sz⟩
  refine nx_ (v := none) ?_
  have Ka : Keep h hz [] := Ka.trans Kz (fun _ q => nomatch q)
  have Kn : Keep h0 hz [] := Kn.trans Kz (fun _ q => nomatch q)
  have S := S.keep0 Kz
  have S0 := S0.keep0 Kz
  have B := B.keep0 Kz
  show Go _ _ _ _ _ _ _ _ _ _ _ _ _ _ 51 #[.val (.ref e), .val (.ref a)] [.ref r, .ref e]
  have Sz : Str Z hz [e] r cs := by simpa using Sz
  refine go_putfield (q := 54) (w_50 H) Via.refl (T.keep Ka nin0) (E.keep Ka) (Or.inl (w_51 H)) (w_43 H) (ty := (.object "java/lang/String")) (by decide) rfl rfl (by simp) d9_51 rfl ?_
  intro h8 W8
  have S := S.keep (Keep.of_wr W8) (by simp)
  refine go_aloadN (v := .ref e) (q := 55) d9_54 rfl rfl rfl ?_
  refine go_dup (q := 56) d9_55 rfl rfl ?_
  refine go_getfield (v := .int 0) (q := 59) (w_80 H) Via.refl ((N.keep Ka nin0).other W8 (Or.inr sne.symm)) d9_56 rfl ?_
  refine go_aloadN (v := .ref a) (q := 60) d9_59 rfl rfl rfl ?_
  refine go_virtual (c' := 6) (s' := 64) (q := 63) (S := [.int 0, .ref e]) (argsL := []) H (C := "java/lang/String") (w_194 H) (w_88 H) (nf_self (w_90 H)) (w_90 H) (w_89 H) (w_6 H) (w_91 H) (by decide) S.exa (rm_len H S) rfl rfl (lenOf pd_6 rfl) (fun _ q => nomatch q) rfl (by decide) (Nat.le_of_ble_eq_true rfl) rfl rfl (by decide) (by decide) d9_60 rfl ?_
  rintro _ _ G - ⟨rfl, rfl⟩
  refine nx_ (v := none) ?_
  show Go _ _ _ _ _ _ _ _ _ _ _ _ _ _ 63 #[.val (.ref e), .val (.ref a)] [.int (Int32.ofNat cs.length), .int 0, .ref e]
  refine go_iadd (r := (Int32.ofNat cs.length)) (q := 64) d9_63 (Int32.zero_add _) rfl ?_
  refine go_putfield (q := 67) (w_80 H) Via.refl ((N.keep Ka nin0).other W8 (Or.inr sne.symm)) ((E.keep Ka).wr W8) (Or.inl (w_81 H)) (w_43 H) (ty := .int) (by decide) rfl rfl (by simp) d9_64 rfl ?_
  intro h9 W9
  exact go_return H (G := []) rfl d9_67 (by decide) (by decide) (fun _ q => nomatch q) ⟨rfl, ((kless Ka (by simp)).wr W8 (Or.inl (by simp))).wr W9 (Or.inl (by simp)), r, ((T.keep Ka nin0).same W8).other W9 (Or.inr sne), ((N.keep Ka nin0).other W8 (Or.inr sne.symm)).same W9, (Sz.keep (Keep.of_wr W8) (by simp)).keep (Keep.of_wr W9) (by simp)⟩
set_option maxRecDepth 65536 in
set_option maxHeartbeats 4000000 in
theorem rm_mv {l : Launch} {Z : State} {a0 : Array Value} (H : Wd Z a0) {h : Heap} {e b : Addr} {F : List Addr} {cs : List Int32} {p q : Int32} (E : Exa Z h e EDN) (T : Fld Z h e EDN "text" "Ljava/lang/String;" (.ref b)) (N : Fld Z h e EDN "cursor" "I" (.int q)) (S : Str Z h F b cs) (h0 : ¬ p < 0) (h1 : ¬ Int32.ofNat cs.length < p) : Met l Z (⟨"motifolio/patterns/memento/Editor", "moveTo", "(I)V"⟩ : MethodName) prog_146_method_5_code 2 none ({ frames := 2, cells := 0, slots := 0, locals := 26 } : Room) h [e] #[.ref e, .int p] (fun v h' G => v = none ∧ Keep h h' [e] ∧ Fld Z h' e EDN "text" "Ljava/lang/String;" (.ref b) ∧ Fld Z h' e EDN "cursor" "I" (.int p)) := by
  refine Met.mk (L := #[.val (.ref e), .val (.int p)]) (plainFor_of_name (by first | (simp [plainName, overriddenIn]; done) | decide +kernel)) (fun m => by first | (simp [entryFrame, mkF, argsToLocals, Value.category]; done) | rfl) (fun K => ?_)
  show Go _ _ K "motifolio/patterns/memento/Editor" "moveTo" _ _ _ _ _ _ _ _ _ 0 _ _
  have sne : RoadKit.slotOf Z EDN "text" "Ljava/lang/String;" ≠ RoadKit.slotOf Z EDN "cursor" "I" := slot_ne (C := EDN) (Or.inl (w_51 H)) (Or.inl (w_81 H)) (by decide) (t := .object "java/lang/String") (t' := .int) (by decide) (by decide)
  refine go_iloadN (v := p) (q := 1) d36_0 rfl rfl ?_
  refine go_ifN (q := 4) d36_1 h0 rfl ?_
  refine go_iloadN (v := p) (q := 5) d36_4 rfl rfl ?_
  refine go_aloadN (v := .ref e) (q := 6) d36_5 rfl rfl rfl ?_
  refine go_getfield (v := .ref b) (q := 9) (w_50 H) Via.refl T d36_6 rfl ?_
  refine go_virtual (c' := 0) (s' := 0) (q := 12) (S := [.int p]) (argsL := []) H (C := "java/lang/String") (w_194 H) (w_88 H) (nf_self (w_90 H)) (w_90 H) (w_89 H) (w_6 H) (w_91 H) (by decide) S.exa (rm_len H S) rfl rfl (lenOf pd_6 rfl) (fun _ q => nomatch q) rfl (by decide) (Nat.le_of_ble_eq_true rfl) rfl rfl (by decide) (by decide) d36_9 rfl ?_
  rintro _ _ G - ⟨rfl, rfl⟩
  refine nx_ (v := none) ?_
  show Go _ _ _ _ _ _ _ _ _ _ _ _ _ _ 12 #[.val (.ref e), .val (.int p)] [.int (Int32.ofNat cs.length), .int p]
  refine go_icY (q := 62) d36_12 h1 (by decide) (by decide) ?_
  refine go_aloadN (v := .ref e) (q := 63) d36_62 rfl rfl rfl ?_
  refine go_iloadN (v := p) (q := 64) d36_63 rfl rfl ?_
  refine go_putfield (q := 67) (w_80 H) Via.refl N E (Or.inl (w_81 H)) (w_43 H) (ty := .int) (by decide) rfl rfl (by simp) d36_64 rfl ?_
  intro h2 W2
  exact go_return H (G := []) rfl d36_67 (by decide) (by decide) (fun _ q => nomatch q) ⟨rfl, Keep.of_wr W2, T.other W2 (Or.inr sne), N.same W2⟩
set_option maxRecDepth 65536 in
set_option maxHeartbeats 4000000 in
theorem rm_clr {l : Launch} {Z : State} {a0 : Array Value} (H : Wd Z a0) {h : Heap} {e b : Addr} {q : Int32} (E : Exa Z h e EDN) (T : Fld Z h e EDN "text" "Ljava/lang/String;" (.ref b)) (N : Fld Z h e EDN "cursor" "I" (.int q)) : Met l Z (⟨"motifolio/patterns/memento/Editor", "clear", "()V"⟩ : MethodName) prog_146_method_6_code 1 none ({ frames := 0, cells := 2, slots := 4, locals := 0 } : Room) h [e] #[.ref e] (fun v h' G => v = none ∧ Keep h h' [e] ∧ ∃ r, Fld Z h' e EDN "text" "Ljava/lang/String;" (.ref r) ∧ Fld Z h' e EDN "cursor" "I" (.int 0) ∧ Str Z h' [e] r []) := by
  refine Met.mk (L := #[.val (.ref e)]) (plainFor_of_name (by first | (simp [plainName, overriddenIn]; done) | decide +kernel)) (fun m => by first | (simp [entryFrame, mkF, argsToLocals, Value.category]; done) | rfl) (fun K => ?_)
  show Go _ _ K "motifolio/patterns/memento/Editor" "clear" _ _ _ _ _ _ _ _ _ 0 _ _
  have sne : RoadKit.slotOf Z EDN "text" "Ljava/lang/String;" ≠ RoadKit.slotOf Z EDN "cursor" "I" := slot_ne (C := EDN) (Or.inl (w_51 H)) (Or.inl (w_81 H)) (by decide) (t := .object "java/lang/String") (t' := .int) (by decide) (by decide)
  refine go_aloadN (v := .ref e) (q := 1) d37_0 rfl rfl rfl ?_
  refine go_lit (cs := []) (n := 0) (c' := 2) (s' := 4) (q := 3) H (w_49 H) (by decide) (by decide) (by decide) (by decide) (by decide) d37_1 (by decide) (by decide) rfl rfl rfl (by decide) (by decide) ?_
  intro h1 r E1 S1
  refine go_putfield (q := 6) (w_50 H) Via.refl (T.ext E1) (E.ext E1) (Or.inl (w_51 H)) (w_43 H) (ty := (.object "java/lang/String")) (by decide) rfl rfl (by simp) d37_3 rfl ?_
  intro h2 W2
  refine go_aloadN (v := .ref e) (q := 7) d37_6 rfl rfl rfl ?_
  refine go_iconst (x := (0 : Int32)) (q := 8) d37_7 rfl rfl ?_
  refine go_putfield (q := 11) (w_80 H) Via.refl ((N.ext E1).other W2 (Or.inr sne.symm)) ((E.ext E1).wr W2) (Or.inl (w_81 H)) (w_43 H) (ty := .int) (by decide) rfl rfl (by simp) d37_8 rfl ?_
  intro h3 W3
  exact go_return H (G := []) rfl d37_11 (by decide) (by decide) (fun _ q => nomatch q) ⟨rfl, (((Keep.refl h [e]).ext E1).wr W2 (Or.inl (by simp))).wr W3 (Or.inl (by simp)), r, ((T.ext E1).same W2).other W3 (Or.inr sne), ((N.ext E1).other W2 (Or.inr sne.symm)).same W3, (S1.keep (Keep.of_wr W2) (by simp)).keep (Keep.of_wr W3) (by simp)⟩
set_option maxRecDepth 65536 in
set_option maxHeartbeats 4000000 in
theorem rm_gt {l : Launch} {Z : State} {a0 : Array Value} (H : Wd Z a0) {h : Heap} {x : Addr} {v : Value} (Fv : Fld Z h x "motifolio/patterns/memento/Editor" "text" "Ljava/lang/String;" v) (hv : v.isRef = true) : Met l Z (⟨"motifolio/patterns/memento/Editor", "text", "()Ljava/lang/String;"⟩ : MethodName) prog_146_method_2_code 1 (some (.object "java/lang/String")) ({ frames := 0, cells := 0, slots := 0, locals := 0 } : Room) h [] #[.ref x] (fun u h' G => u = some v ∧ h = h') := by
  refine Met.mk (L := #[.val (.ref x)]) (plainFor_of_name (by first | (simp [plainName, overriddenIn]; done) | decide +kernel)) (fun m => by first | (simp [entryFrame, mkF, argsToLocals, Value.category]; done) | rfl) (fun K => ?_)
  show Go _ _ K "motifolio/patterns/memento/Editor" "text" _ _ _ _ _ _ _ _ _ 0 _ _
  refine go_aloadN (v := .ref x) (q := 1) d38_0 rfl rfl rfl ?_
  refine go_getfield (v := v) (q := 4) (w_50 H) Via.refl Fv d38_1 rfl ?_
  exact go_areturn H (G := []) (t := (.object "java/lang/String")) rfl rfl hv d38_4 (by decide) (by decide) (fun _ q => nomatch q) ⟨rfl, rfl⟩
set_option maxRecDepth 65536 in
set_option maxHeartbeats 4000000 in
theorem rm_gc {l : Launch} {Z : State} {a0 : Array Value} (H : Wd Z a0) {h : Heap} {x : Addr} {v : Int32} (Fv : Fld Z h x "motifolio/patterns/memento/Editor" "cursor" "I" (.int v)) (hv : narrow .int (.int v) = .int v) : Met l Z (⟨"motifolio/patterns/memento/Editor", "cursor", "()I"⟩ : MethodName) prog_146_method_3_code 1 (some .int) ({ frames := 0, cells := 0, slots := 0, locals := 0 } : Room) h [] #[.ref x] (fun u h' G => u = some (.int v) ∧ h = h') := by
  refine Met.mk (L := #[.val (.ref x)]) (plainFor_of_name (by first | (simp [plainName, overriddenIn]; done) | decide +kernel)) (fun m => by first | (simp [entryFrame, mkF, argsToLocals, Value.category]; done) | rfl) (fun K => ?_)
  show Go _ _ K "motifolio/patterns/memento/Editor" "cursor" _ _ _ _ _ _ _ _ _ 0 _ _
  refine go_aloadN (v := .ref x) (q := 1) d39_0 rfl rfl rfl ?_
  refine go_getfield (v := .int v) (q := 4) (w_80 H) Via.refl Fv d39_1 rfl ?_
  exact go_ireturn H (G := []) (t := .int) rfl (by decide) hv d39_4 (by decide) (by decide) (fun _ q => nomatch q) ⟨rfl, rfl⟩
set_option maxRecDepth 65536 in
set_option maxHeartbeats 4000000 in
theorem rm_draw {l : Launch} {Z : State} {a0 : Array Value} (H : Wd Z a0) {h : Heap} {F : List Addr} {n a b c : Int32} {cs : List Int32} (D : Dr n a b c cs) (pa : ¬ a < 0 ∧ ¬ 255 < a) (pb : ¬ b < 0 ∧ ¬ 255 < b) (pc : ¬ c < 0 ∧ ¬ 255 < c) (hFl : ∀ x ∈ F, x < h.size) : Met l Z (⟨"motifolio/patterns/memento/EditorClearPinLaw", "drawn", "(ICCC)Ljava/lang/String;"⟩ : MethodName) method_2_code 4 (some (.object "java/lang/String")) ({ frames := 4, cells := 6, slots := 23, locals := 66 } : Room) h F #[.int n, .int a, .int b, .int c] (fun v h' G => ∃ a, v = some (.ref a) ∧ Keep h h' [] ∧ Str Z h' F a cs) := by
  refine Met.mk (L := #[.val (.int n), .val (.int a), .val (.int b), .val (.int c)]) (plainFor_of_name (by first | (simp [plainName, overriddenIn]; done) | decide +kernel)) (fun m => by first | (simp [entryFrame, mkF, argsToLocals, Value.category]; done) | rfl) (fun K => ?_)
  show Go _ _ K "motifolio/patterns/memento/EditorClearPinLaw" "drawn" _ _ _ _ _ _ _ _ _ 0 _ _
  have Ka : Keep h h [] := Keep.refl _ _
  rcases D with ⟨rfl, rfl⟩ | ⟨rfl, rfl⟩ | ⟨rfl, rfl⟩ | ⟨rfl, rfl⟩
  · refine go_iloadN (v := (0 : Int32)) (q := 1) d0_0 rfl rfl ?_
    refine go_ifN (q := 4) d0_1 (by decide) rfl ?_
    refine go_new (c' := 1) (s' := 4) (q := 7) (w_4 H) (w_5 H) (w_6 H) d0_4 rfl rfl rfl (by decide) (by decide) ?_
    intro h1 x g1 E1 A1 D1
    have f_Ka_x : h.size ≤ x := by rw [g1]; exact Ka.1
    have Ka : Keep h h1 [] := Ka.ext E1
    have C1 : Fld Z h1 x ST "coder" "B" (.int 0) := D1 (Or.inr (w_21 H)) (ty := .byte) (by decide)
    have V1 : Fld Z h1 x ST "value" "[B" .null := D1 (Or.inr (w_20 H)) (ty := .array .byte) (by decide)
    have Kb : Keep h1 h1 [] := Keep.refl _ _
    refine go_dup (q := 8) d0_7 rfl rfl ?_
    refine go_iconst (x := (0 : Int32)) (q := 9) d0_8 rfl rfl ?_
    refine go_newarray (ty := .char) (dv := .int 0) (n := 0) (cap := 0) (ad := "[C") (c' := 2) (s' := 4) (q := 11) rfl rfl (by decide) (w_7 H) d0_9 (by decide) (by decide) (by decide) rfl rfl rfl rfl (by decide) (by decide) ?_
    intro h2 y k g2 E2 W2 X2
    have f_Ka_y : h.size ≤ y := by rw [g2]; exact Ka.1
    have f_Kb_y : h1.size ≤ y := by rw [g2]; exact Kb.1
    have Ka : Keep h h2 [] := Ka.ext E2
    have Kb : Keep h1 h2 [] := Kb.ext E2
    have W2 : Arv Z h2 y k .char (0 : Int32) [] (.int 0) := W2
    have Lt : Lat [] := ⟨Nat.le_of_ble_eq_true rfl, (by intro c hc; simp only [List.mem_cons, List.not_mem_nil, or_false] at hc)⟩
    refine go_mine fun hM _ => ?_
    have nF : x ∉ F := fun q => absurd (hFl x q) (Nat.not_lt.mpr f_Ka_x)
    refine go_special (c' := 6) (s' := 20) (q := 14) (S := [.ref x]) (argsL := [.ref y]) H rfl (w_8 H) (w_9 H) (w_6 H) (w_10 H) (by decide) (rm_new1 H (cs := []) (F := F) (A1.keep Kb) (C1.keep Kb nin0) (V1.keep Kb nin0) W2 Lt (Nat.le_of_ble_eq_true rfl) nF) rfl rfl (lenOf pd_30 rfl) (by intro z hz; simp only [List.mem_cons, List.not_mem_nil, or_false] at hz ⊢; first | exact hz | exact Or.inl hz | (rcases hz with hz | hz <;> simp [hz]; done) | (rcases hz with rfl | rfl <;> simp)) rfl (by decide) (Nat.le_of_ble_eq_true rfl) rfl rfl (by decide) (by decide) d0_11 rfl ?_
    rintro _ hz G - ⟨rfl, Kc, S⟩
    refine nx_ (v := none) ?_
    have Ka : Keep h hz [] := kfresh Ka Kc f_Ka_x
    show Go _ _ _ _ _ _ _ _ _ _ _ _ _ _ 14 #[.val (.int (0 : Int32)), .val (.int a), .val (.int b), .val (.int c)] [.ref x]
    refine go_less (F' := F) (by intro y hy; simp [hy]) (Nat.le_refl _) (Nat.le_refl _) ?_
    exact go_areturn H (G := []) (t := (.object "java/lang/String")) rfl rfl rfl d0_14 (by decide) (by decide) (fun _ q => nomatch q) ⟨x, rfl, Ka, S⟩
  · refine go_iloadN (v := (1 : Int32)) (q := 1) d0_0 rfl rfl ?_
    refine go_ifY (q := 15) d0_1 (by decide) (by decide) (by decide) ?_
    refine go_iloadN (v := (1 : Int32)) (q := 16) d0_15 rfl rfl ?_
    refine go_iconst (x := (1 : Int32)) (q := 17) d0_16 rfl rfl ?_
    refine go_icN (q := 20) d0_17 (by decide) rfl ?_
    refine go_new (c' := 1) (s' := 4) (q := 23) (w_4 H) (w_5 H) (w_6 H) d0_20 rfl rfl rfl (by decide) (by decide) ?_
    intro h1 x g1 E1 A1 D1
    have f_Ka_x : h.size ≤ x := by rw [g1]; exact Ka.1
    have Ka : Keep h h1 [] := Ka.ext E1
    have C1 : Fld Z h1 x ST "coder" "B" (.int 0) := D1 (Or.inr (w_21 H)) (ty := .byte) (by decide)
    have V1 : Fld Z h1 x ST "value" "[B" .null := D1 (Or.inr (w_20 H)) (ty := .array .byte) (by decide)
    have Kb : Keep h1 h1 [] := Keep.refl _ _
    refine go_dup (q := 24) d0_23 rfl rfl ?_
    refine go_iconst (x := (1 : Int32)) (q := 25) d0_24 rfl rfl ?_
    refine go_newarray (ty := .char) (dv := .int 0) (n := 1) (cap := 1) (ad := "[C") (c' := 2) (s' := 5) (q := 27) rfl rfl (by decide) (w_7 H) d0_25 (by decide) (by decide) (by decide) rfl rfl rfl rfl (by decide) (by decide) ?_
    intro h2 y k g2 E2 W2 X2
    have f_Ka_y : h.size ≤ y := by rw [g2]; exact Ka.1
    have f_Kb_y : h1.size ≤ y := by rw [g2]; exact Kb.1
    have Ka : Keep h h2 [] := Ka.ext E2
    have Kb : Keep h1 h2 [] := Kb.ext E2
    have W2 : Arv Z h2 y k .char (1 : Int32) [.int 0] (.int 0) := W2
    refine go_dup (q := 28) d0_27 rfl rfl ?_
    refine go_iconst (x := (0 : Int32)) (q := 29) d0_28 rfl rfl ?_
    refine go_iloadN (v := a) (q := 30) d0_29 rfl rfl ?_
    refine go_castore (i := 0) (y := a) (q := 31) W2 (by decide) rfl (Nat.le_of_ble_eq_true rfl) (by simp) (nar_char (pa).1 (pa).2) d0_30 rfl ?_
    intro h3 K3 z3 W3
    have Ka : Keep h h3 [] := kfresh Ka K3 f_Ka_y
    have Kb : Keep h1 h3 [] := kfresh Kb K3 f_Kb_y
    have W3 : Arv Z h3 y k .char (1 : Int32) [.int a] (.int 0) := W3
    have Lt : Lat [a] := ⟨Nat.le_of_ble_eq_true rfl, (by intro c hc; simp only [List.mem_cons, List.not_mem_nil, or_false] at hc; subst hc; exact pa)⟩
    refine go_mine fun hM _ => ?_
    have nF : x ∉ F := fun q => absurd (hFl x q) (Nat.not_lt.mpr f_Ka_x)
    refine go_special (c' := 6) (s' := 21) (q := 34) (S := [.ref x]) (argsL := [.ref y]) H rfl (w_8 H) (w_9 H) (w_6 H) (w_10 H) (by decide) (rm_new1 H (cs := [a]) (F := F) (A1.keep Kb) (C1.keep Kb nin0) (V1.keep Kb nin0) W3 Lt (Nat.le_of_ble_eq_true rfl) nF) rfl rfl (lenOf pd_30 rfl) (by intro z hz; simp only [List.mem_cons, List.not_mem_nil, or_false] at hz ⊢; first | exact hz | exact Or.inl hz | (rcases hz with hz | hz <;> simp [hz]; done) | (rcases hz with rfl | rfl <;> simp)) rfl (by decide) (Nat.le_of_ble_eq_true rfl) rfl rfl (by decide) (by decide) d0_31 rfl ?_
    rintro _ hz G - ⟨rfl, Kc, S⟩
    refine nx_ (v := none) ?_
    have Ka : Keep h hz [] := kfresh Ka Kc f_Ka_x
    show Go _ _ _ _ _ _ _ _ _ _ _ _ _ _ 34 #[.val (.int (1 : Int32)), .val (.int a), .val (.int b), .val (.int c)] [.ref x]
    refine go_less (F' := F) (by intro y hy; simp [hy]) (Nat.le_refl _) (Nat.le_refl _) ?_
    exact go_areturn H (G := []) (t := (.object "java/lang/String")) rfl rfl rfl d0_34 (by decide) (by decide) (fun _ q => nomatch q) ⟨x, rfl, Ka, S⟩
  · refine go_iloadN (v := (2 : Int32)) (q := 1) d0_0 rfl rfl ?_
    refine go_ifY (q := 15) d0_1 (by decide) (by decide) (by decide) ?_
    refine go_iloadN (v := (2 : Int32)) (q := 16) d0_15 rfl rfl ?_
    refine go_iconst (x := (1 : Int32)) (q := 17) d0_16 rfl rfl ?_
    refine go_icY (q := 35) d0_17 (by decide) (by decide) (by decide) ?_
    refine go_iloadN (v := (2 : Int32)) (q := 36) d0_35 rfl rfl ?_
    refine go_iconst (x := (2 : Int32)) (q := 37) d0_36 rfl rfl ?_
    refine go_icN (q := 40) d0_37 (by decide) rfl ?_
    refine go_new (c' := 1) (s' := 4) (q := 43) (w_4 H) (w_5 H) (w_6 H) d0_40 rfl rfl rfl (by decide) (by decide) ?_
    intro h1 x g1 E1 A1 D1
    have f_Ka_x : h.size ≤ x := by rw [g1]; exact Ka.1
    have Ka : Keep h h1 [] := Ka.ext E1
    have C1 : Fld Z h1 x ST "coder" "B" (.int 0) := D1 (Or.inr (w_21 H)) (ty := .byte) (by decide)
    have V1 : Fld Z h1 x ST "value" "[B" .null := D1 (Or.inr (w_20 H)) (ty := .array .byte) (by decide)
    have Kb : Keep h1 h1 [] := Keep.refl _ _
    refine go_dup (q := 44) d0_43 rfl rfl ?_
    refine go_iconst (x := (2 : Int32)) (q := 45) d0_44 rfl rfl ?_
    refine go_newarray (ty := .char) (dv := .int 0) (n := 2) (cap := 2) (ad := "[C") (c' := 2) (s' := 6) (q := 47) rfl rfl (by decide) (w_7 H) d0_45 (by decide) (by decide) (by decide) rfl rfl rfl rfl (by decide) (by decide) ?_
    intro h2 y k g2 E2 W2 X2
    have f_Ka_y : h.size ≤ y := by rw [g2]; exact Ka.1
    have f_Kb_y : h1.size ≤ y := by rw [g2]; exact Kb.1
    have Ka : Keep h h2 [] := Ka.ext E2
    have Kb : Keep h1 h2 [] := Kb.ext E2
    have W2 : Arv Z h2 y k .char (2 : Int32) [.int 0, .int 0] (.int 0) := W2
    refine go_dup (q := 48) d0_47 rfl rfl ?_
    refine go_iconst (x := (0 : Int32)) (q := 49) d0_48 rfl rfl ?_
    refine go_iloadN (v := a) (q := 50) d0_49 rfl rfl ?_
    refine go_castore (i := 0) (y := a) (q := 51) W2 (by decide) rfl (Nat.le_of_ble_eq_true rfl) (by simp) (nar_char (pa).1 (pa).2) d0_50 rfl ?_
    intro h3 K3 z3 W3
    have Ka : Keep h h3 [] := kfresh Ka K3 f_Ka_y
    have Kb : Keep h1 h3 [] := kfresh Kb K3 f_Kb_y
    have W3 : Arv Z h3 y k .char (2 : Int32) [.int a, .int 0] (.int 0) := W3
    refine go_dup (q := 52) d0_51 rfl rfl ?_
    refine go_iconst (x := (1 : Int32)) (q := 53) d0_52 rfl rfl ?_
    refine go_iloadN (v := b) (q := 54) d0_53 rfl rfl ?_
    refine go_castore (i := 1) (y := b) (q := 55) W3 (by decide) rfl (Nat.le_of_ble_eq_true rfl) (by simp) (nar_char (pb).1 (pb).2) d0_54 rfl ?_
    intro h4 K4 z4 W4
    have Ka : Keep h h4 [] := kfresh Ka K4 f_Ka_y
    have Kb : Keep h1 h4 [] := kfresh Kb K4 f_Kb_y
    have W4 : Arv Z h4 y k .char (2 : Int32) [.int a, .int b] (.int 0) := W4
    have Lt : Lat [a, b] := ⟨Nat.le_of_ble_eq_true rfl, (by intro c hc; simp only [List.mem_cons, List.not_mem_nil, or_false] at hc; rcases hc with rfl | rfl <;> first | exact pa | exact pb)⟩
    refine go_mine fun hM _ => ?_
    have nF : x ∉ F := fun q => absurd (hFl x q) (Nat.not_lt.mpr f_Ka_x)
    refine go_special (c' := 6) (s' := 22) (q := 58) (S := [.ref x]) (argsL := [.ref y]) H rfl (w_8 H) (w_9 H) (w_6 H) (w_10 H) (by decide) (rm_new1 H (cs := [a, b]) (F := F) (A1.keep Kb) (C1.keep Kb nin0) (V1.keep Kb nin0) W4 Lt (Nat.le_of_ble_eq_true rfl) nF) rfl rfl (lenOf pd_30 rfl) (by intro z hz; simp only [List.mem_cons, List.not_mem_nil, or_false] at hz ⊢; first | exact hz | exact Or.inl hz | (rcases hz with hz | hz <;> simp [hz]; done) | (rcases hz with rfl | rfl <;> simp)) rfl (by decide) (Nat.le_of_ble_eq_true rfl) rfl rfl (by decide) (by decide) d0_55 rfl ?_
    rintro _ hz G - ⟨rfl, Kc, S⟩
    refine nx_ (v := none) ?_
    have Ka : Keep h hz [] := kfresh Ka Kc f_Ka_x
    show Go _ _ _ _ _ _ _ _ _ _ _ _ _ _ 58 #[.val (.int (2 : Int32)), .val (.int a), .val (.int b), .val (.int c)] [.ref x]
    refine go_less (F' := F) (by intro y hy; simp [hy]) (Nat.le_refl _) (Nat.le_refl _) ?_
    exact go_areturn H (G := []) (t := (.object "java/lang/String")) rfl rfl rfl d0_58 (by decide) (by decide) (fun _ q => nomatch q) ⟨x, rfl, Ka, S⟩
  · refine go_iloadN (v := (3 : Int32)) (q := 1) d0_0 rfl rfl ?_
    refine go_ifY (q := 15) d0_1 (by decide) (by decide) (by decide) ?_
    refine go_iloadN (v := (3 : Int32)) (q := 16) d0_15 rfl rfl ?_
    refine go_iconst (x := (1 : Int32)) (q := 17) d0_16 rfl rfl ?_
    refine go_icY (q := 35) d0_17 (by decide) (by decide) (by decide) ?_
    refine go_iloadN (v := (3 : Int32)) (q := 36) d0_35 rfl rfl ?_
    refine go_iconst (x := (2 : Int32)) (q := 37) d0_36 rfl rfl ?_
    refine go_icY (q := 59) d0_37 (by decide) (by decide) (by decide) ?_
    refine go_new (c' := 1) (s' := 4) (q := 62) (w_4 H) (w_5 H) (w_6 H) d0_59 rfl rfl rfl (by decide) (by decide) ?_
    intro h1 x g1 E1 A1 D1
    have f_Ka_x : h.size ≤ x := by rw [g1]; exact Ka.1
    have Ka : Keep h h1 [] := Ka.ext E1
    have C1 : Fld Z h1 x ST "coder" "B" (.int 0) := D1 (Or.inr (w_21 H)) (ty := .byte) (by decide)
    have V1 : Fld Z h1 x ST "value" "[B" .null := D1 (Or.inr (w_20 H)) (ty := .array .byte) (by decide)
    have Kb : Keep h1 h1 [] := Keep.refl _ _
    refine go_dup (q := 63) d0_62 rfl rfl ?_
    refine go_iconst (x := (3 : Int32)) (q := 64) d0_63 rfl rfl ?_
    refine go_newarray (ty := .char) (dv := .int 0) (n := 3) (cap := 3) (ad := "[C") (c' := 2) (s' := 7) (q := 66) rfl rfl (by decide) (w_7 H) d0_64 (by decide) (by decide) (by decide) rfl rfl rfl rfl (by decide) (by decide) ?_
    intro h2 y k g2 E2 W2 X2
    have f_Ka_y : h.size ≤ y := by rw [g2]; exact Ka.1
    have f_Kb_y : h1.size ≤ y := by rw [g2]; exact Kb.1
    have Ka : Keep h h2 [] := Ka.ext E2
    have Kb : Keep h1 h2 [] := Kb.ext E2
    have W2 : Arv Z h2 y k .char (3 : Int32) [.int 0, .int 0, .int 0] (.int 0) := W2
    refine go_dup (q := 67) d0_66 rfl rfl ?_
    refine go_iconst (x := (0 : Int32)) (q := 68) d0_67 rfl rfl ?_
    refine go_iloadN (v := a) (q := 69) d0_68 rfl rfl ?_
    refine go_castore (i := 0) (y := a) (q := 70) W2 (by decide) rfl (Nat.le_of_ble_eq_true rfl) (by simp) (nar_char (pa).1 (pa).2) d0_69 rfl ?_
    intro h3 K3 z3 W3
    have Ka : Keep h h3 [] := kfresh Ka K3 f_Ka_y
    have Kb : Keep h1 h3 [] := kfresh Kb K3 f_Kb_y
    have W3 : Arv Z h3 y k .char (3 : Int32) [.int a, .int 0, .int 0] (.int 0) := W3
    refine go_dup (q := 71) d0_70 rfl rfl ?_
    refine go_iconst (x := (1 : Int32)) (q := 72) d0_71 rfl rfl ?_
    refine go_iloadN (v := b) (q := 73) d0_72 rfl rfl ?_
    refine go_castore (i := 1) (y := b) (q := 74) W3 (by decide) rfl (Nat.le_of_ble_eq_true rfl) (by simp) (nar_char (pb).1 (pb).2) d0_73 rfl ?_
    intro h4 K4 z4 W4
    have Ka : Keep h h4 [] := kfresh Ka K4 f_Ka_y
    have Kb : Keep h1 h4 [] := kfresh Kb K4 f_Kb_y
    have W4 : Arv Z h4 y k .char (3 : Int32) [.int a, .int b, .int 0] (.int 0) := W4
    refine go_dup (q := 75) d0_74 rfl rfl ?_
    refine go_iconst (x := (2 : Int32)) (q := 76) d0_75 rfl rfl ?_
    refine go_iloadN (v := c) (q := 77) d0_76 rfl rfl ?_
    refine go_castore (i := 2) (y := c) (q := 78) W4 (by decide) rfl (Nat.le_of_ble_eq_true rfl) (by simp) (nar_char (pc).1 (pc).2) d0_77 rfl ?_
    intro h5 K5 z5 W5
    have Ka : Keep h h5 [] := kfresh Ka K5 f_Ka_y
    have Kb : Keep h1 h5 [] := kfresh Kb K5 f_Kb_y
    have W5 : Arv Z h5 y k .char (3 : Int32) [.int a, .int b, .int c] (.int 0) := W5
    have Lt : Lat [a, b, c] := ⟨Nat.le_of_ble_eq_true rfl, (by intro c hc; simp only [List.mem_cons, List.not_mem_nil, or_false] at hc; rcases hc with rfl | rfl | rfl <;> first | exact pa | exact pb | exact pc)⟩
    refine go_mine fun hM _ => ?_
    have nF : x ∉ F := fun q => absurd (hFl x q) (Nat.not_lt.mpr f_Ka_x)
    refine go_special (c' := 6) (s' := 23) (q := 81) (S := [.ref x]) (argsL := [.ref y]) H rfl (w_8 H) (w_9 H) (w_6 H) (w_10 H) (by decide) (rm_new1 H (cs := [a, b, c]) (F := F) (A1.keep Kb) (C1.keep Kb nin0) (V1.keep Kb nin0) W5 Lt (Nat.le_of_ble_eq_true rfl) nF) rfl rfl (lenOf pd_30 rfl) (by intro z hz; simp only [List.mem_cons, List.not_mem_nil, or_false] at hz ⊢; first | exact hz | exact Or.inl hz | (rcases hz with hz | hz <;> simp [hz]; done) | (rcases hz with rfl | rfl <;> simp)) rfl (by decide) (Nat.le_of_ble_eq_true rfl) rfl rfl (by decide) (by decide) d0_78 rfl ?_
    rintro _ hz G - ⟨rfl, Kc, S⟩
    refine nx_ (v := none) ?_
    have Ka : Keep h hz [] := kfresh Ka Kc f_Ka_x
    show Go _ _ _ _ _ _ _ _ _ _ _ _ _ _ 81 #[.val (.int (3 : Int32)), .val (.int a), .val (.int b), .val (.int c)] [.ref x]
    refine go_less (F' := F) (by intro y hy; simp [hy]) (Nat.le_refl _) (Nat.le_refl _) ?_
    exact go_areturn H (G := []) (t := (.object "java/lang/String")) rfl rfl rfl d0_81 (by decide) (by decide) (fun _ q => nomatch q) ⟨x, rfl, Ka, S⟩
abbrev GL (l : Launch) (Z : State) (K : Cx) (h : Heap) (F : List Addr) (c s pc : Nat) (L : Array Slot) (S : List Value) : Prop := Go l Z K "motifolio/patterns/memento/EditorClearPinLaw" "law" code 15 ret ({ frames := 10, cells := 48, slots := 3328, locals := 224 } : Room) (fun v h' G => v = some (.int 1)) h F c s pc L S
set_option maxRecDepth 65536 in
set_option maxHeartbeats 8000000 in
theorem j74_0 {l : Launch} {Z : State} {a0 : Array Value} (H : Wd Z a0) {K : Cx} {h : Heap} {i0 i1 i2 i3 p : Int32} {u : Addr} {cs : List Int32} {s4 s5 s6 s7 : Slot} (hcs : cs.length ≤ 3) (S : Str Z h [] u cs) (p0 : ¬ p < 0) (p1 : ¬ Int32.ofNat cs.length < p) : GL l Z K h [] 6 23 74 #[.val (.int i0), .val (.int i1), .val (.int i2), .val (.int i3), s4, s5, s6, s7, .val (.ref u), .val (.int p), .val (.int (0 : Int32)), .unset, .unset, .unset, .unset] [] := by
  refine go_iloadN (v := i3) (q := 75) at_74 rfl rfl ?_
  refine go_sipush (x := (255 : Int32)) (q := 78) at_75 rfl rfl ?_
  refine go_iand (r := i3 &&& (255 : Int32)) (q := 79) at_78 rfl rfl ?_
  refine go_i2c (r := (i3 &&& 255)) (q := 80) at_79 (i2c_msk i3) rfl ?_
  refine go_static (c' := 8) (s' := 28) (q := 83) (S := []) (argsL := [.int (i3 &&& 255)]) H (w_27 H) (w_28 H) (w_6 H) (w_29 H) (by decide) (rm_vofC H (F := []) (msk i3) (fun _ q => nomatch q)) rfl rfl (lenOf pd_31 rfl) (fun _ q => nomatch q) rfl (by decide) (Nat.le_of_ble_eq_true rfl) rfl rfl (by decide) (by decide) at_80 rfl ?_
  rintro _ h1 G - ⟨t, rfl, K1, S1⟩
  refine nx_ (v := none) ?_
  show Go _ _ _ _ _ _ _ _ _ _ _ _ _ _ 83 #[.val (.int i0), .val (.int i1), .val (.int i2), .val (.int i3), s4, s5, s6, s7, .val (.ref u), .val (.int p), .val (.int (0 : Int32)), .unset, .unset, .unset, .unset] [.ref t]
  have S := S.keep0 K1
  refine go_astore (L' := #[.val (.int i0), .val (.int i1), .val (.int i2), .val (.int i3), s4, s5, s6, s7, .val (.ref u), .val (.int p), .val (.int (0 : Int32)), .val (.ref t), .unset, .unset, .unset]) (q := 85) at_83 rfl rfl rfl ?_
  refine go_new (c' := 9) (s' := 30) (q := 88) (w_42 H) (w_43 H) (w_44 H) at_85 rfl rfl rfl (by decide) (by decide) ?_
  intro h2 e g2 E2 A2 D2
  have T2 : Fld Z h2 e EDN "text" "Ljava/lang/String;" .null := D2 (Or.inl (w_51 H)) (ty := .object "java/lang/String") (by decide)
  have N2 : Fld Z h2 e EDN "cursor" "I" (.int 0) := D2 (Or.inl (w_81 H)) (ty := .int) (by decide)
  have S := (S.grow (F' := [e]) (by intro y q; simp at q; exact Or.inr (by rw [q, g2]; exact Nat.le_refl _))).ext E2
  have S1 := (S1.grow (F' := [e]) (by intro y q; simp at q; exact Or.inr (by rw [q, g2]; exact Nat.le_refl _))).ext E2
  refine go_dup (q := 89) at_88 rfl rfl ?_
  refine go_special (c' := 11) (s' := 34) (q := 92) (S := [.ref e]) (argsL := []) H rfl (w_45 H) (w_46 H) (w_44 H) (w_47 H) (by decide) (rm_ei H A2 T2 N2) rfl rfl (lenOf pd_1 rfl) (fun _ q => q) rfl (by decide) (Nat.le_of_ble_eq_true rfl) rfl rfl (by decide) (by decide) at_89 rfl ?_
  rintro _ h3 G - ⟨rfl, K3, b3, T3, N3, S3⟩
  refine nx_ (v := none) ?_
  show Go _ _ _ _ _ _ _ _ _ _ _ _ _ _ 92 #[.val (.int i0), .val (.int i1), .val (.int i2), .val (.int i3), s4, s5, s6, s7, .val (.ref u), .val (.int p), .val (.int (0 : Int32)), .val (.ref t), .unset, .unset, .unset] [.ref e]
  have A2 := A2.keep K3
  have S := S.keep K3 (by simp)
  have S1 := S1.keep K3 (by simp)
  refine go_astore (L' := #[.val (.int i0), .val (.int i1), .val (.int i2), .val (.int i3), s4, s5, s6, s7, .val (.ref u), .val (.int p), .val (.int (0 : Int32)), .val (.ref t), .val (.ref e), .unset, .unset]) (q := 94) at_92 rfl rfl rfl ?_
  refine go_aload (v := .ref e) (q := 96) at_94 rfl rfl rfl ?_
  refine go_aload (v := .ref u) (q := 98) at_96 rfl rfl rfl ?_
  refine go_virtual (c' := 17) (s' := 98) (q := 101) (S := []) (argsL := [.ref u]) H (C := "motifolio/patterns/memento/Editor") (w_52 H) (w_53 H) (nf_self (w_55 H)) (w_55 H) (w_54 H) (w_44 H) (w_56 H) (by decide) A2 (rm_ty H A2 T3 N3 S3 S hcs) rfl rfl (lenOf pd_16 rfl) (fun _ q => q) rfl (by decide) (Nat.le_of_ble_eq_true rfl) rfl rfl (by decide) (by decide) at_98 rfl ?_
  rintro _ h4 G - ⟨rfl, K4, b4, T4, N4, S4⟩
  refine nx_ (v := none) ?_
  show Go _ _ _ _ _ _ _ _ _ _ _ _ _ _ 101 #[.val (.int i0), .val (.int i1), .val (.int i2), .val (.int i3), s4, s5, s6, s7, .val (.ref u), .val (.int p), .val (.int (0 : Int32)), .val (.ref t), .val (.ref e), .unset, .unset] []
  have A2 := A2.keep K4
  have S := S.keep K4 (by simp)
  have S1 := S1.keep K4 (by simp)
  refine go_aload (v := .ref e) (q := 103) at_101 rfl rfl rfl ?_
  refine go_iload (v := p) (q := 105) at_103 rfl rfl ?_
  refine go_virtual (c' := 17) (s' := 98) (q := 108) (S := []) (argsL := [.int p]) H (C := "motifolio/patterns/memento/Editor") (w_195 H) (w_196 H) (nf_self (w_198 H)) (w_198 H) (w_197 H) (w_44 H) (w_199 H) (by decide) A2 (rm_mv H A2 T4 N4 S4 p0 p1) rfl rfl (lenOf pd_15 rfl) (fun _ q => q) rfl (by decide) (Nat.le_of_ble_eq_true rfl) rfl rfl (by decide) (by decide) at_105 rfl ?_
  rintro _ h5 G - ⟨rfl, K5, T5, N5⟩
  refine nx_ (v := none) ?_
  show Go _ _ _ _ _ _ _ _ _ _ _ _ _ _ 108 #[.val (.int i0), .val (.int i1), .val (.int i2), .val (.int i3), s4, s5, s6, s7, .val (.ref u), .val (.int p), .val (.int (0 : Int32)), .val (.ref t), .val (.ref e), .unset, .unset] []
  have A2 := A2.keep K5
  have S := S.keep K5 (by simp)
  have S1 := S1.keep K5 (by simp)
  refine go_aload (v := .ref e) (q := 110) at_108 rfl rfl rfl ?_
  refine go_virtual (c' := 19) (s' := 102) (q := 113) (S := []) (argsL := []) H (C := "motifolio/patterns/memento/Editor") (w_200 H) (w_201 H) (nf_self (w_203 H)) (w_203 H) (w_202 H) (w_44 H) (w_204 H) (by decide) A2 (rm_clr H A2 T5 N5) rfl rfl (lenOf pd_1 rfl) (fun _ q => q) rfl (by decide) (Nat.le_of_ble_eq_true rfl) rfl rfl (by decide) (by decide) at_110 rfl ?_
  rintro _ h6 G - ⟨rfl, K6, b6, T6, N6, S6⟩
  refine nx_ (v := none) ?_
  show Go _ _ _ _ _ _ _ _ _ _ _ _ _ _ 113 #[.val (.int i0), .val (.int i1), .val (.int i2), .val (.int i3), s4, s5, s6, s7, .val (.ref u), .val (.int p), .val (.int (0 : Int32)), .val (.ref t), .val (.ref e), .unset, .unset] []
  have A2 := A2.keep K6
  have S := S.keep K6 (by simp)
  have S1 := S1.keep K6 (by simp)
  refine go_iload (v := (0 : Int32)) (q := 115) at_113 rfl rfl ?_
  refine go_ifY (q := 123) at_115 (by decide) (by decide) (by decide) ?_
  refine go_aload (v := .ref e) (q := 125) at_123 rfl rfl rfl ?_
  refine go_virtual (c' := 19) (s' := 102) (q := 128) (S := []) (argsL := []) H (C := "motifolio/patterns/memento/Editor") (w_205 H) (w_206 H) (nf_self (w_208 H)) (w_208 H) (w_207 H) (w_44 H) (w_209 H) (by decide) A2 (rm_gt H T6 rfl) rfl rfl (lenOf pd_5 rfl) (fun _ q => nomatch q) rfl (by decide) (Nat.le_of_ble_eq_true rfl) rfl rfl (by decide) (by decide) at_125 rfl ?_
  rintro _ _ G - ⟨rfl, rfl⟩
  refine nx_ (v := none) ?_
  show Go _ _ _ _ _ _ _ _ _ _ _ _ _ _ 128 #[.val (.int i0), .val (.int i1), .val (.int i2), .val (.int i3), s4, s5, s6, s7, .val (.ref u), .val (.int p), .val (.int (0 : Int32)), .val (.ref t), .val (.ref e), .unset, .unset] [.ref b6]
  refine go_virtual (c' := 19) (s' := 102) (q := 131) (S := []) (argsL := []) H (C := "java/lang/String") (w_210 H) (w_88 H) (nf_self (w_90 H)) (w_90 H) (w_89 H) (w_6 H) (w_91 H) (by decide) S6.exa (rm_len H S6) rfl rfl (lenOf pd_6 rfl) (fun _ q => nomatch q) rfl (by decide) (Nat.le_of_ble_eq_true rfl) rfl rfl (by decide) (by decide) at_128 rfl ?_
  rintro _ _ G - ⟨rfl, rfl⟩
  refine nx_ (v := none) ?_
  show Go _ _ _ _ _ _ _ _ _ _ _ _ _ _ 131 #[.val (.int i0), .val (.int i1), .val (.int i2), .val (.int i3), s4, s5, s6, s7, .val (.ref u), .val (.int p), .val (.int (0 : Int32)), .val (.ref t), .val (.ref e), .unset, .unset] [.int (0 : Int32)]
  refine go_ifN (q := 134) at_131 (by decide) rfl ?_
  refine go_aload (v := .ref e) (q := 136) at_134 rfl rfl rfl ?_
  refine go_virtual (c' := 19) (s' := 102) (q := 139) (S := []) (argsL := []) H (C := "motifolio/patterns/memento/Editor") (w_211 H) (w_212 H) (nf_self (w_214 H)) (w_214 H) (w_213 H) (w_44 H) (w_215 H) (by decide) A2 (rm_gc H N6 rfl) rfl rfl (lenOf pd_6 rfl) (fun _ q => nomatch q) rfl (by decide) (Nat.le_of_ble_eq_true rfl) rfl rfl (by decide) (by decide) at_136 rfl ?_
  rintro _ _ G - ⟨rfl, rfl⟩
  refine nx_ (v := none) ?_
  show Go _ _ _ _ _ _ _ _ _ _ _ _ _ _ 139 #[.val (.int i0), .val (.int i1), .val (.int i2), .val (.int i3), s4, s5, s6, s7, .val (.ref u), .val (.int p), .val (.int (0 : Int32)), .val (.ref t), .val (.ref e), .unset, .unset] [.int (0 : Int32)]
  refine go_ifN (q := 142) at_139 (by decide) rfl ?_
  refine go_iconst (x := (1 : Int32)) (q := 143) at_142 rfl rfl ?_
  refine go_goto (q := 147) at_143 (by decide) (by decide) ?_
  refine go_istore (L' := #[.val (.int i0), .val (.int i1), .val (.int i2), .val (.int i3), s4, s5, s6, s7, .val (.ref u), .val (.int p), .val (.int (0 : Int32)), .val (.ref t), .val (.ref e), .val (.int (1 : Int32)), .unset]) (q := 149) at_147 rfl rfl ?_
  refine go_aload (v := .ref e) (q := 151) at_149 rfl rfl rfl ?_
  refine go_aload (v := .ref t) (q := 153) at_151 rfl rfl rfl ?_
  refine go_virtual (c' := 25) (s' := 166) (q := 156) (S := []) (argsL := [.ref t]) H (C := "motifolio/patterns/memento/Editor") (w_52 H) (w_53 H) (nf_self (w_55 H)) (w_55 H) (w_54 H) (w_44 H) (w_56 H) (by decide) A2 (rm_ty H A2 T6 N6 S6 S1 (Nat.le_of_ble_eq_true rfl)) rfl rfl (lenOf pd_16 rfl) (fun _ q => q) rfl (by decide) (Nat.le_of_ble_eq_true rfl) rfl rfl (by decide) (by decide) at_153 rfl ?_
  rintro _ h8 G - ⟨rfl, K8, b8, T8, N8, S8⟩
  refine nx_ (v := none) ?_
  show Go _ _ _ _ _ _ _ _ _ _ _ _ _ _ 156 #[.val (.int i0), .val (.int i1), .val (.int i2), .val (.int i3), s4, s5, s6, s7, .val (.ref u), .val (.int p), .val (.int (0 : Int32)), .val (.ref t), .val (.ref e), .val (.int (1 : Int32)), .unset] []
  have A2 := A2.keep K8
  have S := S.keep K8 (by simp)
  have S1 := S1.keep K8 (by simp)
  refine go_aload (v := .ref e) (q := 158) at_156 rfl rfl rfl ?_
  refine go_virtual (c' := 25) (s' := 166) (q := 161) (S := []) (argsL := []) H (C := "motifolio/patterns/memento/Editor") (w_205 H) (w_206 H) (nf_self (w_208 H)) (w_208 H) (w_207 H) (w_44 H) (w_209 H) (by decide) A2 (rm_gt H T8 rfl) rfl rfl (lenOf pd_5 rfl) (fun _ q => nomatch q) rfl (by decide) (Nat.le_of_ble_eq_true rfl) rfl rfl (by decide) (by decide) at_158 rfl ?_
  rintro _ _ G - ⟨rfl, rfl⟩
  refine nx_ (v := none) ?_
  show Go _ _ _ _ _ _ _ _ _ _ _ _ _ _ 161 #[.val (.int i0), .val (.int i1), .val (.int i2), .val (.int i3), s4, s5, s6, s7, .val (.ref u), .val (.int p), .val (.int (0 : Int32)), .val (.ref t), .val (.ref e), .val (.int (1 : Int32)), .unset] [.ref b8]
  refine go_aload (v := .ref t) (q := 163) at_161 rfl rfl rfl ?_
  refine go_virtual (c' := 25) (s' := 166) (q := 166) (S := []) (argsL := [.ref t]) H (C := "java/lang/String") (w_216 H) (w_217 H) (nf_self (w_219 H)) (w_219 H) (w_218 H) (w_6 H) (w_220 H) (by decide) S8.exa (rm_eq H S8 S1) rfl rfl (lenOf pd_32 rfl) (fun _ q => nomatch q) rfl (by decide) (Nat.le_of_ble_eq_true rfl) rfl rfl (by decide) (by decide) at_163 rfl ?_
  rintro _ _ G - ⟨rfl, rfl⟩
  refine nx_ (v := none) ?_
  show Go _ _ _ _ _ _ _ _ _ _ _ _ _ _ 166 #[.val (.int i0), .val (.int i1), .val (.int i2), .val (.int i3), s4, s5, s6, s7, .val (.ref u), .val (.int p), .val (.int (0 : Int32)), .val (.ref t), .val (.ref e), .val (.int (1 : Int32)), .unset] [.int (if [i3 &&& 255] = [i3 &&& 255] then 1 else 0)]
  rw [if_pos rfl]
  show Go _ _ _ _ _ _ _ _ _ _ _ _ _ _ 166 #[.val (.int i0), .val (.int i1), .val (.int i2), .val (.int i3), s4, s5, s6, s7, .val (.ref u), .val (.int p), .val (.int (0 : Int32)), .val (.ref t), .val (.ref e), .val (.int (1 : Int32)), .unset] [.int (1 : Int32)]
  refine go_ifN (q := 169) at_166 (by decide) rfl ?_
  refine go_aload (v := .ref e) (q := 171) at_169 rfl rfl rfl ?_
  refine go_virtual (c' := 25) (s' := 166) (q := 174) (S := []) (argsL := []) H (C := "motifolio/patterns/memento/Editor") (w_211 H) (w_212 H) (nf_self (w_214 H)) (w_214 H) (w_213 H) (w_44 H) (w_215 H) (by decide) A2 (rm_gc H N8 rfl) rfl rfl (lenOf pd_6 rfl) (fun _ q => nomatch q) rfl (by decide) (Nat.le_of_ble_eq_true rfl) rfl rfl (by decide) (by decide) at_171 rfl ?_
  rintro _ _ G - ⟨rfl, rfl⟩
  refine nx_ (v := none) ?_
  show Go _ _ _ _ _ _ _ _ _ _ _ _ _ _ 174 #[.val (.int i0), .val (.int i1), .val (.int i2), .val (.int i3), s4, s5, s6, s7, .val (.ref u), .val (.int p), .val (.int (0 : Int32)), .val (.ref t), .val (.ref e), .val (.int (1 : Int32)), .unset] [.int (1 : Int32)]
  refine go_iconst (x := (1 : Int32)) (q := 175) at_174 rfl rfl ?_
  refine go_icN (q := 178) at_175 (by decide) rfl ?_
  refine go_iconst (x := (1 : Int32)) (q := 179) at_178 rfl rfl ?_
  refine go_goto (q := 183) at_179 (by decide) (by decide) ?_
  refine go_istore (L' := #[.val (.int i0), .val (.int i1), .val (.int i2), .val (.int i3), s4, s5, s6, s7, .val (.ref u), .val (.int p), .val (.int (0 : Int32)), .val (.ref t), .val (.ref e), .val (.int (1 : Int32)), .val (.int (1 : Int32))]) (q := 185) at_183 rfl rfl ?_
  refine go_iload (v := (1 : Int32)) (q := 187) at_185 rfl rfl ?_
  refine go_ifN (q := 190) at_187 (by decide) rfl ?_
  refine go_iload (v := (1 : Int32)) (q := 192) at_190 rfl rfl ?_
  refine go_ifN (q := 195) at_192 (by decide) rfl ?_
  refine go_iconst (x := (1 : Int32)) (q := 196) at_195 rfl rfl ?_
  refine go_goto (q := 200) at_196 (by decide) (by decide) ?_
  exact go_ireturn H (G := []) (t := .boolean) rfl (by decide) rfl at_200 (by decide) (by decide) (fun _ q => nomatch q) rfl
set_option maxRecDepth 65536 in
set_option maxHeartbeats 8000000 in
theorem j74_1 {l : Launch} {Z : State} {a0 : Array Value} (H : Wd Z a0) {K : Cx} {h : Heap} {i0 i1 i2 i3 p : Int32} {u : Addr} {cs : List Int32} {s4 s5 s6 s7 : Slot} (hcs : cs.length ≤ 3) (S : Str Z h [] u cs) (p0 : ¬ p < 0) (p1 : ¬ Int32.ofNat cs.length < p) : GL l Z K h [] 6 23 74 #[.val (.int i0), .val (.int i1), .val (.int i2), .val (.int i3), s4, s5, s6, s7, .val (.ref u), .val (.int p), .val (.int (1 : Int32)), .unset, .unset, .unset, .unset] [] := by
  refine go_iloadN (v := i3) (q := 75) at_74 rfl rfl ?_
  refine go_sipush (x := (255 : Int32)) (q := 78) at_75 rfl rfl ?_
  refine go_iand (r := i3 &&& (255 : Int32)) (q := 79) at_78 rfl rfl ?_
  refine go_i2c (r := (i3 &&& 255)) (q := 80) at_79 (i2c_msk i3) rfl ?_
  refine go_static (c' := 8) (s' := 28) (q := 83) (S := []) (argsL := [.int (i3 &&& 255)]) H (w_27 H) (w_28 H) (w_6 H) (w_29 H) (by decide) (rm_vofC H (F := []) (msk i3) (fun _ q => nomatch q)) rfl rfl (lenOf pd_31 rfl) (fun _ q => nomatch q) rfl (by decide) (Nat.le_of_ble_eq_true rfl) rfl rfl (by decide) (by decide) at_80 rfl ?_
  rintro _ h1 G - ⟨t, rfl, K1, S1⟩
  refine nx_ (v := none) ?_
  show Go _ _ _ _ _ _ _ _ _ _ _ _ _ _ 83 #[.val (.int i0), .val (.int i1), .val (.int i2), .val (.int i3), s4, s5, s6, s7, .val (.ref u), .val (.int p), .val (.int (1 : Int32)), .unset, .unset, .unset, .unset] [.ref t]
  have S := S.keep0 K1
  refine go_astore (L' := #[.val (.int i0), .val (.int i1), .val (.int i2), .val (.int i3), s4, s5, s6, s7, .val (.ref u), .val (.int p), .val (.int (1 : Int32)), .val (.ref t), .unset, .unset, .unset]) (q := 85) at_83 rfl rfl rfl ?_
  refine go_new (c' := 9) (s' := 30) (q := 88) (w_42 H) (w_43 H) (w_44 H) at_85 rfl rfl rfl (by decide) (by decide) ?_
  intro h2 e g2 E2 A2 D2
  have T2 : Fld Z h2 e EDN "text" "Ljava/lang/String;" .null := D2 (Or.inl (w_51 H)) (ty := .object "java/lang/String") (by decide)
  have N2 : Fld Z h2 e EDN "cursor" "I" (.int 0) := D2 (Or.inl (w_81 H)) (ty := .int) (by decide)
  have S := (S.grow (F' := [e]) (by intro y q; simp at q; exact Or.inr (by rw [q, g2]; exact Nat.le_refl _))).ext E2
  have S1 := (S1.grow (F' := [e]) (by intro y q; simp at q; exact Or.inr (by rw [q, g2]; exact Nat.le_refl _))).ext E2
  refine go_dup (q := 89) at_88 rfl rfl ?_
  refine go_special (c' := 11) (s' := 34) (q := 92) (S := [.ref e]) (argsL := []) H rfl (w_45 H) (w_46 H) (w_44 H) (w_47 H) (by decide) (rm_ei H A2 T2 N2) rfl rfl (lenOf pd_1 rfl) (fun _ q => q) rfl (by decide) (Nat.le_of_ble_eq_true rfl) rfl rfl (by decide) (by decide) at_89 rfl ?_
  rintro _ h3 G - ⟨rfl, K3, b3, T3, N3, S3⟩
  refine nx_ (v := none) ?_
  show Go _ _ _ _ _ _ _ _ _ _ _ _ _ _ 92 #[.val (.int i0), .val (.int i1), .val (.int i2), .val (.int i3), s4, s5, s6, s7, .val (.ref u), .val (.int p), .val (.int (1 : Int32)), .val (.ref t), .unset, .unset, .unset] [.ref e]
  have A2 := A2.keep K3
  have S := S.keep K3 (by simp)
  have S1 := S1.keep K3 (by simp)
  refine go_astore (L' := #[.val (.int i0), .val (.int i1), .val (.int i2), .val (.int i3), s4, s5, s6, s7, .val (.ref u), .val (.int p), .val (.int (1 : Int32)), .val (.ref t), .val (.ref e), .unset, .unset]) (q := 94) at_92 rfl rfl rfl ?_
  refine go_aload (v := .ref e) (q := 96) at_94 rfl rfl rfl ?_
  refine go_aload (v := .ref u) (q := 98) at_96 rfl rfl rfl ?_
  refine go_virtual (c' := 17) (s' := 98) (q := 101) (S := []) (argsL := [.ref u]) H (C := "motifolio/patterns/memento/Editor") (w_52 H) (w_53 H) (nf_self (w_55 H)) (w_55 H) (w_54 H) (w_44 H) (w_56 H) (by decide) A2 (rm_ty H A2 T3 N3 S3 S hcs) rfl rfl (lenOf pd_16 rfl) (fun _ q => q) rfl (by decide) (Nat.le_of_ble_eq_true rfl) rfl rfl (by decide) (by decide) at_98 rfl ?_
  rintro _ h4 G - ⟨rfl, K4, b4, T4, N4, S4⟩
  refine nx_ (v := none) ?_
  show Go _ _ _ _ _ _ _ _ _ _ _ _ _ _ 101 #[.val (.int i0), .val (.int i1), .val (.int i2), .val (.int i3), s4, s5, s6, s7, .val (.ref u), .val (.int p), .val (.int (1 : Int32)), .val (.ref t), .val (.ref e), .unset, .unset] []
  have A2 := A2.keep K4
  have S := S.keep K4 (by simp)
  have S1 := S1.keep K4 (by simp)
  refine go_aload (v := .ref e) (q := 103) at_101 rfl rfl rfl ?_
  refine go_iload (v := p) (q := 105) at_103 rfl rfl ?_
  refine go_virtual (c' := 17) (s' := 98) (q := 108) (S := []) (argsL := [.int p]) H (C := "motifolio/patterns/memento/Editor") (w_195 H) (w_196 H) (nf_self (w_198 H)) (w_198 H) (w_197 H) (w_44 H) (w_199 H) (by decide) A2 (rm_mv H A2 T4 N4 S4 p0 p1) rfl rfl (lenOf pd_15 rfl) (fun _ q => q) rfl (by decide) (Nat.le_of_ble_eq_true rfl) rfl rfl (by decide) (by decide) at_105 rfl ?_
  rintro _ h5 G - ⟨rfl, K5, T5, N5⟩
  refine nx_ (v := none) ?_
  show Go _ _ _ _ _ _ _ _ _ _ _ _ _ _ 108 #[.val (.int i0), .val (.int i1), .val (.int i2), .val (.int i3), s4, s5, s6, s7, .val (.ref u), .val (.int p), .val (.int (1 : Int32)), .val (.ref t), .val (.ref e), .unset, .unset] []
  have A2 := A2.keep K5
  have S := S.keep K5 (by simp)
  have S1 := S1.keep K5 (by simp)
  refine go_aload (v := .ref e) (q := 110) at_108 rfl rfl rfl ?_
  refine go_virtual (c' := 19) (s' := 102) (q := 113) (S := []) (argsL := []) H (C := "motifolio/patterns/memento/Editor") (w_200 H) (w_201 H) (nf_self (w_203 H)) (w_203 H) (w_202 H) (w_44 H) (w_204 H) (by decide) A2 (rm_clr H A2 T5 N5) rfl rfl (lenOf pd_1 rfl) (fun _ q => q) rfl (by decide) (Nat.le_of_ble_eq_true rfl) rfl rfl (by decide) (by decide) at_110 rfl ?_
  rintro _ h6 G - ⟨rfl, K6, b6, T6, N6, S6⟩
  refine nx_ (v := none) ?_
  show Go _ _ _ _ _ _ _ _ _ _ _ _ _ _ 113 #[.val (.int i0), .val (.int i1), .val (.int i2), .val (.int i3), s4, s5, s6, s7, .val (.ref u), .val (.int p), .val (.int (1 : Int32)), .val (.ref t), .val (.ref e), .unset, .unset] []
  have A2 := A2.keep K6
  have S := S.keep K6 (by simp)
  have S1 := S1.keep K6 (by simp)
  refine go_iload (v := (1 : Int32)) (q := 115) at_113 rfl rfl ?_
  refine go_ifN (q := 118) at_115 (by decide) rfl ?_
  refine go_aload (v := .ref e) (q := 120) at_118 rfl rfl rfl ?_
  refine go_virtual (c' := 21) (s' := 106) (q := 123) (S := []) (argsL := []) H (C := "motifolio/patterns/memento/Editor") (w_200 H) (w_201 H) (nf_self (w_203 H)) (w_203 H) (w_202 H) (w_44 H) (w_204 H) (by decide) A2 (rm_clr H A2 T6 N6) rfl rfl (lenOf pd_1 rfl) (fun _ q => q) rfl (by decide) (Nat.le_of_ble_eq_true rfl) rfl rfl (by decide) (by decide) at_120 rfl ?_
  rintro _ h7 G - ⟨rfl, K7, b7, T7, N7, S7⟩
  refine nx_ (v := none) ?_
  show Go _ _ _ _ _ _ _ _ _ _ _ _ _ _ 123 #[.val (.int i0), .val (.int i1), .val (.int i2), .val (.int i3), s4, s5, s6, s7, .val (.ref u), .val (.int p), .val (.int (1 : Int32)), .val (.ref t), .val (.ref e), .unset, .unset] []
  have A2 := A2.keep K7
  have S := S.keep K7 (by simp)
  have S1 := S1.keep K7 (by simp)
  refine go_aload (v := .ref e) (q := 125) at_123 rfl rfl rfl ?_
  refine go_virtual (c' := 21) (s' := 106) (q := 128) (S := []) (argsL := []) H (C := "motifolio/patterns/memento/Editor") (w_205 H) (w_206 H) (nf_self (w_208 H)) (w_208 H) (w_207 H) (w_44 H) (w_209 H) (by decide) A2 (rm_gt H T7 rfl) rfl rfl (lenOf pd_5 rfl) (fun _ q => nomatch q) rfl (by decide) (Nat.le_of_ble_eq_true rfl) rfl rfl (by decide) (by decide) at_125 rfl ?_
  rintro _ _ G - ⟨rfl, rfl⟩
  refine nx_ (v := none) ?_
  show Go _ _ _ _ _ _ _ _ _ _ _ _ _ _ 128 #[.val (.int i0), .val (.int i1), .val (.int i2), .val (.int i3), s4, s5, s6, s7, .val (.ref u), .val (.int p), .val (.int (1 : Int32)), .val (.ref t), .val (.ref e), .unset, .unset] [.ref b7]
  refine go_virtual (c' := 21) (s' := 106) (q := 131) (S := []) (argsL := []) H (C := "java/lang/String") (w_210 H) (w_88 H) (nf_self (w_90 H)) (w_90 H) (w_89 H) (w_6 H) (w_91 H) (by decide) S7.exa (rm_len H S7) rfl rfl (lenOf pd_6 rfl) (fun _ q => nomatch q) rfl (by decide) (Nat.le_of_ble_eq_true rfl) rfl rfl (by decide) (by decide) at_128 rfl ?_
  rintro _ _ G - ⟨rfl, rfl⟩
  refine nx_ (v := none) ?_
  show Go _ _ _ _ _ _ _ _ _ _ _ _ _ _ 131 #[.val (.int i0), .val (.int i1), .val (.int i2), .val (.int i3), s4, s5, s6, s7, .val (.ref u), .val (.int p), .val (.int (1 : Int32)), .val (.ref t), .val (.ref e), .unset, .unset] [.int (0 : Int32)]
  refine go_ifN (q := 134) at_131 (by decide) rfl ?_
  refine go_aload (v := .ref e) (q := 136) at_134 rfl rfl rfl ?_
  refine go_virtual (c' := 21) (s' := 106) (q := 139) (S := []) (argsL := []) H (C := "motifolio/patterns/memento/Editor") (w_211 H) (w_212 H) (nf_self (w_214 H)) (w_214 H) (w_213 H) (w_44 H) (w_215 H) (by decide) A2 (rm_gc H N7 rfl) rfl rfl (lenOf pd_6 rfl) (fun _ q => nomatch q) rfl (by decide) (Nat.le_of_ble_eq_true rfl) rfl rfl (by decide) (by decide) at_136 rfl ?_
  rintro _ _ G - ⟨rfl, rfl⟩
  refine nx_ (v := none) ?_
  show Go _ _ _ _ _ _ _ _ _ _ _ _ _ _ 139 #[.val (.int i0), .val (.int i1), .val (.int i2), .val (.int i3), s4, s5, s6, s7, .val (.ref u), .val (.int p), .val (.int (1 : Int32)), .val (.ref t), .val (.ref e), .unset, .unset] [.int (0 : Int32)]
  refine go_ifN (q := 142) at_139 (by decide) rfl ?_
  refine go_iconst (x := (1 : Int32)) (q := 143) at_142 rfl rfl ?_
  refine go_goto (q := 147) at_143 (by decide) (by decide) ?_
  refine go_istore (L' := #[.val (.int i0), .val (.int i1), .val (.int i2), .val (.int i3), s4, s5, s6, s7, .val (.ref u), .val (.int p), .val (.int (1 : Int32)), .val (.ref t), .val (.ref e), .val (.int (1 : Int32)), .unset]) (q := 149) at_147 rfl rfl ?_
  refine go_aload (v := .ref e) (q := 151) at_149 rfl rfl rfl ?_
  refine go_aload (v := .ref t) (q := 153) at_151 rfl rfl rfl ?_
  refine go_virtual (c' := 27) (s' := 170) (q := 156) (S := []) (argsL := [.ref t]) H (C := "motifolio/patterns/memento/Editor") (w_52 H) (w_53 H) (nf_self (w_55 H)) (w_55 H) (w_54 H) (w_44 H) (w_56 H) (by decide) A2 (rm_ty H A2 T7 N7 S7 S1 (Nat.le_of_ble_eq_true rfl)) rfl rfl (lenOf pd_16 rfl) (fun _ q => q) rfl (by decide) (Nat.le_of_ble_eq_true rfl) rfl rfl (by decide) (by decide) at_153 rfl ?_
  rintro _ h8 G - ⟨rfl, K8, b8, T8, N8, S8⟩
  refine nx_ (v := none) ?_
  show Go _ _ _ _ _ _ _ _ _ _ _ _ _ _ 156 #[.val (.int i0), .val (.int i1), .val (.int i2), .val (.int i3), s4, s5, s6, s7, .val (.ref u), .val (.int p), .val (.int (1 : Int32)), .val (.ref t), .val (.ref e), .val (.int (1 : Int32)), .unset] []
  have A2 := A2.keep K8
  have S := S.keep K8 (by simp)
  have S1 := S1.keep K8 (by simp)
  refine go_aload (v := .ref e) (q := 158) at_156 rfl rfl rfl ?_
  refine go_virtual (c' := 27) (s' := 170) (q := 161) (S := []) (argsL := []) H (C := "motifolio/patterns/memento/Editor") (w_205 H) (w_206 H) (nf_self (w_208 H)) (w_208 H) (w_207 H) (w_44 H) (w_209 H) (by decide) A2 (rm_gt H T8 rfl) rfl rfl (lenOf pd_5 rfl) (fun _ q => nomatch q) rfl (by decide) (Nat.le_of_ble_eq_true rfl) rfl rfl (by decide) (by decide) at_158 rfl ?_
  rintro _ _ G - ⟨rfl, rfl⟩
  refine nx_ (v := none) ?_
  show Go _ _ _ _ _ _ _ _ _ _ _ _ _ _ 161 #[.val (.int i0), .val (.int i1), .val (.int i2), .val (.int i3), s4, s5, s6, s7, .val (.ref u), .val (.int p), .val (.int (1 : Int32)), .val (.ref t), .val (.ref e), .val (.int (1 : Int32)), .unset] [.ref b8]
  refine go_aload (v := .ref t) (q := 163) at_161 rfl rfl rfl ?_
  refine go_virtual (c' := 27) (s' := 170) (q := 166) (S := []) (argsL := [.ref t]) H (C := "java/lang/String") (w_216 H) (w_217 H) (nf_self (w_219 H)) (w_219 H) (w_218 H) (w_6 H) (w_220 H) (by decide) S8.exa (rm_eq H S8 S1) rfl rfl (lenOf pd_32 rfl) (fun _ q => nomatch q) rfl (by decide) (Nat.le_of_ble_eq_true rfl) rfl rfl (by decide) (by decide) at_163 rfl ?_
  rintro _ _ G - ⟨rfl, rfl⟩
  refine nx_ (v := none) ?_
  show Go _ _ _ _ _ _ _ _ _ _ _ _ _ _ 166 #[.val (.int i0), .val (.int i1), .val (.int i2), .val (.int i3), s4, s5, s6, s7, .val (.ref u), .val (.int p), .val (.int (1 : Int32)), .val (.ref t), .val (.ref e), .val (.int (1 : Int32)), .unset] [.int (if [i3 &&& 255] = [i3 &&& 255] then 1 else 0)]
  rw [if_pos rfl]
  show Go _ _ _ _ _ _ _ _ _ _ _ _ _ _ 166 #[.val (.int i0), .val (.int i1), .val (.int i2), .val (.int i3), s4, s5, s6, s7, .val (.ref u), .val (.int p), .val (.int (1 : Int32)), .val (.ref t), .val (.ref e), .val (.int (1 : Int32)), .unset] [.int (1 : Int32)]
  refine go_ifN (q := 169) at_166 (by decide) rfl ?_
  refine go_aload (v := .ref e) (q := 171) at_169 rfl rfl rfl ?_
  refine go_virtual (c' := 27) (s' := 170) (q := 174) (S := []) (argsL := []) H (C := "motifolio/patterns/memento/Editor") (w_211 H) (w_212 H) (nf_self (w_214 H)) (w_214 H) (w_213 H) (w_44 H) (w_215 H) (by decide) A2 (rm_gc H N8 rfl) rfl rfl (lenOf pd_6 rfl) (fun _ q => nomatch q) rfl (by decide) (Nat.le_of_ble_eq_true rfl) rfl rfl (by decide) (by decide) at_171 rfl ?_
  rintro _ _ G - ⟨rfl, rfl⟩
  refine nx_ (v := none) ?_
  show Go _ _ _ _ _ _ _ _ _ _ _ _ _ _ 174 #[.val (.int i0), .val (.int i1), .val (.int i2), .val (.int i3), s4, s5, s6, s7, .val (.ref u), .val (.int p), .val (.int (1 : Int32)), .val (.ref t), .val (.ref e), .val (.int (1 : Int32)), .unset] [.int (1 : Int32)]
  refine go_iconst (x := (1 : Int32)) (q := 175) at_174 rfl rfl ?_
  refine go_icN (q := 178) at_175 (by decide) rfl ?_
  refine go_iconst (x := (1 : Int32)) (q := 179) at_178 rfl rfl ?_
  refine go_goto (q := 183) at_179 (by decide) (by decide) ?_
  refine go_istore (L' := #[.val (.int i0), .val (.int i1), .val (.int i2), .val (.int i3), s4, s5, s6, s7, .val (.ref u), .val (.int p), .val (.int (1 : Int32)), .val (.ref t), .val (.ref e), .val (.int (1 : Int32)), .val (.int (1 : Int32))]) (q := 185) at_183 rfl rfl ?_
  refine go_iload (v := (1 : Int32)) (q := 187) at_185 rfl rfl ?_
  refine go_ifN (q := 190) at_187 (by decide) rfl ?_
  refine go_iload (v := (1 : Int32)) (q := 192) at_190 rfl rfl ?_
  refine go_ifN (q := 195) at_192 (by decide) rfl ?_
  refine go_iconst (x := (1 : Int32)) (q := 196) at_195 rfl rfl ?_
  refine go_goto (q := 200) at_196 (by decide) (by decide) ?_
  exact go_ireturn H (G := []) (t := .boolean) rfl (by decide) rfl at_200 (by decide) (by decide) (fun _ q => nomatch q) rfl
set_option maxRecDepth 65536 in
set_option maxHeartbeats 8000000 in
theorem rm_law {l : Launch} {Z : State} {a0 : Array Value} (H : Wd Z a0) {i0 i1 i2 i3 : Int32} : MetL l Z x code maxLocals ret room_1 Z.heap [] #[.int i0, .int i1, .int i2, .int i3] (fun v h' G => v = some (.int 1)) := by
  refine MetL.mk (L := #[.val (.int i0), .val (.int i1), .val (.int i2), .val (.int i3), .unset, .unset, .unset, .unset, .unset, .unset, .unset, .unset, .unset, .unset, .unset]) (plainFor_of_name (by first | (simp [plainName, overriddenIn, x]; done) | decide +kernel)) (fun m => by first | (simp [entryFrame, mkF, argsToLocals, Value.category, maxLocals]; done) | rfl) (fun K => ?_)
  show Go _ _ K "motifolio/patterns/memento/EditorClearPinLaw" "law" _ 15 _ ({ frames := 10, cells := 48, slots := 3328, locals := 224 } : Room) _ _ _ _ _ 0 _ _
  obtain ⟨cs, D⟩ := Dr.any i0 ((XT.ushr i0 2) &&& 255) ((XT.ushr i0 10) &&& 255) ((XT.ushr i0 18) &&& 255)
  refine go_iloadN (v := i0) (q := 1) at_0 rfl rfl ?_
  refine go_iconst (x := (3 : Int32)) (q := 2) at_1 rfl rfl ?_
  refine go_iand (r := i0 &&& (3 : Int32)) (q := 3) at_2 rfl rfl ?_
  refine go_istore (L' := #[.val (.int i0), .val (.int i1), .val (.int i2), .val (.int i3), .val (.int (i0 &&& (3 : Int32))), .unset, .unset, .unset, .unset, .unset, .unset, .unset, .unset, .unset, .unset]) (q := 5) at_3 rfl rfl ?_
  refine go_iloadN (v := i0) (q := 6) at_5 rfl rfl ?_
  refine go_iconst (x := (2 : Int32)) (q := 7) at_6 rfl rfl ?_
  refine go_iushr (r := (XT.ushr i0 2)) (q := 8) at_7 rfl rfl ?_
  refine go_sipush (x := (255 : Int32)) (q := 11) at_8 rfl rfl ?_
  refine go_iand (r := (XT.ushr i0 2) &&& (255 : Int32)) (q := 12) at_11 rfl rfl ?_
  refine go_i2c (r := ((XT.ushr i0 2) &&& 255)) (q := 13) at_12 (i2c_msk (XT.ushr i0 2)) rfl ?_
  refine go_istore (L' := #[.val (.int i0), .val (.int i1), .val (.int i2), .val (.int i3), .val (.int (i0 &&& (3 : Int32))), .val (.int ((XT.ushr i0 2) &&& 255)), .unset, .unset, .unset, .unset, .unset, .unset, .unset, .unset, .unset]) (q := 15) at_13 rfl rfl ?_
  refine go_iloadN (v := i0) (q := 16) at_15 rfl rfl ?_
  refine go_bipush (x := (10 : Int32)) (q := 18) at_16 rfl rfl ?_
  refine go_iushr (r := (XT.ushr i0 10)) (q := 19) at_18 rfl rfl ?_
  refine go_sipush (x := (255 : Int32)) (q := 22) at_19 rfl rfl ?_
  refine go_iand (r := (XT.ushr i0 10) &&& (255 : Int32)) (q := 23) at_22 rfl rfl ?_
  refine go_i2c (r := ((XT.ushr i0 10) &&& 255)) (q := 24) at_23 (i2c_msk (XT.ushr i0 10)) rfl ?_
  refine go_istore (L' := #[.val (.int i0), .val (.int i1), .val (.int i2), .val (.int i3), .val (.int (i0 &&& (3 : Int32))), .val (.int ((XT.ushr i0 2) &&& 255)), .val (.int ((XT.ushr i0 10) &&& 255)), .unset, .unset, .unset, .unset, .unset, .unset, .unset, .unset]) (q := 26) at_24 rfl rfl ?_
  refine go_iloadN (v := i0) (q := 27) at_26 rfl rfl ?_
  refine go_bipush (x := (18 : Int32)) (q := 29) at_27 rfl rfl ?_
  refine go_iushr (r := (XT.ushr i0 18)) (q := 30) at_29 rfl rfl ?_
  refine go_sipush (x := (255 : Int32)) (q := 33) at_30 rfl rfl ?_
  refine go_iand (r := (XT.ushr i0 18) &&& (255 : Int32)) (q := 34) at_33 rfl rfl ?_
  refine go_i2c (r := ((XT.ushr i0 18) &&& 255)) (q := 35) at_34 (i2c_msk (XT.ushr i0 18)) rfl ?_
  refine go_istore (L' := #[.val (.int i0), .val (.int i1), .val (.int i2), .val (.int i3), .val (.int (i0 &&& (3 : Int32))), .val (.int ((XT.ushr i0 2) &&& 255)), .val (.int ((XT.ushr i0 10) &&& 255)), .val (.int ((XT.ushr i0 18) &&& 255)), .unset, .unset, .unset, .unset, .unset, .unset, .unset]) (q := 37) at_35 rfl rfl ?_
  refine go_iload (v := i0 &&& (3 : Int32)) (q := 39) at_37 rfl rfl ?_
  refine go_iload (v := ((XT.ushr i0 2) &&& 255)) (q := 41) at_39 rfl rfl ?_
  refine go_iload (v := ((XT.ushr i0 10) &&& 255)) (q := 43) at_41 rfl rfl ?_
  refine go_iload (v := ((XT.ushr i0 18) &&& 255)) (q := 45) at_43 rfl rfl ?_
  refine go_static (c' := 6) (s' := 23) (q := 48) (S := []) (argsL := [.int (i0 &&& (3 : Int32)), .int ((XT.ushr i0 2) &&& 255), .int ((XT.ushr i0 10) &&& 255), .int ((XT.ushr i0 18) &&& 255)]) H (w_0 H) (w_1 H) (w_2 H) (w_3 H) (by decide) (rm_draw H (F := []) D (msk _) (msk _) (msk _) (fun _ q => nomatch q)) rfl rfl (lenOf pd_33 rfl) (fun _ q => nomatch q) rfl (by decide) (Nat.le_of_ble_eq_true rfl) rfl rfl (by decide) (by decide) at_45 rfl ?_
  rintro _ h1 G - ⟨u, rfl, K1, S1⟩
  refine nx_ (v := none) ?_
  show Go _ _ _ _ _ _ _ _ _ _ _ _ _ _ 48 #[.val (.int i0), .val (.int i1), .val (.int i2), .val (.int i3), .val (.int (i0 &&& (3 : Int32))), .val (.int ((XT.ushr i0 2) &&& 255)), .val (.int ((XT.ushr i0 10) &&& 255)), .val (.int ((XT.ushr i0 18) &&& 255)), .unset, .unset, .unset, .unset, .unset, .unset, .unset] [.ref u]
  have pk := pos_ok i1 (i0 &&& 3) D.four
  refine go_astore (L' := #[.val (.int i0), .val (.int i1), .val (.int i2), .val (.int i3), .val (.int (i0 &&& (3 : Int32))), .val (.int ((XT.ushr i0 2) &&& 255)), .val (.int ((XT.ushr i0 10) &&& 255)), .val (.int ((XT.ushr i0 18) &&& 255)), .val (.ref u), .unset, .unset, .unset, .unset, .unset, .unset]) (q := 50) at_48 rfl rfl rfl ?_
  refine go_iloadN (v := i1) (q := 51) at_50 rfl rfl ?_
  refine go_ldcInt (v := (2147483647 : Int32)) (q := 53) (w_26 H) at_51 rfl ?_
  refine go_iand (r := i1 &&& (2147483647 : Int32)) (q := 54) at_53 rfl rfl ?_
  refine go_iload (v := i0 &&& (3 : Int32)) (q := 56) at_54 rfl rfl ?_
  refine go_iconst (x := (1 : Int32)) (q := 57) at_56 rfl rfl ?_
  refine go_iadd (r := (i0 &&& (3 : Int32)) + (1 : Int32)) (q := 58) at_57 rfl rfl ?_
  refine go_irem (r := (i1 &&& (2147483647 : Int32)) % ((i0 &&& (3 : Int32)) + (1 : Int32))) (q := 59) at_58 pk.2.2 rfl rfl ?_
  refine go_istore (L' := #[.val (.int i0), .val (.int i1), .val (.int i2), .val (.int i3), .val (.int (i0 &&& (3 : Int32))), .val (.int ((XT.ushr i0 2) &&& 255)), .val (.int ((XT.ushr i0 10) &&& 255)), .val (.int ((XT.ushr i0 18) &&& 255)), .val (.ref u), .val (.int ((i1 &&& (2147483647 : Int32)) % ((i0 &&& (3 : Int32)) + (1 : Int32)))), .unset, .unset, .unset, .unset, .unset]) (q := 61) at_59 rfl rfl ?_
  refine go_iloadN (v := i2) (q := 62) at_61 rfl rfl ?_
  refine go_iconst (x := (1 : Int32)) (q := 63) at_62 rfl rfl ?_
  refine go_iand (r := i2 &&& (1 : Int32)) (q := 64) at_63 rfl rfl ?_
  by_cases q1 : i2 &&& 1 = 0
  · refine go_ifY (q := 71) at_64 q1 (by decide) (by decide) ?_
    refine go_iconst (x := (0 : Int32)) (q := 72) at_71 rfl rfl ?_
    refine go_istore (L' := #[.val (.int i0), .val (.int i1), .val (.int i2), .val (.int i3), .val (.int (i0 &&& (3 : Int32))), .val (.int ((XT.ushr i0 2) &&& 255)), .val (.int ((XT.ushr i0 10) &&& 255)), .val (.int ((XT.ushr i0 18) &&& 255)), .val (.ref u), .val (.int ((i1 &&& (2147483647 : Int32)) % ((i0 &&& (3 : Int32)) + (1 : Int32)))), .val (.int (0 : Int32)), .unset, .unset, .unset, .unset]) (q := 74) at_72 rfl rfl ?_
    exact j74_0 H D.le S1 pk.1 (by rw [D.len]; exact pk.2.1)
  · refine go_ifN (q := 67) at_64 q1 rfl ?_
    refine go_iconst (x := (1 : Int32)) (q := 68) at_67 rfl rfl ?_
    refine go_goto (q := 72) at_68 (by decide) (by decide) ?_
    refine go_istore (L' := #[.val (.int i0), .val (.int i1), .val (.int i2), .val (.int i3), .val (.int (i0 &&& (3 : Int32))), .val (.int ((XT.ushr i0 2) &&& 255)), .val (.int ((XT.ushr i0 10) &&& 255)), .val (.int ((XT.ushr i0 18) &&& 255)), .val (.ref u), .val (.int ((i1 &&& (2147483647 : Int32)) % ((i0 &&& (3 : Int32)) + (1 : Int32)))), .val (.int (1 : Int32)), .unset, .unset, .unset, .unset]) (q := 74) at_72 rfl rfl ?_
    exact j74_1 H D.le S1 pk.1 (by rw [D.len]; exact pk.2.1)
set_option maxRecDepth 65536 in
set_option maxHeartbeats 4000000 in
theorem comes_1 {Post : Tables → Env → Array Value → State → Outcome → State → Prop} (hpost : ∀ tb e args s v u, (limb_1_1.after args s (.returned v) u = true ∧ limb_1_2.after args s (.returned v) u = true ∧ True) → Jvm.D.FramedW s (.returned v) u (Jvm.fieldLocs frame_1_writes args s ++ Jvm.arrayLocs frame_1_arrays args s ++ Jvm.staticLocs frame_1_statics s) 48 3328 → Post tb e args s (.returned v) u) :
    Jvm.D.ArmFor flags0 classFile x code maxLocals ret World_1 tables_1 room_1 Calls_1 rest_1 Pre_1 Post := by
  intro l hfl _ _ p e ha hc hk s m args below hf hA hF happ hP
  obtain ⟨hcalls, hrest, hpre⟩ := hP
  obtain ⟨-, -, -, hnamed, -, -, -, hat⟩ := (Spec.applies_iff hf).mp happ
  obtain ⟨hg, hn⟩ := and_e (Cond.before_iff.mp (show (Jvm.Cond.and given_1 narrow_1).before args s = true from hpre))
  obtain ⟨g0, r0⟩ := and_e hg
  obtain ⟨g1, r1⟩ := and_e r0
  obtain ⟨g2, r2⟩ := and_e r1
  obtain ⟨g3, r3⟩ := and_e r2
  obtain ⟨w0, w1, w2, w3, rfl⟩ : ∃ w0 w1 w2 w3 : Value, args = #[w0, w1, w2, w3] := by
    have hs : args.size = 4 := by simpa [Cond.value, given_1] using g0
    obtain ⟨L⟩ := args
    match L, hs with
    | [w0, w1, w2, w3], _ => exact ⟨w0, w1, w2, w3, rfl⟩
  have hw := fun d (hd : d ∈ tables_1) => atoms_spec (ws := Jvm.Cond.code x code maxLocals ret :: tables_1) hat d (List.mem_cons_of_mem _ hd)
  obtain ⟨hsets, hown0⟩ := atoms_of _ (rest_1_c_eq ▸ (show rest_1_c.before _ s = true from hrest))
  have hfit : Fit s := fun {y c} hc i hi => by
    obtain ⟨ha, rfl⟩ := Array.getElem?_eq_some_iff.mp hc
    have q := List.all_eq_true.mp ((Array.all_eq_true_iff_forall_mem.mp hF) _ (Array.getElem_mem ha)) i (List.mem_range.mpr hi)
    simpa [Array.getElem?_eq_getElem hi] using q
  obtain ⟨i0, e0⟩ := is_v g1
  obtain rfl : w0 = (.int i0) := Option.some.inj e0
  obtain ⟨i1, e1⟩ := is_v g2
  obtain rfl : w1 = (.int i1) := Option.some.inj e1
  obtain ⟨i2, e2⟩ := is_v g3
  obtain rfl : w2 = (.int i2) := Option.some.inj e2
  obtain ⟨i3, e3⟩ := is_v r3
  obtain rfl : w3 = (.int i3) := Option.some.inj e3
  obtain ⟨cz, ecz⟩ := is_v (Cond.before_iff.mp (hsets _ (List.mem_of_getElem? (i := 1) rfl)))
  have Scz : Sta s s.heap "java/lang/String" "COMPACT_STRINGS" "Z" (.int cz) := Sta.start ecz (Or.inl (hsets _ (List.mem_of_getElem? (i := 0) rfl)))
  have ncz : ¬ cz = (0 : Int32) := gotF (Cond.eq_ints ecz (Term.int_eval (0))) (not_v (Cond.before_iff.mp (hsets _ (List.mem_of_getElem? (i := 2) rfl))))
  obtain ⟨fm, efm, rfm⟩ := isR_v (Cond.before_iff.mp (hsets _ (List.mem_of_getElem? (i := 8) rfl)))
  have Sfm : Sta s s.heap "jdk/internal/util/Preconditions" "SIOOBE_FORMATTER" "Ljava/util/function/BiFunction;" fm := Sta.start efm (Or.inl (hsets _ (List.mem_of_getElem? (i := 7) rfl)))
  have hS : ∀ d ∈ Bundle.stringAtoms, d.before #[.int i0, .int i1, .int i2, .int i3] s = true := by
    intro d hd
    simp only [Bundle.stringAtoms, List.mem_cons, List.not_mem_nil, or_false] at hd
    rcases hd with rfl | rfl | rfl | rfl | rfl | rfl | rfl
    · exact hw _ (List.mem_of_getElem? (i := 6) rfl)
    · exact hw _ (List.mem_of_getElem? (i := 5) rfl)
    · exact hw _ (List.mem_of_getElem? (i := 19) rfl)
    · exact hw _ (List.mem_of_getElem? (i := 20) rfl)
    · exact hw _ (List.mem_of_getElem? (i := 21) rfl)
    · exact hw _ (List.mem_of_getElem? (i := 22) rfl)
    · exact hw _ (List.mem_of_getElem? (i := 23) rfl)
  have hE : EW s #[.int i0, .int i1, .int i2, .int i3] consts_1 := (EW.cons (hw _ (List.mem_of_getElem? (i := 18) rfl)) (by decide) (EW.cons (hw _ (List.mem_of_getElem? (i := 49) rfl)) (by decide) (EW.cons (hw _ (List.mem_of_getElem? (i := 57) rfl)) (by decide) EW.nil)))
  have H : Wd s #[.int i0, .int i1, .int i2, .int i3] := ⟨hw, hE, hS, ⟨cz, Scz, ncz⟩, ⟨fm, Sfm, rfm⟩, hsets⟩
  have hC : CHv s consts_1 s.vm s.heap := CHv.start hE (fun q hq => hcalls.1 q hq) (Cond.before_iff.mpr (Cond.before_iff.mp (hsets _ (List.mem_of_getElem? (i := 2) rfl)))) (hw _ (List.mem_of_getElem? (i := 19) rfl)) (hw _ (List.mem_of_getElem? (i := 5) rfl))
  obtain ⟨n, o, h1, h2, h3, v, L, G, rfl, hq, N, -, -, -, hE2⟩ := rm_law (l := l) H  p e ha hc hk s m _ below hf ((Spec.applies_iff_loose hf).mp happ).1 ⟨rfl, State.Warmed39.refl s, rfl, hC, (fun _ q => nomatch q), Old.start s⟩ trivial
  subst hq
  refine ⟨n, _, h1, h2, h3, hpost _ _ _ _ _ _ ⟨Cond.after_iff.mpr rfl, Cond.after_iff.mpr (eq_i res_at (Term.int_eval (1)) rfl), trivial⟩ ⟨hE2.1, hE2.2.1, hE2.2.2.1, (hE2.2.2.2.sift fun y hy => Or.inr (N y hy)).mono (by decide) (by decide)⟩⟩
end Own
end Jvm.Pilot.@@N@@
namespace Jvm.Pilot.@@N@@
theorem main_1_1 : Claimed_1_1 := Own.comes_1 fun _ _ _ _ _ _ h hF => ⟨h.1, hF⟩
theorem main_1_2 : Claimed_1_2 := Own.comes_1 fun _ _ _ _ _ _ h hF => ⟨h.2.1, hF⟩
end Jvm.Pilot.@@N@@
namespace Jvm.Pilot.@@N@@
open Jvm Jvm.ClassFile Sem Op Lib Jvm.Free Jvm.Stand Jvm.Pilot.@@N@@.Jvm.D
/-! MADE BY PROGRAM (witnessworld.py) out of the Statement's table words and the real class files: 27 classes; the members and pool entries that the words name. The judged class is class 1, her method 2. -/
namespace start1
open Jvm.ClassFile
def u (s : String) : CpInfo := .utf8 (stringToUtf16 s)
/-- a pool by its gaps: so many unusable entries, then the entry; so many at the end -/
def gap : Nat → List CpInfo → List CpInfo
  | 0, r => r
  | n + 1, r => .unusable :: gap n r
def poolList (es : List (Nat × CpInfo)) (last : Nat) : List CpInfo := es.foldr (fun e r => gap e.1 (e.2 :: r)) (gap last [])
def pool (es : List (Nat × CpInfo)) (last : Nat) : Array CpInfo := ⟨poolList es last⟩
def fileOf (pool : Array CpInfo) (this : Nat) (attrs : Array Attribute := #[]) (ms : Array MethodInfo := #[]) (fl : Nat := 33) (sup : Nat := 0) (ifs : Array Nat := #[]) (fds : Array FieldInfo := #[]) : ClassFile where
  minorVersion := 0
  majorVersion := 65
  constantPool := pool
  accessFlags := fl
  thisClass := this
  superClass := sup
  interfaces := ifs
  fields := fds
  methods := ms
  attributes := attrs
def plain (name : String) (sup : Option ClassId) : Class where
  name := name
  kind := .ordinary
  loader := none
  accessFlags := 33
  super := sup
  interfaces := #[]
  cf := none
  fields := #[]
  methods := #[]
  instanceTypes := #[]
  staticTypes := #[]
  resolved := #[]
  callSites := []
  init := .initialized
  statics := none
  mirror := none

def pool0 : Array CpInfo := pool [(5, u "<init>"), (0, u "()V"), (1, .class_ 10), (1, u "java/lang/Object")] 113

def k0c0 : Code := { maxStack := 0, maxLocals := 1, code := object_method_1_code, exceptionTable := #[], attributes := #[] }
def k0m0 : Method := { name := "<init>", desc := "()V", sig := { parameters := [], returnType := none }, accessFlags := 1, code := some k0c0 }
/-- java/lang/Object -/
def k0 : Class := { plain "java/lang/Object" none with
  accessFlags := 33
  interfaces := #[]
  cf := some (fileOf pool0 8 #[] #[{ accessFlags := 1, nameIndex := 5, descriptorIndex := 6, attributes := #[] }] 33 0 #[] #[])
  fields := #[]
  methods := #[k0m0]
  instanceTypes := #[]
  staticTypes := #[]
  resolved := Array.replicate 124 none
  statics := none }

def pool1 : Array CpInfo := pool [(2, .class_ 4), (0, .nameAndType 5 6), (0, u "java/lang/Object"), (0, u "<init>"), (0, u "()V"), (0, .class_ 8), (0, u "java/lang/String"), (0, .methodref 7 10), (0, .nameAndType 5 11), (0, u "([C)V"), (0, .methodref 13 14), (0, .class_ 15), (0, .nameAndType 16 17), (0, u "motifolio/patterns/memento/EditorClearPinLaw"), (0, u "drawn"), (0, u "(ICCC)Ljava/lang/String;"), (0, .integer 2147483647), (0, .methodref 7 20), (0, .nameAndType 21 22), (0, u "valueOf"), (0, u "(C)Ljava/lang/String;"), (0, .class_ 24), (0, u "motifolio/patterns/memento/Editor"), (0, .methodref 23 3), (0, .methodref 23 27), (0, .nameAndType 28 29), (0, u "type"), (0, u "(Ljava/lang/String;)V"), (0, .methodref 23 31), (0, .nameAndType 32 33), (0, u "moveTo"), (0, u "(I)V"), (0, .methodref 23 35), (0, .nameAndType 36 6), (0, u "clear"), (0, .methodref 23 38), (0, .nameAndType 39 40), (0, u "text"), (0, u "()Ljava/lang/String;"), (0, .methodref 7 42), (0, .nameAndType 43 44), (0, u "length"), (0, u "()I"), (0, .methodref 23 46), (0, .nameAndType 47 44), (0, u "cursor"), (0, .methodref 7 49), (0, .nameAndType 50 51), (0, u "equals"), (0, u "(Ljava/lang/Object;)Z"), (3, u "law"), (0, u "(IIII)Z")] 2

def k1m0 : Method := { name := "<init>", desc := "()V", sig := { parameters := [], returnType := none }, accessFlags := 1, code := none }
def k1c1 : Code := { maxStack := 6, maxLocals := 4, code := method_2_code, exceptionTable := #[], attributes := #[] }
def k1m1 : Method := { name := "drawn", desc := "(ICCC)Ljava/lang/String;", sig := { parameters := [.int, .char, .char, .char], returnType := some (.object "java/lang/String") }, accessFlags := 10, code := some k1c1 }
def k1c2 : Code := { maxStack := 4, maxLocals := 15, code := code, exceptionTable := #[], attributes := #[] }
def k1m2 : Method := { name := "law", desc := "(IIII)Z", sig := { parameters := [.int, .int, .int, .int], returnType := some .boolean }, accessFlags := 9, code := some k1c2 }
/-- motifolio/patterns/memento/EditorClearPinLaw -/
def k1 : Class := { plain "motifolio/patterns/memento/EditorClearPinLaw" (some 0) with
  accessFlags := 49
  interfaces := #[]
  cf := some (fileOf pool1 13 #[] #[{ accessFlags := 1, nameIndex := 5, descriptorIndex := 6, attributes := #[] }, { accessFlags := 10, nameIndex := 16, descriptorIndex := 17, attributes := #[] }, { accessFlags := 9, nameIndex := 55, descriptorIndex := 56, attributes := #[] }] 49 2 #[] #[])
  fields := #[]
  methods := #[k1m0, k1m1, k1m2]
  instanceTypes := #[]
  staticTypes := #[]
  resolved := Array.replicate 59 none
  statics := none }

def pool2 : Array CpInfo := pool [(1, .class_ 2), (0, u "java/io/Serializable"), (0, .class_ 4), (0, u "java/lang/Object")] 2

/-- java/io/Serializable -/
def k2 : Class := { plain "java/io/Serializable" (some 0) with
  accessFlags := 1537
  interfaces := #[]
  cf := some (fileOf pool2 1 #[] #[] 1537 3 #[] #[])
  fields := #[]
  methods := #[]
  instanceTypes := #[]
  staticTypes := #[]
  resolved := Array.replicate 7 none
  statics := none }

def pool3 : Array CpInfo := pool [(1, .class_ 2), (0, u "java/lang/Comparable"), (0, .class_ 4), (0, u "java/lang/Object")] 7

/-- java/lang/Comparable -/
def k3 : Class := { plain "java/lang/Comparable" (some 0) with
  accessFlags := 1537
  interfaces := #[]
  cf := some (fileOf pool3 1 #[] #[] 1537 3 #[] #[])
  fields := #[]
  methods := #[]
  instanceTypes := #[]
  staticTypes := #[]
  resolved := Array.replicate 12 none
  statics := none }

def pool4 : Array CpInfo := pool [(2, .class_ 4), (1, u "java/lang/CharSequence"), (42, .class_ 48), (0, u "java/lang/CharSequence$1CodePointIterator"), (10, .class_ 60), (0, u "java/lang/CharSequence$1CharIterator"), (5, .class_ 67), (0, u "java/lang/Object")] 63

/-- java/lang/CharSequence -/
def k4 : Class := { plain "java/lang/CharSequence" (some 0) with
  accessFlags := 1537
  interfaces := #[]
  cf := some (fileOf pool4 2 #[.nestMembers #[47, 59]] #[] 1537 66 #[] #[])
  fields := #[]
  methods := #[]
  instanceTypes := #[]
  staticTypes := #[]
  resolved := Array.replicate 131 none
  statics := none }

def pool5 : Array CpInfo := pool [(1, .class_ 2), (0, u "java/lang/constant/Constable"), (0, .class_ 4), (0, u "java/lang/Object")] 6

/-- java/lang/constant/Constable -/
def k5 : Class := { plain "java/lang/constant/Constable" (some 0) with
  accessFlags := 1537
  interfaces := #[]
  cf := some (fileOf pool5 1 #[] #[] 1537 3 #[] #[])
  fields := #[]
  methods := #[]
  instanceTypes := #[]
  staticTypes := #[]
  resolved := Array.replicate 11 none
  statics := none }

def pool6 : Array CpInfo := pool [(1, .class_ 2), (0, u "java/lang/constant/ConstantDesc"), (0, .class_ 4), (0, u "java/lang/Object")] 32

/-- java/lang/constant/ConstantDesc -/
def k6 : Class := { plain "java/lang/constant/ConstantDesc" (some 0) with
  accessFlags := 1537
  interfaces := #[]
  cf := some (fileOf pool6 1 #[] #[] 1537 3 #[] #[])
  fields := #[]
  methods := #[]
  instanceTypes := #[]
  staticTypes := #[]
  resolved := Array.replicate 37 none
  statics := none }

def pool7 : Array CpInfo := pool [(1, .methodref 2 3), (0, .class_ 4), (0, .nameAndType 5 6), (0, u "java/lang/Object"), (0, u "<init>"), (0, u "()V"), (0, .string 8), (0, u ""), (0, .fieldref 10 11), (0, .class_ 12), (0, .nameAndType 13 14), (0, u "java/lang/String"), (0, u "value"), (0, u "[B"), (0, .fieldref 10 16), (0, .nameAndType 17 18), (0, u "coder"), (0, u "B"), (2, u "hash"), (0, u "I"), (2, u "hashIsZero"), (0, u "Z"), (0, .methodref 10 28), (0, .nameAndType 5 29), (0, u "([CIILjava/lang/Void;)V"), (8, .fieldref 10 39), (0, .nameAndType 40 26), (0, u "COMPACT_STRINGS"), (1, .class_ 44), (1, u "java/lang/StringUTF16"), (0, u "compress"), (1, .methodref 42 48), (0, .nameAndType 49 50), (0, u "coderFromArrayLen"), (0, u "([BI)B"), (2, u "toBytes"), (0, .methodref 55 56), (0, .class_ 57), (0, .nameAndType 58 59), (0, u "java/util/Arrays"), (0, u "copyOfRange"), (0, u "([BII)[B"), (47, .class_ 109), (1, u "java/lang/StringLatin1"), (32, u "()Z"), (34, .methodref 42 178), (0, .nameAndType 45 179), (0, u "([CII)[B"), (13, .class_ 195), (1, u "java/lang/System"), (13, .methodref 10 210), (0, .nameAndType 5 211), (0, u "([BB)V"), (0, .methodref 193 213), (0, .nameAndType 214 215), (0, u "arraycopy"), (0, u "(Ljava/lang/Object;ILjava/lang/Object;II)V"), (118, u "()I"), (0, .methodref 10 336), (0, .nameAndType 17 337), (0, u "()B"), (2, u "()[B"), (28, u "(C)Z"), (119, .methodref 10 490), (0, .nameAndType 5 491), (0, u "(Ljava/lang/AbstractStringBuilder;Ljava/lang/Void;)V"), (1, .nameAndType 494 142), (0, u "isLatin1"), (10, .methodref 10 506), (0, .nameAndType 507 334), (0, u "length"), (5, u "checkFromToIndex"), (7, .methodref 10 522), (0, .nameAndType 523 524), (0, u "checkBoundsBeginEnd"), (0, u "(III)V"), (7, u "getBytes"), (8, .methodref 107 542), (0, .nameAndType 543 544), (0, u "equals"), (0, u "([B[B)Z"), (4, .methodref 550 506), (0, .class_ 551), (0, u "java/lang/AbstractStringBuilder"), (0, .methodref 550 553), (0, .nameAndType 554 340), (0, u "getValue"), (18, u "(Ljava/lang/Object;)Z"), (1, .class_ 576), (0, u "java/lang/CharSequence"), (22, u "CASE_INSENSITIVE_ORDER"), (0, u "Ljava/util/Comparator;"), (80, .methodref 10 682), (0, .nameAndType 683 684), (0, u "substring"), (0, u "(II)Ljava/lang/String;"), (97, u "valueOf"), (0, u "(C)Ljava/lang/String;"), (37, u "([BIB)V"), (70, u "(I)Ljava/lang/String;"), (117, u "([C)V"), (4, .methodref 107 1016), (0, .nameAndType 1017 369), (0, u "canEncode"), (0, .methodref 107 1019), (0, .nameAndType 53 1020), (0, u "(C)[B"), (26, .methodref 550 493), (5, .fieldref 1054 1055), (0, .class_ 1056), (0, .nameAndType 1057 1058), (0, u "jdk/internal/util/Preconditions"), (0, u "SIOOBE_FORMATTER"), (0, u "Ljava/util/function/BiFunction;"), (3, .methodref 1054 1063), (0, .nameAndType 513 1064), (0, u "(IIILjava/util/function/BiFunction;)I"), (36, u "serialPersistentFields"), (0, u "[Ljava/io/ObjectStreamField;"), (0, .class_ 1104), (0, u "java/lang/String$CaseInsensitiveComparator"), (1, .class_ 1107), (0, u "java/io/Serializable"), (0, .class_ 1109), (0, u "java/lang/Comparable"), (0, .class_ 1111), (0, u "java/lang/constant/Constable"), (0, .class_ 1113), (0, u "java/lang/constant/ConstantDesc"), (2, u "serialVersionUID"), (0, u "J"), (3, u "REPL"), (0, u "C"), (2, u "LATIN1"), (1, u "UTF16"), (105, u "(Ljava/lang/StringBuilder;)V")] 217

def k7m0 : Method := { name := "<init>", desc := "()V", sig := { parameters := [], returnType := none }, accessFlags := 1, code := none }
def k7c1 : Code := { maxStack := 5, maxLocals := 2, code := jdk_42_method_3_code, exceptionTable := #[], attributes := #[] }
def k7m1 : Method := { name := "<init>", desc := "([C)V", sig := { parameters := [(.array .char)], returnType := none }, accessFlags := 1, code := some k7c1 }
def k7c2 : Code := { maxStack := 3, maxLocals := 2, code := jdk_42_method_53_code, exceptionTable := #[], attributes := #[] }
def k7m2 : Method := { name := "<init>", desc := "(Ljava/lang/StringBuilder;)V", sig := { parameters := [(.object "java/lang/StringBuilder")], returnType := none }, accessFlags := 1, code := some k7c2 }
def k7c3 : Code := { maxStack := 2, maxLocals := 1, code := jdk_42_method_54_code, exceptionTable := #[], attributes := #[] }
def k7m3 : Method := { name := "length", desc := "()I", sig := { parameters := [], returnType := some .int }, accessFlags := 1, code := some k7c3 }
def k7c4 : Code := { maxStack := 2, maxLocals := 3, code := jdk_42_method_66_code, exceptionTable := #[], attributes := #[] }
def k7m4 : Method := { name := "equals", desc := "(Ljava/lang/Object;)Z", sig := { parameters := [(.object "java/lang/Object")], returnType := some .boolean }, accessFlags := 1, code := some k7c4 }
def k7c5 : Code := { maxStack := 3, maxLocals := 2, code := jdk_42_method_91_code, exceptionTable := #[], attributes := #[] }
def k7m5 : Method := { name := "substring", desc := "(I)Ljava/lang/String;", sig := { parameters := [.int], returnType := some (.object "java/lang/String") }, accessFlags := 1, code := some k7c5 }
def k7c6 : Code := { maxStack := 3, maxLocals := 5, code := jdk_42_method_92_code, exceptionTable := #[], attributes := #[] }
def k7m6 : Method := { name := "substring", desc := "(II)Ljava/lang/String;", sig := { parameters := [.int, .int], returnType := some (.object "java/lang/String") }, accessFlags := 1, code := some k7c6 }
def k7c7 : Code := { maxStack := 4, maxLocals := 1, code := jdk_42_method_139_code, exceptionTable := #[], attributes := #[] }
def k7m7 : Method := { name := "valueOf", desc := "(C)Ljava/lang/String;", sig := { parameters := [.char], returnType := some (.object "java/lang/String") }, accessFlags := 9, code := some k7c7 }
def k7c8 : Code := { maxStack := 5, maxLocals := 4, code := jdk_42_method_147_code, exceptionTable := #[], attributes := #[] }
def k7m8 : Method := { name := "getBytes", desc := "([BIB)V", sig := { parameters := [(.array .byte), .int, .byte], returnType := none }, accessFlags := 0, code := some k7c8 }
def k7c9 : Code := { maxStack := 4, maxLocals := 6, code := jdk_42_method_149_code, exceptionTable := #[], attributes := #[] }
def k7m9 : Method := { name := "<init>", desc := "([CIILjava/lang/Void;)V", sig := { parameters := [(.array .char), .int, .int, (.object "java/lang/Void")], returnType := none }, accessFlags := 2, code := some k7c9 }
def k7c10 : Code := { maxStack := 5, maxLocals := 5, code := jdk_42_method_150_code, exceptionTable := #[], attributes := #[] }
def k7m10 : Method := { name := "<init>", desc := "(Ljava/lang/AbstractStringBuilder;Ljava/lang/Void;)V", sig := { parameters := [(.object "java/lang/AbstractStringBuilder"), (.object "java/lang/Void")], returnType := none }, accessFlags := 0, code := some k7c10 }
def k7c11 : Code := { maxStack := 2, maxLocals := 3, code := jdk_42_method_151_code, exceptionTable := #[], attributes := #[] }
def k7m11 : Method := { name := "<init>", desc := "([BB)V", sig := { parameters := [(.array .byte), .byte], returnType := none }, accessFlags := 0, code := some k7c11 }
def k7c12 : Code := { maxStack := 1, maxLocals := 1, code := jdk_42_method_152_code, exceptionTable := #[], attributes := #[] }
def k7m12 : Method := { name := "coder", desc := "()B", sig := { parameters := [], returnType := some .byte }, accessFlags := 0, code := some k7c12 }
def k7c13 : Code := { maxStack := 4, maxLocals := 3, code := jdk_42_method_158_code, exceptionTable := #[], attributes := #[] }
def k7m13 : Method := { name := "checkBoundsBeginEnd", desc := "(III)V", sig := { parameters := [.int, .int, .int], returnType := none }, accessFlags := 8, code := some k7c13 }
/-- java/lang/String -/
def k7 : Class := { plain "java/lang/String" (some 0) with
  accessFlags := 49
  interfaces := #[2, 3, 4, 5, 6]
  cf := some (fileOf pool7 10 #[.nestMembers #[1103]] #[{ accessFlags := 1, nameIndex := 5, descriptorIndex := 6, attributes := #[] }, { accessFlags := 1, nameIndex := 5, descriptorIndex := 1010, attributes := #[] }, { accessFlags := 1, nameIndex := 5, descriptorIndex := 1233, attributes := #[] }, { accessFlags := 1, nameIndex := 507, descriptorIndex := 334, attributes := #[] }, { accessFlags := 1, nameIndex := 543, descriptorIndex := 573, attributes := #[] }, { accessFlags := 1, nameIndex := 683, descriptorIndex := 892, attributes := #[] }, { accessFlags := 1, nameIndex := 683, descriptorIndex := 684, attributes := #[] }, { accessFlags := 9, nameIndex := 782, descriptorIndex := 783, attributes := #[] }, { accessFlags := 0, nameIndex := 532, descriptorIndex := 821, attributes := #[] }, { accessFlags := 2, nameIndex := 5, descriptorIndex := 29, attributes := #[] }, { accessFlags := 0, nameIndex := 5, descriptorIndex := 491, attributes := #[] }, { accessFlags := 0, nameIndex := 5, descriptorIndex := 211, attributes := #[] }, { accessFlags := 0, nameIndex := 17, descriptorIndex := 337, attributes := #[] }, { accessFlags := 8, nameIndex := 523, descriptorIndex := 524, attributes := #[] }] 49 2 #[1106, 1108, 575, 1110, 1112] #[{ accessFlags := 18, nameIndex := 13, descriptorIndex := 14, attributes := #[] }, { accessFlags := 18, nameIndex := 17, descriptorIndex := 18, attributes := #[] }, { accessFlags := 2, nameIndex := 21, descriptorIndex := 22, attributes := #[] }, { accessFlags := 2, nameIndex := 25, descriptorIndex := 26, attributes := #[] }, { accessFlags := 26, nameIndex := 1116, descriptorIndex := 1117, attributes := #[] }, { accessFlags := 24, nameIndex := 40, descriptorIndex := 26, attributes := #[] }, { accessFlags := 26, nameIndex := 1101, descriptorIndex := 1102, attributes := #[] }, { accessFlags := 26, nameIndex := 1121, descriptorIndex := 1122, attributes := #[] }, { accessFlags := 25, nameIndex := 599, descriptorIndex := 600, attributes := #[] }, { accessFlags := 24, nameIndex := 1125, descriptorIndex := 18, attributes := #[] }, { accessFlags := 24, nameIndex := 1127, descriptorIndex := 18, attributes := #[] }])
  fields := #[{ name := "value", type := (.array .byte), accessFlags := 18, slot := 0, constantValue := 0 }, { name := "coder", type := .byte, accessFlags := 18, slot := 1, constantValue := 0 }, { name := "hash", type := .int, accessFlags := 2, slot := 2, constantValue := 0 }, { name := "hashIsZero", type := .boolean, accessFlags := 2, slot := 3, constantValue := 0 }, { name := "serialVersionUID", type := .long, accessFlags := 26, slot := 0, constantValue := 0 }, { name := "COMPACT_STRINGS", type := .boolean, accessFlags := 24, slot := 1, constantValue := 0 }, { name := "serialPersistentFields", type := (.array (.object "java/io/ObjectStreamField")), accessFlags := 26, slot := 2, constantValue := 0 }, { name := "REPL", type := .char, accessFlags := 26, slot := 3, constantValue := 0 }, { name := "CASE_INSENSITIVE_ORDER", type := (.object "java/util/Comparator"), accessFlags := 25, slot := 4, constantValue := 0 }, { name := "LATIN1", type := .byte, accessFlags := 24, slot := 5, constantValue := 0 }, { name := "UTF16", type := .byte, accessFlags := 24, slot := 6, constantValue := 0 }]
  methods := #[k7m0, k7m1, k7m2, k7m3, k7m4, k7m5, k7m6, k7m7, k7m8, k7m9, k7m10, k7m11, k7m12, k7m13]
  instanceTypes := #[(.array .byte), .byte, .int, .boolean]
  staticTypes := #[.long, .boolean, (.array (.object "java/io/ObjectStreamField")), .char, (.object "java/util/Comparator"), .byte, .byte]
  resolved := Array.replicate 1451 none
  statics := some 0 }

def pool8 : Array CpInfo := pool [(4, .class_ 6), (1, u "java/lang/Object"), (0, u "<init>"), (0, u "()V"), (5, .class_ 16), (1, u "java/lang/StringLatin1"), (73, u "canEncode"), (14, u "(C)Z"), (15, u "$assertionsDisabled"), (0, u "Z"), (98, .class_ 223), (1, u "java/lang/StringLatin1$LinesSpliterator"), (57, u "equals"), (0, u "([B[B)Z"), (97, u "toBytes"), (1, u "(C)[B"), (7, .class_ 391), (0, u "java/lang/StringLatin1$CharsSpliterator")] 3

def k8m0 : Method := { name := "<init>", desc := "()V", sig := { parameters := [], returnType := none }, accessFlags := 0, code := none }
def k8c1 : Code := { maxStack := 2, maxLocals := 1, code := jdk_43_method_3_code, exceptionTable := #[], attributes := #[] }
def k8m1 : Method := { name := "canEncode", desc := "(C)Z", sig := { parameters := [.char], returnType := some .boolean }, accessFlags := 9, code := some k8c1 }
def k8c2 : Code := { maxStack := 3, maxLocals := 3, code := jdk_43_method_13_code, exceptionTable := #[], attributes := #[] }
def k8m2 : Method := { name := "equals", desc := "([B[B)Z", sig := { parameters := [(.array .byte), (.array .byte)], returnType := some .boolean }, accessFlags := 9, code := some k8c2 }
def k8c3 : Code := { maxStack := 4, maxLocals := 1, code := jdk_43_method_46_code, exceptionTable := #[], attributes := #[] }
def k8m3 : Method := { name := "toBytes", desc := "(C)[B", sig := { parameters := [.char], returnType := some (.array .byte) }, accessFlags := 9, code := some k8c3 }
/-- java/lang/StringLatin1 -/
def k8 : Class := { plain "java/lang/StringLatin1" (some 0) with
  accessFlags := 48
  interfaces := #[]
  cf := some (fileOf pool8 14 #[.nestMembers #[390, 221]] #[{ accessFlags := 0, nameIndex := 7, descriptorIndex := 8, attributes := #[] }, { accessFlags := 9, nameIndex := 90, descriptorIndex := 105, attributes := #[] }, { accessFlags := 9, nameIndex := 281, descriptorIndex := 282, attributes := #[] }, { accessFlags := 9, nameIndex := 380, descriptorIndex := 382, attributes := #[] }] 48 4 #[] #[{ accessFlags := 4120, nameIndex := 121, descriptorIndex := 122, attributes := #[] }])
  fields := #[{ name := "$assertionsDisabled", type := .boolean, accessFlags := 4120, slot := 0, constantValue := 0 }]
  methods := #[k8m0, k8m1, k8m2, k8m3]
  instanceTypes := #[]
  staticTypes := #[.boolean]
  resolved := Array.replicate 395 none
  statics := none }

def pool9 : Array CpInfo := pool [(1, .methodref 2 3), (0, .class_ 4), (0, .nameAndType 5 6), (0, u "java/lang/Object"), (0, u "<init>"), (0, u "()V"), (0, .string 8), (0, u ""), (0, .fieldref 10 11), (0, .class_ 12), (0, .nameAndType 13 14), (0, u "motifolio/patterns/memento/Editor"), (0, u "text"), (0, u "Ljava/lang/String;"), (0, .fieldref 10 16), (0, .nameAndType 17 18), (0, u "cursor"), (0, u "I"), (0, .string 20), (0, u "typed"), (0, .methodref 22 23), (0, .class_ 24), (0, .nameAndType 25 26), (0, u "java/util/Objects"), (0, u "requireNonNull"), (0, u "(Ljava/lang/Object;Ljava/lang/String;)Ljava/lang/Object;"), (0, .class_ 28), (0, u "java/lang/StringBuilder"), (0, .methodref 27 3), (0, .methodref 31 32), (0, .class_ 33), (0, .nameAndType 34 35), (0, u "java/lang/String"), (0, u "substring"), (0, u "(II)Ljava/lang/String;"), (0, .methodref 27 37), (0, .nameAndType 38 39), (0, u "append"), (0, u "(Ljava/lang/String;)Ljava/lang/StringBuilder;"), (0, .methodref 31 41), (0, .nameAndType 34 42), (0, u "(I)Ljava/lang/String;"), (0, .methodref 27 44), (0, .nameAndType 45 46), (0, u "toString"), (0, u "()Ljava/lang/String;"), (0, .methodref 31 48), (0, .nameAndType 49 50), (0, u "length"), (0, u "()I"), (13, u "(Ljava/lang/String;)V"), (0, .class_ 66), (0, u "motifolio/patterns/memento/Editor$Memento"), (9, u "type"), (0, u "moveTo"), (0, u "(I)V"), (1, u "clear")] 9

def k9c0 : Code := { maxStack := 2, maxLocals := 1, code := prog_146_method_1_code, exceptionTable := #[], attributes := #[] }
def k9m0 : Method := { name := "<init>", desc := "()V", sig := { parameters := [], returnType := none }, accessFlags := 1, code := some k9c0 }
def k9c1 : Code := { maxStack := 1, maxLocals := 1, code := prog_146_method_2_code, exceptionTable := #[], attributes := #[] }
def k9m1 : Method := { name := "text", desc := "()Ljava/lang/String;", sig := { parameters := [], returnType := some (.object "java/lang/String") }, accessFlags := 1, code := some k9c1 }
def k9c2 : Code := { maxStack := 1, maxLocals := 1, code := prog_146_method_3_code, exceptionTable := #[], attributes := #[] }
def k9m2 : Method := { name := "cursor", desc := "()I", sig := { parameters := [], returnType := some .int }, accessFlags := 1, code := some k9c2 }
def k9c3 : Code := { maxStack := 5, maxLocals := 2, code := prog_146_method_4_code, exceptionTable := #[], attributes := #[] }
def k9m3 : Method := { name := "type", desc := "(Ljava/lang/String;)V", sig := { parameters := [(.object "java/lang/String")], returnType := none }, accessFlags := 1, code := some k9c3 }
def k9c4 : Code := { maxStack := 4, maxLocals := 2, code := prog_146_method_5_code, exceptionTable := #[], attributes := #[] }
def k9m4 : Method := { name := "moveTo", desc := "(I)V", sig := { parameters := [.int], returnType := none }, accessFlags := 1, code := some k9c4 }
def k9c5 : Code := { maxStack := 2, maxLocals := 1, code := prog_146_method_6_code, exceptionTable := #[], attributes := #[] }
def k9m5 : Method := { name := "clear", desc := "()V", sig := { parameters := [], returnType := none }, accessFlags := 1, code := some k9c5 }
/-- motifolio/patterns/memento/Editor -/
def k9 : Class := { plain "motifolio/patterns/memento/Editor" (some 0) with
  accessFlags := 49
  interfaces := #[]
  cf := some (fileOf pool9 10 #[.nestMembers #[65]] #[{ accessFlags := 1, nameIndex := 5, descriptorIndex := 6, attributes := #[] }, { accessFlags := 1, nameIndex := 13, descriptorIndex := 46, attributes := #[] }, { accessFlags := 1, nameIndex := 17, descriptorIndex := 50, attributes := #[] }, { accessFlags := 1, nameIndex := 76, descriptorIndex := 64, attributes := #[] }, { accessFlags := 1, nameIndex := 77, descriptorIndex := 78, attributes := #[] }, { accessFlags := 1, nameIndex := 80, descriptorIndex := 6, attributes := #[] }] 49 2 #[] #[{ accessFlags := 2, nameIndex := 13, descriptorIndex := 14, attributes := #[] }, { accessFlags := 2, nameIndex := 17, descriptorIndex := 18, attributes := #[] }])
  fields := #[{ name := "text", type := (.object "java/lang/String"), accessFlags := 2, slot := 0, constantValue := 0 }, { name := "cursor", type := .int, accessFlags := 2, slot := 1, constantValue := 0 }]
  methods := #[k9m0, k9m1, k9m2, k9m3, k9m4, k9m5]
  instanceTypes := #[(.object "java/lang/String"), .int]
  staticTypes := #[]
  resolved := Array.replicate 90 none
  statics := none }

def pool10 : Array CpInfo := pool [(2, .class_ 4), (1, u "java/lang/Object"), (0, u "<init>"), (0, u "()V"), (35, .class_ 44), (1, u "java/util/Objects"), (0, u "requireNonNull"), (48, u "(Ljava/lang/Object;Ljava/lang/String;)Ljava/lang/Object;")] 89

def k10m0 : Method := { name := "<init>", desc := "()V", sig := { parameters := [], returnType := none }, accessFlags := 2, code := none }
def k10c1 : Code := { maxStack := 3, maxLocals := 2, code := jdk_31_method_11_code, exceptionTable := #[], attributes := #[] }
def k10m1 : Method := { name := "requireNonNull", desc := "(Ljava/lang/Object;Ljava/lang/String;)Ljava/lang/Object;", sig := { parameters := [(.object "java/lang/Object"), (.object "java/lang/String")], returnType := some (.object "java/lang/Object") }, accessFlags := 9, code := some k10c1 }
/-- java/util/Objects -/
def k10 : Class := { plain "java/util/Objects" (some 0) with
  accessFlags := 49
  interfaces := #[]
  cf := some (fileOf pool10 42 #[] #[{ accessFlags := 2, nameIndex := 5, descriptorIndex := 6, attributes := #[] }, { accessFlags := 9, nameIndex := 45, descriptorIndex := 94, attributes := #[] }] 49 2 #[] #[])
  fields := #[]
  methods := #[k10m0, k10m1]
  instanceTypes := #[]
  staticTypes := #[]
  resolved := Array.replicate 184 none
  statics := none }

def pool11 : Array CpInfo := pool [(1, .class_ 2), (0, u "java/lang/Appendable"), (0, .class_ 4), (0, u "java/lang/Object")] 9

/-- java/lang/Appendable -/
def k11 : Class := { plain "java/lang/Appendable" (some 0) with
  accessFlags := 1537
  interfaces := #[]
  cf := some (fileOf pool11 1 #[] #[] 1537 3 #[] #[])
  fields := #[]
  methods := #[]
  instanceTypes := #[]
  staticTypes := #[]
  resolved := Array.replicate 14 none
  statics := none }

def pool12 : Array CpInfo := pool [(1, .class_ 2), (0, u "java/lang/String"), (0, .methodref 4 5), (0, .class_ 6), (0, .nameAndType 7 8), (0, u "java/lang/Object"), (0, u "<init>"), (0, u "()V"), (1, .class_ 12), (1, u "java/lang/AbstractStringBuilder"), (0, u "EMPTYVALUE"), (0, u "[B"), (0, .fieldref 10 16), (0, .nameAndType 17 14), (0, u "value"), (0, .fieldref 1 19), (0, .nameAndType 20 21), (0, u "COMPACT_STRINGS"), (0, u "Z"), (0, .fieldref 10 23), (0, .nameAndType 24 25), (0, u "coder"), (0, u "B"), (6, .methodref 1 33), (0, .nameAndType 34 35), (0, u "length"), (0, u "()I"), (4, .methodref 1 41), (0, .nameAndType 24 42), (0, u "()B"), (2, u "append"), (0, u "(Ljava/lang/String;)Ljava/lang/AbstractStringBuilder;"), (1, .class_ 49), (0, u "java/lang/CharSequence"), (19, u "(Ljava/lang/String;)V"), (5, u "maybeLatin1"), (3, .fieldref 10 80), (0, .nameAndType 81 82), (0, u "count"), (0, u "I"), (2, u "isLatin1"), (0, u "()Z"), (13, .methodref 10 101), (0, .nameAndType 102 103), (0, u "ensureCapacityInternal"), (0, u "(I)V"), (104, .methodref 10 209), (0, .nameAndType 210 211), (0, u "putStringAt"), (0, u "(ILjava/lang/String;)V"), (5, u "inflateIfNeededFor"), (2, .nameAndType 221 222), (0, u "getBytes"), (0, u "([BIB)V"), (174, .methodref 10 398), (0, .nameAndType 217 69), (0, .methodref 1 220), (3, u "()[B"), (40, .class_ 445), (0, u "java/lang/Appendable"), (106, u "getValue")] 56

def k12m0 : Method := { name := "<init>", desc := "()V", sig := { parameters := [], returnType := none }, accessFlags := 0, code := none }
def k12c1 : Code := { maxStack := 2, maxLocals := 2, code := jdk_68_method_2_code, exceptionTable := #[], attributes := #[] }
def k12m1 : Method := { name := "<init>", desc := "(I)V", sig := { parameters := [.int], returnType := none }, accessFlags := 0, code := some k12c1 }
def k12c2 : Code := { maxStack := 1, maxLocals := 1, code := jdk_68_method_6_code, exceptionTable := #[], attributes := #[] }
def k12m2 : Method := { name := "length", desc := "()I", sig := { parameters := [], returnType := some .int }, accessFlags := 1, code := some k12c2 }
def k12c3 : Code := { maxStack := 4, maxLocals := 3, code := jdk_68_method_9_code, exceptionTable := #[], attributes := #[] }
def k12m3 : Method := { name := "ensureCapacityInternal", desc := "(I)V", sig := { parameters := [.int], returnType := none }, accessFlags := 2, code := some k12c3 }
def k12c4 : Code := { maxStack := 3, maxLocals := 3, code := jdk_68_method_22_code, exceptionTable := #[], attributes := #[] }
def k12m4 : Method := { name := "append", desc := "(Ljava/lang/String;)Ljava/lang/AbstractStringBuilder;", sig := { parameters := [(.object "java/lang/String")], returnType := some (.object "java/lang/AbstractStringBuilder") }, accessFlags := 1, code := some k12c4 }
def k12c5 : Code := { maxStack := 1, maxLocals := 1, code := jdk_68_method_64_code, exceptionTable := #[], attributes := #[] }
def k12m5 : Method := { name := "getValue", desc := "()[B", sig := { parameters := [], returnType := some (.array .byte) }, accessFlags := 16, code := some k12c5 }
def k12c6 : Code := { maxStack := 1, maxLocals := 1, code := jdk_68_method_68_code, exceptionTable := #[], attributes := #[] }
def k12m6 : Method := { name := "isLatin1", desc := "()Z", sig := { parameters := [], returnType := some .boolean }, accessFlags := 16, code := some k12c6 }
def k12c7 : Code := { maxStack := 2, maxLocals := 2, code := jdk_68_method_71_code, exceptionTable := #[], attributes := #[] }
def k12m7 : Method := { name := "inflateIfNeededFor", desc := "(Ljava/lang/String;)V", sig := { parameters := [(.object "java/lang/String")], returnType := none }, accessFlags := 2, code := some k12c7 }
def k12c8 : Code := { maxStack := 4, maxLocals := 3, code := jdk_68_method_73_code, exceptionTable := #[], attributes := #[] }
def k12m8 : Method := { name := "putStringAt", desc := "(ILjava/lang/String;)V", sig := { parameters := [.int, (.object "java/lang/String")], returnType := none }, accessFlags := 2, code := some k12c8 }
/-- java/lang/AbstractStringBuilder -/
def k12 : Class := { plain "java/lang/AbstractStringBuilder" (some 0) with
  accessFlags := 1056
  interfaces := #[11, 4]
  cf := some (fileOf pool12 10 #[] #[{ accessFlags := 0, nameIndex := 7, descriptorIndex := 8, attributes := #[] }, { accessFlags := 0, nameIndex := 7, descriptorIndex := 103, attributes := #[] }, { accessFlags := 1, nameIndex := 34, descriptorIndex := 35, attributes := #[] }, { accessFlags := 2, nameIndex := 102, descriptorIndex := 103, attributes := #[] }, { accessFlags := 1, nameIndex := 45, descriptorIndex := 46, attributes := #[] }, { accessFlags := 16, nameIndex := 552, descriptorIndex := 403, attributes := #[] }, { accessFlags := 16, nameIndex := 85, descriptorIndex := 86, attributes := #[] }, { accessFlags := 2, nameIndex := 217, descriptorIndex := 69, attributes := #[] }, { accessFlags := 2, nameIndex := 210, descriptorIndex := 211, attributes := #[] }] 1056 4 #[444, 48] #[{ accessFlags := 0, nameIndex := 17, descriptorIndex := 14, attributes := #[] }, { accessFlags := 0, nameIndex := 24, descriptorIndex := 25, attributes := #[] }, { accessFlags := 0, nameIndex := 75, descriptorIndex := 21, attributes := #[] }, { accessFlags := 0, nameIndex := 81, descriptorIndex := 82, attributes := #[] }, { accessFlags := 26, nameIndex := 13, descriptorIndex := 14, attributes := #[] }])
  fields := #[{ name := "value", type := (.array .byte), accessFlags := 0, slot := 0, constantValue := 0 }, { name := "coder", type := .byte, accessFlags := 0, slot := 1, constantValue := 0 }, { name := "maybeLatin1", type := .boolean, accessFlags := 0, slot := 2, constantValue := 0 }, { name := "count", type := .int, accessFlags := 0, slot := 3, constantValue := 0 }, { name := "EMPTYVALUE", type := (.array .byte), accessFlags := 26, slot := 0, constantValue := 0 }]
  methods := #[k12m0, k12m1, k12m2, k12m3, k12m4, k12m5, k12m6, k12m7, k12m8]
  instanceTypes := #[(.array .byte), .byte, .boolean, .int]
  staticTypes := #[(.array .byte)]
  resolved := Array.replicate 609 none
  statics := none }

def pool13 : Array CpInfo := pool [(1, .methodref 2 3), (0, .class_ 4), (0, .nameAndType 5 6), (0, u "java/lang/AbstractStringBuilder"), (0, u "<init>"), (0, u "(I)V"), (11, .class_ 20), (1, u "java/lang/String"), (3, .class_ 26), (1, u "java/lang/StringBuilder"), (0, u "append"), (0, u "(Ljava/lang/String;)Ljava/lang/StringBuilder;"), (0, .methodref 2 30), (0, .nameAndType 27 31), (0, u "(Ljava/lang/String;)Ljava/lang/AbstractStringBuilder;"), (105, .methodref 18 138), (0, .nameAndType 5 139), (0, u "(Ljava/lang/StringBuilder;)V"), (5, u "()V"), (10, u "()I"), (186, .methodref 2 344), (0, .nameAndType 345 156), (0, u "length"), (3, .class_ 350), (0, u "java/lang/Appendable"), (0, .class_ 352), (0, u "java/io/Serializable"), (0, .class_ 354), (0, u "java/lang/Comparable"), (0, .class_ 356), (0, u "java/lang/CharSequence"), (0, u "serialVersionUID"), (0, u "J"), (40, u "toString"), (0, u "()Ljava/lang/String;")] 21

def k13c0 : Code := { maxStack := 2, maxLocals := 1, code := jdk_67_method_1_code, exceptionTable := #[], attributes := #[] }
def k13m0 : Method := { name := "<init>", desc := "()V", sig := { parameters := [], returnType := none }, accessFlags := 1, code := some k13c0 }
def k13c1 : Code := { maxStack := 2, maxLocals := 2, code := jdk_67_method_7_code, exceptionTable := #[], attributes := #[] }
def k13m1 : Method := { name := "append", desc := "(Ljava/lang/String;)Ljava/lang/StringBuilder;", sig := { parameters := [(.object "java/lang/String")], returnType := some (.object "java/lang/StringBuilder") }, accessFlags := 1, code := some k13c1 }
def k13c2 : Code := { maxStack := 3, maxLocals := 1, code := jdk_67_method_42_code, exceptionTable := #[], attributes := #[] }
def k13m2 : Method := { name := "toString", desc := "()Ljava/lang/String;", sig := { parameters := [], returnType := some (.object "java/lang/String") }, accessFlags := 1, code := some k13c2 }
def k13c3 : Code := { maxStack := 1, maxLocals := 1, code := jdk_67_method_93_code, exceptionTable := #[], attributes := #[] }
def k13m3 : Method := { name := "length", desc := "()I", sig := { parameters := [], returnType := some .int }, accessFlags := 4161, code := some k13c3 }
/-- java/lang/StringBuilder -/
def k13 : Class := { plain "java/lang/StringBuilder" (some 12) with
  accessFlags := 49
  interfaces := #[11, 2, 3, 4]
  cf := some (fileOf pool13 24 #[] #[{ accessFlags := 1, nameIndex := 5, descriptorIndex := 145, attributes := #[] }, { accessFlags := 1, nameIndex := 27, descriptorIndex := 28, attributes := #[] }, { accessFlags := 1, nameIndex := 399, descriptorIndex := 400, attributes := #[] }, { accessFlags := 4161, nameIndex := 345, descriptorIndex := 156, attributes := #[] }] 49 2 #[349, 351, 353, 355] #[{ accessFlags := 24, nameIndex := 357, descriptorIndex := 358, attributes := #[] }])
  fields := #[{ name := "serialVersionUID", type := .long, accessFlags := 24, slot := 0, constantValue := 0 }]
  methods := #[k13m0, k13m1, k13m2, k13m3]
  instanceTypes := #[(.array .byte), .byte, .boolean, .int]
  staticTypes := #[.long]
  resolved := Array.replicate 422 none
  statics := none }

def pool14 : Array CpInfo := pool [(2, .class_ 4), (1, u "java/lang/Object"), (0, u "<init>"), (0, u "()V"), (17, .class_ 26), (1, u "jdk/internal/util/Preconditions"), (20, u "checkFromToIndex"), (7, .class_ 56), (0, u "jdk/internal/util/Preconditions$4"), (57, .class_ 115), (0, u "jdk/internal/util/Preconditions$1"), (7, u "SIOOBE_FORMATTER"), (0, u "Ljava/util/function/BiFunction;"), (0, .class_ 126), (0, u "jdk/internal/util/Preconditions$2"), (3, u "AIOOBE_FORMATTER"), (0, .class_ 132), (0, u "jdk/internal/util/Preconditions$3"), (3, u "IOOBE_FORMATTER"), (46, u "(IIILjava/util/function/BiFunction;)I")] 10

def k14m0 : Method := { name := "<init>", desc := "()V", sig := { parameters := [], returnType := none }, accessFlags := 1, code := none }
def k14c1 : Code := { maxStack := 4, maxLocals := 4, code := jdk_41_method_12_code, exceptionTable := #[], attributes := #[] }
def k14m1 : Method := { name := "checkFromToIndex", desc := "(IIILjava/util/function/BiFunction;)I", sig := { parameters := [.int, .int, .int, (.object "java/util/function/BiFunction")], returnType := some .int }, accessFlags := 9, code := some k14c1 }
/-- jdk/internal/util/Preconditions -/
def k14 : Class := { plain "jdk/internal/util/Preconditions" (some 0) with
  accessFlags := 33
  interfaces := #[]
  cf := some (fileOf pool14 24 #[.nestMembers #[55, 131, 125, 114]] #[{ accessFlags := 1, nameIndex := 5, descriptorIndex := 6, attributes := #[] }, { accessFlags := 9, nameIndex := 47, descriptorIndex := 183, attributes := #[] }] 33 2 #[] #[{ accessFlags := 25, nameIndex := 123, descriptorIndex := 124, attributes := #[] }, { accessFlags := 25, nameIndex := 130, descriptorIndex := 124, attributes := #[] }, { accessFlags := 25, nameIndex := 136, descriptorIndex := 124, attributes := #[] }])
  fields := #[{ name := "SIOOBE_FORMATTER", type := (.object "java/util/function/BiFunction"), accessFlags := 25, slot := 0, constantValue := 0 }, { name := "AIOOBE_FORMATTER", type := (.object "java/util/function/BiFunction"), accessFlags := 25, slot := 1, constantValue := 0 }, { name := "IOOBE_FORMATTER", type := (.object "java/util/function/BiFunction"), accessFlags := 25, slot := 2, constantValue := 0 }]
  methods := #[k14m0, k14m1]
  instanceTypes := #[]
  staticTypes := #[(.object "java/util/function/BiFunction"), (.object "java/util/function/BiFunction"), (.object "java/util/function/BiFunction")]
  resolved := Array.replicate 194 none
  statics := some 1 }

def pool15 : Array CpInfo := pool [(2, .class_ 4), (1, u "java/lang/Object"), (0, u "<init>"), (0, u "()V"), (1, .class_ 10), (1, u "java/lang/System"), (0, u "allowSecurityManager"), (0, u "I"), (16, u "cons"), (0, u "Ljava/io/Console;"), (77, .class_ 110), (1, u "java/lang/System$CallersHolder"), (43, u "initialErrStream"), (0, u "Ljava/io/PrintStream;"), (19, u "security"), (0, u "Ljava/lang/SecurityManager;"), (31, .class_ 209), (0, u "java/lang/System$1"), (7, u "props"), (0, u "Ljava/util/Properties;"), (2, u "lineSeparator"), (0, u "Ljava/lang/String;"), (96, .class_ 321), (1, u "java/lang/System$LoggerFinder"), (5, .class_ 328), (0, u "java/lang/System$Logger"), (67, u "err"), (2, u "out"), (91, u "notSupportedJnuEncoding"), (15, u "in"), (17, u "initialIn"), (0, u "Ljava/io/InputStream;"), (35, u "bootLayer"), (0, u "Ljava/lang/ModuleLayer;"), (99, .class_ 664), (0, u "java/lang/System$2"), (9, u "NEVER"), (2, u "MAYBE"), (49, u "arraycopy"), (0, u "(Ljava/lang/Object;ILjava/lang/Object;II)V"), (72, .class_ 802), (0, u "java/lang/System$Logger$Level")] 31

def k15m0 : Method := { name := "<init>", desc := "()V", sig := { parameters := [], returnType := none }, accessFlags := 2, code := none }
def k15m1 : Method := { name := "arraycopy", desc := "(Ljava/lang/Object;ILjava/lang/Object;II)V", sig := { parameters := [(.object "java/lang/Object"), .int, (.object "java/lang/Object"), .int, .int], returnType := none }, accessFlags := 265, code := none }
/-- java/lang/System -/
def k15 : Class := { plain "java/lang/System" (some 0) with
  accessFlags := 49
  interfaces := #[]
  cf := some (fileOf pool15 8 #[.nestMembers #[319, 327, 801, 108, 663, 208]] #[{ accessFlags := 2, nameIndex := 5, descriptorIndex := 6, attributes := #[] }, { accessFlags := 265, nameIndex := 727, descriptorIndex := 728, attributes := #[] }] 49 2 #[] #[{ accessFlags := 25, nameIndex := 507, descriptorIndex := 526, attributes := #[] }, { accessFlags := 25, nameIndex := 399, descriptorIndex := 155, attributes := #[] }, { accessFlags := 25, nameIndex := 396, descriptorIndex := 155, attributes := #[] }, { accessFlags := 10, nameIndex := 525, descriptorIndex := 526, attributes := #[] }, { accessFlags := 26, nameIndex := 674, descriptorIndex := 12, attributes := #[] }, { accessFlags := 26, nameIndex := 677, descriptorIndex := 12, attributes := #[] }, { accessFlags := 10, nameIndex := 11, descriptorIndex := 12, attributes := #[] }, { accessFlags := 74, nameIndex := 175, descriptorIndex := 176, attributes := #[] }, { accessFlags := 10, nameIndex := 491, descriptorIndex := 222, attributes := #[] }, { accessFlags := 74, nameIndex := 29, descriptorIndex := 30, attributes := #[] }, { accessFlags := 74, nameIndex := 154, descriptorIndex := 155, attributes := #[] }, { accessFlags := 10, nameIndex := 217, descriptorIndex := 218, attributes := #[] }, { accessFlags := 10, nameIndex := 221, descriptorIndex := 222, attributes := #[] }, { accessFlags := 8, nameIndex := 562, descriptorIndex := 563, attributes := #[] }])
  fields := #[{ name := "in", type := (.object "java/io/InputStream"), accessFlags := 25, slot := 0, constantValue := 0 }, { name := "out", type := (.object "java/io/PrintStream"), accessFlags := 25, slot := 1, constantValue := 0 }, { name := "err", type := (.object "java/io/PrintStream"), accessFlags := 25, slot := 2, constantValue := 0 }, { name := "initialIn", type := (.object "java/io/InputStream"), accessFlags := 10, slot := 3, constantValue := 0 }, { name := "NEVER", type := .int, accessFlags := 26, slot := 4, constantValue := 0 }, { name := "MAYBE", type := .int, accessFlags := 26, slot := 5, constantValue := 0 }, { name := "allowSecurityManager", type := .int, accessFlags := 10, slot := 6, constantValue := 0 }, { name := "security", type := (.object "java/lang/SecurityManager"), accessFlags := 74, slot := 7, constantValue := 0 }, { name := "notSupportedJnuEncoding", type := (.object "java/lang/String"), accessFlags := 10, slot := 8, constantValue := 0 }, { name := "cons", type := (.object "java/io/Console"), accessFlags := 74, slot := 9, constantValue := 0 }, { name := "initialErrStream", type := (.object "java/io/PrintStream"), accessFlags := 74, slot := 10, constantValue := 0 }, { name := "props", type := (.object "java/util/Properties"), accessFlags := 10, slot := 11, constantValue := 0 }, { name := "lineSeparator", type := (.object "java/lang/String"), accessFlags := 10, slot := 12, constantValue := 0 }, { name := "bootLayer", type := (.object "java/lang/ModuleLayer"), accessFlags := 8, slot := 13, constantValue := 0 }]
  methods := #[k15m0, k15m1]
  instanceTypes := #[]
  staticTypes := #[(.object "java/io/InputStream"), (.object "java/io/PrintStream"), (.object "java/io/PrintStream"), (.object "java/io/InputStream"), .int, .int, .int, (.object "java/lang/SecurityManager"), (.object "java/lang/String"), (.object "java/io/Console"), (.object "java/io/PrintStream"), (.object "java/util/Properties"), (.object "java/lang/String"), (.object "java/lang/ModuleLayer")]
  resolved := Array.replicate 834 none
  statics := none }

def pool16 : Array CpInfo := pool [(2, .class_ 4), (1, u "java/lang/Object"), (0, u "<init>"), (0, u "()V"), (7, .class_ 16), (1, u "java/util/Arrays"), (57, .class_ 76), (1, u "java/util/Arrays$NaturalOrder"), (36, .class_ 115), (1, u "java/util/Arrays$LegacyMergeSort"), (1, u "Z"), (21, u "copyOfRange"), (10, .methodref 151 152), (0, .class_ 153), (0, .nameAndType 154 155), (0, u "java/lang/System"), (0, u "arraycopy"), (0, u "(Ljava/lang/Object;ILjava/lang/Object;II)V"), (148, .methodref 305 306), (0, .class_ 307), (0, .nameAndType 308 309), (0, u "java/lang/Math"), (0, u "min"), (0, u "(II)I"), (29, .methodref 14 340), (0, .nameAndType 341 342), (0, u "copyOfRangeByte"), (0, u "([BII)[B"), (0, .methodref 14 344), (0, .nameAndType 345 346), (0, u "checkLength"), (0, u "(II)V"), (28, .class_ 376), (0, u "java/util/Arrays$ArrayList"), (68, u "$assertionsDisabled"), (269, u "MIN_ARRAY_SORT_GRAN"), (0, u "I"), (2, u "INSERTIONSORT_THRESHOLD"), (255, .class_ 976), (0, u "java/util/Arrays$ArrayItr")] 52

def k16m0 : Method := { name := "<init>", desc := "()V", sig := { parameters := [], returnType := none }, accessFlags := 2, code := none }
def k16c1 : Code := { maxStack := 4, maxLocals := 2, code := jdk_65_method_131_code, exceptionTable := #[], attributes := #[] }
def k16m1 : Method := { name := "checkLength", desc := "(II)V", sig := { parameters := [.int, .int], returnType := none }, accessFlags := 10, code := some k16c1 }
def k16c2 : Code := { maxStack := 3, maxLocals := 3, code := jdk_65_method_132_code, exceptionTable := #[], attributes := #[] }
def k16m2 : Method := { name := "copyOfRange", desc := "([BII)[B", sig := { parameters := [(.array .byte), .int, .int], returnType := some (.array .byte) }, accessFlags := 9, code := some k16c2 }
def k16c3 : Code := { maxStack := 6, maxLocals := 5, code := jdk_65_method_133_code, exceptionTable := #[], attributes := #[] }
def k16m3 : Method := { name := "copyOfRangeByte", desc := "([BII)[B", sig := { parameters := [(.array .byte), .int, .int], returnType := some (.array .byte) }, accessFlags := 10, code := some k16c3 }
/-- java/util/Arrays -/
def k16 : Class := { plain "java/util/Arrays" (some 0) with
  accessFlags := 49
  interfaces := #[]
  cf := some (fileOf pool16 14 #[.nestMembers #[975, 375, 113, 74]] #[{ accessFlags := 2, nameIndex := 5, descriptorIndex := 6, attributes := #[] }, { accessFlags := 10, nameIndex := 345, descriptorIndex := 346, attributes := #[] }, { accessFlags := 9, nameIndex := 139, descriptorIndex := 342, attributes := #[] }, { accessFlags := 10, nameIndex := 341, descriptorIndex := 342, attributes := #[] }] 49 2 #[] #[{ accessFlags := 26, nameIndex := 715, descriptorIndex := 716, attributes := #[] }, { accessFlags := 26, nameIndex := 719, descriptorIndex := 716, attributes := #[] }, { accessFlags := 4120, nameIndex := 445, descriptorIndex := 117, attributes := #[] }])
  fields := #[{ name := "MIN_ARRAY_SORT_GRAN", type := .int, accessFlags := 26, slot := 0, constantValue := 0 }, { name := "INSERTIONSORT_THRESHOLD", type := .int, accessFlags := 26, slot := 1, constantValue := 0 }, { name := "$assertionsDisabled", type := .boolean, accessFlags := 4120, slot := 2, constantValue := 0 }]
  methods := #[k16m0, k16m1, k16m2, k16m3]
  instanceTypes := #[]
  staticTypes := #[.int, .int, .boolean]
  resolved := Array.replicate 1029 none
  statics := none }

def pool17 : Array CpInfo := pool [(1, .class_ 2), (0, u "java/lang/Math"), (1, .class_ 6), (1, u "java/lang/Object"), (0, u "<init>"), (0, u "()V"), (89, .class_ 100), (1, u "java/lang/Math$RandomNumberGeneratorHolder"), (71, u "negativeZeroFloatBits"), (0, u "J"), (2, u "negativeZeroDoubleBits"), (24, u "min"), (43, u "$assertionsDisabled"), (0, u "Z"), (88, u "(II)I"), (2, u "twoToTheDoubleScaleDown"), (0, u "D"), (4, u "twoToTheDoubleScaleUp"), (9, u "E"), (3, u "PI"), (2, u "TAU"), (2, u "DEGREES_TO_RADIANS"), (0, u "RADIANS_TO_DEGREES")] 94

def k17m0 : Method := { name := "<init>", desc := "()V", sig := { parameters := [], returnType := none }, accessFlags := 2, code := none }
def k17c1 : Code := { maxStack := 2, maxLocals := 2, code := jdk_29_method_69_code, exceptionTable := #[], attributes := #[] }
def k17m1 : Method := { name := "min", desc := "(II)I", sig := { parameters := [.int, .int], returnType := some .int }, accessFlags := 9, code := some k17c1 }
/-- java/lang/Math -/
def k17 : Class := { plain "java/lang/Math" (some 0) with
  accessFlags := 49
  interfaces := #[]
  cf := some (fileOf pool17 1 #[.nestMembers #[98]] #[{ accessFlags := 2, nameIndex := 7, descriptorIndex := 8, attributes := #[] }, { accessFlags := 9, nameIndex := 201, descriptorIndex := 335, attributes := #[] }] 49 4 #[] #[{ accessFlags := 25, nameIndex := 354, descriptorIndex := 339, attributes := #[] }, { accessFlags := 25, nameIndex := 358, descriptorIndex := 339, attributes := #[] }, { accessFlags := 25, nameIndex := 361, descriptorIndex := 339, attributes := #[] }, { accessFlags := 26, nameIndex := 364, descriptorIndex := 339, attributes := #[] }, { accessFlags := 26, nameIndex := 365, descriptorIndex := 339, attributes := #[] }, { accessFlags := 26, nameIndex := 172, descriptorIndex := 173, attributes := #[] }, { accessFlags := 26, nameIndex := 176, descriptorIndex := 173, attributes := #[] }, { accessFlags := 8, nameIndex := 344, descriptorIndex := 339, attributes := #[] }, { accessFlags := 8, nameIndex := 338, descriptorIndex := 339, attributes := #[] }, { accessFlags := 4120, nameIndex := 245, descriptorIndex := 246, attributes := #[] }])
  fields := #[{ name := "E", type := .double, accessFlags := 25, slot := 0, constantValue := 0 }, { name := "PI", type := .double, accessFlags := 25, slot := 1, constantValue := 0 }, { name := "TAU", type := .double, accessFlags := 25, slot := 2, constantValue := 0 }, { name := "DEGREES_TO_RADIANS", type := .double, accessFlags := 26, slot := 3, constantValue := 0 }, { name := "RADIANS_TO_DEGREES", type := .double, accessFlags := 26, slot := 4, constantValue := 0 }, { name := "negativeZeroFloatBits", type := .long, accessFlags := 26, slot := 5, constantValue := 0 }, { name := "negativeZeroDoubleBits", type := .long, accessFlags := 26, slot := 6, constantValue := 0 }, { name := "twoToTheDoubleScaleUp", type := .double, accessFlags := 8, slot := 7, constantValue := 0 }, { name := "twoToTheDoubleScaleDown", type := .double, accessFlags := 8, slot := 8, constantValue := 0 }, { name := "$assertionsDisabled", type := .boolean, accessFlags := 4120, slot := 9, constantValue := 0 }]
  methods := #[k17m0, k17m1]
  instanceTypes := #[]
  staticTypes := #[.double, .double, .double, .double, .double, .long, .long, .double, .double, .boolean]
  resolved := Array.replicate 460 none
  statics := none }

def pool18 : Array CpInfo := pool [(6, .class_ 8), (1, u "java/lang/Object"), (0, u "<init>"), (0, u "()V"), (1, .class_ 14), (1, u "java/lang/StringUTF16"), (31, u "$assertionsDisabled"), (0, u "Z"), (13, u "HI_BYTE_SHIFT"), (0, u "I"), (2, u "LO_BYTE_SHIFT"), (49, .methodref 12 116), (0, .nameAndType 117 118), (0, u "compress"), (0, u "([CI[BII)I"), (3, u "([CII)[B"), (138, u "coderFromArrayLen"), (0, u "([BI)B"), (106, .class_ 371), (1, u "java/lang/StringUTF16$LinesSpliterator"), (58, u "MAX_LENGTH"), (196, .class_ 628), (0, u "java/lang/StringUTF16$CodePointsSpliterator"), (0, .class_ 630), (0, u "java/lang/StringUTF16$CharsSpliterator")] 4

def k18m0 : Method := { name := "<init>", desc := "()V", sig := { parameters := [], returnType := none }, accessFlags := 0, code := none }
def k18c1 : Code := { maxStack := 2, maxLocals := 2, code := jdk_52_method_15_code, exceptionTable := #[], attributes := #[] }
def k18m1 : Method := { name := "coderFromArrayLen", desc := "([BI)B", sig := { parameters := [(.array .byte), .int], returnType := some .byte }, accessFlags := 8, code := some k18c1 }
def k18c2 : Code := { maxStack := 5, maxLocals := 6, code := jdk_52_method_16_code, exceptionTable := #[], attributes := #[] }
def k18m2 : Method := { name := "compress", desc := "([CII)[B", sig := { parameters := [(.array .char), .int, .int], returnType := some (.array .byte) }, accessFlags := 9, code := some k18c2 }
def k18c3 : Code := { maxStack := 3, maxLocals := 7, code := jdk_52_method_21_code, exceptionTable := #[], attributes := #[] }
def k18m3 : Method := { name := "compress", desc := "([CI[BII)I", sig := { parameters := [(.array .char), .int, (.array .byte), .int, .int], returnType := some .int }, accessFlags := 9, code := some k18c3 }
/-- java/lang/StringUTF16 -/
def k18 : Class := { plain "java/lang/StringUTF16" (some 0) with
  accessFlags := 48
  interfaces := #[]
  cf := some (fileOf pool18 12 #[.nestMembers #[627, 629, 369]] #[{ accessFlags := 0, nameIndex := 9, descriptorIndex := 10, attributes := #[] }, { accessFlags := 8, nameIndex := 261, descriptorIndex := 262, attributes := #[] }, { accessFlags := 9, nameIndex := 117, descriptorIndex := 122, attributes := #[] }, { accessFlags := 9, nameIndex := 117, descriptorIndex := 118, attributes := #[] }] 48 6 #[] #[{ accessFlags := 26, nameIndex := 61, descriptorIndex := 62, attributes := #[] }, { accessFlags := 26, nameIndex := 65, descriptorIndex := 62, attributes := #[] }, { accessFlags := 24, nameIndex := 430, descriptorIndex := 62, attributes := #[] }, { accessFlags := 4120, nameIndex := 46, descriptorIndex := 47, attributes := #[] }])
  fields := #[{ name := "HI_BYTE_SHIFT", type := .int, accessFlags := 26, slot := 0, constantValue := 0 }, { name := "LO_BYTE_SHIFT", type := .int, accessFlags := 26, slot := 1, constantValue := 0 }, { name := "MAX_LENGTH", type := .int, accessFlags := 24, slot := 2, constantValue := 0 }, { name := "$assertionsDisabled", type := .boolean, accessFlags := 4120, slot := 3, constantValue := 0 }]
  methods := #[k18m0, k18m1, k18m2, k18m3]
  instanceTypes := #[]
  staticTypes := #[.int, .int, .int, .boolean]
  resolved := Array.replicate 635 none
  statics := none }

def pool19 : Array CpInfo := pool [(9, u "<init>"), (6, .class_ 18), (1, u "java/lang/Object"), (0, u "()V"), (1, .class_ 23), (1, u "jdk/internal/util/ArraysSupport"), (0, u "LOG2_ARRAY_LONG_INDEX_SCALE"), (0, u "I"), (2, u "U"), (0, u "Ljdk/internal/misc/Unsafe;"), (8, u "BIG_ENDIAN"), (0, u "Z"), (8, u "LOG2_BYTE_BIT_SIZE"), (4, u "LOG2_ARRAY_INT_INDEX_SCALE"), (54, u "JLA"), (0, u "Ljdk/internal/access/JavaLangAccess;"), (11, u "LOG2_ARRAY_BOOLEAN_INDEX_SCALE"), (9, u "LOG2_ARRAY_BYTE_INDEX_SCALE"), (5, u "LOG2_ARRAY_CHAR_INDEX_SCALE"), (5, u "LOG2_ARRAY_SHORT_INDEX_SCALE"), (18, u "LOG2_ARRAY_FLOAT_INDEX_SCALE"), (24, u "LOG2_ARRAY_DOUBLE_INDEX_SCALE"), (89, u "T_BOOLEAN"), (2, u "T_CHAR"), (1, u "T_FLOAT"), (1, u "T_DOUBLE"), (1, u "T_BYTE"), (1, u "T_SHORT"), (1, u "T_INT"), (1, u "T_LONG"), (1, u "SOFT_MAX_ARRAY_LENGTH")] 83

def k19m0 : Method := { name := "<init>", desc := "()V", sig := { parameters := [], returnType := none }, accessFlags := 2, code := none }
/-- jdk/internal/util/ArraysSupport -/
def k19 : Class := { plain "jdk/internal/util/ArraysSupport" (some 0) with
  accessFlags := 33
  interfaces := #[]
  cf := some (fileOf pool19 21 #[] #[{ accessFlags := 2, nameIndex := 9, descriptorIndex := 19, attributes := #[] }] 33 16 #[] #[{ accessFlags := 24, nameIndex := 28, descriptorIndex := 29, attributes := #[] }, { accessFlags := 26, nameIndex := 38, descriptorIndex := 39, attributes := #[] }, { accessFlags := 25, nameIndex := 121, descriptorIndex := 25, attributes := #[] }, { accessFlags := 25, nameIndex := 131, descriptorIndex := 25, attributes := #[] }, { accessFlags := 25, nameIndex := 137, descriptorIndex := 25, attributes := #[] }, { accessFlags := 25, nameIndex := 143, descriptorIndex := 25, attributes := #[] }, { accessFlags := 25, nameIndex := 53, descriptorIndex := 25, attributes := #[] }, { accessFlags := 25, nameIndex := 24, descriptorIndex := 25, attributes := #[] }, { accessFlags := 25, nameIndex := 162, descriptorIndex := 25, attributes := #[] }, { accessFlags := 25, nameIndex := 187, descriptorIndex := 25, attributes := #[] }, { accessFlags := 26, nameIndex := 48, descriptorIndex := 25, attributes := #[] }, { accessFlags := 25, nameIndex := 277, descriptorIndex := 25, attributes := #[] }, { accessFlags := 25, nameIndex := 280, descriptorIndex := 25, attributes := #[] }, { accessFlags := 25, nameIndex := 282, descriptorIndex := 25, attributes := #[] }, { accessFlags := 25, nameIndex := 284, descriptorIndex := 25, attributes := #[] }, { accessFlags := 25, nameIndex := 286, descriptorIndex := 25, attributes := #[] }, { accessFlags := 25, nameIndex := 288, descriptorIndex := 25, attributes := #[] }, { accessFlags := 25, nameIndex := 290, descriptorIndex := 25, attributes := #[] }, { accessFlags := 25, nameIndex := 292, descriptorIndex := 25, attributes := #[] }, { accessFlags := 26, nameIndex := 108, descriptorIndex := 109, attributes := #[] }, { accessFlags := 25, nameIndex := 294, descriptorIndex := 25, attributes := #[] }])
  fields := #[{ name := "U", type := (.object "jdk/internal/misc/Unsafe"), accessFlags := 24, slot := 0, constantValue := 0 }, { name := "BIG_ENDIAN", type := .boolean, accessFlags := 26, slot := 1, constantValue := 0 }, { name := "LOG2_ARRAY_BOOLEAN_INDEX_SCALE", type := .int, accessFlags := 25, slot := 2, constantValue := 0 }, { name := "LOG2_ARRAY_BYTE_INDEX_SCALE", type := .int, accessFlags := 25, slot := 3, constantValue := 0 }, { name := "LOG2_ARRAY_CHAR_INDEX_SCALE", type := .int, accessFlags := 25, slot := 4, constantValue := 0 }, { name := "LOG2_ARRAY_SHORT_INDEX_SCALE", type := .int, accessFlags := 25, slot := 5, constantValue := 0 }, { name := "LOG2_ARRAY_INT_INDEX_SCALE", type := .int, accessFlags := 25, slot := 6, constantValue := 0 }, { name := "LOG2_ARRAY_LONG_INDEX_SCALE", type := .int, accessFlags := 25, slot := 7, constantValue := 0 }, { name := "LOG2_ARRAY_FLOAT_INDEX_SCALE", type := .int, accessFlags := 25, slot := 8, constantValue := 0 }, { name := "LOG2_ARRAY_DOUBLE_INDEX_SCALE", type := .int, accessFlags := 25, slot := 9, constantValue := 0 }, { name := "LOG2_BYTE_BIT_SIZE", type := .int, accessFlags := 26, slot := 10, constantValue := 0 }, { name := "T_BOOLEAN", type := .int, accessFlags := 25, slot := 11, constantValue := 0 }, { name := "T_CHAR", type := .int, accessFlags := 25, slot := 12, constantValue := 0 }, { name := "T_FLOAT", type := .int, accessFlags := 25, slot := 13, constantValue := 0 }, { name := "T_DOUBLE", type := .int, accessFlags := 25, slot := 14, constantValue := 0 }, { name := "T_BYTE", type := .int, accessFlags := 25, slot := 15, constantValue := 0 }, { name := "T_SHORT", type := .int, accessFlags := 25, slot := 16, constantValue := 0 }, { name := "T_INT", type := .int, accessFlags := 25, slot := 17, constantValue := 0 }, { name := "T_LONG", type := .int, accessFlags := 25, slot := 18, constantValue := 0 }, { name := "JLA", type := (.object "jdk/internal/access/JavaLangAccess"), accessFlags := 26, slot := 19, constantValue := 0 }, { name := "SOFT_MAX_ARRAY_LENGTH", type := .int, accessFlags := 25, slot := 20, constantValue := 0 }]
  methods := #[k19m0]
  instanceTypes := #[]
  staticTypes := #[(.object "jdk/internal/misc/Unsafe"), .boolean, .int, .int, .int, .int, .int, .int, .int, .int, .int, .int, .int, .int, .int, .int, .int, .int, .int, (.object "jdk/internal/access/JavaLangAccess"), .int]
  resolved := Array.replicate 378 none
  statics := none }

def pool20 : Array CpInfo := pool [(1, u "java/lang/Cloneable"), (0, .class_ 1), (0, u "java/lang/Object"), (0, .class_ 3)] 3

/-- java/lang/Cloneable -/
def k20 : Class := { plain "java/lang/Cloneable" (some 0) with
  accessFlags := 1537
  interfaces := #[]
  cf := some (fileOf pool20 2 #[] #[] 1537 4 #[] #[])
  fields := #[]
  methods := #[]
  instanceTypes := #[]
  staticTypes := #[]
  resolved := Array.replicate 8 none
  statics := none }

/-- the primitive byte -/
def k21 : Class := { plain "byte" none with kind := .primitive 'B', accessFlags := 0x411 }
/-- [B -/
def k22 : Class := { plain "[B" (some 0) with kind := .array 21 .byte, interfaces := #[20, 2], accessFlags := 1041 }

/-- the primitive char -/
def k23 : Class := { plain "char" none with kind := .primitive 'C', accessFlags := 0x411 }
/-- [C -/
def k24 : Class := { plain "[C" (some 0) with kind := .array 23 .char, interfaces := #[20, 2], accessFlags := 1041 }

/-- the primitive int -/
def k25 : Class := { plain "int" none with kind := .primitive 'I', accessFlags := 0x411 }
/-- [I -/
def k26 : Class := { plain "[I" (some 0) with kind := .array 25 .int, interfaces := #[20, 2], accessFlags := 1041 }

def heap : Heap := #[{ cls := 7, slots := #[.long 0, .int 1, .null, .int 0, .null, .int 0, .int 0], vm := .statics 7 },
  { cls := 14, slots := #[.null, .null, .null], vm := .statics 14 }]
def classes : Array Class := #[k0, k1, k2, k3, k4, k5, k6, k7, k8, k9, k10, k11, k12, k13, k14, k15, k16, k17, k18, k19, k20, k21, k22, k23, k24, k25, k26]
def interned : List (Array UInt16 × Addr) := []
def slotsUsed : Nat := 10
def theMethod : MethodId := ⟨1, 2⟩
def args0 : Array Value := #[.int 5, .int 6, .int 7, .int 8]
def aboutOver (below : List Frame) : State where
  vm := { classes := classes, interned := interned.toArray }
  heap := heap
  slotsUsed := slotsUsed
  threads := #[{ frames := .invoking theMethod args0 :: below }]
def below0 : List Frame := [.native { method := ⟨0, 0⟩, args := #[] }]
def about1 : State := aboutOver below0
def p0 : Program := .bare "" "" ""
def e0 : Env := launch0.env 0 0 0
theorem w_frames : about1.frames = Frame.invoking theMethod args0 :: below0 := rfl
set_option maxRecDepth 65536 in
theorem w_args : argsFit about1.vm theMethod args0 = true := by decide +kernel
set_option maxRecDepth 65536 in
theorem w_heap : heapFits about1 = true := by decide +kernel
set_option maxRecDepth 65536 in
theorem w_runnable : about1.curStatus? = some .runnable := by decide +kernel
set_option maxRecDepth 65536 in
theorem w_alone : about1.alone = true := by decide +kernel
set_option maxRecDepth 65536 in
theorem w_named : about1.methodNamed? x = some theMethod := by decide +kernel
set_option maxRecDepth 65536 in
theorem w_hears : about1.hears theMethod below0 = true := by decide +kernel
set_option maxRecDepth 65536 in
theorem w_ripe : about1.ripe theMethod args0 below0 = true := by decide +kernel
theorem w_running : about1.status = .running := rfl
set_option maxRecDepth 65536 in
theorem w_room : about1.hasRoom e0.platform room_1 = true :=
  launch0.hasRoom_least _ room_1 (by decide +kernel) (by decide +kernel) (by decide +kernel) (by decide +kernel) (by decide +kernel) (by decide +kernel)
theorem allAtoms_all (ts : List Jvm.Cond) (a : Array Jvm.Value) (st : Jvm.State) : (allAtoms ts).before a st = ts.all (fun c => c.before a st) := by
  induction ts with
  | nil => rfl
  | cons c t ih =>
    show (Jvm.Cond.and c (allAtoms t)).before a st = _
    rw [Jvm.Cond.before_and, ih, List.all_cons]
def words1 : List Jvm.Cond := Jvm.Cond.code x code maxLocals ret :: tables_1
/-- a 'code' word, met by the world's own term for the bytes: nothing is compared byte by byte -/
theorem code_word {y : MethodName} {bytes : ByteArray} {mx : Nat} {rt : Option FieldType} {a : Array Value} {s : State} {m : MethodId} {meth : Method} {c : Code} (h1 : s.methodNamed? y = some m) (h2 : s.vm.method? m = some meth) (h3 : meth.code = some c) (h4 : c.code = bytes)
    (h5 : (c.maxLocals == mx && c.exceptionTable.isEmpty && decide (c.maxStack ≤ mostOperands) && decide (meth.sig.returnType = rt) && !meth.locks && decide (parseMethodDescriptor y.desc = some meth.sig)) = true) : (Jvm.Cond.code y bytes mx rt).before a s = true := by
  simp only [Bool.and_eq_true, beq_iff_eq, Bool.not_eq_true', decide_eq_true_eq] at h5
  obtain ⟨⟨⟨⟨⟨g1, g2⟩, g3⟩, g4⟩, g5⟩, g6⟩ := h5
  simp [Cond.before, Cond.holds, Cond.value, h1, h2, h3, h4, g1, g2, g3, g4, g5, g6]
def isCode : Jvm.Cond → Bool
  | .code _ _ _ _ => true
  | _ => false
theorem all_split {L : List Jvm.Cond} {P : Jvm.Cond → Bool} (h1 : L.all (fun c => isCode c || P c) = true) (h2 : ∀ c ∈ L.filter isCode, P c = true) : L.all P = true := by
  refine List.all_eq_true.mpr fun c hc => ?_
  have h := List.all_eq_true.mp h1 c hc
  rcases Bool.eq_false_or_eq_true (isCode c) with hi | hi
  · exact h2 c (List.mem_filter.mpr ⟨hc, hi⟩)
  · simpa [hi] using h
set_option maxRecDepth 65536 in
theorem w_c0 : (Jvm.Cond.code x code maxLocals ret).before args0 about1 = true := code_word (m := ⟨1, 2⟩) (meth := k1m2) (c := k1c2) (by decide +kernel) rfl rfl rfl (by decide +kernel)
set_option maxRecDepth 65536 in
theorem w_c1 : (Jvm.Cond.code ({ cls := "motifolio/patterns/memento/EditorClearPinLaw", name := "drawn", desc := "(ICCC)Ljava/lang/String;" } : Jvm.MethodName) method_2_code (4 : Nat) (Option.some (Jvm.ClassFile.FieldType.object "java/lang/String"))).before args0 about1 = true := code_word (m := ⟨1, 1⟩) (meth := k1m1) (c := k1c1) (by decide +kernel) rfl rfl rfl (by decide +kernel)
set_option maxRecDepth 65536 in
theorem w_c2 : (Jvm.Cond.code ({ cls := "java/lang/String", name := "<init>", desc := "([C)V" } : Jvm.MethodName) jdk_42_method_3_code (2 : Nat) (Option.none : Option Jvm.ClassFile.FieldType)).before args0 about1 = true := code_word (m := ⟨7, 1⟩) (meth := k7m1) (c := k7c1) (by decide +kernel) rfl rfl rfl (by decide +kernel)
set_option maxRecDepth 65536 in
theorem w_c3 : (Jvm.Cond.code ({ cls := "java/lang/String", name := "<init>", desc := "([CIILjava/lang/Void;)V" } : Jvm.MethodName) jdk_42_method_149_code (6 : Nat) (Option.none : Option Jvm.ClassFile.FieldType)).before args0 about1 = true := code_word (m := ⟨7, 9⟩) (meth := k7m9) (c := k7c9) (by decide +kernel) rfl rfl rfl (by decide +kernel)
set_option maxRecDepth 65536 in
theorem w_c4 : (Jvm.Cond.code ({ cls := "java/lang/Object", name := "<init>", desc := "()V" } : Jvm.MethodName) object_method_1_code (1 : Nat) (Option.none : Option Jvm.ClassFile.FieldType)).before args0 about1 = true := code_word (m := ⟨0, 0⟩) (meth := k0m0) (c := k0c0) (by decide +kernel) rfl rfl rfl (by decide +kernel)
set_option maxRecDepth 65536 in
theorem w_c5 : (Jvm.Cond.code ({ cls := "java/lang/String", name := "valueOf", desc := "(C)Ljava/lang/String;" } : Jvm.MethodName) jdk_42_method_139_code (1 : Nat) (Option.some (Jvm.ClassFile.FieldType.object "java/lang/String"))).before args0 about1 = true := code_word (m := ⟨7, 7⟩) (meth := k7m7) (c := k7c7) (by decide +kernel) rfl rfl rfl (by decide +kernel)
set_option maxRecDepth 65536 in
theorem w_c6 : (Jvm.Cond.code ({ cls := "java/lang/StringLatin1", name := "canEncode", desc := "(C)Z" } : Jvm.MethodName) jdk_43_method_3_code (1 : Nat) (Option.some Jvm.ClassFile.FieldType.boolean)).before args0 about1 = true := code_word (m := ⟨8, 1⟩) (meth := k8m1) (c := k8c1) (by decide +kernel) rfl rfl rfl (by decide +kernel)
set_option maxRecDepth 65536 in
theorem w_c7 : (Jvm.Cond.code ({ cls := "java/lang/StringLatin1", name := "toBytes", desc := "(C)[B" } : Jvm.MethodName) jdk_43_method_46_code (1 : Nat) (Option.some (Jvm.ClassFile.FieldType.array Jvm.ClassFile.FieldType.byte))).before args0 about1 = true := code_word (m := ⟨8, 3⟩) (meth := k8m3) (c := k8c3) (by decide +kernel) rfl rfl rfl (by decide +kernel)
set_option maxRecDepth 65536 in
theorem w_c8 : (Jvm.Cond.code ({ cls := "java/lang/String", name := "<init>", desc := "([BB)V" } : Jvm.MethodName) jdk_42_method_151_code (3 : Nat) (Option.none : Option Jvm.ClassFile.FieldType)).before args0 about1 = true := code_word (m := ⟨7, 11⟩) (meth := k7m11) (c := k7c11) (by decide +kernel) rfl rfl rfl (by decide +kernel)
set_option maxRecDepth 65536 in
theorem w_c9 : (Jvm.Cond.code ({ cls := "motifolio/patterns/memento/Editor", name := "<init>", desc := "()V" } : Jvm.MethodName) prog_146_method_1_code (1 : Nat) (Option.none : Option Jvm.ClassFile.FieldType)).before args0 about1 = true := code_word (m := ⟨9, 0⟩) (meth := k9m0) (c := k9c0) (by decide +kernel) rfl rfl rfl (by decide +kernel)
set_option maxRecDepth 65536 in
theorem w_c10 : (Jvm.Cond.code ({ cls := "motifolio/patterns/memento/Editor", name := "type", desc := "(Ljava/lang/String;)V" } : Jvm.MethodName) prog_146_method_4_code (2 : Nat) (Option.none : Option Jvm.ClassFile.FieldType)).before args0 about1 = true := code_word (m := ⟨9, 3⟩) (meth := k9m3) (c := k9c3) (by decide +kernel) rfl rfl rfl (by decide +kernel)
set_option maxRecDepth 65536 in
theorem w_c11 : (Jvm.Cond.code ({ cls := "java/util/Objects", name := "requireNonNull", desc := "(Ljava/lang/Object;Ljava/lang/String;)Ljava/lang/Object;" } : Jvm.MethodName) jdk_31_method_11_code (2 : Nat) (Option.some (Jvm.ClassFile.FieldType.object "java/lang/Object"))).before args0 about1 = true := code_word (m := ⟨10, 1⟩) (meth := k10m1) (c := k10c1) (by decide +kernel) rfl rfl rfl (by decide +kernel)
set_option maxRecDepth 65536 in
theorem w_c12 : (Jvm.Cond.code ({ cls := "java/lang/StringBuilder", name := "<init>", desc := "()V" } : Jvm.MethodName) jdk_67_method_1_code (1 : Nat) (Option.none : Option Jvm.ClassFile.FieldType)).before args0 about1 = true := code_word (m := ⟨13, 0⟩) (meth := k13m0) (c := k13c0) (by decide +kernel) rfl rfl rfl (by decide +kernel)
set_option maxRecDepth 65536 in
theorem w_c13 : (Jvm.Cond.code ({ cls := "java/lang/AbstractStringBuilder", name := "<init>", desc := "(I)V" } : Jvm.MethodName) jdk_68_method_2_code (2 : Nat) (Option.none : Option Jvm.ClassFile.FieldType)).before args0 about1 = true := code_word (m := ⟨12, 1⟩) (meth := k12m1) (c := k12c1) (by decide +kernel) rfl rfl rfl (by decide +kernel)
set_option maxRecDepth 65536 in
theorem w_c14 : (Jvm.Cond.code ({ cls := "java/lang/String", name := "substring", desc := "(II)Ljava/lang/String;" } : Jvm.MethodName) jdk_42_method_92_code (5 : Nat) (Option.some (Jvm.ClassFile.FieldType.object "java/lang/String"))).before args0 about1 = true := code_word (m := ⟨7, 6⟩) (meth := k7m6) (c := k7c6) (by decide +kernel) rfl rfl rfl (by decide +kernel)
set_option maxRecDepth 65536 in
theorem w_c15 : (Jvm.Cond.code ({ cls := "java/lang/String", name := "length", desc := "()I" } : Jvm.MethodName) jdk_42_method_54_code (1 : Nat) (Option.some Jvm.ClassFile.FieldType.int)).before args0 about1 = true := code_word (m := ⟨7, 3⟩) (meth := k7m3) (c := k7c3) (by decide +kernel) rfl rfl rfl (by decide +kernel)
set_option maxRecDepth 65536 in
theorem w_c16 : (Jvm.Cond.code ({ cls := "java/lang/String", name := "coder", desc := "()B" } : Jvm.MethodName) jdk_42_method_152_code (1 : Nat) (Option.some Jvm.ClassFile.FieldType.byte)).before args0 about1 = true := code_word (m := ⟨7, 12⟩) (meth := k7m12) (c := k7c12) (by decide +kernel) rfl rfl rfl (by decide +kernel)
set_option maxRecDepth 65536 in
theorem w_c17 : (Jvm.Cond.code ({ cls := "java/lang/String", name := "checkBoundsBeginEnd", desc := "(III)V" } : Jvm.MethodName) jdk_42_method_158_code (3 : Nat) (Option.none : Option Jvm.ClassFile.FieldType)).before args0 about1 = true := code_word (m := ⟨7, 13⟩) (meth := k7m13) (c := k7c13) (by decide +kernel) rfl rfl rfl (by decide +kernel)
set_option maxRecDepth 65536 in
theorem w_c18 : (Jvm.Cond.code ({ cls := "jdk/internal/util/Preconditions", name := "checkFromToIndex", desc := "(IIILjava/util/function/BiFunction;)I" } : Jvm.MethodName) jdk_41_method_12_code (4 : Nat) (Option.some Jvm.ClassFile.FieldType.int)).before args0 about1 = true := code_word (m := ⟨14, 1⟩) (meth := k14m1) (c := k14c1) (by decide +kernel) rfl rfl rfl (by decide +kernel)
set_option maxRecDepth 65536 in
theorem w_c19 : (Jvm.Cond.code ({ cls := "java/lang/StringBuilder", name := "append", desc := "(Ljava/lang/String;)Ljava/lang/StringBuilder;" } : Jvm.MethodName) jdk_67_method_7_code (2 : Nat) (Option.some (Jvm.ClassFile.FieldType.object "java/lang/StringBuilder"))).before args0 about1 = true := code_word (m := ⟨13, 1⟩) (meth := k13m1) (c := k13c1) (by decide +kernel) rfl rfl rfl (by decide +kernel)
set_option maxRecDepth 65536 in
theorem w_c20 : (Jvm.Cond.code ({ cls := "java/lang/AbstractStringBuilder", name := "append", desc := "(Ljava/lang/String;)Ljava/lang/AbstractStringBuilder;" } : Jvm.MethodName) jdk_68_method_22_code (3 : Nat) (Option.some (Jvm.ClassFile.FieldType.object "java/lang/AbstractStringBuilder"))).before args0 about1 = true := code_word (m := ⟨12, 4⟩) (meth := k12m4) (c := k12c4) (by decide +kernel) rfl rfl rfl (by decide +kernel)
set_option maxRecDepth 65536 in
theorem w_c21 : (Jvm.Cond.code ({ cls := "java/lang/AbstractStringBuilder", name := "ensureCapacityInternal", desc := "(I)V" } : Jvm.MethodName) jdk_68_method_9_code (3 : Nat) (Option.none : Option Jvm.ClassFile.FieldType)).before args0 about1 = true := code_word (m := ⟨12, 3⟩) (meth := k12m3) (c := k12c3) (by decide +kernel) rfl rfl rfl (by decide +kernel)
set_option maxRecDepth 65536 in
theorem w_c22 : (Jvm.Cond.code ({ cls := "java/lang/AbstractStringBuilder", name := "putStringAt", desc := "(ILjava/lang/String;)V" } : Jvm.MethodName) jdk_68_method_73_code (3 : Nat) (Option.none : Option Jvm.ClassFile.FieldType)).before args0 about1 = true := code_word (m := ⟨12, 8⟩) (meth := k12m8) (c := k12c8) (by decide +kernel) rfl rfl rfl (by decide +kernel)
set_option maxRecDepth 65536 in
theorem w_c23 : (Jvm.Cond.code ({ cls := "java/lang/AbstractStringBuilder", name := "inflateIfNeededFor", desc := "(Ljava/lang/String;)V" } : Jvm.MethodName) jdk_68_method_71_code (2 : Nat) (Option.none : Option Jvm.ClassFile.FieldType)).before args0 about1 = true := code_word (m := ⟨12, 7⟩) (meth := k12m7) (c := k12c7) (by decide +kernel) rfl rfl rfl (by decide +kernel)
set_option maxRecDepth 65536 in
theorem w_c24 : (Jvm.Cond.code ({ cls := "java/lang/String", name := "getBytes", desc := "([BIB)V" } : Jvm.MethodName) jdk_42_method_147_code (4 : Nat) (Option.none : Option Jvm.ClassFile.FieldType)).before args0 about1 = true := code_word (m := ⟨7, 8⟩) (meth := k7m8) (c := k7c8) (by decide +kernel) rfl rfl rfl (by decide +kernel)
set_option maxRecDepth 65536 in
theorem w_c25 : (Jvm.Cond.code ({ cls := "java/lang/String", name := "substring", desc := "(I)Ljava/lang/String;" } : Jvm.MethodName) jdk_42_method_91_code (2 : Nat) (Option.some (Jvm.ClassFile.FieldType.object "java/lang/String"))).before args0 about1 = true := code_word (m := ⟨7, 5⟩) (meth := k7m5) (c := k7c5) (by decide +kernel) rfl rfl rfl (by decide +kernel)
set_option maxRecDepth 65536 in
theorem w_c26 : (Jvm.Cond.code ({ cls := "java/lang/StringBuilder", name := "toString", desc := "()Ljava/lang/String;" } : Jvm.MethodName) jdk_67_method_42_code (1 : Nat) (Option.some (Jvm.ClassFile.FieldType.object "java/lang/String"))).before args0 about1 = true := code_word (m := ⟨13, 2⟩) (meth := k13m2) (c := k13c2) (by decide +kernel) rfl rfl rfl (by decide +kernel)
set_option maxRecDepth 65536 in
theorem w_c27 : (Jvm.Cond.code ({ cls := "java/lang/String", name := "<init>", desc := "(Ljava/lang/StringBuilder;)V" } : Jvm.MethodName) jdk_42_method_53_code (2 : Nat) (Option.none : Option Jvm.ClassFile.FieldType)).before args0 about1 = true := code_word (m := ⟨7, 2⟩) (meth := k7m2) (c := k7c2) (by decide +kernel) rfl rfl rfl (by decide +kernel)
set_option maxRecDepth 65536 in
theorem w_c28 : (Jvm.Cond.code ({ cls := "java/lang/String", name := "<init>", desc := "(Ljava/lang/AbstractStringBuilder;Ljava/lang/Void;)V" } : Jvm.MethodName) jdk_42_method_150_code (5 : Nat) (Option.none : Option Jvm.ClassFile.FieldType)).before args0 about1 = true := code_word (m := ⟨7, 10⟩) (meth := k7m10) (c := k7c10) (by decide +kernel) rfl rfl rfl (by decide +kernel)
set_option maxRecDepth 65536 in
theorem w_c29 : (Jvm.Cond.code ({ cls := "java/lang/AbstractStringBuilder", name := "getValue", desc := "()[B" } : Jvm.MethodName) jdk_68_method_64_code (1 : Nat) (Option.some (Jvm.ClassFile.FieldType.array Jvm.ClassFile.FieldType.byte))).before args0 about1 = true := code_word (m := ⟨12, 5⟩) (meth := k12m5) (c := k12c5) (by decide +kernel) rfl rfl rfl (by decide +kernel)
set_option maxRecDepth 65536 in
theorem w_c30 : (Jvm.Cond.code ({ cls := "java/lang/StringBuilder", name := "length", desc := "()I" } : Jvm.MethodName) jdk_67_method_93_code (1 : Nat) (Option.some Jvm.ClassFile.FieldType.int)).before args0 about1 = true := code_word (m := ⟨13, 3⟩) (meth := k13m3) (c := k13c3) (by decide +kernel) rfl rfl rfl (by decide +kernel)
set_option maxRecDepth 65536 in
theorem w_c31 : (Jvm.Cond.code ({ cls := "java/lang/AbstractStringBuilder", name := "length", desc := "()I" } : Jvm.MethodName) jdk_68_method_6_code (1 : Nat) (Option.some Jvm.ClassFile.FieldType.int)).before args0 about1 = true := code_word (m := ⟨12, 2⟩) (meth := k12m2) (c := k12c2) (by decide +kernel) rfl rfl rfl (by decide +kernel)
set_option maxRecDepth 65536 in
theorem w_c32 : (Jvm.Cond.code ({ cls := "java/lang/AbstractStringBuilder", name := "isLatin1", desc := "()Z" } : Jvm.MethodName) jdk_68_method_68_code (1 : Nat) (Option.some Jvm.ClassFile.FieldType.boolean)).before args0 about1 = true := code_word (m := ⟨12, 6⟩) (meth := k12m6) (c := k12c6) (by decide +kernel) rfl rfl rfl (by decide +kernel)
set_option maxRecDepth 65536 in
theorem w_c33 : (Jvm.Cond.code ({ cls := "java/util/Arrays", name := "copyOfRange", desc := "([BII)[B" } : Jvm.MethodName) jdk_65_method_132_code (3 : Nat) (Option.some (Jvm.ClassFile.FieldType.array Jvm.ClassFile.FieldType.byte))).before args0 about1 = true := code_word (m := ⟨16, 2⟩) (meth := k16m2) (c := k16c2) (by decide +kernel) rfl rfl rfl (by decide +kernel)
set_option maxRecDepth 65536 in
theorem w_c34 : (Jvm.Cond.code ({ cls := "java/util/Arrays", name := "copyOfRangeByte", desc := "([BII)[B" } : Jvm.MethodName) jdk_65_method_133_code (5 : Nat) (Option.some (Jvm.ClassFile.FieldType.array Jvm.ClassFile.FieldType.byte))).before args0 about1 = true := code_word (m := ⟨16, 3⟩) (meth := k16m3) (c := k16c3) (by decide +kernel) rfl rfl rfl (by decide +kernel)
set_option maxRecDepth 65536 in
theorem w_c35 : (Jvm.Cond.code ({ cls := "java/util/Arrays", name := "checkLength", desc := "(II)V" } : Jvm.MethodName) jdk_65_method_131_code (2 : Nat) (Option.none : Option Jvm.ClassFile.FieldType)).before args0 about1 = true := code_word (m := ⟨16, 1⟩) (meth := k16m1) (c := k16c1) (by decide +kernel) rfl rfl rfl (by decide +kernel)
set_option maxRecDepth 65536 in
theorem w_c36 : (Jvm.Cond.code ({ cls := "java/lang/Math", name := "min", desc := "(II)I" } : Jvm.MethodName) jdk_29_method_69_code (2 : Nat) (Option.some Jvm.ClassFile.FieldType.int)).before args0 about1 = true := code_word (m := ⟨17, 1⟩) (meth := k17m1) (c := k17c1) (by decide +kernel) rfl rfl rfl (by decide +kernel)
set_option maxRecDepth 65536 in
theorem w_c37 : (Jvm.Cond.code ({ cls := "motifolio/patterns/memento/Editor", name := "moveTo", desc := "(I)V" } : Jvm.MethodName) prog_146_method_5_code (2 : Nat) (Option.none : Option Jvm.ClassFile.FieldType)).before args0 about1 = true := code_word (m := ⟨9, 4⟩) (meth := k9m4) (c := k9c4) (by decide +kernel) rfl rfl rfl (by decide +kernel)
set_option maxRecDepth 65536 in
theorem w_c38 : (Jvm.Cond.code ({ cls := "motifolio/patterns/memento/Editor", name := "clear", desc := "()V" } : Jvm.MethodName) prog_146_method_6_code (1 : Nat) (Option.none : Option Jvm.ClassFile.FieldType)).before args0 about1 = true := code_word (m := ⟨9, 5⟩) (meth := k9m5) (c := k9c5) (by decide +kernel) rfl rfl rfl (by decide +kernel)
set_option maxRecDepth 65536 in
theorem w_c39 : (Jvm.Cond.code ({ cls := "motifolio/patterns/memento/Editor", name := "text", desc := "()Ljava/lang/String;" } : Jvm.MethodName) prog_146_method_2_code (1 : Nat) (Option.some (Jvm.ClassFile.FieldType.object "java/lang/String"))).before args0 about1 = true := code_word (m := ⟨9, 1⟩) (meth := k9m1) (c := k9c1) (by decide +kernel) rfl rfl rfl (by decide +kernel)
set_option maxRecDepth 65536 in
theorem w_c40 : (Jvm.Cond.code ({ cls := "motifolio/patterns/memento/Editor", name := "cursor", desc := "()I" } : Jvm.MethodName) prog_146_method_3_code (1 : Nat) (Option.some Jvm.ClassFile.FieldType.int)).before args0 about1 = true := code_word (m := ⟨9, 2⟩) (meth := k9m2) (c := k9c2) (by decide +kernel) rfl rfl rfl (by decide +kernel)
set_option maxRecDepth 65536 in
theorem w_c41 : (Jvm.Cond.code ({ cls := "java/lang/String", name := "equals", desc := "(Ljava/lang/Object;)Z" } : Jvm.MethodName) jdk_42_method_66_code (3 : Nat) (Option.some Jvm.ClassFile.FieldType.boolean)).before args0 about1 = true := code_word (m := ⟨7, 4⟩) (meth := k7m4) (c := k7c4) (by decide +kernel) rfl rfl rfl (by decide +kernel)
set_option maxRecDepth 65536 in
theorem w_c42 : (Jvm.Cond.code ({ cls := "java/lang/StringLatin1", name := "equals", desc := "([B[B)Z" } : Jvm.MethodName) jdk_43_method_13_code (3 : Nat) (Option.some Jvm.ClassFile.FieldType.boolean)).before args0 about1 = true := code_word (m := ⟨8, 2⟩) (meth := k8m2) (c := k8c2) (by decide +kernel) rfl rfl rfl (by decide +kernel)
set_option maxRecDepth 65536 in
theorem w_c43 : (Jvm.Cond.code ({ cls := "java/lang/StringUTF16", name := "compress", desc := "([CII)[B" } : Jvm.MethodName) jdk_52_method_16_code (6 : Nat) (Option.some (Jvm.ClassFile.FieldType.array Jvm.ClassFile.FieldType.byte))).before args0 about1 = true := code_word (m := ⟨18, 2⟩) (meth := k18m2) (c := k18c2) (by decide +kernel) rfl rfl rfl (by decide +kernel)
set_option maxRecDepth 65536 in
theorem w_c44 : (Jvm.Cond.code ({ cls := "java/lang/StringUTF16", name := "compress", desc := "([CI[BII)I" } : Jvm.MethodName) jdk_52_method_21_code (7 : Nat) (Option.some Jvm.ClassFile.FieldType.int)).before args0 about1 = true := code_word (m := ⟨18, 3⟩) (meth := k18m3) (c := k18c3) (by decide +kernel) rfl rfl rfl (by decide +kernel)
set_option maxRecDepth 65536 in
theorem w_c45 : (Jvm.Cond.code ({ cls := "java/lang/StringUTF16", name := "coderFromArrayLen", desc := "([BI)B" } : Jvm.MethodName) jdk_52_method_15_code (2 : Nat) (Option.some Jvm.ClassFile.FieldType.byte)).before args0 about1 = true := code_word (m := ⟨18, 1⟩) (meth := k18m1) (c := k18c1) (by decide +kernel) rfl rfl rfl (by decide +kernel)
def codes1 : List Jvm.Cond := [Jvm.Cond.code x code maxLocals ret, Jvm.Cond.code ({ cls := "motifolio/patterns/memento/EditorClearPinLaw", name := "drawn", desc := "(ICCC)Ljava/lang/String;" } : Jvm.MethodName) method_2_code (4 : Nat) (Option.some (Jvm.ClassFile.FieldType.object "java/lang/String")), Jvm.Cond.code ({ cls := "java/lang/String", name := "<init>", desc := "([C)V" } : Jvm.MethodName) jdk_42_method_3_code (2 : Nat) (Option.none : Option Jvm.ClassFile.FieldType), Jvm.Cond.code ({ cls := "java/lang/String", name := "<init>", desc := "([CIILjava/lang/Void;)V" } : Jvm.MethodName) jdk_42_method_149_code (6 : Nat) (Option.none : Option Jvm.ClassFile.FieldType), Jvm.Cond.code ({ cls := "java/lang/Object", name := "<init>", desc := "()V" } : Jvm.MethodName) object_method_1_code (1 : Nat) (Option.none : Option Jvm.ClassFile.FieldType), Jvm.Cond.code ({ cls := "java/lang/String", name := "valueOf", desc := "(C)Ljava/lang/String;" } : Jvm.MethodName) jdk_42_method_139_code (1 : Nat) (Option.some (Jvm.ClassFile.FieldType.object "java/lang/String")), Jvm.Cond.code ({ cls := "java/lang/StringLatin1", name := "canEncode", desc := "(C)Z" } : Jvm.MethodName) jdk_43_method_3_code (1 : Nat) (Option.some Jvm.ClassFile.FieldType.boolean), Jvm.Cond.code ({ cls := "java/lang/StringLatin1", name := "toBytes", desc := "(C)[B" } : Jvm.MethodName) jdk_43_method_46_code (1 : Nat) (Option.some (Jvm.ClassFile.FieldType.array Jvm.ClassFile.FieldType.byte)), Jvm.Cond.code ({ cls := "java/lang/String", name := "<init>", desc := "([BB)V" } : Jvm.MethodName) jdk_42_method_151_code (3 : Nat) (Option.none : Option Jvm.ClassFile.FieldType), Jvm.Cond.code ({ cls := "motifolio/patterns/memento/Editor", name := "<init>", desc := "()V" } : Jvm.MethodName) prog_146_method_1_code (1 : Nat) (Option.none : Option Jvm.ClassFile.FieldType), Jvm.Cond.code ({ cls := "motifolio/patterns/memento/Editor", name := "type", desc := "(Ljava/lang/String;)V" } : Jvm.MethodName) prog_146_method_4_code (2 : Nat) (Option.none : Option Jvm.ClassFile.FieldType), Jvm.Cond.code ({ cls := "java/util/Objects", name := "requireNonNull", desc := "(Ljava/lang/Object;Ljava/lang/String;)Ljava/lang/Object;" } : Jvm.MethodName) jdk_31_method_11_code (2 : Nat) (Option.some (Jvm.ClassFile.FieldType.object "java/lang/Object")), Jvm.Cond.code ({ cls := "java/lang/StringBuilder", name := "<init>", desc := "()V" } : Jvm.MethodName) jdk_67_method_1_code (1 : Nat) (Option.none : Option Jvm.ClassFile.FieldType), Jvm.Cond.code ({ cls := "java/lang/AbstractStringBuilder", name := "<init>", desc := "(I)V" } : Jvm.MethodName) jdk_68_method_2_code (2 : Nat) (Option.none : Option Jvm.ClassFile.FieldType), Jvm.Cond.code ({ cls := "java/lang/String", name := "substring", desc := "(II)Ljava/lang/String;" } : Jvm.MethodName) jdk_42_method_92_code (5 : Nat) (Option.some (Jvm.ClassFile.FieldType.object "java/lang/String")), Jvm.Cond.code ({ cls := "java/lang/String", name := "length", desc := "()I" } : Jvm.MethodName) jdk_42_method_54_code (1 : Nat) (Option.some Jvm.ClassFile.FieldType.int), Jvm.Cond.code ({ cls := "java/lang/String", name := "coder", desc := "()B" } : Jvm.MethodName) jdk_42_method_152_code (1 : Nat) (Option.some Jvm.ClassFile.FieldType.byte), Jvm.Cond.code ({ cls := "java/lang/String", name := "checkBoundsBeginEnd", desc := "(III)V" } : Jvm.MethodName) jdk_42_method_158_code (3 : Nat) (Option.none : Option Jvm.ClassFile.FieldType), Jvm.Cond.code ({ cls := "jdk/internal/util/Preconditions", name := "checkFromToIndex", desc := "(IIILjava/util/function/BiFunction;)I" } : Jvm.MethodName) jdk_41_method_12_code (4 : Nat) (Option.some Jvm.ClassFile.FieldType.int), Jvm.Cond.code ({ cls := "java/lang/StringBuilder", name := "append", desc := "(Ljava/lang/String;)Ljava/lang/StringBuilder;" } : Jvm.MethodName) jdk_67_method_7_code (2 : Nat) (Option.some (Jvm.ClassFile.FieldType.object "java/lang/StringBuilder")), Jvm.Cond.code ({ cls := "java/lang/AbstractStringBuilder", name := "append", desc := "(Ljava/lang/String;)Ljava/lang/AbstractStringBuilder;" } : Jvm.MethodName) jdk_68_method_22_code (3 : Nat) (Option.some (Jvm.ClassFile.FieldType.object "java/lang/AbstractStringBuilder")), Jvm.Cond.code ({ cls := "java/lang/AbstractStringBuilder", name := "ensureCapacityInternal", desc := "(I)V" } : Jvm.MethodName) jdk_68_method_9_code (3 : Nat) (Option.none : Option Jvm.ClassFile.FieldType), Jvm.Cond.code ({ cls := "java/lang/AbstractStringBuilder", name := "putStringAt", desc := "(ILjava/lang/String;)V" } : Jvm.MethodName) jdk_68_method_73_code (3 : Nat) (Option.none : Option Jvm.ClassFile.FieldType), Jvm.Cond.code ({ cls := "java/lang/AbstractStringBuilder", name := "inflateIfNeededFor", desc := "(Ljava/lang/String;)V" } : Jvm.MethodName) jdk_68_method_71_code (2 : Nat) (Option.none : Option Jvm.ClassFile.FieldType), Jvm.Cond.code ({ cls := "java/lang/String", name := "getBytes", desc := "([BIB)V" } : Jvm.MethodName) jdk_42_method_147_code (4 : Nat) (Option.none : Option Jvm.ClassFile.FieldType), Jvm.Cond.code ({ cls := "java/lang/String", name := "substring", desc := "(I)Ljava/lang/String;" } : Jvm.MethodName) jdk_42_method_91_code (2 : Nat) (Option.some (Jvm.ClassFile.FieldType.object "java/lang/String")), Jvm.Cond.code ({ cls := "java/lang/StringBuilder", name := "toString", desc := "()Ljava/lang/String;" } : Jvm.MethodName) jdk_67_method_42_code (1 : Nat) (Option.some (Jvm.ClassFile.FieldType.object "java/lang/String")), Jvm.Cond.code ({ cls := "java/lang/String", name := "<init>", desc := "(Ljava/lang/StringBuilder;)V" } : Jvm.MethodName) jdk_42_method_53_code (2 : Nat) (Option.none : Option Jvm.ClassFile.FieldType), Jvm.Cond.code ({ cls := "java/lang/String", name := "<init>", desc := "(Ljava/lang/AbstractStringBuilder;Ljava/lang/Void;)V" } : Jvm.MethodName) jdk_42_method_150_code (5 : Nat) (Option.none : Option Jvm.ClassFile.FieldType), Jvm.Cond.code ({ cls := "java/lang/AbstractStringBuilder", name := "getValue", desc := "()[B" } : Jvm.MethodName) jdk_68_method_64_code (1 : Nat) (Option.some (Jvm.ClassFile.FieldType.array Jvm.ClassFile.FieldType.byte)), Jvm.Cond.code ({ cls := "java/lang/StringBuilder", name := "length", desc := "()I" } : Jvm.MethodName) jdk_67_method_93_code (1 : Nat) (Option.some Jvm.ClassFile.FieldType.int), Jvm.Cond.code ({ cls := "java/lang/AbstractStringBuilder", name := "length", desc := "()I" } : Jvm.MethodName) jdk_68_method_6_code (1 : Nat) (Option.some Jvm.ClassFile.FieldType.int), Jvm.Cond.code ({ cls := "java/lang/AbstractStringBuilder", name := "isLatin1", desc := "()Z" } : Jvm.MethodName) jdk_68_method_68_code (1 : Nat) (Option.some Jvm.ClassFile.FieldType.boolean), Jvm.Cond.code ({ cls := "java/util/Arrays", name := "copyOfRange", desc := "([BII)[B" } : Jvm.MethodName) jdk_65_method_132_code (3 : Nat) (Option.some (Jvm.ClassFile.FieldType.array Jvm.ClassFile.FieldType.byte)), Jvm.Cond.code ({ cls := "java/util/Arrays", name := "copyOfRangeByte", desc := "([BII)[B" } : Jvm.MethodName) jdk_65_method_133_code (5 : Nat) (Option.some (Jvm.ClassFile.FieldType.array Jvm.ClassFile.FieldType.byte)), Jvm.Cond.code ({ cls := "java/util/Arrays", name := "checkLength", desc := "(II)V" } : Jvm.MethodName) jdk_65_method_131_code (2 : Nat) (Option.none : Option Jvm.ClassFile.FieldType), Jvm.Cond.code ({ cls := "java/lang/Math", name := "min", desc := "(II)I" } : Jvm.MethodName) jdk_29_method_69_code (2 : Nat) (Option.some Jvm.ClassFile.FieldType.int), Jvm.Cond.code ({ cls := "motifolio/patterns/memento/Editor", name := "moveTo", desc := "(I)V" } : Jvm.MethodName) prog_146_method_5_code (2 : Nat) (Option.none : Option Jvm.ClassFile.FieldType), Jvm.Cond.code ({ cls := "motifolio/patterns/memento/Editor", name := "clear", desc := "()V" } : Jvm.MethodName) prog_146_method_6_code (1 : Nat) (Option.none : Option Jvm.ClassFile.FieldType), Jvm.Cond.code ({ cls := "motifolio/patterns/memento/Editor", name := "text", desc := "()Ljava/lang/String;" } : Jvm.MethodName) prog_146_method_2_code (1 : Nat) (Option.some (Jvm.ClassFile.FieldType.object "java/lang/String")), Jvm.Cond.code ({ cls := "motifolio/patterns/memento/Editor", name := "cursor", desc := "()I" } : Jvm.MethodName) prog_146_method_3_code (1 : Nat) (Option.some Jvm.ClassFile.FieldType.int), Jvm.Cond.code ({ cls := "java/lang/String", name := "equals", desc := "(Ljava/lang/Object;)Z" } : Jvm.MethodName) jdk_42_method_66_code (3 : Nat) (Option.some Jvm.ClassFile.FieldType.boolean), Jvm.Cond.code ({ cls := "java/lang/StringLatin1", name := "equals", desc := "([B[B)Z" } : Jvm.MethodName) jdk_43_method_13_code (3 : Nat) (Option.some Jvm.ClassFile.FieldType.boolean), Jvm.Cond.code ({ cls := "java/lang/StringUTF16", name := "compress", desc := "([CII)[B" } : Jvm.MethodName) jdk_52_method_16_code (6 : Nat) (Option.some (Jvm.ClassFile.FieldType.array Jvm.ClassFile.FieldType.byte)), Jvm.Cond.code ({ cls := "java/lang/StringUTF16", name := "compress", desc := "([CI[BII)I" } : Jvm.MethodName) jdk_52_method_21_code (7 : Nat) (Option.some Jvm.ClassFile.FieldType.int), Jvm.Cond.code ({ cls := "java/lang/StringUTF16", name := "coderFromArrayLen", desc := "([BI)B" } : Jvm.MethodName) jdk_52_method_15_code (2 : Nat) (Option.some Jvm.ClassFile.FieldType.byte)]
set_option maxRecDepth 65536 in
theorem codes_eq : words1.filter isCode = codes1 := rfl
theorem w_codes : ∀ c ∈ words1.filter isCode, c.before args0 about1 = true := by
  rw [codes_eq]
  intro c hc
  simp only [codes1, List.mem_cons, List.not_mem_nil, or_false] at hc
  rcases hc with rfl | rfl | rfl | rfl | rfl | rfl | rfl | rfl | rfl | rfl | rfl | rfl | rfl | rfl | rfl | rfl | rfl | rfl | rfl | rfl | rfl | rfl | rfl | rfl | rfl | rfl | rfl | rfl | rfl | rfl | rfl | rfl | rfl | rfl | rfl | rfl | rfl | rfl | rfl | rfl | rfl | rfl | rfl | rfl | rfl | rfl
  · exact w_c0
  · exact w_c1
  · exact w_c2
  · exact w_c3
  · exact w_c4
  · exact w_c5
  · exact w_c6
  · exact w_c7
  · exact w_c8
  · exact w_c9
  · exact w_c10
  · exact w_c11
  · exact w_c12
  · exact w_c13
  · exact w_c14
  · exact w_c15
  · exact w_c16
  · exact w_c17
  · exact w_c18
  · exact w_c19
  · exact w_c20
  · exact w_c21
  · exact w_c22
  · exact w_c23
  · exact w_c24
  · exact w_c25
  · exact w_c26
  · exact w_c27
  · exact w_c28
  · exact w_c29
  · exact w_c30
  · exact w_c31
  · exact w_c32
  · exact w_c33
  · exact w_c34
  · exact w_c35
  · exact w_c36
  · exact w_c37
  · exact w_c38
  · exact w_c39
  · exact w_c40
  · exact w_c41
  · exact w_c42
  · exact w_c43
  · exact w_c44
  · exact w_c45
set_option maxRecDepth 65536 in
theorem w_t1 : (words1.take 24).all (fun c => isCode c || c.before args0 about1) = true := by decide +kernel
set_option maxRecDepth 65536 in
theorem w_t2 : ((words1.drop 24).take 24).all (fun c => isCode c || c.before args0 about1) = true := by decide +kernel
set_option maxRecDepth 65536 in
theorem w_t3 : (((words1.drop 24).drop 24).take 24).all (fun c => isCode c || c.before args0 about1) = true := by decide +kernel
set_option maxRecDepth 65536 in
theorem w_t4 : ((((words1.drop 24).drop 24).drop 24).take 24).all (fun c => isCode c || c.before args0 about1) = true := by decide +kernel
set_option maxRecDepth 65536 in
theorem w_t5 : (((((words1.drop 24).drop 24).drop 24).drop 24).take 24).all (fun c => isCode c || c.before args0 about1) = true := by decide +kernel
set_option maxRecDepth 65536 in
theorem w_t6 : ((((((words1.drop 24).drop 24).drop 24).drop 24).drop 24).take 24).all (fun c => isCode c || c.before args0 about1) = true := by decide +kernel
set_option maxRecDepth 65536 in
theorem w_t7 : (((((((words1.drop 24).drop 24).drop 24).drop 24).drop 24).drop 24).take 24).all (fun c => isCode c || c.before args0 about1) = true := by decide +kernel
set_option maxRecDepth 65536 in
theorem w_t8 : ((((((((words1.drop 24).drop 24).drop 24).drop 24).drop 24).drop 24).drop 24).take 24).all (fun c => isCode c || c.before args0 about1) = true := by decide +kernel
set_option maxRecDepth 65536 in
theorem w_t9 : (((((((((words1.drop 24).drop 24).drop 24).drop 24).drop 24).drop 24).drop 24).drop 24).take 24).all (fun c => isCode c || c.before args0 about1) = true := by decide +kernel
set_option maxRecDepth 65536 in
theorem w_t10 : (((((((((words1.drop 24).drop 24).drop 24).drop 24).drop 24).drop 24).drop 24).drop 24).drop 24).all (fun c => isCode c || c.before args0 about1) = true := by decide +kernel
theorem w_tables : (allAtoms (Jvm.Cond.code x code maxLocals ret :: tables_1)).before args0 about1 = true := by
  rw [allAtoms_all]
  show words1.all (fun c => c.before args0 about1) = true
  refine all_split ?_ w_codes
  rw [← List.take_append_drop 24 words1, List.all_append, w_t1, ← List.take_append_drop 24 (words1.drop 24), List.all_append, w_t2, ← List.take_append_drop 24 ((words1.drop 24).drop 24), List.all_append, w_t3, ← List.take_append_drop 24 (((words1.drop 24).drop 24).drop 24), List.all_append, w_t4, ← List.take_append_drop 24 ((((words1.drop 24).drop 24).drop 24).drop 24), List.all_append, w_t5, ← List.take_append_drop 24 (((((words1.drop 24).drop 24).drop 24).drop 24).drop 24), List.all_append, w_t6, ← List.take_append_drop 24 ((((((words1.drop 24).drop 24).drop 24).drop 24).drop 24).drop 24), List.all_append, w_t7, ← List.take_append_drop 24 (((((((words1.drop 24).drop 24).drop 24).drop 24).drop 24).drop 24).drop 24), List.all_append, w_t8, ← List.take_append_drop 24 ((((((((words1.drop 24).drop 24).drop 24).drop 24).drop 24).drop 24).drop 24).drop 24), List.all_append, w_t9, w_t10]
  rfl
set_option maxRecDepth 65536 in
theorem w_rest : rest_1_c.before args0 about1 = true := by decide +kernel
set_option maxRecDepth 65536 in
theorem w_case : (Jvm.Cond.and given_1 narrow_1).before args0 about1 = true := by decide +kernel
set_option maxRecDepth 65536 in
theorem w_consts : constsHeld consts_1 about1 := Jvm.Lit.constsHeldB_iff.mp (by decide +kernel)
theorem w_applies : (headSpec (Jvm.Cond.code x code maxLocals ret :: tables_1) room_1).applies x e0.platform about1 = true :=
  (Spec.applies_iff w_frames).mpr ⟨w_running, w_runnable, w_alone, w_named, w_hears, w_ripe, w_room, w_tables⟩
theorem atStart : AtStart classFile x code maxLocals ret World_1 tables_1 room_1 Calls_1 rest_1 Pre_1 launch0 p0 e0 about1 theMethod args0 below0 :=
  ⟨lists_1, trivial, launch0.admits_env _ _ _, launch0.least_env, fairChoices_fair.cas, fairChoices_fair.clock, w_frames, w_args, w_heap, w_applies, ⟨w_consts, trivial⟩, w_rest, w_case⟩
end start1
theorem witness_1 : WitnessClaimed_1 := ⟨start1.p0, start1.e0, start1.about1, start1.theMethod, start1.args0, start1.below0, start1.atStart⟩
end Jvm.Pilot.@@N@@
