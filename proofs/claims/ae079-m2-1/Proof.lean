import JvmDerived
import JvmDerived.Pilot.@@N@@Statement
import JvmDerived.Pilot.@@N@@Code
set_option linter.unusedVariables false
set_option linter.unusedSimpArgs false
/-! OWN FRAMEWORK, part 1: a walk as one predicate 'Go' (the machine's state hidden), contracts 'Met'. -/
namespace Jvm.Pilot.@@N@@
namespace Own
open Jvm Jvm.ClassFile Sem Op Lib Jvm.Free Jvm.Stand Jvm.LawKit Jvm.RoadKit
/-- what one run of a body fixes: program, env, start, method id, arguments, frames below, method, code -/
abbrev Cx := Program × Env × State × MethodId × Array Value × List Frame × Method × Code
abbrev QT := Option Value → Heap → List Addr → Prop
/-- the words of the sheet, of the start Z -/
def Wd (Z : State) (a0 : Array Value) : Prop := (∀ d ∈ tables_1, d.before a0 Z = true) ∧ EW Z a0 consts_1 ∧ (∀ a ∈ Bundle.stringAtoms, a.before a0 Z = true) ∧ (∃ cz : Int32, Sta Z Z.heap "java/lang/String" "COMPACT_STRINGS" "Z" (.int cz) ∧ ¬ cz = 0) ∧ (∃ fm : Value, Sta Z Z.heap "jdk/internal/util/Preconditions" "SIOOBE_FORMATTER" "Ljava/util/function/BiFunction;" fm ∧ fm.isRef = true) ∧ (∀ d ∈ jdkStatics_1, d.before a0 Z = true)
/-- made since the law began, and no cell of a booked literal -/
def Mine (Z : State) (vm : Vm) (h : Heap) (x : Addr) : Prop := Z.heap.size ≤ x ∧ x < h.size ∧ Safe Z consts_1 vm h x
def St (l : Launch) (Z : State) (K : Cx) (own mn : String) (b : ByteArray) (ml : Nat) (rt : Option FieldType) (R : Room) (T : State) (h : Heap) (F : List Addr) (c s : Nat) : Prop :=
  ∃ (vm : Vm) (k : Nat) (locs : List Loc), Stand K.1 l K.2.1 R (K.2.2.1.setVm vm) K.2.2.2.1 K.2.2.2.2.1 K.2.2.2.2.2.1 K.2.2.2.2.2.2.1 K.2.2.2.2.2.2.2 T locs c s ∧ T.heap = h ∧
    K.2.2.1.Since vm k ∧ k ≤ h.size ∧ Z.Warmed39 vm ∧ vm.findClass own = some K.2.2.2.1.cls ∧ Fr Z.heap.size locs ∧ CHr Z consts_1 K.2.2.1.vm K.2.2.1.heap vm h ∧ (∀ x ∈ F, Mine Z vm h x) ∧ Old Z Z.heap.size h ∧
    K.1.tables.exec = Jvm.exec ∧ K.2.2.2.2.2.2.2.code = b ∧ K.2.2.2.2.2.2.2.maxLocals = ml ∧ K.2.2.2.2.2.2.1.sig.returnType = rt ∧ K.2.2.2.2.2.2.1.name = mn ∧ K.2.2.2.2.2.2.1.locks = false
def End (Z : State) (s : State) (R : Room) (Q : QT) (o : Outcome) (U : State) : Prop :=
  ∃ v L G, o = .returned v ∧ Q v U.heap G ∧ Fr Z.heap.size L ∧ (∀ x ∈ G, Mine Z U.vm U.heap x) ∧ CHr Z consts_1 s.vm s.heap U.vm U.heap ∧ Old Z Z.heap.size U.heap ∧ ReturnedEndW s o U L R.cells R.slots
def Go (l : Launch) (Z : State) (K : Cx) (own mn : String) (b : ByteArray) (ml : Nat) (rt : Option FieldType) (R : Room) (Q : QT) (h : Heap) (F : List Addr) (c s : Nat) (pc : Nat) (L : Array Slot) (S : List Value) : Prop :=
  ∀ T, St l Z K own mn b ml rt R T h F c s → ∃ s₂ o, Steps K.1.tables K.2.1 K.2.2.2.2.2.1 (T.setTop (mkF K.2.2.2.1 pc L S)) s₂ ∧ s₂.status = .running ∧ Ended s₂ K.2.2.2.2.2.1 o ∧ End Z K.2.2.1 R Q o s₂
/-- a body's contract -/
def Met (l : Launch) (Z : State) (y : MethodName) (b : ByteArray) (ml : Nat) (rt : Option FieldType) (R : Room) (h0 : Heap) (F : List Addr) (as : Array Value) (Q : QT) : Prop :=
  MetFree l y (head1 [Cond.code y b ml rt] R) (fun a U => a = as ∧ Z.Warmed39 U.vm ∧ U.heap = h0 ∧ CHv Z consts_1 U.vm h0 ∧ (∀ x ∈ F, Mine Z U.vm h0 x) ∧ Old Z Z.heap.size h0) (fun _ _ _ _ _ => True) (fun _ U o U' => End Z U R Q o U')
section G
variable {l : Launch} {Z : State} {a0 : Array Value} {K : Cx} {own mn : String} {b : ByteArray} {ml : Nat} {rt : Option FieldType} {R : Room} {Q : QT} {h h' : Heap} {F : List Addr} {c s pc q : Nat} {L L' : Array Slot} {S S' : List Value}
theorem Met.mk {y : MethodName} {as : Array Value} (hp : plainFor y = true) (he : ∀ m, entryFrame m as ml = mkF m 0 L []) (w : ∀ K, Go l Z K y.cls y.name b ml rt R Q h F 0 0 0 L []) : Met l Z y b ml rt R h F as Q := by
  refine MetFree.of_bodySF hp hisR ?_
  intro p e s m args below meth c s₁ Bd hml hP hK
  obtain ⟨rfl, hZ, hh, hC, hF, hO⟩ := hP
  have hst : s₁.heap = h := by rw [← hh, Bd.state]; rfl
  have X0 : Stand p l e R s m args below meth c s₁ [] 0 0 := Stand.of_body Bd
  obtain ⟨s₂, o, h1, h2, h3, h4⟩ := w (p, e, s, m, args, below, meth, c) s₁ ⟨s.vm, 0, [], X0, hst, ⟨State.Warmed39.refl _, (State.WarmedH.refl s).no_new_pair _⟩, Nat.zero_le _, hZ, findClass_of_methodNamed Bd.named, Fr.nil _, by
    show CHr Z consts_1 s.vm s.heap s.vm h
    rw [hh]; exact CHr.refl hC, hF, hO, Bd.exec, Bd.bytes, hml, Bd.returns, (name_of_methodNamed Bd.named Bd.method).1, Bd.notSynchronized⟩
  exact ⟨s₂, o, by rw [he]; exact h1, h2, h3, h4⟩
/-- the law's own contract, over the sheet's words -/
def MetL (l : Launch) (Z : State) (y : MethodName) (b : ByteArray) (ml : Nat) (rt : Option FieldType) (R : Room) (h0 : Heap) (F : List Addr) (as : Array Value) (Q : QT) : Prop :=
  MetFree l y (head1 (Cond.code y b ml rt :: tables_1) R) (fun a U => a = as ∧ Z.Warmed39 U.vm ∧ U.heap = h0 ∧ CHv Z consts_1 U.vm h0 ∧ (∀ x ∈ F, Mine Z U.vm h0 x) ∧ Old Z Z.heap.size h0) (fun _ _ _ _ _ => True) (fun _ U o U' => End Z U R Q o U')
theorem MetL.mk {y : MethodName} {as : Array Value} (hp : plainFor y = true) (he : ∀ m, entryFrame m as ml = mkF m 0 L []) (w : ∀ K, Go l Z K y.cls y.name b ml rt R Q h F 0 0 0 L []) : MetL l Z y b ml rt R h F as Q := by
  refine MetFree.of_bodySF hp hisR ?_
  intro p e s m args below meth c s₁ Bd hml hP hK
  obtain ⟨rfl, hZ, hh, hC, hF, hO⟩ := hP
  have hst : s₁.heap = h := by rw [← hh, Bd.state]; rfl
  have X0 : Stand p l e R s m args below meth c s₁ [] 0 0 := Stand.of_body Bd
  obtain ⟨s₂, o, h1, h2, h3, h4⟩ := w (p, e, s, m, args, below, meth, c) s₁ ⟨s.vm, 0, [], X0, hst, ⟨State.Warmed39.refl _, (State.WarmedH.refl s).no_new_pair _⟩, Nat.zero_le _, hZ, findClass_of_methodNamed Bd.named, Fr.nil _, by
    show CHr Z consts_1 s.vm s.heap s.vm h
    rw [hh]; exact CHr.refl hC, hF, hO, Bd.exec, Bd.bytes, hml, Bd.returns, (name_of_methodNamed Bd.named Bd.method).1, Bd.notSynchronized⟩
  exact ⟨s₂, o, by rw [he]; exact h1, h2, h3, h4⟩
theorem go_of (st : ∀ T, St l Z K own mn b ml rt R T h F c s → ∀ t, Steps K.1.tables K.2.1 K.2.2.2.2.2.1 (T.setTop (mkF K.2.2.2.1 q L' S')) t → Steps K.1.tables K.2.1 K.2.2.2.2.2.1 (T.setTop (mkF K.2.2.2.1 pc L S)) t)
    (n : Go l Z K own mn b ml rt R Q h F c s q L' S') : Go l Z K own mn b ml rt R Q h F c s pc L S := fun T X => by
  obtain ⟨s₂, o, a, r⟩ := n T X
  exact ⟨s₂, o, st T X _ a, r⟩
/-- the facts at hand may be fewer; the counts higher -/
theorem go_less {F' : List Addr} {c' s' : Nat} (hF : ∀ x ∈ F', x ∈ F) (hc : c ≤ c') (hs : s ≤ s') (n : Go l Z K own mn b ml rt R Q h F' c' s' pc L S) : Go l Z K own mn b ml rt R Q h F c s pc L S := fun T X => by
  obtain ⟨vm, k, locs, Y, r1, r2, r3, r4, r5, r6, r7, r8, r9⟩ := X
  exact n T ⟨vm, k, locs, Y.mono hc hs, r1, r2, r3, r4, r5, r6, r7, fun x hx => r8 x (hF x hx), r9⟩
/-- an object of a class of its own, made since the law began, may be written -/
theorem go_claim {x : Addr} {C : String} (E : Exa Z h x C) (hC : C ≠ "java/lang/String" ∧ C ≠ "[B") (hx : Z.heap.size ≤ x) (n : Go l Z K own mn b ml rt R Q h (x :: F) c s pc L S) : Go l Z K own mn b ml rt R Q h F c s pc L S := fun T X => by
  obtain ⟨vm, k, locs, Y, r1, r2, r3, r4, r5, r6, r7, r8, r9⟩ := X
  exact n T ⟨vm, k, locs, Y, r1, r2, r3, r4, r5, r6, r7, allS ⟨hx, E.lt, Safe.exa r4.alike E hC.1 hC.2⟩ r8, r9⟩
theorem go_claimA {x : Addr} {k : ClassId} {ty : FieldType} {z : Int32} {vs : List Value} {dv : Value} (E : Arv Z h x k ty z vs dv) (hC : ty ≠ .byte) (hx : Z.heap.size ≤ x) (n : Go l Z K own mn b ml rt R Q h (x :: F) c s pc L S) : Go l Z K own mn b ml rt R Q h F c s pc L S := fun T X => by
  obtain ⟨vm, k, locs, Y, r1, r2, r3, r4, r5, r6, r7, r8, r9⟩ := X
  obtain ⟨cl, A, -⟩ := id E
  exact n T ⟨vm, k, locs, Y, r1, r2, r3, r4, r5, r6, r7, allS ⟨hx, E.lt, Safe.arr r4.alike A hC⟩ r8, r9⟩
/-- what is mine lies in the heap and above the start -/
theorem go_mine (n : (∀ x ∈ F, Z.heap.size ≤ x ∧ x < h.size) → Old Z Z.heap.size h → Go l Z K own mn b ml rt R Q h F c s pc L S) : Go l Z K own mn b ml rt R Q h F c s pc L S := fun T X => by
  obtain ⟨vm, k, locs, Y, r1, r2, r3, r4, r5, r6, r7, r8, r9⟩ := id X
  exact n (fun x hx => ⟨(r8 x hx).1, (r8 x hx).2.1⟩) r9.1 T X
/-! ### the plain steps -/
theorem go_aloadN {k : Fin 4} {v : Value} (hd : decode b pc = .ok (.aload_n k, 1)) (hl : L[k.val]? = some (.val v)) (hv : v.isRef = true) (hq : pc + 1 = q) (n : Go l Z K own mn b ml rt R Q h F c s q L (v :: S)) : Go l Z K own mn b ml rt R Q h F c s pc L S := by
  subst hq; exact go_of (fun T X t st => by obtain ⟨vm, k, locs, Y, r1, r2, r3, r4, r5, r6, r7, r8, r9, hx, hb', r⟩ := X; exact XS.aloadN Y.here hx rfl (hb hb' hd) hl hv st) n
theorem go_aload {k : Nat} {v : Value} (hd : decode b pc = .ok (.aload k, 2)) (hl : L[k]? = some (.val v)) (hv : v.isRef = true) (hq : pc + 2 = q) (n : Go l Z K own mn b ml rt R Q h F c s q L (v :: S)) : Go l Z K own mn b ml rt R Q h F c s pc L S := by
  subst hq; exact go_of (fun T X t st => by obtain ⟨vm, k, locs, Y, r1, r2, r3, r4, r5, r6, r7, r8, r9, hx, hb', r⟩ := X; exact XS.aload Y.here hx rfl (hb hb' hd) hl hv st) n
theorem go_iloadN {k : Fin 4} {v : Int32} (hd : decode b pc = .ok (.iload_n k, 1)) (hl : L[k.val]? = some (.val (.int v))) (hq : pc + 1 = q) (n : Go l Z K own mn b ml rt R Q h F c s q L (.int v :: S)) : Go l Z K own mn b ml rt R Q h F c s pc L S := by
  subst hq; exact go_of (fun T X t st => by obtain ⟨vm, k, locs, Y, r1, r2, r3, r4, r5, r6, r7, r8, r9, hx, hb', r⟩ := X; exact XS.iloadN Y.here hx rfl (hb hb' hd) hl st) n
theorem go_iload {k : Nat} {v : Int32} (hd : decode b pc = .ok (.iload k, 2)) (hl : L[k]? = some (.val (.int v))) (hq : pc + 2 = q) (n : Go l Z K own mn b ml rt R Q h F c s q L (.int v :: S)) : Go l Z K own mn b ml rt R Q h F c s pc L S := by
  subst hq; exact go_of (fun T X t st => by obtain ⟨vm, k, locs, Y, r1, r2, r3, r4, r5, r6, r7, r8, r9, hx, hb', r⟩ := X; exact XS.iload Y.here hx rfl (hb hb' hd) hl st) n
theorem go_lloadN {k : Fin 4} {v : Int64} (hd : decode b pc = .ok (.lload_n k, 1)) (hl : L[k.val]? = some (.val (.long v))) (hq : pc + 1 = q) (n : Go l Z K own mn b ml rt R Q h F c s q L (.long v :: S)) : Go l Z K own mn b ml rt R Q h F c s pc L S := by
  subst hq; exact go_of (fun T X t st => by obtain ⟨vm, k, locs, Y, r1, r2, r3, r4, r5, r6, r7, r8, r9, hx, hb', r⟩ := X; exact XS.lloadN Y.here hx rfl (hb hb' hd) hl st) n
theorem go_lload {k : Nat} {v : Int64} (hd : decode b pc = .ok (.lload k, 2)) (hl : L[k]? = some (.val (.long v))) (hq : pc + 2 = q) (n : Go l Z K own mn b ml rt R Q h F c s q L (.long v :: S)) : Go l Z K own mn b ml rt R Q h F c s pc L S := by
  subst hq; exact go_of (fun T X t st => by obtain ⟨vm, k, locs, Y, r1, r2, r3, r4, r5, r6, r7, r8, r9, hx, hb', r⟩ := X; exact XS.lload Y.here hx rfl (hb hb' hd) hl st) n
theorem go_iconst {i : Int} {x : Int32} (hd : decode b pc = .ok (.iconst i, 1)) (hv : Int32.ofInt i = x) (hq : pc + 1 = q) (n : Go l Z K own mn b ml rt R Q h F c s q L (.int x :: S)) : Go l Z K own mn b ml rt R Q h F c s pc L S := by
  subst hq hv; exact go_of (fun T X t st => by obtain ⟨vm, k, locs, Y, r1, r2, r3, r4, r5, r6, r7, r8, r9, hx, hb', r⟩ := X; exact XS.iconst Y.here hx rfl (hb hb' hd) st) n
theorem go_bipush {i : Int} {x : Int32} (hd : decode b pc = .ok (.bipush i, 2)) (hv : (Int8.ofInt i).toInt32 = x) (hq : pc + 2 = q) (n : Go l Z K own mn b ml rt R Q h F c s q L (.int x :: S)) : Go l Z K own mn b ml rt R Q h F c s pc L S := by
  subst hq hv; exact go_of (fun T X t st => by obtain ⟨vm, k, locs, Y, r1, r2, r3, r4, r5, r6, r7, r8, r9, hx, hb', r⟩ := X; exact XS.bipush Y.here hx rfl (hb hb' hd) st) n
theorem go_sipush {i : Int} {x : Int32} (hd : decode b pc = .ok (.sipush i, 3)) (hv : (Int16.ofInt i).toInt32 = x) (hq : pc + 3 = q) (n : Go l Z K own mn b ml rt R Q h F c s q L (.int x :: S)) : Go l Z K own mn b ml rt R Q h F c s pc L S := by
  subst hq hv; exact go_of (fun T X t st => by obtain ⟨vm, k, locs, Y, r1, r2, r3, r4, r5, r6, r7, r8, r9, hx, hb', r⟩ := X; exact XS.sipush Y.here hx rfl (hb hb' hd) st) n
theorem go_lconst {k : Fin 2} {x : Int64} (hd : decode b pc = .ok (.lconst k, 1)) (hv : Int64.ofNat k = x) (hq : pc + 1 = q) (n : Go l Z K own mn b ml rt R Q h F c s q L (.long x :: S)) : Go l Z K own mn b ml rt R Q h F c s pc L S := by
  subst hq hv; exact go_of (fun T X t st => by obtain ⟨vm, k, locs, Y, r1, r2, r3, r4, r5, r6, r7, r8, r9, hx, hb', r⟩ := X; exact XS.lconst Y.here hx rfl (hb hb' hd) st) n
theorem go_null (hd : decode b pc = .ok (.aconst_null, 1)) (hq : pc + 1 = q) (n : Go l Z K own mn b ml rt R Q h F c s q L (.null :: S)) : Go l Z K own mn b ml rt R Q h F c s pc L S := by
  subst hq; exact go_of (fun T X t st => by obtain ⟨vm, k, locs, Y, r1, r2, r3, r4, r5, r6, r7, r8, r9, hx, hb', r⟩ := X; exact XS.aconstNull Y.here hx rfl (hb hb' hd) st) n
theorem go_iadd {x : Int32} {y : Int32} {r : Int32} (hd : decode b pc = .ok (.iadd, 1)) (hr : x + y = r) (hq : pc + 1 = q) (n : Go l Z K own mn b ml rt R Q h F c s q L (.int r :: S)) : Go l Z K own mn b ml rt R Q h F c s pc L (.int y :: .int x :: S) := by
  subst hq hr; exact go_of (fun T X t st => by obtain ⟨vm, k, locs, Y, r1, r2, r3, r4, r5, r6, r7, r8, r9, hx, hb', rr⟩ := X; exact XS.iadd Y.here hx rfl (hb hb' hd) rfl st) n
theorem go_isub {x : Int32} {y : Int32} {r : Int32} (hd : decode b pc = .ok (.isub, 1)) (hr : x - y = r) (hq : pc + 1 = q) (n : Go l Z K own mn b ml rt R Q h F c s q L (.int r :: S)) : Go l Z K own mn b ml rt R Q h F c s pc L (.int y :: .int x :: S) := by
  subst hq hr; exact go_of (fun T X t st => by obtain ⟨vm, k, locs, Y, r1, r2, r3, r4, r5, r6, r7, r8, r9, hx, hb', rr⟩ := X; exact XS.isub Y.here hx rfl (hb hb' hd) rfl st) n
theorem go_iand {x : Int32} {y : Int32} {r : Int32} (hd : decode b pc = .ok (.iand, 1)) (hr : x &&& y = r) (hq : pc + 1 = q) (n : Go l Z K own mn b ml rt R Q h F c s q L (.int r :: S)) : Go l Z K own mn b ml rt R Q h F c s pc L (.int y :: .int x :: S) := by
  subst hq hr; exact go_of (fun T X t st => by obtain ⟨vm, k, locs, Y, r1, r2, r3, r4, r5, r6, r7, r8, r9, hx, hb', rr⟩ := X; exact XS.iand Y.here hx rfl (hb hb' hd) rfl st) n
theorem go_imul {x : Int32} {y : Int32} {r : Int32} (hd : decode b pc = .ok (.imul, 1)) (hr : x * y = r) (hq : pc + 1 = q) (n : Go l Z K own mn b ml rt R Q h F c s q L (.int r :: S)) : Go l Z K own mn b ml rt R Q h F c s pc L (.int y :: .int x :: S) := by
  subst hq hr; exact go_of (fun T X t st => by obtain ⟨vm, k, locs, Y, r1, r2, r3, r4, r5, r6, r7, r8, r9, hx, hb', rr⟩ := X; exact XS.imul Y.here hx rfl (hb hb' hd) rfl st) n
theorem go_ixor {x : Int32} {y : Int32} {r : Int32} (hd : decode b pc = .ok (.ixor, 1)) (hr : x ^^^ y = r) (hq : pc + 1 = q) (n : Go l Z K own mn b ml rt R Q h F c s q L (.int r :: S)) : Go l Z K own mn b ml rt R Q h F c s pc L (.int y :: .int x :: S) := by
  subst hq hr; exact go_of (fun T X t st => by obtain ⟨vm, k, locs, Y, r1, r2, r3, r4, r5, r6, r7, r8, r9, hx, hb', rr⟩ := X; exact XT.ixor Y.here hx rfl (hb hb' hd) rfl st) n
theorem go_ior {x : Int32} {y : Int32} {r : Int32} (hd : decode b pc = .ok (.ior, 1)) (hr : x ||| y = r) (hq : pc + 1 = q) (n : Go l Z K own mn b ml rt R Q h F c s q L (.int r :: S)) : Go l Z K own mn b ml rt R Q h F c s pc L (.int y :: .int x :: S) := by
  subst hq hr; exact go_of (fun T X t st => by obtain ⟨vm, k, locs, Y, r1, r2, r3, r4, r5, r6, r7, r8, r9, hx, hb', rr⟩ := X; exact XT.ior Y.here hx rfl (hb hb' hd) rfl st) n
theorem go_ishl {x : Int32} {y : Int32} {r : Int32} (hd : decode b pc = .ok (.ishl, 1)) (hr : x <<< (y &&& 31) = r) (hq : pc + 1 = q) (n : Go l Z K own mn b ml rt R Q h F c s q L (.int r :: S)) : Go l Z K own mn b ml rt R Q h F c s pc L (.int y :: .int x :: S) := by
  subst hq hr; exact go_of (fun T X t st => by obtain ⟨vm, k, locs, Y, r1, r2, r3, r4, r5, r6, r7, r8, r9, hx, hb', rr⟩ := X; exact XT.ishl Y.here hx rfl (hb hb' hd) rfl st) n
theorem go_ishr {x : Int32} {y : Int32} {r : Int32} (hd : decode b pc = .ok (.ishr, 1)) (hr : x >>> (y &&& 31) = r) (hq : pc + 1 = q) (n : Go l Z K own mn b ml rt R Q h F c s q L (.int r :: S)) : Go l Z K own mn b ml rt R Q h F c s pc L (.int y :: .int x :: S) := by
  subst hq hr; exact go_of (fun T X t st => by obtain ⟨vm, k, locs, Y, r1, r2, r3, r4, r5, r6, r7, r8, r9, hx, hb', rr⟩ := X; exact XT.ishr Y.here hx rfl (hb hb' hd) rfl st) n
theorem go_iushr {x : Int32} {y : Int32} {r : Int32} (hd : decode b pc = .ok (.iushr, 1)) (hr : XT.ushr x y = r) (hq : pc + 1 = q) (n : Go l Z K own mn b ml rt R Q h F c s q L (.int r :: S)) : Go l Z K own mn b ml rt R Q h F c s pc L (.int y :: .int x :: S) := by
  subst hq hr; exact go_of (fun T X t st => by obtain ⟨vm, k, locs, Y, r1, r2, r3, r4, r5, r6, r7, r8, r9, hx, hb', rr⟩ := X; exact XT.iushr Y.here hx rfl (hb hb' hd) rfl st) n
theorem go_idiv {x : Int32} {y : Int32} {r : Int32} (hd : decode b pc = .ok (.idiv, 1)) (hy : y ≠ 0) (hr : x / y = r) (hq : pc + 1 = q) (n : Go l Z K own mn b ml rt R Q h F c s q L (.int r :: S)) : Go l Z K own mn b ml rt R Q h F c s pc L (.int y :: .int x :: S) := by
  subst hq hr; exact go_of (fun T X t st => by obtain ⟨vm, k, locs, Y, r1, r2, r3, r4, r5, r6, r7, r8, r9, hx, hb', rr⟩ := X; exact XS.idiv Y.here hx rfl (hb hb' hd) rfl hy st) n
theorem go_irem0 {x : Int32} {y : Int32} {r : Int32} (hd : decode b pc = .ok (.irem, 1)) (hy : y ≠ 0) (hr : x - (x / y) * y = r) (hq : pc + 1 = q) (n : Go l Z K own mn b ml rt R Q h F c s q L (.int r :: S)) : Go l Z K own mn b ml rt R Q h F c s pc L (.int y :: .int x :: S) := by
  subst hq hr; exact go_of (fun T X t st => by obtain ⟨vm, k, locs, Y, r1, r2, r3, r4, r5, r6, r7, r8, r9, hx, hb', rr⟩ := X; exact XS.irem Y.here hx rfl (hb hb' hd) rfl hy st) n
theorem go_ladd {x : Int64} {y : Int64} {r : Int64} (hd : decode b pc = .ok (.ladd, 1)) (hr : x + y = r) (hq : pc + 1 = q) (n : Go l Z K own mn b ml rt R Q h F c s q L (.long r :: S)) : Go l Z K own mn b ml rt R Q h F c s pc L (.long y :: .long x :: S) := by
  subst hq hr; exact go_of (fun T X t st => by obtain ⟨vm, k, locs, Y, r1, r2, r3, r4, r5, r6, r7, r8, r9, hx, hb', rr⟩ := X; exact XT.ladd Y.here hx rfl (hb hb' hd) rfl st) n
theorem go_lsub {x : Int64} {y : Int64} {r : Int64} (hd : decode b pc = .ok (.lsub, 1)) (hr : x - y = r) (hq : pc + 1 = q) (n : Go l Z K own mn b ml rt R Q h F c s q L (.long r :: S)) : Go l Z K own mn b ml rt R Q h F c s pc L (.long y :: .long x :: S) := by
  subst hq hr; exact go_of (fun T X t st => by obtain ⟨vm, k, locs, Y, r1, r2, r3, r4, r5, r6, r7, r8, r9, hx, hb', rr⟩ := X; exact XT.lsub Y.here hx rfl (hb hb' hd) rfl st) n
theorem go_lmul {x : Int64} {y : Int64} {r : Int64} (hd : decode b pc = .ok (.lmul, 1)) (hr : x * y = r) (hq : pc + 1 = q) (n : Go l Z K own mn b ml rt R Q h F c s q L (.long r :: S)) : Go l Z K own mn b ml rt R Q h F c s pc L (.long y :: .long x :: S) := by
  subst hq hr; exact go_of (fun T X t st => by obtain ⟨vm, k, locs, Y, r1, r2, r3, r4, r5, r6, r7, r8, r9, hx, hb', rr⟩ := X; exact XT.lmul Y.here hx rfl (hb hb' hd) rfl st) n
theorem go_land {x : Int64} {y : Int64} {r : Int64} (hd : decode b pc = .ok (.land, 1)) (hr : x &&& y = r) (hq : pc + 1 = q) (n : Go l Z K own mn b ml rt R Q h F c s q L (.long r :: S)) : Go l Z K own mn b ml rt R Q h F c s pc L (.long y :: .long x :: S) := by
  subst hq hr; exact go_of (fun T X t st => by obtain ⟨vm, k, locs, Y, r1, r2, r3, r4, r5, r6, r7, r8, r9, hx, hb', rr⟩ := X; exact XT.land Y.here hx rfl (hb hb' hd) rfl st) n
theorem go_lor {x : Int64} {y : Int64} {r : Int64} (hd : decode b pc = .ok (.lor, 1)) (hr : x ||| y = r) (hq : pc + 1 = q) (n : Go l Z K own mn b ml rt R Q h F c s q L (.long r :: S)) : Go l Z K own mn b ml rt R Q h F c s pc L (.long y :: .long x :: S) := by
  subst hq hr; exact go_of (fun T X t st => by obtain ⟨vm, k, locs, Y, r1, r2, r3, r4, r5, r6, r7, r8, r9, hx, hb', rr⟩ := X; exact XT.lor Y.here hx rfl (hb hb' hd) rfl st) n
theorem go_lxor {x : Int64} {y : Int64} {r : Int64} (hd : decode b pc = .ok (.lxor, 1)) (hr : x ^^^ y = r) (hq : pc + 1 = q) (n : Go l Z K own mn b ml rt R Q h F c s q L (.long r :: S)) : Go l Z K own mn b ml rt R Q h F c s pc L (.long y :: .long x :: S) := by
  subst hq hr; exact go_of (fun T X t st => by obtain ⟨vm, k, locs, Y, r1, r2, r3, r4, r5, r6, r7, r8, r9, hx, hb', rr⟩ := X; exact XT.lxor Y.here hx rfl (hb hb' hd) rfl st) n
theorem go_ldiv {x : Int64} {y : Int64} {r : Int64} (hd : decode b pc = .ok (.ldiv, 1)) (hy : y ≠ 0) (hr : x / y = r) (hq : pc + 1 = q) (n : Go l Z K own mn b ml rt R Q h F c s q L (.long r :: S)) : Go l Z K own mn b ml rt R Q h F c s pc L (.long y :: .long x :: S) := by
  subst hq hr; exact go_of (fun T X t st => by obtain ⟨vm, k, locs, Y, r1, r2, r3, r4, r5, r6, r7, r8, r9, hx, hb', rr⟩ := X; exact XT.ldiv Y.here hx rfl (hb hb' hd) rfl hy st) n
theorem go_lrem0 {x : Int64} {y : Int64} {r : Int64} (hd : decode b pc = .ok (.lrem, 1)) (hy : y ≠ 0) (hr : x - (x / y) * y = r) (hq : pc + 1 = q) (n : Go l Z K own mn b ml rt R Q h F c s q L (.long r :: S)) : Go l Z K own mn b ml rt R Q h F c s pc L (.long y :: .long x :: S) := by
  subst hq hr; exact go_of (fun T X t st => by obtain ⟨vm, k, locs, Y, r1, r2, r3, r4, r5, r6, r7, r8, r9, hx, hb', rr⟩ := X; exact XT.lrem Y.here hx rfl (hb hb' hd) rfl hy st) n
theorem go_lcmp {x : Int64} {y : Int64} {r : Int32} (hd : decode b pc = .ok (.lcmp, 1)) (hr : XT.cmpL x y = r) (hq : pc + 1 = q) (n : Go l Z K own mn b ml rt R Q h F c s q L (.int r :: S)) : Go l Z K own mn b ml rt R Q h F c s pc L (.long y :: .long x :: S) := by
  subst hq hr; exact go_of (fun T X t st => by obtain ⟨vm, k, locs, Y, r1, r2, r3, r4, r5, r6, r7, r8, r9, hx, hb', rr⟩ := X; exact XT.lcmp Y.here hx rfl (hb hb' hd) rfl st) n
theorem go_lshl {x : Int64} {y : Int32} {r : Int64} (hd : decode b pc = .ok (.lshl, 1)) (hr : x <<< (y.toInt64 &&& 63) = r) (hq : pc + 1 = q) (n : Go l Z K own mn b ml rt R Q h F c s q L (.long r :: S)) : Go l Z K own mn b ml rt R Q h F c s pc L (.int y :: .long x :: S) := by
  subst hq hr; exact go_of (fun T X t st => by obtain ⟨vm, k, locs, Y, r1, r2, r3, r4, r5, r6, r7, r8, r9, hx, hb', rr⟩ := X; exact XT.lshl Y.here hx rfl (hb hb' hd) rfl st) n
theorem go_lshr {x : Int64} {y : Int32} {r : Int64} (hd : decode b pc = .ok (.lshr, 1)) (hr : x >>> (y.toInt64 &&& 63) = r) (hq : pc + 1 = q) (n : Go l Z K own mn b ml rt R Q h F c s q L (.long r :: S)) : Go l Z K own mn b ml rt R Q h F c s pc L (.int y :: .long x :: S) := by
  subst hq hr; exact go_of (fun T X t st => by obtain ⟨vm, k, locs, Y, r1, r2, r3, r4, r5, r6, r7, r8, r9, hx, hb', rr⟩ := X; exact XT.lshr Y.here hx rfl (hb hb' hd) rfl st) n
theorem go_lushr {x : Int64} {y : Int32} {r : Int64} (hd : decode b pc = .ok (.lushr, 1)) (hr : XT.ushrL x y = r) (hq : pc + 1 = q) (n : Go l Z K own mn b ml rt R Q h F c s q L (.long r :: S)) : Go l Z K own mn b ml rt R Q h F c s pc L (.int y :: .long x :: S) := by
  subst hq hr; exact go_of (fun T X t st => by obtain ⟨vm, k, locs, Y, r1, r2, r3, r4, r5, r6, r7, r8, r9, hx, hb', rr⟩ := X; exact XT.lushr Y.here hx rfl (hb hb' hd) rfl st) n
theorem go_ineg {x : Int32} {r : Int32} (hd : decode b pc = .ok (.ineg, 1)) (hr : -x = r) (hq : pc + 1 = q) (n : Go l Z K own mn b ml rt R Q h F c s q L (.int r :: S)) : Go l Z K own mn b ml rt R Q h F c s pc L (.int x :: S) := by
  subst hq hr; exact go_of (fun T X t st => by obtain ⟨vm, k, locs, Y, r1, r2, r3, r4, r5, r6, r7, r8, r9, hx, hb', rr⟩ := X; exact XS.ineg Y.here hx rfl (hb hb' hd) rfl st) n
theorem go_lneg {x : Int64} {r : Int64} (hd : decode b pc = .ok (.lneg, 1)) (hr : -x = r) (hq : pc + 1 = q) (n : Go l Z K own mn b ml rt R Q h F c s q L (.long r :: S)) : Go l Z K own mn b ml rt R Q h F c s pc L (.long x :: S) := by
  subst hq hr; exact go_of (fun T X t st => by obtain ⟨vm, k, locs, Y, r1, r2, r3, r4, r5, r6, r7, r8, r9, hx, hb', rr⟩ := X; exact XT.lneg Y.here hx rfl (hb hb' hd) rfl st) n
theorem go_i2l {x : Int32} {r : Int64} (hd : decode b pc = .ok (.i2l, 1)) (hr : x.toInt64 = r) (hq : pc + 1 = q) (n : Go l Z K own mn b ml rt R Q h F c s q L (.long r :: S)) : Go l Z K own mn b ml rt R Q h F c s pc L (.int x :: S) := by
  subst hq hr; exact go_of (fun T X t st => by obtain ⟨vm, k, locs, Y, r1, r2, r3, r4, r5, r6, r7, r8, r9, hx, hb', rr⟩ := X; exact XT.i2l Y.here hx rfl (hb hb' hd) rfl st) n
theorem go_l2i {x : Int64} {r : Int32} (hd : decode b pc = .ok (.l2i, 1)) (hr : x.toInt32 = r) (hq : pc + 1 = q) (n : Go l Z K own mn b ml rt R Q h F c s q L (.int r :: S)) : Go l Z K own mn b ml rt R Q h F c s pc L (.long x :: S) := by
  subst hq hr; exact go_of (fun T X t st => by obtain ⟨vm, k, locs, Y, r1, r2, r3, r4, r5, r6, r7, r8, r9, hx, hb', rr⟩ := X; exact XT.l2i Y.here hx rfl (hb hb' hd) rfl st) n
theorem go_i2b {x : Int32} {r : Int32} (hd : decode b pc = .ok (.i2b, 1)) (hr : x.toInt8.toInt32 = r) (hq : pc + 1 = q) (n : Go l Z K own mn b ml rt R Q h F c s q L (.int r :: S)) : Go l Z K own mn b ml rt R Q h F c s pc L (.int x :: S) := by
  subst hq hr; exact go_of (fun T X t st => by obtain ⟨vm, k, locs, Y, r1, r2, r3, r4, r5, r6, r7, r8, r9, hx, hb', rr⟩ := X; exact XT.i2b Y.here hx rfl (hb hb' hd) rfl st) n
theorem go_i2c {x : Int32} {r : Int32} (hd : decode b pc = .ok (.i2c, 1)) (hr : x.toUInt32.toUInt16.toUInt32.toInt32 = r) (hq : pc + 1 = q) (n : Go l Z K own mn b ml rt R Q h F c s q L (.int r :: S)) : Go l Z K own mn b ml rt R Q h F c s pc L (.int x :: S) := by
  subst hq hr; exact go_of (fun T X t st => by obtain ⟨vm, k, locs, Y, r1, r2, r3, r4, r5, r6, r7, r8, r9, hx, hb', rr⟩ := X; exact XT.i2c Y.here hx rfl (hb hb' hd) rfl st) n
theorem go_i2s {x : Int32} {r : Int32} (hd : decode b pc = .ok (.i2s, 1)) (hr : x.toInt16.toInt32 = r) (hq : pc + 1 = q) (n : Go l Z K own mn b ml rt R Q h F c s q L (.int r :: S)) : Go l Z K own mn b ml rt R Q h F c s pc L (.int x :: S) := by
  subst hq hr; exact go_of (fun T X t st => by obtain ⟨vm, k, locs, Y, r1, r2, r3, r4, r5, r6, r7, r8, r9, hx, hb', rr⟩ := X; exact XT.i2s Y.here hx rfl (hb hb' hd) rfl st) n
theorem go_istoreN {k : Fin 4} {x : Int32} (hd : decode b pc = .ok (.istore_n k, 1)) (hl : storeLocals L k.val (.int x) = some L') (hq : pc + 1 = q) (n : Go l Z K own mn b ml rt R Q h F c s q L' S) : Go l Z K own mn b ml rt R Q h F c s pc L (.int x :: S) := by
  subst hq; exact go_of (fun T X t st => by obtain ⟨vm, k, locs, Y, r1, r2, r3, r4, r5, r6, r7, r8, r9, hx, hb', rr⟩ := X; exact XS.istoreN Y.here hx rfl (hb hb' hd) rfl hl st) n
theorem go_istore {k : Nat} {x : Int32} (hd : decode b pc = .ok (.istore k, 2)) (hl : storeLocals L k (.int x) = some L') (hq : pc + 2 = q) (n : Go l Z K own mn b ml rt R Q h F c s q L' S) : Go l Z K own mn b ml rt R Q h F c s pc L (.int x :: S) := by
  subst hq; exact go_of (fun T X t st => by obtain ⟨vm, k, locs, Y, r1, r2, r3, r4, r5, r6, r7, r8, r9, hx, hb', rr⟩ := X; exact XS.istore Y.here hx rfl (hb hb' hd) rfl hl st) n
theorem go_lstoreN {k : Fin 4} {x : Int64} (hd : decode b pc = .ok (.lstore_n k, 1)) (hl : storeLocals L k.val (.long x) = some L') (hq : pc + 1 = q) (n : Go l Z K own mn b ml rt R Q h F c s q L' S) : Go l Z K own mn b ml rt R Q h F c s pc L (.long x :: S) := by
  subst hq; exact go_of (fun T X t st => by obtain ⟨vm, k, locs, Y, r1, r2, r3, r4, r5, r6, r7, r8, r9, hx, hb', rr⟩ := X; exact XT.lstoreN Y.here hx rfl (hb hb' hd) rfl hl st) n
theorem go_lstore {k : Nat} {x : Int64} (hd : decode b pc = .ok (.lstore k, 2)) (hl : storeLocals L k (.long x) = some L') (hq : pc + 2 = q) (n : Go l Z K own mn b ml rt R Q h F c s q L' S) : Go l Z K own mn b ml rt R Q h F c s pc L (.long x :: S) := by
  subst hq; exact go_of (fun T X t st => by obtain ⟨vm, k, locs, Y, r1, r2, r3, r4, r5, r6, r7, r8, r9, hx, hb', rr⟩ := X; exact XT.lstore Y.here hx rfl (hb hb' hd) rfl hl st) n
theorem go_astoreN {k : Fin 4} {x : Value} (hd : decode b pc = .ok (.astore_n k, 1)) (hv : x.isRef = true) (hl : storeLocals L k.val (x) = some L') (hq : pc + 1 = q) (n : Go l Z K own mn b ml rt R Q h F c s q L' S) : Go l Z K own mn b ml rt R Q h F c s pc L (x :: S) := by
  subst hq; exact go_of (fun T X t st => by obtain ⟨vm, k, locs, Y, r1, r2, r3, r4, r5, r6, r7, r8, r9, hx, hb', rr⟩ := X; exact XS.astoreN Y.here hx rfl (hb hb' hd) rfl hv hl st) n
theorem go_astore {k : Nat} {x : Value} (hd : decode b pc = .ok (.astore k, 2)) (hv : x.isRef = true) (hl : storeLocals L k (x) = some L') (hq : pc + 2 = q) (n : Go l Z K own mn b ml rt R Q h F c s q L' S) : Go l Z K own mn b ml rt R Q h F c s pc L (x :: S) := by
  subst hq; exact go_of (fun T X t st => by obtain ⟨vm, k, locs, Y, r1, r2, r3, r4, r5, r6, r7, r8, r9, hx, hb', rr⟩ := X; exact XS.astore Y.here hx rfl (hb hb' hd) rfl hv hl st) n
theorem go_iinc {k : Nat} {i : Int} {x y : Int32} (hd : decode b pc = .ok (.iinc k i, 3)) (hl : L[k]? = some (.val (.int x))) (hy : x + Int32.ofInt i = y) (hl' : storeLocals L k (.int y) = some L') (hq : pc + 3 = q) (n : Go l Z K own mn b ml rt R Q h F c s q L' S) : Go l Z K own mn b ml rt R Q h F c s pc L S := by
  subst hq hy; exact go_of (fun T X t st => by obtain ⟨vm, k, locs, Y, r1, r2, r3, r4, r5, r6, r7, r8, r9, hx, hb', rr⟩ := X; exact XS.iinc Y.here hx rfl (hb hb' hd) hl hl' st) n
theorem go_dup {x : Value} (hd : decode b pc = .ok (.dup, 1)) (hc : x.category = 1) (hq : pc + 1 = q) (n : Go l Z K own mn b ml rt R Q h F c s q L (x :: x :: S)) : Go l Z K own mn b ml rt R Q h F c s pc L (x :: S) := by
  subst hq; exact go_of (fun T X t st => by obtain ⟨vm, k, locs, Y, r1, r2, r3, r4, r5, r6, r7, r8, r9, hx, hb', rr⟩ := X; exact XS.dup Y.here hx rfl (hb hb' hd) rfl hc st) n
theorem go_pop {x : Value} (hd : decode b pc = .ok (.pop, 1)) (hc : x.category = 1) (hq : pc + 1 = q) (n : Go l Z K own mn b ml rt R Q h F c s q L S) : Go l Z K own mn b ml rt R Q h F c s pc L (x :: S) := by
  subst hq; exact go_of (fun T X t st => by obtain ⟨vm, k, locs, Y, r1, r2, r3, r4, r5, r6, r7, r8, r9, hx, hb', rr⟩ := X; exact XT.pop Y.here hx rfl (hb hb' hd) rfl hc st) n
theorem go_dupX1 {x y : Value} (hd : decode b pc = .ok (.dup_x1, 1)) (hc : x.category = 1) (hc' : y.category = 1) (hq : pc + 1 = q) (n : Go l Z K own mn b ml rt R Q h F c s q L (x :: y :: x :: S)) : Go l Z K own mn b ml rt R Q h F c s pc L (x :: y :: S) := by
  subst hq; exact go_of (fun T X t st => by obtain ⟨vm, k, locs, Y, r1, r2, r3, r4, r5, r6, r7, r8, r9, hx, hb', rr⟩ := X; exact XT.dupX1 Y.here hx rfl (hb hb' hd) rfl hc hc' st) n
theorem go_dup2 {x y : Value} (hd : decode b pc = .ok (.dup2, 1)) (hc : x.category = 1) (hc' : y.category = 1) (hq : pc + 1 = q) (n : Go l Z K own mn b ml rt R Q h F c s q L (x :: y :: x :: y :: S)) : Go l Z K own mn b ml rt R Q h F c s pc L (x :: y :: S) := by
  subst hq; exact go_of (fun T X t st => by obtain ⟨vm, k, locs, Y, r1, r2, r3, r4, r5, r6, r7, r8, r9, hx, hb', rr⟩ := X; exact XT.dup2 Y.here hx rfl (hb hb' hd) rfl hc hc' st) n
theorem go_goto {o : Int} (hd : decode b pc = .ok (.goto o, 3)) (ho : 0 ≤ (pc : Int) + o) (hp : ((pc : Int) + o).toNat = q) (n : Go l Z K own mn b ml rt R Q h F c s q L S) : Go l Z K own mn b ml rt R Q h F c s pc L S := by
  exact go_of (fun T X t st => by obtain ⟨vm, k, locs, Y, r1, r2, r3, r4, r5, r6, r7, r8, r9, hx, hb', rr⟩ := X; exact XS.goto Y.here hx rfl rfl (hb hb' hd) ho hp st) n
/-- the condition as a plain proposition: taken, not taken -/
abbrev cY : ClassFile.Cond → Int32 → Int32 → Prop
  | .eq, x, y => x = y
  | .ne, x, y => ¬ x = y
  | .lt, x, y => x < y
  | .ge, x, y => ¬ x < y
  | .gt, x, y => y < x
  | .le, x, y => ¬ y < x
abbrev cN : ClassFile.Cond → Int32 → Int32 → Prop
  | .eq, x, y => ¬ x = y
  | .ne, x, y => x = y
  | .lt, x, y => ¬ x < y
  | .ge, x, y => x < y
  | .gt, x, y => ¬ y < x
  | .le, x, y => y < x
theorem cY_holds {cd : ClassFile.Cond} {x y : Int32} (h : cY cd x y) : if_icmp.holds cd x y = true := by
  cases cd with
  | eq => exact (teq h).1
  | ne => exact (feq h).2
  | lt => exact (tlt h).1
  | ge => exact (flt h).2.1
  | gt => exact (tlt h).2.2.1
  | le => exact (flt h).2.2.2
theorem cN_holds {cd : ClassFile.Cond} {x y : Int32} (h : cN cd x y) : if_icmp.holds cd x y = false := by
  cases cd with
  | eq => exact (feq h).1
  | ne => exact (teq h).2
  | lt => exact (flt h).1
  | ge => exact (tlt h).2.1
  | gt => exact (flt h).2.2.1
  | le => exact (tlt h).2.2.2
theorem go_ifY {cd : ClassFile.Cond} {x : Int32} {o : Int} (hd : decode b pc = .ok (.ifCond cd o, 3)) (hc : cY cd x 0) (ho : 0 ≤ (pc : Int) + o) (hp : ((pc : Int) + o).toNat = q) (n : Go l Z K own mn b ml rt R Q h F c s q L S) : Go l Z K own mn b ml rt R Q h F c s pc L (.int x :: S) := by
  exact go_of (fun T X t st => by obtain ⟨vm, k, locs, Y, r1, r2, r3, r4, r5, r6, r7, r8, r9, hx, hb', rr⟩ := X; exact XS.ifYes Y.here hx rfl rfl (hb hb' hd) rfl ((if0 _ _).trans (cY_holds hc)) ho hp st) n
theorem go_ifN {cd : ClassFile.Cond} {x : Int32} {o : Int} (hd : decode b pc = .ok (.ifCond cd o, 3)) (hc : cN cd x 0) (hq : pc + 3 = q) (n : Go l Z K own mn b ml rt R Q h F c s q L S) : Go l Z K own mn b ml rt R Q h F c s pc L (.int x :: S) := by
  subst hq; exact go_of (fun T X t st => by obtain ⟨vm, k, locs, Y, r1, r2, r3, r4, r5, r6, r7, r8, r9, hx, hb', rr⟩ := X; exact XS.ifNo Y.here hx rfl (hb hb' hd) rfl ((if0 _ _).trans (cN_holds hc)) st) n
theorem go_icY {cd : ClassFile.Cond} {x y : Int32} {o : Int} (hd : decode b pc = .ok (.if_icmp cd o, 3)) (hc : cY cd x y) (ho : 0 ≤ (pc : Int) + o) (hp : ((pc : Int) + o).toNat = q) (n : Go l Z K own mn b ml rt R Q h F c s q L S) : Go l Z K own mn b ml rt R Q h F c s pc L (.int y :: .int x :: S) := by
  exact go_of (fun T X t st => by obtain ⟨vm, k, locs, Y, r1, r2, r3, r4, r5, r6, r7, r8, r9, hx, hb', rr⟩ := X; exact XS.icmpYes Y.here hx rfl rfl (hb hb' hd) rfl (cY_holds hc) ho hp st) n
theorem go_icN {cd : ClassFile.Cond} {x y : Int32} {o : Int} (hd : decode b pc = .ok (.if_icmp cd o, 3)) (hc : cN cd x y) (hq : pc + 3 = q) (n : Go l Z K own mn b ml rt R Q h F c s q L S) : Go l Z K own mn b ml rt R Q h F c s pc L (.int y :: .int x :: S) := by
  subst hq; exact go_of (fun T X t st => by obtain ⟨vm, k, locs, Y, r1, r2, r3, r4, r5, r6, r7, r8, r9, hx, hb', rr⟩ := X; exact XS.icmpNo Y.here hx rfl (hb hb' hd) rfl (cN_holds hc) st) n
theorem go_nullY {o : Int} (hd : decode b pc = .ok (.ifnull o, 3)) (ho : 0 ≤ (pc : Int) + o) (hp : ((pc : Int) + o).toNat = q) (n : Go l Z K own mn b ml rt R Q h F c s q L S) : Go l Z K own mn b ml rt R Q h F c s pc L (.null :: S) := by
  exact go_of (fun T X t st => by obtain ⟨vm, k, locs, Y, r1, r2, r3, r4, r5, r6, r7, r8, r9, hx, hb', rr⟩ := X; exact XS.ifnullYes Y.here hx rfl rfl (hb hb' hd) rfl ho hp st) n
theorem go_nullN {a : Addr} {o : Int} (hd : decode b pc = .ok (.ifnull o, 3)) (hq : pc + 3 = q) (n : Go l Z K own mn b ml rt R Q h F c s q L S) : Go l Z K own mn b ml rt R Q h F c s pc L (.ref a :: S) := by
  subst hq; exact go_of (fun T X t st => by obtain ⟨vm, k, locs, Y, r1, r2, r3, r4, r5, r6, r7, r8, r9, hx, hb', rr⟩ := X; exact XS.ifnullNo Y.here hx rfl (hb hb' hd) rfl st) n
theorem go_nnY {a : Addr} {o : Int} (hd : decode b pc = .ok (.ifnonnull o, 3)) (ho : 0 ≤ (pc : Int) + o) (hp : ((pc : Int) + o).toNat = q) (n : Go l Z K own mn b ml rt R Q h F c s q L S) : Go l Z K own mn b ml rt R Q h F c s pc L (.ref a :: S) := by
  exact go_of (fun T X t st => by obtain ⟨vm, k, locs, Y, r1, r2, r3, r4, r5, r6, r7, r8, r9, hx, hb', rr⟩ := X; exact XT.ifnonnullYes Y.here hx rfl rfl (hb hb' hd) rfl ho hp st) n
theorem go_nnN {o : Int} (hd : decode b pc = .ok (.ifnonnull o, 3)) (hq : pc + 3 = q) (n : Go l Z K own mn b ml rt R Q h F c s q L S) : Go l Z K own mn b ml rt R Q h F c s pc L (.null :: S) := by
  subst hq; exact go_of (fun T X t st => by obtain ⟨vm, k, locs, Y, r1, r2, r3, r4, r5, r6, r7, r8, r9, hx, hb', rr⟩ := X; exact XT.ifnonnullNo Y.here hx rfl (hb hb' hd) rfl st) n
theorem go_acY {cd : ClassFile.ACond} {x y : Value} {o : Int} (hd : decode b pc = .ok (.if_acmp cd o, 3)) (h1 : x.isRef = true) (h2 : y.isRef = true) (hc : XT.acmp cd x y = true) (ho : 0 ≤ (pc : Int) + o) (hp : ((pc : Int) + o).toNat = q) (n : Go l Z K own mn b ml rt R Q h F c s q L S) : Go l Z K own mn b ml rt R Q h F c s pc L (y :: x :: S) := by
  exact go_of (fun T X t st => by obtain ⟨vm, k, locs, Y, r1, r2, r3, r4, r5, r6, r7, r8, r9, hx, hb', rr⟩ := X; exact XT.acmpYes Y.here hx rfl rfl (hb hb' hd) rfl h1 h2 hc ho hp st) n
theorem go_acN {cd : ClassFile.ACond} {x y : Value} {o : Int} (hd : decode b pc = .ok (.if_acmp cd o, 3)) (h1 : x.isRef = true) (h2 : y.isRef = true) (hc : XT.acmp cd x y = false) (hq : pc + 3 = q) (n : Go l Z K own mn b ml rt R Q h F c s q L S) : Go l Z K own mn b ml rt R Q h F c s pc L (y :: x :: S) := by
  subst hq; exact go_of (fun T X t st => by obtain ⟨vm, k, locs, Y, r1, r2, r3, r4, r5, r6, r7, r8, r9, hx, hb', rr⟩ := X; exact XT.acmpNo Y.here hx rfl (hb hb' hd) rfl h1 h2 hc st) n
theorem go_irem {x y r : Int32} (hd : decode b pc = .ok (.irem, 1)) (hy : y ≠ 0) (hr : x % y = r) (hq : pc + 1 = q) (n : Go l Z K own mn b ml rt R Q h F c s q L (.int r :: S)) : Go l Z K own mn b ml rt R Q h F c s pc L (.int y :: .int x :: S) := by
  subst hq hr; exact go_of (fun T X t st => by obtain ⟨vm, k, locs, Y, r1, r2, r3, r4, r5, r6, r7, r8, r9, hx, hb', r⟩ := X; exact iremM Y hx rfl (hb hb' hd) rfl hy st) n
theorem go_lrem {x y r : Int64} (hd : decode b pc = .ok (.lrem, 1)) (hy : y ≠ 0) (hr : x % y = r) (hq : pc + 1 = q) (n : Go l Z K own mn b ml rt R Q h F c s q L (.long r :: S)) : Go l Z K own mn b ml rt R Q h F c s pc L (.long y :: .long x :: S) := go_lrem0 hd hy ((lrem_mod x y).trans hr) hq n
end G
end Own
end Jvm.Pilot.@@N@@
/-! OWN FRAMEWORK, part 2: steps that touch the heap, returns, calls. -/
namespace Jvm.Pilot.@@N@@
namespace Own
open Jvm Jvm.ClassFile Sem Op Lib Jvm.Free Jvm.Stand Jvm.LawKit Jvm.RoadKit
section G
variable {l : Launch} {Z : State} {a0 : Array Value} {K : Cx} {own mn : String} {b : ByteArray} {ml : Nat} {rt : Option FieldType} {R : Room} {Q : QT} {h h' : Heap} {F : List Addr} {c s pc q c' s' : Nat} {L L' : Array Slot} {S S' : List Value}
theorem go_getfield {index : Nat} {R0 O n d : String} {a : Addr} {v : Value} (w : (Cond.fieldLink own index R0 n d).before a0 Z = true) (via : Via Z R0 O n d) (Fv : Fld Z h a O n d v) (hd : decode b pc = .ok (.getfield index, 3)) (hq : pc + 3 = q)
    (nx : Go l Z K own mn b ml rt R Q h F c s q L (v :: S)) : Go l Z K own mn b ml rt R Q h F c s pc L (.ref a :: S) := fun T X => by
  subst hq
  obtain ⟨vm, k, locs, Y, eT, hS, hk, hZ, hown, N, C, M, O, hx, hb', r⟩ := X
  obtain ⟨T', Y', e', st⟩ := getF Y hx hZ hown (host := "") (Or.inl w) via eT Fv (g := mkF K.2.2.2.1 pc L (.ref a :: S)) rfl rfl (hb hb' hd)
  obtain ⟨s₂, o, x, r'⟩ := nx T' ⟨vm, k, locs, Y', e', hS, hk, hZ, hown, N, C, M, O, hx, hb', r⟩
  exact ⟨s₂, o, st _ x, r'⟩
theorem go_getstatic {index : Nat} {R0 O n d : String} {v : Value} (w : (Cond.fieldLink own index R0 n d).before a0 Z = true) (via : Via Z R0 O n d) (Fv : Sta Z Z.heap O n d v) (hd : decode b pc = .ok (.getstatic index, 3)) (hq : pc + 3 = q)
    (nx : Go l Z K own mn b ml rt R Q h F c s q L (v :: S)) : Go l Z K own mn b ml rt R Q h F c s pc L S := fun T X => by
  subst hq
  obtain ⟨vm, k, locs, Y, eT, hS, hk, hZ, hown, N, C, M, O, hx, hb', r⟩ := X
  obtain ⟨T', Y', e', st⟩ := getS2 Y hx hZ hown (host := "") (Or.inl w) via eT (Fv.ext O.2) (g := mkF K.2.2.2.1 pc L S) rfl (hb hb' hd)
  obtain ⟨s₂, o, x, r'⟩ := nx T' ⟨vm, k, locs, Y', e', hS, hk, hZ, hown, N, C, M, O, hx, hb', r⟩
  exact ⟨s₂, o, st _ x, r'⟩
theorem St.wrote {vm : Vm} {k sl : Nat} {locs : List Loc} {T' : State} {a : Addr} {v : Value} (W : Wr h h' a sl v) (ha : a ∈ F) (Y : Stand K.1 l K.2.1 R (K.2.2.1.setVm vm) K.2.2.2.1 K.2.2.2.2.1 K.2.2.2.2.2.1 K.2.2.2.2.2.2.1 K.2.2.2.2.2.2.2 T' (locs ++ [⟨a, sl⟩]) c s) (e' : T'.heap = h')
    (hS : K.2.2.1.Since vm k) (hk : k ≤ h.size) (hZ : Z.Warmed39 vm) (hown : vm.findClass own = some K.2.2.2.1.cls) (N : Fr Z.heap.size locs) (C : CHr Z consts_1 K.2.2.1.vm K.2.2.1.heap vm h) (M : ∀ x ∈ F, Mine Z vm h x) (O : Old Z Z.heap.size h)
    (r : K.1.tables.exec = Jvm.exec ∧ K.2.2.2.2.2.2.2.code = b ∧ K.2.2.2.2.2.2.2.maxLocals = ml ∧ K.2.2.2.2.2.2.1.sig.returnType = rt ∧ K.2.2.2.2.2.2.1.name = mn ∧ K.2.2.2.2.2.2.1.locks = false) : St l Z K own mn b ml rt R T' h' F c s :=
  ⟨vm, k, _, Y, e', hS, by rw [W.size]; exact hk, hZ, hown, Fr.snoc Y N (M a ha).1, C.trans (CHr.wr W (M a ha).2.2 C.1), fun x hx => ⟨(M x hx).1, by rw [W.size]; exact (M x hx).2.1, Safe.wr W (M a ha).2.2 C.1 (M x hx).2.2⟩, O.wr W (M a ha).1, r⟩
theorem go_putfield {index kk : Nat} {R0 O n d C : String} {ty : FieldType} {a : Addr} {v old : Value} (w : (Cond.fieldLink own index R0 n d).before a0 Z = true) (via : Via Z R0 O n d) (Fv : Fld Z h a O n d old) (E : Exa Z h a C)
    (Ly : (Cond.lays C O n d).before a0 Z = true ∨ ((Cond.laysFinal C O n d).before a0 Z = true ∧ own = O ∧ mn = "<init>")) (wi : (Cond.instantiable C kk).before a0 Z = true) (hty : parseFieldDescriptor d = some ty) (hn : narrow ty v = v) (hf : fits ty v = true) (ha : a ∈ F)
    (hd : decode b pc = .ok (.putfield index, 3)) (hq : pc + 3 = q) (nx : ∀ h', Wr h h' a (RoadKit.slotOf Z O n d) v → Go l Z K own mn b ml rt R Q h' F c s q L S) : Go l Z K own mn b ml rt R Q h F c s pc L (v :: .ref a :: S) := fun T X => by
  subst hq
  obtain ⟨vm, k, locs, Y, eT, hS, hk, hZ, hown, N, C, M, O, hx, hb', r1, r2, r3, r4⟩ := X
  obtain ⟨T', h', Y', e', W, st⟩ := putF Y hx hZ hown (host := "") (Or.inl w) via eT Fv E (Ly.imp id fun z => ⟨z.1, z.2.1, r3.trans z.2.2⟩) wi hty hn hf (g := mkF K.2.2.2.1 pc L (v :: .ref a :: S)) rfl rfl (hb hb' hd)
  obtain ⟨s₂, o, x, r'⟩ := nx h' W T' (St.wrote W ha Y' e' hS hk hZ hown N C M O ⟨hx, hb', r1, r2, r3, r4⟩)
  exact ⟨s₂, o, st _ x, r'⟩
theorem St.grew {vm : Vm} {k : Nat} {locs : List Loc} {T' : State} (E : Ext h h') {F' : List Addr} (hF : ∀ x ∈ F', x ∈ F ∨ (h.size ≤ x ∧ x < h'.size)) (Y : Stand K.1 l K.2.1 R (K.2.2.1.setVm vm) K.2.2.2.1 K.2.2.2.2.1 K.2.2.2.2.2.1 K.2.2.2.2.2.2.1 K.2.2.2.2.2.2.2 T' locs c s) (e' : T'.heap = h')
    (hS : K.2.2.1.Since vm k) (hk : k ≤ h.size) (hZ : Z.Warmed39 vm) (hown : vm.findClass own = some K.2.2.2.1.cls) (N : Fr Z.heap.size locs) (C : CHr Z consts_1 K.2.2.1.vm K.2.2.1.heap vm h) (M : ∀ x ∈ F, Mine Z vm h x) (O : Old Z Z.heap.size h)
    (r : K.1.tables.exec = Jvm.exec ∧ K.2.2.2.2.2.2.2.code = b ∧ K.2.2.2.2.2.2.2.maxLocals = ml ∧ K.2.2.2.2.2.2.1.sig.returnType = rt ∧ K.2.2.2.2.2.2.1.name = mn ∧ K.2.2.2.2.2.2.1.locks = false) : St l Z K own mn b ml rt R T' h' F' c s :=
  ⟨vm, k, _, Y, e', hS, Nat.le_trans hk E.1, hZ, hown, N, C.trans (CHr.ext E C.1), fun x hx => by
    rcases hF x hx with q | ⟨q1, q2⟩
    · exact ⟨(M x q).1, Nat.lt_of_lt_of_le (M x q).2.1 E.1, Safe.ext E C.1 (M x q).2.2⟩
    · exact ⟨Nat.le_trans O.2.1 q1, q2, Safe.ext E C.1 (Safe.new q1)⟩, O.ext E, r⟩
theorem go_new {index n : Nat} {C : String} (w : (Cond.classLink own index C).before a0 Z = true) (wi : (Cond.instantiable C n).before a0 Z = true) (wz : (Cond.initialized C).before a0 Z = true) (hd : decode b pc = .ok (.new index, 3)) (hq : pc + 3 = q) (hc : c + 1 = c') (hs : s + n = s') (hc' : c' ≤ R.cells) (hs' : s' ≤ R.slots)
    (nx : ∀ h' a, a = h.size → Ext h h' → Exa Z h' a C → (∀ {O nm d : String} {ty : FieldType}, Laid Z a0 C O nm d → parseFieldDescriptor d = some ty → Fld Z h' a O nm d (defaultValue ty)) → Go l Z K own mn b ml rt R Q h' (a :: F) c' s' q L (.ref a :: S)) : Go l Z K own mn b ml rt R Q h F c s pc L S := fun T X => by
  subst hq hc hs
  obtain ⟨vm, k, locs, Y, eT, hS, hk, hZ, hown, N, C, M, O, r⟩ := X
  obtain ⟨T', h', Y', e', E, A, D, -, st⟩ := newO Y r.1 hZ hown w wi wz eT (g := mkF K.2.2.2.1 pc L S) rfl (hb r.2.1 hd) hc' hs'
  obtain ⟨s₂, o, x, r'⟩ := nx h' _ rfl E A D T' (St.grew E (fun x hx => by rcases List.mem_cons.mp hx with rfl | hx; exact Or.inr ⟨Nat.le_refl _, A.lt⟩; exact Or.inl hx) Y' e' hS hk hZ hown N C M O r)
  exact ⟨s₂, o, st _ x, r'⟩
/-- 'new', and the fresh cell as the exception laws want it -/
theorem go_newU {index n : Nat} {C : String} (w : (Cond.classLink own index C).before a0 Z = true) (wi : (Cond.instantiable C n).before a0 Z = true) (wz : (Cond.initialized C).before a0 Z = true) (hd : decode b pc = .ok (.new index, 3)) (hq : pc + 3 = q) (hc : c + 1 = c') (hs : s + n = s') (hc' : c' ≤ R.cells) (hs' : s' ≤ R.slots)
    (nx : ∀ h' a, a = h.size → Ext h h' → Exa Z h' a C → Unt h' a → (∀ {O nm d : String} {ty : FieldType}, Laid Z a0 C O nm d → parseFieldDescriptor d = some ty → Fld Z h' a O nm d (defaultValue ty)) → Go l Z K own mn b ml rt R Q h' (a :: F) c' s' q L (.ref a :: S)) : Go l Z K own mn b ml rt R Q h F c s pc L S := fun T X => by
  subst hq hc hs
  obtain ⟨vm, k, locs, Y, eT, hS, hk, hZ, hown, N, C, M, O, r⟩ := X
  obtain ⟨T', h', Y', e', E, A, D, U, st⟩ := newO Y r.1 hZ hown w wi wz eT (g := mkF K.2.2.2.1 pc L S) rfl (hb r.2.1 hd) hc' hs'
  obtain ⟨s₂, o, x, r'⟩ := nx h' _ rfl E A U D T' (St.grew E (fun x hx => by rcases List.mem_cons.mp hx with rfl | hx; exact Or.inr ⟨Nat.le_refl _, A.lt⟩; exact Or.inl hx) Y' e' hS hk hZ hown N C M O r)
  exact ⟨s₂, o, st _ x, r'⟩
theorem go_newarray {aty : ArrayType} {z : Int32} {cap n : Nat} {ad : String} {ty : FieldType} {dv : Value} (hty : newarray.typeOf aty = ty) (hdv : defaultValue ty = dv) (hzn : z.toNatClampNeg = n) (w : (Cond.arrayClass ty).before a0 Z = true) (hd : decode b pc = .ok (.newarray aty, 2)) (hz : ¬ z < 0) (hcap : n ≤ cap) (hbig : cap * 8 ≤ 536870912) (had : "[" ++ ty.toString = ad) (hq : pc + 2 = q) (hc : c + 1 = c') (hs : s + cap = s') (hc' : c' ≤ R.cells) (hs' : s' ≤ R.slots)
    (nx : ∀ h' a k, a = h.size → Ext h h' → Arv Z h' a k ty z (List.replicate n dv) dv → Exa Z h' a ad → Go l Z K own mn b ml rt R Q h' (a :: F) c' s' q L (.ref a :: S)) : Go l Z K own mn b ml rt R Q h F c s pc L (.int z :: S) := fun T X => by
  subst hq hc hs hty hdv hzn
  obtain ⟨vm, k, locs, Y, eT, hS, hk, hZ, hown, N, C, M, O, r⟩ := X
  obtain ⟨T', h', cA, Y', e', E, A, Ex, st⟩ := newPE Y r.1 hZ w eT (g := mkF K.2.2.2.1 pc L (.int z :: S)) rfl (hb r.2.1 hd) rfl hz hcap hbig hc' hs' had
  have V := (Arv.new A hz).pad (vs' := List.replicate z.toNatClampNeg (defaultValue (newarray.typeOf aty))) (fun i => by
    have := pad_rep [] (defaultValue (newarray.typeOf aty)) z.toNatClampNeg i
    simpa using this)
  obtain ⟨s₂, o, x, r'⟩ := nx h' _ _ rfl E V Ex T' (St.grew E (fun x hx => by rcases List.mem_cons.mp hx with rfl | hx; exact Or.inr ⟨Nat.le_refl _, A.lt⟩; exact Or.inl hx) Y' e' hS hk hZ hown N C M O r)
  exact ⟨s₂, o, st _ x, r'⟩
theorem go_anewarray {index : Nat} {C : String} {z : Int32} {cap : Nat} {ad : String} (w : (Cond.classLink own index C).before a0 Z = true) (w2 : (Cond.arrayOver (.object C)).before a0 Z = true) (hd : decode b pc = .ok (.anewarray index, 3)) (hz : ¬ z < 0) (hcap : z.toNatClampNeg ≤ cap) (hbig : cap * 8 ≤ 536870912) (had : "[" ++ (FieldType.object C).toString = ad) (hq : pc + 3 = q) (hc : c + 1 = c') (hs : s + cap = s') (hc' : c' ≤ R.cells) (hs' : s' ≤ R.slots)
    (nx : ∀ h' a k, a = h.size → Ext h h' → Arv Z h' a k (.object C) z (List.replicate z.toNatClampNeg .null) .null → Exa Z h' a ad → Ovr Z k C → Go l Z K own mn b ml rt R Q h' (a :: F) c' s' q L (.ref a :: S)) : Go l Z K own mn b ml rt R Q h F c s pc L (.int z :: S) := fun T X => by
  subst hq hc hs
  obtain ⟨vm, k, locs, Y, eT, hS, hk, hZ, hown, N, C, M, O, r⟩ := X
  obtain ⟨T', h', cA, Y', e', E, A, Ex, Ov, st⟩ := newRE Y r.1 hZ hown w w2 eT (g := mkF K.2.2.2.1 pc L (.int z :: S)) rfl (hb r.2.1 hd) rfl hz hcap hbig hc' hs' had
  have V0 : Arv Z h' h.size cA (.object _) z [] .null := Arv.new A hz
  have V := V0.pad (vs' := List.replicate z.toNatClampNeg .null) (fun i => by
    have := pad_rep [] .null z.toNatClampNeg i
    simpa using this)
  obtain ⟨s₂, o, x, r'⟩ := nx h' _ _ rfl E V Ex Ov T' (St.grew E (fun x hx => by rcases List.mem_cons.mp hx with rfl | hx; exact Or.inr ⟨Nat.le_refl _, A.lt⟩; exact Or.inl hx) Y' e' hS hk hZ hown N C M O r)
  exact ⟨s₂, o, st _ x, r'⟩
theorem fits_nar_byte (x : Int32) : fits .byte (.int (nar .byte x)) = true := Jvm.Free.SBG.fits_of_int8 _
theorem go_castore {a : Addr} {k : ClassId} {z j x y : Int32} {vs : List Value} {dv : Value} {i : Nat} (A : Arv Z h a k .char z vs dv) (hj : ¬ j < 0 ∧ j < z) (hi : j.toNatClampNeg = i) (hl : i < vs.length) (ha : a ∈ F) (hy : nar .char x = y) (hd : decode b pc = .ok (.castore, 1)) (hq : pc + 1 = q)
    (nx : ∀ h', Keep h h' [a] → h'.size = h.size → Arv Z h' a k .char z (vs.set i (.int y)) dv → Go l Z K own mn b ml rt R Q h' F c s q L S) : Go l Z K own mn b ml rt R Q h F c s pc L (.int x :: .int j :: .ref a :: S) := fun T X => by
  subst hq hy
  obtain ⟨vm, k, locs, Y, eT, hS, hk, hZ, hown, N, C, M, O, r⟩ := X
  obtain ⟨cl, Ar, q1, q2, q3, q4, q5⟩ := A
  have hin := inb_of q2 hj
  obtain ⟨T', h', Y', e', W, st⟩ := stC Y r.1 hZ eT Ar hin (g := mkF K.2.2.2.1 pc L (.int x :: .int j :: .ref a :: S)) rfl rfl (hb r.2.1 hd)
  obtain ⟨s₂, o, x, r'⟩ := nx h' (Keep.of_wr W) W.size (Arv.set Ar q1 q2 q3 q4 q5 (fits_nar_char x) W i hi hl) T' (St.wrote W ha Y' e' hS hk hZ hown N C M O r)
  exact ⟨s₂, o, st _ x, r'⟩
theorem go_bastore {a : Addr} {k : ClassId} {z j x y : Int32} {vs : List Value} {dv : Value} {i : Nat} (A : Arv Z h a k .byte z vs dv) (hj : ¬ j < 0 ∧ j < z) (hi : j.toNatClampNeg = i) (hl : i < vs.length) (ha : a ∈ F) (hy : nar .byte x = y) (hd : decode b pc = .ok (.bastore, 1)) (hq : pc + 1 = q)
    (nx : ∀ h', Keep h h' [a] → h'.size = h.size → Arv Z h' a k .byte z (vs.set i (.int y)) dv → Go l Z K own mn b ml rt R Q h' F c s q L S) : Go l Z K own mn b ml rt R Q h F c s pc L (.int x :: .int j :: .ref a :: S) := fun T X => by
  subst hq hy
  obtain ⟨vm, k, locs, Y, eT, hS, hk, hZ, hown, N, C, M, O, r⟩ := X
  obtain ⟨cl, Ar, q1, q2, q3, q4, q5⟩ := A
  have hin := inb_of q2 hj
  obtain ⟨T', h', Y', e', W, st⟩ := stB Y r.1 hZ eT Ar hin (g := mkF K.2.2.2.1 pc L (.int x :: .int j :: .ref a :: S)) rfl rfl (hb r.2.1 hd)
  obtain ⟨s₂, o, x, r'⟩ := nx h' (Keep.of_wr W) W.size (Arv.set Ar q1 q2 q3 q4 q5 (fits_nar_byte x) W i hi hl) T' (St.wrote W ha Y' e' hS hk hZ hown N C M O r)
  exact ⟨s₂, o, st _ x, r'⟩
theorem go_lastore {a : Addr} {k : ClassId} {z j : Int32} {x : Int64} {vs : List Value} {dv : Value} {i : Nat} (A : Arv Z h a k .long z vs dv) (hj : ¬ j < 0 ∧ j < z) (hi : j.toNatClampNeg = i) (hl : i < vs.length) (ha : a ∈ F) (hd : decode b pc = .ok (.lastore, 1)) (hq : pc + 1 = q)
    (nx : ∀ h', Keep h h' [a] → h'.size = h.size → Arv Z h' a k .long z (vs.set i (.long x)) dv → Go l Z K own mn b ml rt R Q h' F c s q L S) : Go l Z K own mn b ml rt R Q h F c s pc L (.long x :: .int j :: .ref a :: S) := fun T X => by
  subst hq
  obtain ⟨vm, k, locs, Y, eT, hS, hk, hZ, hown, N, C, M, O, r⟩ := X
  obtain ⟨cl, Ar, q1, q2, q3, q4, q5⟩ := A
  have hin := inb_of q2 hj
  obtain ⟨T', h', Y', e', W, st⟩ := stJ Y r.1 hZ eT Ar hin (g := mkF K.2.2.2.1 pc L (.long x :: .int j :: .ref a :: S)) rfl rfl (hb r.2.1 hd)
  obtain ⟨s₂, o, x, r'⟩ := nx h' (Keep.of_wr W) W.size (Arv.set Ar q1 q2 q3 q4 q5 rfl W i hi hl) T' (St.wrote W ha Y' e' hS hk hZ hown N C M O r)
  exact ⟨s₂, o, st _ x, r'⟩
theorem go_arraylength {a : Addr} {k : ClassId} {ty : FieldType} {z : Int32} {vs : List Value} {dv : Value} (A : Arv Z h a k ty z vs dv) (hd : decode b pc = .ok (.arraylength, 1)) (hq : pc + 1 = q)
    (nx : Go l Z K own mn b ml rt R Q h F c s q L (.int z :: S)) : Go l Z K own mn b ml rt R Q h F c s pc L (.ref a :: S) := by
  subst hq
  exact go_of (fun T X t st => by
    obtain ⟨vm, k, locs, Y, eT, hS, hk, hZ, hown, N, C, M, O, r⟩ := X
    obtain ⟨cl, Ar, q1, q2, q3, q4, q5⟩ := A
    refine Y.arraylength r.1 (by rw [eT]; exact Ar.1) (State.isArrayOf_alike hZ.alike Ar.2.1) (g := mkF K.2.2.2.1 pc L (.ref a :: S)) rfl rfl (hb r.2.1 hd) _ ?_
    rw [len_of q2 q3]; exact st) nx
theorem go_caload {a : Addr} {k : ClassId} {z j : Int32} {vs : List Value} {dv v : Value} (A : Arv Z h a k .char z vs dv) (hj : ¬ j < 0 ∧ j < z) (hv : vs.getD j.toNatClampNeg dv = v) (hd : decode b pc = .ok (.caload, 1)) (hq : pc + 1 = q)
    (nx : Go l Z K own mn b ml rt R Q h F c s q L (v :: S)) : Go l Z K own mn b ml rt R Q h F c s pc L (.int j :: .ref a :: S) := by
  subst hq
  exact go_of (fun T X t st => by
    obtain ⟨vm, k, locs, Y, eT, hS, hk, hZ, hown, N, C, M, O, r⟩ := X
    obtain ⟨cl, Ar, q1, q2, q3, q4, q5⟩ := A
    exact Y.caload r.1 (by rw [eT]; exact Ar.1) (State.isArrayOf_alike hZ.alike Ar.2.1) Ar.2.2 (inb_of q2 hj) (q4.at (inb_of q2 hj) hv) (g := mkF K.2.2.2.1 pc L (.int j :: .ref a :: S)) rfl rfl (hb r.2.1 hd) _ st) nx
theorem go_baload {a : Addr} {k : ClassId} {z j : Int32} {vs : List Value} {dv v : Value} (A : Arv Z h a k .byte z vs dv) (hj : ¬ j < 0 ∧ j < z) (hv : vs.getD j.toNatClampNeg dv = v) (hd : decode b pc = .ok (.baload, 1)) (hq : pc + 1 = q)
    (nx : Go l Z K own mn b ml rt R Q h F c s q L (v :: S)) : Go l Z K own mn b ml rt R Q h F c s pc L (.int j :: .ref a :: S) := by
  subst hq
  exact go_of (fun T X t st => by
    obtain ⟨vm, k, locs, Y, eT, hS, hk, hZ, hown, N, C, M, O, r⟩ := X
    obtain ⟨cl, Ar, q1, q2, q3, q4, q5⟩ := A
    exact Y.baloadBytes r.1 (by rw [eT]; exact Ar.1) (State.isArrayOf_alike hZ.alike Ar.2.1) Ar.2.2 (inb_of q2 hj) (q4.at (inb_of q2 hj) hv) (g := mkF K.2.2.2.1 pc L (.int j :: .ref a :: S)) rfl rfl (hb r.2.1 hd) _ st) nx
theorem go_laload {a : Addr} {k : ClassId} {z j : Int32} {vs : List Value} {dv v : Value} (A : Arv Z h a k .long z vs dv) (hj : ¬ j < 0 ∧ j < z) (hv : vs.getD j.toNatClampNeg dv = v) (hd : decode b pc = .ok (.laload, 1)) (hq : pc + 1 = q)
    (nx : Go l Z K own mn b ml rt R Q h F c s q L (v :: S)) : Go l Z K own mn b ml rt R Q h F c s pc L (.int j :: .ref a :: S) := by
  subst hq
  exact go_of (fun T X t st => by
    obtain ⟨vm, k, locs, Y, eT, hS, hk, hZ, hown, N, C, M, O, r⟩ := X
    obtain ⟨cl, Ar, q1, q2, q3, q4, q5⟩ := A
    exact Y.laload r.1 (by rw [eT]; exact Ar.1) (State.isArrayOf_alike hZ.alike Ar.2.1) Ar.2.2 (inb_of q2 hj) (q4.at (inb_of q2 hj) hv) (g := mkF K.2.2.2.1 pc L (.int j :: .ref a :: S)) rfl rfl (hb r.2.1 hd) _ st) nx
theorem go_aaload {a : Addr} {k : ClassId} {ty : FieldType} {z j : Int32} {vs : List Value} {dv v : Value} (A : Arv Z h a k ty z vs dv) (hty : ty.isReference = true) (hj : ¬ j < 0 ∧ j < z) (hv : vs.getD j.toNatClampNeg dv = v) (hd : decode b pc = .ok (.aaload, 1)) (hq : pc + 1 = q)
    (nx : Go l Z K own mn b ml rt R Q h F c s q L (v :: S)) : Go l Z K own mn b ml rt R Q h F c s pc L (.int j :: .ref a :: S) := by
  subst hq
  exact go_of (fun T X t st => by
    obtain ⟨vm, k, locs, Y, eT, hS, hk, hZ, hown, N, C, M, O, r⟩ := X
    obtain ⟨cl, Ar, q1, q2, q3, q4, q5⟩ := A
    exact Y.aaload r.1 (by rw [eT]; exact Ar.1) (State.isArrayOf_alike hZ.alike Ar.2.1) hty Ar.2.2 (inb_of q2 hj) (q4.at (inb_of q2 hj) hv) (g := mkF K.2.2.2.1 pc L (.int j :: .ref a :: S)) rfl rfl (hb r.2.1 hd) _ st) nx
theorem go_checkcast {index : Nat} {C : String} {a : Addr} (w : (Cond.classLink own index C).before a0 Z = true) (I : Ins Z h a C true) (hd : decode b pc = .ok (.checkcast index, 3)) (hq : pc + 3 = q)
    (nx : Go l Z K own mn b ml rt R Q h F c s q L (.ref a :: S)) : Go l Z K own mn b ml rt R Q h F c s pc L (.ref a :: S) := fun T X => by
  subst hq
  obtain ⟨vm, k, locs, Y, eT, hS, hk, hZ, hown, N, C, M, O, r⟩ := X
  obtain ⟨T', Y', e', st⟩ := castY Y r.1 hZ hown w eT I (g := mkF K.2.2.2.1 pc L (.ref a :: S)) rfl rfl (hb r.2.1 hd)
  obtain ⟨s₂, o, x, r'⟩ := nx T' ⟨vm, k, locs, Y', e', hS, hk, hZ, hown, N, C, M, O, r⟩
  exact ⟨s₂, o, st _ x, r'⟩
theorem go_instY {index : Nat} {C : String} {a : Addr} (w : (Cond.classLink own index C).before a0 Z = true) (I : Ins Z h a C true) (hd : decode b pc = .ok (.instanceof index, 3)) (hq : pc + 3 = q)
    (nx : Go l Z K own mn b ml rt R Q h F c s q L (.int 1 :: S)) : Go l Z K own mn b ml rt R Q h F c s pc L (.ref a :: S) := fun T X => by
  subst hq
  obtain ⟨vm, k, locs, Y, eT, hS, hk, hZ, hown, N, C, M, O, r⟩ := X
  obtain ⟨T', Y', e', st⟩ := instY Y r.1 hZ hown w eT I (g := mkF K.2.2.2.1 pc L (.ref a :: S)) rfl rfl (hb r.2.1 hd)
  obtain ⟨s₂, o, x, r'⟩ := nx T' ⟨vm, k, locs, Y', e', hS, hk, hZ, hown, N, C, M, O, r⟩
  exact ⟨s₂, o, st _ x, r'⟩
theorem go_instNo {index : Nat} {C D : String} {a : Addr} (w : (Cond.classLink own index D).before a0 Z = true) (E : Exa Z h a C) (Fn : ∃ c t, Z.vm.findClass C = some c ∧ Z.vm.findClass D = some t ∧ Z.vm.assignable c t = false) (hd : decode b pc = .ok (.instanceof index, 3)) (hq : pc + 3 = q)
    (nx : Go l Z K own mn b ml rt R Q h F c s q L (.int 0 :: S)) : Go l Z K own mn b ml rt R Q h F c s pc L (.ref a :: S) := fun T X => by
  subst hq
  obtain ⟨vm, k, locs, Y, eT, hS, hk, hZ, hown, N, C, M, O, r⟩ := X
  obtain ⟨T', Y', e', st⟩ := instNo Y r.1 hZ hown w eT E Fn (g := mkF K.2.2.2.1 pc L (.ref a :: S)) rfl rfl (hb r.2.1 hd)
  obtain ⟨s₂, o, x, r'⟩ := nx T' ⟨vm, k, locs, Y', e', hS, hk, hZ, hown, N, C, M, O, r⟩
  exact ⟨s₂, o, st _ x, r'⟩
theorem go_ldcInt {index : Nat} {v : Int32} (w : (Cond.constant own index v).before a0 Z = true) (hd : decode b pc = .ok (.ldc index, 2)) (hq : pc + 2 = q) (nx : Go l Z K own mn b ml rt R Q h F c s q L (.int v :: S)) : Go l Z K own mn b ml rt R Q h F c s pc L S := by
  subst hq
  exact go_of (fun T X t st => by
    obtain ⟨vm, k, locs, Y, eT, hS, hk, hZ, hown, N, C, M, O, r⟩ := X
    exact Y.ldcInt r.1 hown (mvT (s := K.2.2.1.setVm vm) hZ w) (g := mkF K.2.2.2.1 pc L S) rfl (hb r.2.1 hd) _ st) nx
theorem go_ldc2 {index : Nat} {v : Int64} (w : (Cond.constantLong own index v).before a0 Z = true) (hd : decode b pc = .ok (.ldc2_w index, 3)) (hq : pc + 3 = q) (nx : Go l Z K own mn b ml rt R Q h F c s q L (.long v :: S)) : Go l Z K own mn b ml rt R Q h F c s pc L S := by
  subst hq
  exact go_of (fun T X t st => by
    obtain ⟨vm, k, locs, Y, eT, hS, hk, hZ, hown, N, C, M, O, r⟩ := X
    exact Y.ldc2Long r.1 hown (mvT (s := K.2.2.1.setVm vm) hZ w) (g := mkF K.2.2.2.1 pc L S) rfl (hb r.2.1 hd) _ st) nx
/-- ldc of a String constant, read -/
theorem go_ldcS (H : Wd Z a0) {index : Nat} {text : String} (w : (Cond.stringLink own index text).before a0 Z = true) (hm : (own, index) ∈ consts_1) {vs : List Value} {z : Int32} (ht : (∀ c ∈ text.toList, c.toNat < 256) ∧ text.toList.map (fun c => Value.int (Jvm.Lit.byteI c.toNat.toUInt16)) = vs) (hz : ¬ z < 0) (hl : z.toNatClampNeg = vs.length)
    (hd : decode b pc = .ok (.ldc index, 2)) {n : Nat} (hn : 4 * text.toList.length ≤ n) (hbig : n ≤ 536870912) (hq : pc + 2 = q) (hc : c + 2 = c') (hs : s + (n + 4) = s') (hc' : c' ≤ R.cells) (hs' : s' ≤ R.slots)
    (nx : ∀ h' a bb k, Ext h h' → Exa Z h' a "java/lang/String" → Fld Z h' a "java/lang/String" "coder" "B" (.int 0) → Fld Z h' a "java/lang/String" "value" "[B" (.ref bb) → Arv Z h' bb k .byte z vs (.int 0) → (∀ x ∈ F, x ≠ a ∧ x ≠ bb) → Go l Z K own mn b ml rt R Q h' F c' s' q L (.ref a :: S)) : Go l Z K own mn b ml rt R Q h F c s pc L S := fun T X => by
  subst hq hc hs
  obtain ⟨vm, k, locs, Y, eT, hS, hk, hZ, hown, N, C, M, O, r⟩ := X
  obtain ⟨a, T', h', k1, bb, kc, Y', e', E, hS', hk', hZ', hown', A, Fc, Fv, V, -, -, C', -, Sf, st⟩ := ldcCH Y r.1 hZ hown w H.2.2.1 eT hS hk H.2.1 hm C.1 ht hz hl (g := mkF K.2.2.2.1 pc L S) rfl (hb r.2.1 hd) hn hbig hc' hs'
  have M' : ∀ x ∈ F, Mine Z T'.vm h' x := fun x hx => ⟨(M x hx).1, Nat.lt_of_lt_of_le (M x hx).2.1 E.1, C'.safe (M x hx).2.1 (M x hx).2.2⟩
  obtain ⟨s₂, o, x, r'⟩ := nx h' a bb kc E A Fc Fv V (fun x hx => Sf x (M' x hx).2.2) T' ⟨T'.vm, k1, locs, Y', e', hS', hk', hZ', hown', N, C.trans C', M', O.ext E, r⟩
  exact ⟨s₂, o, st _ x, r'⟩
theorem go_initO {index : Nat} {a : Addr} (w1 : (Cond.methodLink own index Lib.objectInit).before a0 Z = true) (w2 : (Cond.instanceMethod Lib.objectInit).before a0 Z = true) (w3 : (Cond.code Lib.objectInit ⟨#[0xb1]⟩ 1 none).before a0 Z = true) (hL : L.size = ml) (hd : decode b pc = .ok (.invokespecial index, 3)) (hq : pc + 3 = q) (hf : 1 ≤ R.frames) (hlo : (S.map fun v => v.category).sum + 12 ≤ R.locals)
    (nx : Go l Z K own mn b ml rt R Q h F c s q L S) : Go l Z K own mn b ml rt R Q h F c s pc L (.ref a :: S) := fun T X => by
  subst hq
  obtain ⟨vm, k, locs, Y, eT, hS, hk, hZ, hown, N, C, M, O, r⟩ := X
  obtain ⟨T', Y', e', st⟩ := initO Y r.1 hZ hown w1 w2 w3 eT (g := mkF K.2.2.2.1 pc L (.ref a :: S)) rfl (by rw [r.2.2.1]; exact hL) rfl (hb r.2.1 hd) hf (W := (S.map fun v => v.category).sum) (by show 2 * 0 + _ ≤ _; omega) hlo
  obtain ⟨s₂, o, x, r'⟩ := nx T' ⟨vm, k, locs, Y', e', hS, hk, hZ, hown, N, C, M, O, r⟩
  exact ⟨s₂, o, st _ x, r'⟩
/-! ### returns -/
theorem St.end_ (H : Wd Z a0) {T : State} (X : St l Z K own mn b ml rt R T h F c s) {G : List Addr} {v : Option Value} (hq : Q v h G) (hG : ∀ x ∈ G, x ∈ F) (hc : c ≤ R.cells) (hs : s ≤ R.slots) (hv : rt = none → v = none) :
    ∃ fs, (∀ (f : JFrame) (acts : List Action), f.method = K.2.2.2.1 → f.locked = none → f.entered = [] → (doReturn K.2.1 (T.setTop f) acts v).1 = T.setFrames fs) ∧ (T.setFrames fs).status = .running ∧ Ended (T.setFrames fs) K.2.2.2.2.2.1 (.returned v) ∧ End Z K.2.2.1 R Q (.returned v) (T.setFrames fs) := by
  obtain ⟨vm, k, locs, Y, eT, hS, hk, hZ, hown, N, C, M, O, hx, hb', r1, r2, r3, r4⟩ := X
  obtain ⟨fs, h1, h2, h3, h4⟩ := Y.leaveW hS (by rw [eT]; exact hk) (v := v) (fun e => hv (r2.symm.trans e)) r4
  have A := CHv.at Y hZ H.2.1 C.1
  refine ⟨fs, h1, h2, h3, v, locs, G, rfl, by show Q v T.heap G; rw [eT]; exact hq, N, fun x hx => ?_, by show CHr Z consts_1 _ _ T.vm T.heap; rw [eT]; exact C.trans A, by show Old Z _ T.heap; rw [eT]; exact O, h4.1, h4.2.1, h4.2.2.1, h4.2.2.2.mono hc hs⟩
  have m := M x (hG x hx)
  exact ⟨m.1, by show x < T.heap.size; rw [eT]; exact m.2.1, by show Safe Z consts_1 T.vm T.heap x; rw [eT]; exact A.safe m.2.1 m.2.2⟩
theorem go_return (H : Wd Z a0) {G : List Addr} (hr : rt = none) (hd : decode b pc = .ok (.return_, 1)) (hc : c ≤ R.cells) (hs : s ≤ R.slots) (hG : ∀ x ∈ G, x ∈ F) (hq : Q none h G) : Go l Z K own mn b ml rt R Q h F c s pc L [] := fun T X => by
  obtain ⟨fs, h1, h2, h3, h4⟩ := X.end_ H hq hG hc hs (fun _ => rfl)
  obtain ⟨vm, k, locs, Y, eT, hS, hk, hZ, hown, N, C, M, O, hx, hb', r1, r2, r3, r4⟩ := X
  exact ⟨_, _, Y.returnOut hx (r2.trans hr) (hb hb' hd) h1, h2, h3, h4⟩
theorem go_areturn (H : Wd Z a0) {G : List Addr} {w : Value} {t : FieldType} (hr : rt = some t) (ht : t.isReference = true) (hw : w.isRef = true) (hd : decode b pc = .ok (.areturn, 1)) (hc : c ≤ R.cells) (hs : s ≤ R.slots) (hG : ∀ x ∈ G, x ∈ F) (hq : Q (some w) h G) : Go l Z K own mn b ml rt R Q h F c s pc L (w :: S) := fun T X => by
  obtain ⟨fs, h1, h2, h3, h4⟩ := X.end_ H hq hG hc hs (fun e => by rw [hr] at e; cases e)
  obtain ⟨vm, k, locs, Y, eT, hS, hk, hZ, hown, N, C, M, O, hx, hb', r1, r2, r3, r4⟩ := X
  have hn : narrow t w = w := by cases t <;> cases w <;> simp_all [narrow, Value.isRef, FieldType.isReference]
  exact ⟨_, _, retOut Y hx (r2.trans hr) hn (Or.inr (Or.inr (Or.inr (Or.inr ⟨rfl, ht, hw⟩)))) (hb hb' hd) h1, h2, h3, h4⟩
theorem go_ireturn (H : Wd Z a0) {G : List Addr} {x : Int32} {t : FieldType} (hr : rt = some t) (ht : t = .int ∨ t = .boolean ∨ t = .byte ∨ t = .char ∨ t = .short) (hn : narrow t (.int x) = .int x) (hd : decode b pc = .ok (.ireturn, 1)) (hc : c ≤ R.cells) (hs : s ≤ R.slots) (hG : ∀ x ∈ G, x ∈ F) (hq : Q (some (.int x)) h G) : Go l Z K own mn b ml rt R Q h F c s pc L (.int x :: S) := fun T X => by
  obtain ⟨fs, h1, h2, h3, h4⟩ := X.end_ H hq hG hc hs (fun e => by rw [hr] at e; cases e)
  obtain ⟨vm, k, locs, Y, eT, hS, hk, hZ, hown, N, C, M, O, hx, hb', r1, r2, r3, r4⟩ := X
  exact ⟨_, _, retOut Y hx (r2.trans hr) hn (Or.inl ⟨rfl, ht, x, rfl⟩) (hb hb' hd) h1, h2, h3, h4⟩
theorem go_lreturn (H : Wd Z a0) {G : List Addr} {x : Int64} (hr : rt = some .long) (hd : decode b pc = .ok (.lreturn, 1)) (hc : c ≤ R.cells) (hs : s ≤ R.slots) (hG : ∀ x ∈ G, x ∈ F) (hq : Q (some (.long x)) h G) : Go l Z K own mn b ml rt R Q h F c s pc L (.long x :: S) := fun T X => by
  obtain ⟨fs, h1, h2, h3, h4⟩ := X.end_ H hq hG hc hs (fun e => by rw [hr] at e; cases e)
  obtain ⟨vm, k, locs, Y, eT, hS, hk, hZ, hown, N, C, M, O, hx, hb', r1, r2, r3, r4⟩ := X
  exact ⟨_, _, retOut Y hx (r2.trans hr) rfl (Or.inr (Or.inl ⟨rfl, rfl, x, rfl⟩)) (hb hb' hd) h1, h2, h3, h4⟩
/-! ### calls -/
/-- what a callee leaves, as the caller's law sees it -/
def Left (Z : State) (vm0 : Vm) (h : Heap) (R' : Room) (Q' : QT) (A : Pt) (v : Option Value) (B : Pt) : Prop :=
  ∃ L G, Q' v B.U.heap G ∧ Fr Z.heap.size L ∧ (∀ x ∈ G, Mine Z B.U.vm B.U.heap x) ∧ CHr Z consts_1 vm0 h B.U.vm B.U.heap ∧ Old Z Z.heap.size B.U.heap ∧ B.locs = A.locs ++ L ∧ B.cells = A.cells + R'.cells ∧ B.slots = A.slots + R'.slots
theorem Met.back {y : MethodName} {b' : ByteArray} {ml' : Nat} {rt' : Option FieldType} {R' : Room} {F' : List Addr} {as : Array Value} {Q' : QT} {len W : Nat} {vm0 : Vm} {p : Program} {e : Env} {below : List Frame} {s : State} {args : Array Value} (H : Wd Z a0) (M : Met l Z y b' ml' rt' R' h F' as Q') (hZ : Z.Warmed39 vm0)
    (wc : (Cond.code y b' ml' rt').before a0 Z = true) (wz : (Cond.initialized y.cls).before a0 Z = true) (hf : R'.frames + 1 ≤ R.frames) (hl : W + (ml' + 11) + R'.locals ≤ R.locals) (C : CHv Z consts_1 vm0 h) (hM : ∀ x ∈ F', Mine Z vm0 h x) (hO : Old Z Z.heap.size h) :
    BackS l R p e below (s.setVm vm0) args y len W (fun A a => a = as ∧ A.U.heap = h ∧ A.cells + R'.cells ≤ R.cells ∧ A.slots + R'.slots ≤ R.slots) (fun A _ v B => Left Z vm0 h R' Q' A v B) :=
  BackS.of_freeW (bytes := b') (maxL := ml') (ret := rt') (E := fun _ first o t L k n => k = R'.cells ∧ n = R'.slots ∧ ∃ v G, o = .returned v ∧ Q' v t.heap G ∧ Fr Z.heap.size L ∧ (∀ x ∈ G, Mine Z t.vm t.heap x) ∧ CHr Z consts_1 first.vm first.heap t.vm t.heap ∧ Old Z Z.heap.size t.heap) M hf hl
    (fun m meth c A a Y hp => have hU : Z.Warmed39 A.U.vm := wtrans (s := s.setVm vm0) hZ Y.warmed
      ⟨by show (Cond.and _ .tt).before a A.U = true; rw [Cond.before_and, mv hU wc]; rfl, mv hU wc, mv hU wz, hp.2.2.1, hp.2.2.2⟩)
    (fun m meth c A a g mk Y hp => ⟨hp.1, wtrans (s := s.setVm vm0) hZ Y.warmed, hp.2.1, (CHv.at Y hZ H.2.1 C).1, fun x hx => ⟨(hM x hx).1, (hM x hx).2.1, (CHv.at Y hZ H.2.1 C).safe (hM x hx).2.1 (hM x hx).2.2⟩, hO⟩) (fun _ _ _ _ _ _ _ _ _ => trivial)
    (fun _ _ _ _ ⟨v, L, G, h1, h2, h3, h4, h5, h6, h7⟩ => ⟨L, _, _, h7, rfl, rfl, v, G, h1, h2, h3, h4, h5, h6⟩)
    (fun m meth c A a g mk v t L k n Y hp _ _ ⟨e1, e2, v', G, e3, e4, e5, e6, e7, e8⟩ => by
      cases e3; subst e1 e2
      refine ⟨L, G, e4, e5, e6, (CHv.at Y hZ H.2.1 C).trans ?_, e8, rfl, rfl, rfl⟩
      rw [← hp.2.1]; exact e7)
/-- behind a call -/
theorem St.came {vm : Vm} {k : Nat} {locs : List Loc} {T : State} {R' : Room} {Q' : QT} {v : Option Value} {vm₁ : Vm} {B : Pt} (Y : Stand K.1 l K.2.1 R (K.2.2.1.setVm vm) K.2.2.2.1 K.2.2.2.2.1 K.2.2.2.2.2.1 K.2.2.2.2.2.2.1 K.2.2.2.2.2.2.2 T locs c s) (eT : T.heap = h) (hS : K.2.2.1.Since vm k) (hk : k ≤ h.size)
    (hZ : Z.Warmed39 vm) (hown : vm.findClass own = some K.2.2.2.1.cls) (N : Fr Z.heap.size locs) (C : CHr Z consts_1 K.2.2.1.vm K.2.2.1.heap vm h) (M : ∀ x ∈ F, Mine Z vm h x)
    (r : K.1.tables.exec = Jvm.exec ∧ K.2.2.2.2.2.2.2.code = b ∧ K.2.2.2.2.2.2.2.maxLocals = ml ∧ K.2.2.2.2.2.2.1.sig.returnType = rt ∧ K.2.2.2.2.2.2.1.name = mn ∧ K.2.2.2.2.2.2.1.locks = false)
    (Y' : Stand K.1 l K.2.1 R ((K.2.2.1.setVm vm).setVm B.U.vm) K.2.2.2.1 K.2.2.2.2.1 K.2.2.2.2.2.1 K.2.2.2.2.2.2.1 K.2.2.2.2.2.2.2 B.U B.locs B.cells B.slots) (hS' : (K.2.2.1.setVm vm).Since B.U.vm B.U.heap.size) (hg : T.heap.size ≤ B.U.heap.size) (P : Left Z vm h R' Q' ⟨T.setVm vm₁, locs, c, s⟩ v B) :
    ∃ G, Q' v B.U.heap G ∧ (∀ F2, (∀ x ∈ F2, x ∈ G ∨ x ∈ F) → St l Z K own mn b ml rt R B.U B.U.heap F2 (c + R'.cells) (s + R'.slots)) := by
  obtain ⟨Lc, G, q1, q2, q3, q4, q5, q6, q7, q8⟩ := P
  have hkT : k ≤ T.heap.size := by rw [eT]; exact hk
  obtain ⟨w1, w2, w3, w4⟩ := rebS hS hkT Y' hS' hg hZ hown
  try dsimp only at q6 q7 q8
  rw [q6, q7, q8] at w1
  exact ⟨G, q1, fun F2 hF => ⟨B.U.vm, _, _, w1, rfl, w2, Nat.le_refl _, w3, w4, N.app q2, C.trans q4, fun x hx => by
    rcases hF x hx with z | z
    · exact q3 x z
    · have m := M x z
      exact ⟨m.1, Nat.lt_of_lt_of_le m.2.1 (by rw [← eT]; exact hg), q4.safe m.2.1 m.2.2⟩, q5, r⟩⟩
theorem decl_of {y : MethodName} {b' : ByteArray} {ml' : Nat} {rt' : Option FieldType} (w1 : (Cond.instanceMethod y).before a0 Z = true) (w2 : (Cond.code y b' ml' rt').before a0 Z = true) : (Cond.declares y).before a0 Z = true := by
  obtain ⟨mk, methM, hn, hm, hst, -⟩ := Cond.instanceMethod_spec w1
  obtain ⟨m2, cM, q1, -, -, -, -, -, -, hsig⟩ := Cond.code_spec hn w2
  cases hm.symm.trans q1
  simp [Cond.before, Cond.holds, Cond.value, hn, hm, hst, hsig]
theorem nf_mate {y w : MethodName} {C : String} (hc : w.cls = y.cls) (hs : (Cond.selects C w w).before a0 Z = true) : ∀ s : State, Z.Warmed39 s.vm → NotFace s y := fun s hZ r0 h0 => by
  obtain ⟨c, r, m, q1, q2, q3, q4, mk, q5, q6⟩ := Cond.selects_spec (mvT (s := s) (args := #[]) hZ hs)
  have e1 := findClass_of_methodNamed q3
  have e2 := findClass_of_methodNamed h0
  rw [hc] at e1
  have e3 : m.cls = r0.cls := Option.some.inj (e1.symm.trans e2)
  exact ⟨mk, by rw [← e3]; exact q5, q6⟩
theorem same_of {y w : MethodName} {C : String} (hc : w.cls = y.cls) (hs : (Cond.selects C w w).before a0 Z = true) (hd : (Cond.declares y).before a0 Z = true) (hy : y.cls ≠ "java/lang/invoke/MethodHandle" ∧ y.cls ≠ "java/lang/invoke/VarHandle") : (Cond.sameMethod y.cls y.cls y.name y.desc).before a0 Z = true := by
  obtain ⟨r0, r, hn, hrm, -, -⟩ := Cond.declares_spec hd
  obtain ⟨k, hk, hi⟩ := nf_mate hc hs Z (State.Warmed39.refl Z) r0 hn
  have hf := State.methodFound?_of_named hn hy
  have hcn := findClass_of_methodNamed hn
  have hn' : Z.methodNamed? ⟨y.cls, y.name, y.desc⟩ = some r0 := hn
  simp [Cond.before, Cond.holds, Cond.value, hcn, hf, hn', hk, hi]
section Calls
variable {index : Nat} {y : MethodName} {b' : ByteArray} {ml' : Nat} {rt' : Option FieldType} {R' : Room} {F' : List Addr} {as : Array Value} {Q' : QT} {argsL : List Value}
theorem go_static (H : Wd Z a0) (w1 : (Cond.methodLink own index y).before a0 Z = true) (w2 : (Cond.static y).before a0 Z = true) (w3 : (Cond.initialized y.cls).before a0 Z = true) (w4 : (Cond.code y b' ml' rt').before a0 Z = true) (hy : y.cls ≠ "java/lang/invoke/MethodHandle" ∧ y.cls ≠ "java/lang/invoke/VarHandle") (M' : Met l Z y b' ml' rt' R' h F' as Q')
    (ha : argsL.toArray = as) (hst : S' = argsL.reverse ++ S) (hlen : ∀ sig, parseMethodDescriptor y.desc = some sig → argsL.length = sig.parameters.length) (hF : ∀ x ∈ F', x ∈ F) (hL : L.size = ml) (hfr : R'.frames + 1 ≤ R.frames) (hlo : (S.map fun v => v.category).sum + (ml' + 11) + R'.locals ≤ R.locals) (hc : c + R'.cells = c') (hs : s + R'.slots = s') (hc' : c' ≤ R.cells) (hs' : s' ≤ R.slots)
    (hd : decode b pc = .ok (.invokestatic index, 3)) (hq : pc + 3 = q) (nx : ∀ v h' G, h.size ≤ h'.size → Q' v h' G → ∃ F2, (∀ x ∈ F2, x ∈ G ∨ x ∈ F) ∧ Go l Z K own mn b ml rt R Q h' F2 c' s' q L (v.toList ++ S)) : Go l Z K own mn b ml rt R Q h F c s pc L S' := fun T X => by
  subst hq hc hs hst ha
  obtain ⟨vm, k, locs, Y, eT, hS, hk, hZ, hown, N, C, M, O, r⟩ := X
  obtain ⟨v, vm₁, B, -, Y', hS', hg, P, st⟩ := callSS Y r.1 hown (mvT (s := K.2.2.1.setVm vm) hZ w1) (mvT (s := K.2.2.1.setVm vm) hZ w2) (mvT (s := K.2.2.1.setVm vm) hZ w3) (mvT (s := K.2.2.1.setVm vm) hZ w4) hy (W := (S.map fun v => v.category).sum) (M'.back H hZ w4 w3 hfr hlo C.1 (fun x hx => M x (hF x hx)) O) (g := mkF K.2.2.2.1 pc L (argsL.reverse ++ S)) rfl (by rw [r.2.2.1]; exact hL) (argsL := argsL) (rest := S) hlen rfl (by show 2 * 0 + _ ≤ _; omega) (hb r.2.1 hd) (fun _ _ => ⟨rfl, eT, hc', hs'⟩)
  obtain ⟨G, q1, q2⟩ := St.came Y eT hS hk hZ hown N C M r Y' hS' hg P
  obtain ⟨F2, f1, f2⟩ := nx v B.U.heap G (by rw [← eT]; exact hg) q1
  obtain ⟨s₂, o, x, r'⟩ := f2 B.U (q2 F2 f1)
  exact ⟨s₂, o, st.trans x, r'⟩
theorem go_special (H : Wd Z a0) {a : Addr} (hy1 : y.name = "<init>") (w1 : (Cond.methodLink own index y).before a0 Z = true) (w2 : (Cond.instanceMethod y).before a0 Z = true) (w3 : (Cond.initialized y.cls).before a0 Z = true) (w4 : (Cond.code y b' ml' none).before a0 Z = true) (hy : y.cls ≠ "java/lang/invoke/MethodHandle" ∧ y.cls ≠ "java/lang/invoke/VarHandle") (M' : Met l Z y b' ml' none R' h F' as Q')
    (ha : (.ref a :: argsL).toArray = as) (hst : S' = argsL.reverse ++ .ref a :: S) (hlen : ∀ sig, parseMethodDescriptor y.desc = some sig → argsL.length = sig.parameters.length) (hF : ∀ x ∈ F', x ∈ F) (hL : L.size = ml) (hfr : R'.frames + 1 ≤ R.frames) (hlo : (S.map fun v => v.category).sum + (ml' + 11) + R'.locals ≤ R.locals) (hc : c + R'.cells = c') (hs : s + R'.slots = s') (hc' : c' ≤ R.cells) (hs' : s' ≤ R.slots)
    (hd : decode b pc = .ok (.invokespecial index, 3)) (hq : pc + 3 = q) (nx : ∀ v h' G, h.size ≤ h'.size → Q' v h' G → ∃ F2, (∀ x ∈ F2, x ∈ G ∨ x ∈ F) ∧ Go l Z K own mn b ml rt R Q h' F2 c' s' q L (v.toList ++ S)) : Go l Z K own mn b ml rt R Q h F c s pc L S' := fun T X => by
  subst hq hc hs hst ha
  obtain ⟨vm, k, locs, Y, eT, hS, hk, hZ, hown, N, C, M, O, r⟩ := X
  obtain ⟨v, vm₁, B, -, Y', hS', hg, P, st⟩ := Y.specialBackS r.1 hy1 hown (mvT (s := K.2.2.1.setVm vm) hZ w1) (mvT (s := K.2.2.1.setVm vm) hZ w2) (mvT (s := K.2.2.1.setVm vm) hZ w4) hy (W := (S.map fun v => v.category).sum) (M'.back H hZ w4 w3 hfr hlo C.1 (fun x hx => M x (hF x hx)) O) (g := mkF K.2.2.2.1 pc L (argsL.reverse ++ .ref a :: S)) rfl (by rw [r.2.2.1]; exact hL) (Steps.refl _) (argsL := argsL) (rest := S) hlen rfl (by show 2 * 0 + _ ≤ _; omega) (hb r.2.1 hd) (fun _ _ => ⟨rfl, eT, hc', hs'⟩)
  obtain ⟨G, q1, q2⟩ := St.came Y eT hS hk hZ hown N C M r Y' hS' hg P
  obtain ⟨F2, f1, f2⟩ := nx v B.U.heap G (by rw [← eT]; exact hg) q1
  obtain ⟨s₂, o, x, r'⟩ := f2 B.U (q2 F2 f1)
  exact ⟨s₂, o, st.trans x, r'⟩
/-- invokevirtual of y on an object exactly of class C: the body is z's -/
theorem go_virtual (H : Wd Z a0) {a : Addr} {C : String} {z : MethodName} (w1 : (Cond.methodLink own index y).before a0 Z = true) (w2 : (Cond.declares y).before a0 Z = true) (wnf : ∀ s : State, Z.Warmed39 s.vm → NotFace s y) (w3 : (Cond.selects C y z).before a0 Z = true) (w4 : (Cond.instanceMethod z).before a0 Z = true) (w5 : (Cond.initialized z.cls).before a0 Z = true) (w6 : (Cond.code z b' ml' rt').before a0 Z = true)
    (hy : y.cls ≠ "java/lang/invoke/MethodHandle" ∧ y.cls ≠ "java/lang/invoke/VarHandle") (E : Exa Z h a C) (M' : Met l Z z b' ml' rt' R' h F' as Q')
    (ha : (.ref a :: argsL).toArray = as) (hst : S' = argsL.reverse ++ .ref a :: S) (hlen : ∀ sig, parseMethodDescriptor y.desc = some sig → argsL.length = sig.parameters.length) (hF : ∀ x ∈ F', x ∈ F) (hL : L.size = ml) (hfr : R'.frames + 1 ≤ R.frames) (hlo : (S.map fun v => v.category).sum + (ml' + 11) + R'.locals ≤ R.locals) (hc : c + R'.cells = c') (hs : s + R'.slots = s') (hc' : c' ≤ R.cells) (hs' : s' ≤ R.slots)
    (hd : decode b pc = .ok (.invokevirtual index, 3)) (hq : pc + 3 = q) (nx : ∀ v h' G, h.size ≤ h'.size → Q' v h' G → ∃ F2, (∀ x ∈ F2, x ∈ G ∨ x ∈ F) ∧ Go l Z K own mn b ml rt R Q h' F2 c' s' q L (v.toList ++ S)) : Go l Z K own mn b ml rt R Q h F c s pc L S' := fun T X => by
  subst hq hc hs hst ha
  obtain ⟨vm, k, locs, Y, eT, hS, hk, hZ, hown, N, C, M, O, r⟩ := X
  obtain ⟨cB, kB, g1, g2, g3⟩ := isOf (s := K.2.2.1.setVm vm) hZ eT E
  obtain ⟨v, vm₁, B, -, Y', hS', hg, P, st⟩ := Y.virtualBackS r.1 hown (mvT (s := K.2.2.1.setVm vm) hZ w1) (mvT (s := K.2.2.1.setVm vm) hZ w2) (wnf (K.2.2.1.setVm vm) hZ) (mvT (s := K.2.2.1.setVm vm) hZ w3) (mvT (s := K.2.2.1.setVm vm) hZ w4) hy (W := (S.map fun v => v.category).sum) (M'.back H hZ w6 w5 hfr hlo C.1 (fun x hx => M x (hF x hx)) O) g1 g3 (g := mkF K.2.2.2.1 pc L (argsL.reverse ++ .ref a :: S)) rfl (by rw [r.2.2.1]; exact hL) (Steps.refl _) (argsL := argsL) (rest := S) hlen rfl (by show 2 * 0 + _ ≤ _; omega) (hb r.2.1 hd) (fun _ _ => ⟨rfl, eT, hc', hs'⟩)
  obtain ⟨G, q1, q2⟩ := St.came Y eT hS hk hZ hown N C M r Y' hS' hg P
  obtain ⟨F2, f1, f2⟩ := nx v B.U.heap G (by rw [← eT]; exact hg) q1
  obtain ⟨s₂, o, x, r'⟩ := f2 B.U (q2 F2 f1)
  exact ⟨s₂, o, st.trans x, r'⟩
theorem go_interface (H : Wd Z a0) {a : Addr} {C : String} {z : MethodName} {count : Nat} (w1 : (Cond.methodLink own index y).before a0 Z = true) (w2 : (Cond.declares y).before a0 Z = true) (w3 : ∀ (s : State) (args : Array Value), Z.Warmed39 s.vm → (Cond.interfaceMethod y.cls y.cls y.name y.desc).before args s = true) (w4 : (Cond.selects C y z).before a0 Z = true) (w5 : (Cond.instanceMethod z).before a0 Z = true) (w6 : (Cond.publicMethod z).before a0 Z = true) (w7 : (Cond.unhidden C y.name y.desc).before a0 Z = true) (w8 : (Cond.castable C y.cls).before a0 Z = true) (w9 : (Cond.initialized z.cls).before a0 Z = true) (w10 : (Cond.code z b' ml' rt').before a0 Z = true)
    (hy : y.cls ≠ "java/lang/invoke/MethodHandle" ∧ y.cls ≠ "java/lang/invoke/VarHandle") (E : Exa Z h a C) (M' : Met l Z z b' ml' rt' R' h F' as Q')
    (ha : (.ref a :: argsL).toArray = as) (hst : S' = argsL.reverse ++ .ref a :: S) (hlen : ∀ sig, parseMethodDescriptor y.desc = some sig → argsL.length = sig.parameters.length) (hF : ∀ x ∈ F', x ∈ F) (hL : L.size = ml) (hfr : R'.frames + 1 ≤ R.frames) (hlo : (S.map fun v => v.category).sum + (ml' + 11) + R'.locals ≤ R.locals) (hc : c + R'.cells = c') (hs : s + R'.slots = s') (hc' : c' ≤ R.cells) (hs' : s' ≤ R.slots)
    (hd : decode b pc = .ok (.invokeinterface index count, 5)) (hq : pc + 5 = q) (nx : ∀ v h' G, h.size ≤ h'.size → Q' v h' G → ∃ F2, (∀ x ∈ F2, x ∈ G ∨ x ∈ F) ∧ Go l Z K own mn b ml rt R Q h' F2 c' s' q L (v.toList ++ S)) : Go l Z K own mn b ml rt R Q h F c s pc L S' := fun T X => by
  subst hq hc hs hst ha
  obtain ⟨vm, k, locs, Y, eT, hS, hk, hZ, hown, N, C, M, O, r⟩ := X
  obtain ⟨cB, kB, g1, g2, g3⟩ := isOf (s := K.2.2.1.setVm vm) hZ eT E
  obtain ⟨v, vm₁, B, -, Y', hS', hg, P, st⟩ := Y.interfaceBackS r.1 hown (mvT (s := K.2.2.1.setVm vm) hZ w1) (mvT (s := K.2.2.1.setVm vm) hZ w2) (w3 (K.2.2.1.setVm vm) _ hZ) (mvT (s := K.2.2.1.setVm vm) hZ w4) (mvT (s := K.2.2.1.setVm vm) hZ w5) (mvT (s := K.2.2.1.setVm vm) hZ w6) (mvT (s := K.2.2.1.setVm vm) hZ w7) (mvT (s := K.2.2.1.setVm vm) hZ w8) hy (W := (S.map fun v => v.category).sum) (M'.back H hZ w10 w9 hfr hlo C.1 (fun x hx => M x (hF x hx)) O) g1 g2 g3 (g := mkF K.2.2.2.1 pc L (argsL.reverse ++ .ref a :: S)) rfl (by rw [r.2.2.1]; exact hL) (Steps.refl _) (argsL := argsL) (rest := S) hlen rfl (by show 2 * 0 + _ ≤ _; omega) (hb r.2.1 hd) (fun _ _ => ⟨rfl, eT, hc', hs'⟩)
  obtain ⟨G, q1, q2⟩ := St.came Y eT hS hk hZ hown N C M r Y' hS' hg P
  obtain ⟨F2, f1, f2⟩ := nx v B.U.heap G (by rw [← eT]; exact hg) q1
  obtain ⟨s₂, o, x, r'⟩ := f2 B.U (q2 F2 f1)
  exact ⟨s₂, o, st.trans x, r'⟩
/-- invokespecial of the superclass's own method -/
theorem go_super (H : Wd Z a0) {a : Addr} {C : String} (w1 : (Cond.methodLink own index y).before a0 Z = true) (w2 : (Cond.sameMethod y.cls y.cls y.name y.desc).before a0 Z = true) (w3 : (Cond.instanceMethod y).before a0 Z = true) (w4 : (Cond.superclass own y.cls).before a0 Z = true) (w5 : (Cond.initialized y.cls).before a0 Z = true) (w6 : (Cond.code y b' ml' rt').before a0 Z = true) (hni : y.name ≠ "<init>") (E : Exa Z h a C) (M' : Met l Z y b' ml' rt' R' h F' as Q')
    (ha : (.ref a :: argsL).toArray = as) (hst : S' = argsL.reverse ++ .ref a :: S) (hlen : ∀ sig, parseMethodDescriptor y.desc = some sig → argsL.length = sig.parameters.length) (hF : ∀ x ∈ F', x ∈ F) (hL : L.size = ml) (hfr : R'.frames + 1 ≤ R.frames) (hlo : (S.map fun v => v.category).sum + (ml' + 11) + R'.locals ≤ R.locals) (hc : c + R'.cells = c') (hs : s + R'.slots = s') (hc' : c' ≤ R.cells) (hs' : s' ≤ R.slots)
    (hd : decode b pc = .ok (.invokespecial index, 3)) (hq : pc + 3 = q) (nx : ∀ v h' G, h.size ≤ h'.size → Q' v h' G → ∃ F2, (∀ x ∈ F2, x ∈ G ∨ x ∈ F) ∧ Go l Z K own mn b ml rt R Q h' F2 c' s' q L (v.toList ++ S)) : Go l Z K own mn b ml rt R Q h F c s pc L S' := fun T X => by
  subst hq hc hs hst ha
  obtain ⟨vm, k, locs, Y, eT, hS, hk, hZ, hown, N, C, M, O, r⟩ := X
  obtain ⟨v, vm₁, B, -, Y', hS', hg, P, st⟩ := superBackS Y r.1 (show Z.Warmed39 (K.2.2.1.setVm vm).vm from hZ) hown w1 w2 w3 w4 hni (W := (S.map fun v => v.category).sum) (M'.back H hZ w6 w5 hfr hlo C.1 (fun x hx => M x (hF x hx)) O) eT (Ins.self E) (g := mkF K.2.2.2.1 pc L (argsL.reverse ++ .ref a :: S)) rfl (by rw [r.2.2.1]; exact hL) w6 (argsL := argsL) (rest := S) hlen rfl (by show 2 * 0 + _ ≤ _; omega) (hb r.2.1 hd) (fun _ _ => ⟨rfl, eT, hc', hs'⟩)
  obtain ⟨G, q1, q2⟩ := St.came Y eT hS hk hZ hown N C M r Y' hS' hg P
  obtain ⟨F2, f1, f2⟩ := nx v B.U.heap G (by rw [← eT]; exact hg) q1
  obtain ⟨s₂, o, x, r'⟩ := f2 B.U (q2 F2 f1)
  exact ⟨s₂, o, st.trans x, r'⟩
/-- System.arraycopy of bytes -/
theorem go_arraycopy {a d : Addr} {ka kd : ClassId} {ty : FieldType} {z z' sp dp nn : Int32} {vs vd us : List Value} {dv dd : Value} (w1 : (Cond.methodLink own index Jvm.Stand.acN).before a0 Z = true) (w2 : (Cond.native Jvm.Stand.acN).before a0 Z = true) (w3 : (Cond.static Jvm.Stand.acN).before a0 Z = true) (w4 : (Cond.initialized "java/lang/System").before a0 Z = true)
    (A : Arv Z h a ka ty z vs dv) (B : Arv Z h d kd ty z' vd dd) (hty : refKind ty = false) (h1 : ¬ sp < 0) (h2 : ¬ dp < 0) (h3 : ¬ nn < 0) (h4 : sp.toNatClampNeg + nn.toNatClampNeg ≤ z.toNatClampNeg) (h5 : dp.toNatClampNeg + nn.toNatClampNeg ≤ z'.toNatClampNeg) (hus : us = (List.range nn.toNatClampNeg).map fun i => vs.getD (sp.toNatClampNeg + i) dv) (hl : dp.toNatClampNeg + nn.toNatClampNeg ≤ vd.length) (ha : d ∈ F)
    (hL : L.size = ml) (hfr : 1 ≤ R.frames) (hlo : (S.map fun v => v.category).sum + (nativeFrameWords "java/lang/System" "arraycopy" 5 + 11) ≤ R.locals) (hd : decode b pc = .ok (.invokestatic index, 3)) (hq : pc + 3 = q)
    (nx : ∀ h', Keep h h' [d] → Arv Z h' d kd ty z' (vd.take dp.toNatClampNeg ++ us ++ vd.drop (dp.toNatClampNeg + nn.toNatClampNeg)) dd → Go l Z K own mn b ml rt R Q h' F c s q L S) : Go l Z K own mn b ml rt R Q h F c s pc L (.int nn :: .int dp :: .ref d :: .int sp :: .ref a :: S) := fun T X => by
  subst hq
  obtain ⟨vm, k, locs, Y, eT, hS, hk, hZ, hown, N, C, M, O, r⟩ := X
  obtain ⟨T', h', L', Y', e', N', Kp, V, st⟩ := cpA Y r.1 (show Z.Warmed39 (K.2.2.1.setVm vm).vm from hZ) hown w1 w2 w3 w4 eT A B (Or.inl ⟨rfl, hty⟩) h1 h2 h3 h4 h5 hus hl N (M d ha).1 (g := mkF K.2.2.2.1 pc L (.int nn :: .int dp :: .ref d :: .int sp :: .ref a :: S)) rfl (by rw [r.2.2.1]; exact hL) (rest := S) rfl (hb r.2.1 hd) hfr (W := (S.map fun v => v.category).sum) (by show 2 * 0 + _ ≤ _; omega) hlo
  have hsf : ∀ x ∈ [d], Safe Z consts_1 vm h x := fun x hx => by cases List.mem_singleton.mp hx; exact (M d ha).2.2
  obtain ⟨s₂, o, x, r'⟩ := nx h' Kp V T' ⟨vm, k, L', Y', e', hS, Nat.le_trans hk Kp.1, hZ, hown, N', C.trans (CHr.keep Kp hsf C.1), fun x hx => ⟨(M x hx).1, Nat.lt_of_lt_of_le (M x hx).2.1 Kp.1, Safe.keep Kp hsf C.1 (M x hx).2.2⟩, O.keep Kp (fun x hx => by cases List.mem_singleton.mp hx; exact (M d ha).1), r⟩
  exact ⟨s₂, o, st _ x, r'⟩
theorem nf_self {C : String} (w3 : (Cond.selects C y y).before a0 Z = true) : ∀ s : State, Z.Warmed39 s.vm → NotFace s y := fun s hZ => notFace_of_selects (args := #[]) (mvT hZ w3)
/-- the plain end of a call: nothing more to write -/
theorem nx_ {v : Option Value} {G : List Addr} (n : Go l Z K own mn b ml rt R Q h F c s pc L S) : ∃ F2, (∀ x ∈ F2, x ∈ G ∨ x ∈ F) ∧ Go l Z K own mn b ml rt R Q h F2 c s pc L S := ⟨F, fun _ q => Or.inr q, n⟩
end Calls
end G
end Own
end Jvm.Pilot.@@N@@
/-! OWN FRAMEWORK, part 3: Strings of Latin-1 chars. -/
namespace Jvm.Pilot.@@N@@
namespace Own
open Jvm Jvm.ClassFile Sem Op Lib Jvm.Free Jvm.Stand Jvm.LawKit Jvm.RoadKit
abbrev ST : String := "java/lang/String"
abbrev bts (cs : List Int32) : List Value := cs.map fun c => .int c.toInt8.toInt32
abbrev ints (cs : List Int32) : List Value := cs.map fun c => .int c
def Lat (cs : List Int32) : Prop := cs.length ≤ 4096 ∧ ∀ c ∈ cs, ¬ c < 0 ∧ ¬ 255 < c
/-- the String at a spells cs; its cells are none of F -/
def Str (Z : State) (h : Heap) (F : List Addr) (a : Addr) (cs : List Int32) : Prop :=
  Exa Z h a ST ∧ Fld Z h a ST "coder" "B" (.int 0) ∧ a ∉ F ∧ Lat cs ∧ ∃ bb k, bb ∉ F ∧ Fld Z h a ST "value" "[B" (.ref bb) ∧ Arv Z h bb k .byte (Int32.ofNat cs.length) (bts cs) (.int 0)
theorem toInt_ofNat {n : Nat} (h : n < 2147483648) : (Int32.ofNat n).toInt = n := by
  rw [Int32.toInt_ofNat_of_lt (by simpa using h)]
theorem cl_ofNat {n : Nat} (h : n < 2147483648) : (Int32.ofNat n).toNatClampNeg = n := by
  simp only [Int32.toNatClampNeg, toInt_ofNat h]; omega
theorem nn_ofNat {n : Nat} (h : n < 2147483648) : ¬ Int32.ofNat n < 0 := by
  rw [Int32.lt_iff_toInt_lt, toInt_ofNat h, show (0 : Int32).toInt = 0 from rfl]; omega
theorem lt_ofNat {i n : Nat} (hi : i < 2147483648) (hn : n < 2147483648) : Int32.ofNat i < Int32.ofNat n ↔ i < n := by
  rw [Int32.lt_iff_toInt_lt, toInt_ofNat hi, toInt_ofNat hn]; omega
theorem eq_ofNat {i n : Nat} (hi : i < 2147483648) (hn : n < 2147483648) : Int32.ofNat i = Int32.ofNat n ↔ i = n := by
  rw [← Int32.toInt_inj, toInt_ofNat hi, toInt_ofNat hn]; omega
theorem add1_ofNat {i : Nat} : Int32.ofNat i + Int32.ofInt 1 = Int32.ofNat (i + 1) := by
  rw [Int32.ofNat_add]; rfl
section
variable {Z : State} {h h' : Heap} {F F' : List Addr} {a : Addr} {cs : List Int32} {ws : List Addr}
theorem Str.exa (S : Str Z h F a cs) : Exa Z h a ST := S.1
theorem Str.lat (S : Str Z h F a cs) : Lat cs := S.2.2.2.1
theorem Str.lt (S : Str Z h F a cs) : a < h.size := S.1.lt
theorem Str.keep (S : Str Z h F a cs) (K : Keep h h' ws) (hw : ∀ x ∈ ws, x ∈ F ∨ h.size ≤ x) : Str Z h' F a cs := by
  obtain ⟨E, C, ha, hl, bb, k, hb, V, A⟩ := S
  have na : a ∉ ws := fun q => (hw a q).elim ha fun z => absurd E.lt (Nat.not_lt.mpr z)
  have nb : bb ∉ ws := fun q => (hw bb q).elim hb fun z => absurd A.lt (Nat.not_lt.mpr z)
  exact ⟨E.keep K, C.keep K na, ha, hl, bb, k, hb, V.keep K na, A.keep K nb⟩
theorem Str.keep0 (S : Str Z h F a cs) (K : Keep h h' []) : Str Z h' F a cs := S.keep K (fun _ q => nomatch q)
theorem Str.ext (S : Str Z h F a cs) (E : Ext h h') : Str Z h' F a cs := S.keep0 ((Keep.refl h []).ext E)
theorem Str.grow (S : Str Z h F a cs) (hF : ∀ x ∈ F', x ∈ F ∨ h.size ≤ x) : Str Z h F' a cs := by
  obtain ⟨E, C, ha, hl, bb, k, hb, V, A⟩ := S
  exact ⟨E, C, fun q => (hF a q).elim ha fun z => absurd E.lt (Nat.not_lt.mpr z), hl, bb, k, fun q => (hF bb q).elim hb fun z => absurd A.lt (Nat.not_lt.mpr z), V, A⟩
theorem Str.less (S : Str Z h F a cs) (hF : ∀ x ∈ F', x ∈ F) : Str Z h F' a cs := S.grow fun x q => Or.inl (hF x q)
theorem Str.nil (S : Str Z h F a cs) : Str Z h [] a cs := S.less (fun _ q => nomatch q)
theorem Str.ins (S : Str Z h F a cs) : Ins Z h a ST true := Ins.self S.1
end
theorem kless {h h' : Heap} {ws ws' : List Addr} (K : Keep h h' ws) (q : ∀ x ∈ ws, x ∈ ws') : Keep h h' ws' := ⟨K.1, fun x c e n => K.2.1 x c e fun m => n (q x m), K.2.2⟩
theorem kfresh {h h1 h2 : Heap} {a : Addr} (K : Keep h h1 []) (K' : Keep h1 h2 [a]) (q : h.size ≤ a) : Keep h h2 [] := K.trans K' fun x e => by cases List.mem_singleton.mp e; exact Or.inr q
theorem nref {t : FieldType} {v : Value} (ht : t.isReference = true) (hv : v.isRef = true) : narrow t v = v := by cases t <;> cases v <;> simp_all [narrow, Value.isRef, FieldType.isReference]
theorem fref {t : FieldType} {v : Value} (ht : t.isReference = true) (hv : v.isRef = true) : fits t v = true := by cases t <;> cases v <;> simp_all [fits, Value.isRef, FieldType.isReference]
theorem shr0 (z : Int32) : z >>> ((0 : Int32) &&& 31) = z := by
  rw [← Int32.toInt_inj, c_ishr z 0 0 rfl]; simp
theorem nar_char {x : Int32} (h0 : ¬ x < 0) (h1 : ¬ 255 < x) : nar .char x = x := by
  have h := c_i2c x
  rw [Int32.lt_iff_toInt_lt] at h0 h1
  have e0 : (0 : Int32).toInt = 0 := rfl
  have e1 : (255 : Int32).toInt = 255 := rfl
  rw [← Int32.toInt_inj]
  show x.toUInt32.toUInt16.toUInt32.toInt32.toInt = _
  omega
theorem msk (x : Int32) : ¬ (x &&& 255) < 0 ∧ ¬ 255 < (x &&& 255) := by
  have h := c_and x 255 (by decide)
  rw [Int32.lt_iff_toInt_lt, Int32.lt_iff_toInt_lt]
  have e0 : (0 : Int32).toInt = 0 := rfl
  have e1 : (255 : Int32).toInt = 255 := rfl
  omega
theorem i2c_msk (x : Int32) : (x &&& 255).toUInt32.toUInt16.toUInt32.toInt32 = x &&& 255 := nar_char (msk x).1 (msk x).2
theorem b_inj {x y : Int32} (hx : ¬ x < 0 ∧ ¬ 255 < x) (hy : ¬ y < 0 ∧ ¬ 255 < y) (h : x.toInt8.toInt32 = y.toInt8.toInt32) : x = y := by
  have h1 := c_i2b x; have h2 := c_i2b y
  rw [h] at h1
  rw [Int32.lt_iff_toInt_lt, Int32.lt_iff_toInt_lt] at hx hy
  have e0 : (0 : Int32).toInt = 0 := rfl
  have e1 : (255 : Int32).toInt = 255 := rfl
  rw [← Int32.toInt_inj]; omega
theorem b_and {x : Int32} (hx : ¬ x < 0 ∧ ¬ 255 < x) : x.toInt8.toInt32 &&& 255 = x := by
  have h1 := c_i2b x
  have h2 := c_mask (x.toInt8.toInt32) 255 8 (by decide) (by decide)
  rw [Int32.lt_iff_toInt_lt, Int32.lt_iff_toInt_lt] at hx
  have e0 : (0 : Int32).toInt = 0 := rfl
  have e1 : (255 : Int32).toInt = 255 := rfl
  rw [← Int32.toInt_inj, h2]; omega
theorem bts_at {cs : List Int32} {i : Nat} (hi : i < cs.length) : (bts cs).getD i (.int 0) = .int (cs[i].toInt8.toInt32) := by simp [bts, hi]
theorem Str.same {Z : State} {h : Heap} {F F' : List Addr} {a : Addr} {cs ds : List Int32} (S : Str Z h F a cs) (S2 : Str Z h F' a ds) : cs = ds := by
  obtain ⟨E, C, ha, hl, bb, k, hb, V, A⟩ := S
  obtain ⟨E2, C2, ha2, hl2, bb2, k2, hb2, V2, A2⟩ := S2
  obtain rfl : bb = bb2 := by
    by_cases e : bb = bb2
    · exact e
    · exact absurd rfl (V.ne V2 (by simpa using e))
  obtain ⟨c1, r1, q1, s1, n1, H1, G1⟩ := A
  obtain ⟨c2, r2, q2, s2, n2, H2, G2⟩ := A2
  obtain rfl : c1 = c2 := Option.some.inj (r1.1.symm.trans r2.1)
  have l1 := hl.1; have l2 := hl2.1
  rw [cl_ofNat (by omega)] at s1 s2
  have hlen : cs.length = ds.length := s1.symm.trans s2
  refine List.ext_getElem hlen fun i h1 h2 => ?_
  have e1 := H1 i (by omega)
  have e2 := H2 i (by omega)
  rw [bts_at h1] at e1; rw [bts_at h2] at e2
  have e3 := e1.symm.trans e2
  simp only [Option.some.injEq, Value.int.injEq] at e3
  exact b_inj (hl.2 _ (List.getElem_mem h1)) (hl2.2 _ (List.getElem_mem h2)) e3
section G
variable {l : Launch} {Z : State} {a0 : Array Value} {K : Cx} {own mn : String} {b : ByteArray} {ml : Nat} {rt : Option FieldType} {R : Room} {Q : QT} {h h' : Heap} {F : List Addr} {c s pc q c' s' : Nat} {L L' : Array Slot} {S S' : List Value}
theorem go_istoreO {k : Nat} {x : Int32} {o : Slot} (hd : decode b pc = .ok (.istore k, 2)) (hold : L[k]? = some o) (ho : One o) (hL : L.setIfInBounds k (.val (.int x)) = L') (hq : pc + 2 = q) (n : Go l Z K own mn b ml rt R Q h F c s q L' S) : Go l Z K own mn b ml rt R Q h F c s pc L (.int x :: S) := by
  subst hq hL; exact go_of (fun T X t st => by obtain ⟨vm, k, locs, Y, r1, r2, r3, r4, r5, r6, r7, r8, r9, hx, hb', rr⟩ := X; exact XS.istoreS Y.here hx rfl (hb hb' hd) rfl hold ho st) n
theorem go_istoreNO {k : Fin 4} {x : Int32} {o : Slot} (hd : decode b pc = .ok (.istore_n k, 1)) (hold : L[k.val]? = some o) (ho : One o) (hL : L.setIfInBounds k.val (.val (.int x)) = L') (hq : pc + 1 = q) (n : Go l Z K own mn b ml rt R Q h F c s q L' S) : Go l Z K own mn b ml rt R Q h F c s pc L (.int x :: S) := by
  subst hq hL; exact go_of (fun T X t st => by obtain ⟨vm, k, locs, Y, r1, r2, r3, r4, r5, r6, r7, r8, r9, hx, hb', rr⟩ := X; exact XS.istoreNS Y.here hx rfl (hb hb' hd) rfl hold ho st) n
/-- ldc of a Latin-1 constant -/
theorem go_lit (H : Wd Z a0) {index : Nat} {text : String} {cs : List Int32} {n : Nat} (w : (Cond.stringLink own index text).before a0 Z = true) (hm : (own, index) ∈ consts_1) (ht1 : ∀ c ∈ text.toList, c.toNat < 256) (ht2 : text.toList.map (fun c => Value.int (Jvm.Lit.byteI c.toNat.toUInt16)) = bts cs) (h1 : cs.length ≤ 4096) (h2 : ∀ c ∈ cs, ¬ c < 0 ∧ ¬ 255 < c)
    (hd : decode b pc = .ok (.ldc index, 2)) (hn : 4 * text.toList.length ≤ n) (hbig : n ≤ 536870912) (hq : pc + 2 = q) (hc : c + 2 = c') (hs : s + (n + 4) = s') (hc' : c' ≤ R.cells) (hs' : s' ≤ R.slots)
    (nx : ∀ h' a, Ext h h' → Str Z h' F a cs → Go l Z K own mn b ml rt R Q h' F c' s' q L (.ref a :: S)) : Go l Z K own mn b ml rt R Q h F c s pc L S :=
  go_ldcS H w hm ⟨ht1, ht2⟩ (nn_ofNat (n := cs.length) (by omega)) (by rw [cl_ofNat (by omega)]; simp) hd hn hbig hq hc hs hc' hs' fun h' a bb k E A Fc Fv V ne => nx h' a E ⟨A, Fc, fun q => (ne a q).1 rfl, ⟨h1, h2⟩, bb, k, fun q => (ne bb q).2 rfl, Fv, V⟩
end G
end Own
end Jvm.Pilot.@@N@@
/-! OWN FRAMEWORK, part 4: StringBuilder. -/
namespace Jvm.Pilot.@@N@@
namespace Own
open Jvm Jvm.ClassFile Sem Op Lib Jvm.Free Jvm.Stand Jvm.LawKit Jvm.RoadKit
abbrev SBN : String := "java/lang/StringBuilder"
abbrev ABN : String := "java/lang/AbstractStringBuilder"
abbrev zs (n : Nat) : List Value := List.replicate n (.int 0)
/-- the builder x, whose array is v (cap bytes), spells cs -/
def SBd (Z : State) (h : Heap) (x v : Addr) (cap : Nat) (cs : List Int32) : Prop :=
  Exa Z h x SBN ∧ Fld Z h x ABN "value" "[B" (.ref v) ∧ Fld Z h x ABN "coder" "B" (.int 0) ∧ Fld Z h x ABN "count" "I" (.int (Int32.ofNat cs.length)) ∧ Lat cs ∧ cs.length ≤ cap ∧ cap ≤ 4096 ∧ ∃ k, Arv Z h v k .byte (Int32.ofNat cap) (bts cs ++ zs (cap - cs.length)) (.int 0)
section
variable {Z : State} {h h' : Heap} {x v : Addr} {cap : Nat} {cs ds : List Int32} {ws : List Addr}
theorem SBd.keep (S : SBd Z h x v cap cs) (K : Keep h h' ws) (nx : x ∉ ws) (nv : v ∉ ws) : SBd Z h' x v cap cs := by
  obtain ⟨E, V, C, N, L, l1, l2, k, A⟩ := S
  exact ⟨E.keep K, V.keep K nx, C.keep K nx, N.keep K nx, L, l1, l2, k, A.keep K nv⟩
theorem SBd.keep0 (S : SBd Z h x v cap cs) (K : Keep h h' []) : SBd Z h' x v cap cs := S.keep K nin0 nin0
theorem SBd.ext (S : SBd Z h x v cap cs) (E : Ext h h') : SBd Z h' x v cap cs := S.keep0 ((Keep.refl h []).ext E)
theorem SBd.exa (S : SBd Z h x v cap cs) : Exa Z h x SBN := S.1
theorem SBd.lat (S : SBd Z h x v cap cs) : Lat cs := S.2.2.2.2.1
theorem SBd.le (S : SBd Z h x v cap cs) : cs.length ≤ cap := S.2.2.2.2.2.1
theorem bts_len (cs : List Int32) : (bts cs).length = cs.length := by simp [bts]
theorem us_eq (ds : List Int32) : (List.range ds.length).map (fun i => (bts ds).getD i (.int 0)) = bts ds := by
  refine List.ext_getElem (by simp [bts]) fun i h1 h2 => ?_
  simp only [bts_len] at h2
  simp [bts, h2]
theorem cat_eq {n : Nat} (h1 : cs.length + ds.length ≤ n) : (bts cs ++ zs (n - cs.length)).take cs.length ++ bts ds ++ (bts cs ++ zs (n - cs.length)).drop (cs.length + ds.length) = bts (cs ++ ds) ++ zs (n - (cs ++ ds).length) := by
  have e1 : (bts cs ++ zs (n - cs.length)).take cs.length = bts cs := by
    rw [List.take_append_of_le_length (by rw [bts_len]; exact Nat.le_refl _), List.take_of_length_le (by rw [bts_len]; exact Nat.le_refl _)]
  have e2 : (bts cs ++ zs (n - cs.length)).drop (cs.length + ds.length) = zs (n - (cs ++ ds).length) := by
    rw [List.drop_append, List.drop_of_length_le (by rw [bts_len]; omega), List.nil_append, bts_len, List.drop_replicate, List.length_append]
    congr 1; omega
  rw [e1, e2]
  simp [bts]
theorem Lat.app (h1 : Lat cs) (h2 : Lat ds) (h : cs.length + ds.length ≤ 4096) : Lat (cs ++ ds) := ⟨by simpa using h, fun c hc => (List.mem_append.mp hc).elim (h1.2 c) (h2.2 c)⟩
theorem add_ofNat (i j : Nat) : Int32.ofNat i + Int32.ofNat j = Int32.ofNat (i + j) := (Int32.ofNat_add i j).symm
theorem shl0 (z : Int32) : z <<< ((0 : Int32) &&& 31) = z := by
  rw [show (0 : Int32) &&& 31 = 0 from by decide]; exact Int32.shiftLeft_zero
theorem sub_ofNat {i j : Nat} (hi : i < 2147483648) (hj : j < 2147483648) : (Int32.ofNat i - Int32.ofNat j).toInt = (i : Int) - j := by
  have h := c_isub (Int32.ofNat i) (Int32.ofNat j)
  rw [toInt_ofNat hi, toInt_ofNat hj] at h
  have h3 := (Int32.ofNat i - Int32.ofNat j).le_toInt; have h4 := (Int32.ofNat i - Int32.ofNat j).toInt_lt
  omega
theorem subNat {i j : Nat} (hj : j ≤ i) (hi : i < 2147483648) : Int32.ofNat i - Int32.ofNat j = Int32.ofNat (i - j) := by
  rw [← Int32.toInt_inj, sub_ofNat hi (by omega), toInt_ofNat (by omega)]; omega
theorem not_pos_sub {i j : Nat} (h : i ≤ j) (hj : j < 2147483648) : ¬ (0 : Int32) < Int32.ofNat i - Int32.ofNat j := by
  rw [Int32.lt_iff_toInt_lt, sub_ofNat (by omega) hj, show (0 : Int32).toInt = 0 from rfl]; omega
end
end Own
end Jvm.Pilot.@@N@@
/-! OWN FRAMEWORK, part 5: arrays of references, ArrayList. -/
namespace Jvm.Pilot.@@N@@
namespace Own
open Jvm Jvm.ClassFile Sem Op Lib Jvm.Free Jvm.Stand Jvm.LawKit Jvm.RoadKit
section G
variable {l : Launch} {Z : State} {a0 : Array Value} {K : Cx} {own mn : String} {b : ByteArray} {ml : Nat} {rt : Option FieldType} {R : Room} {Q : QT} {h h' : Heap} {F : List Addr} {c s pc q c' s' : Nat} {L L' : Array Slot} {S S' : List Value}
theorem go_aastore {a y : Addr} {k : ClassId} {C : String} {z j : Int32} {vs : List Value} {dv : Value} {i : Nat} (A : Arv Z h a k (.object C) z vs dv) (Ov : Ovr Z k C) (I : Ins Z h y C true) (hj : ¬ j < 0 ∧ j < z) (hi : j.toNatClampNeg = i) (hl : i < vs.length) (ha : a ∈ F) (hd : decode b pc = .ok (.aastore, 1)) (hq : pc + 1 = q)
    (nx : ∀ h', Keep h h' [a] → h'.size = h.size → Arv Z h' a k (.object C) z (vs.set i (.ref y)) dv → Go l Z K own mn b ml rt R Q h' F c s q L S) : Go l Z K own mn b ml rt R Q h F c s pc L (.ref y :: .int j :: .ref a :: S) := fun T X => by
  subst hq
  obtain ⟨vm, k, locs, Y, eT, hS, hk, hZ, hown, N, C, M, O, r⟩ := X
  obtain ⟨cl, Ar, q1, q2, q3, q4, q5⟩ := A
  have hin := inb_of q2 hj
  obtain ⟨T', h', Y', e', W, st⟩ := stR Y r.1 hZ eT Ar hin rfl (Sto.ofV Ar q1 Ov I) (g := mkF K.2.2.2.1 pc L (.ref y :: .int j :: .ref a :: S)) rfl rfl (hb r.2.1 hd)
  obtain ⟨s₂, o, x, r'⟩ := nx h' (Keep.of_wr W) W.size (Arv.set Ar q1 q2 q3 q4 q5 rfl W i hi hl) T' (St.wrote W ha Y' e' hS hk hZ hown N C M O r)
  exact ⟨s₂, o, st _ x, r'⟩
theorem go_getstaticN {index : Nat} {R0 O n d host : String} {v : Value} (w : (Cond.fieldLinkNest own index R0 n d host).before a0 Z = true) (via : Via Z R0 O n d) (Fv : Sta Z Z.heap O n d v) (hd : decode b pc = .ok (.getstatic index, 3)) (hq : pc + 3 = q)
    (nx : Go l Z K own mn b ml rt R Q h F c s q L (v :: S)) : Go l Z K own mn b ml rt R Q h F c s pc L S := fun T X => by
  subst hq
  obtain ⟨vm, k, locs, Y, eT, hS, hk, hZ, hown, N, C, M, O, hx, hb', r⟩ := X
  obtain ⟨T', Y', e', st⟩ := getS2 Y hx hZ hown (host := host) (Or.inr w) via eT (Fv.ext O.2) (g := mkF K.2.2.2.1 pc L S) rfl (hb hb' hd)
  obtain ⟨s₂, o, x, r'⟩ := nx T' ⟨vm, k, locs, Y', e', hS, hk, hZ, hown, N, C, M, O, hx, hb', r⟩
  exact ⟨s₂, o, st _ x, r'⟩
theorem go_instNull {index : Nat} (hd : decode b pc = .ok (.instanceof index, 3)) (hq : pc + 3 = q) (nx : Go l Z K own mn b ml rt R Q h F c s q L (.int 0 :: S)) : Go l Z K own mn b ml rt R Q h F c s pc L (.null :: S) := by
  subst hq
  exact go_of (fun T X t st => by
    obtain ⟨vm, k, locs, Y, eT, hS, hk, hZ, hown, N, C, M, O, r⟩ := X
    exact Y.instanceofNull r.1 (g := mkF K.2.2.2.1 pc L (.null :: S)) rfl rfl (hb r.2.1 hd) _ st) nx
/-- clone of an array -/
theorem go_clone {index cap : Nat} {a : Addr} {ad : String} {k : ClassId} {ty : FieldType} {z : Int32} {vs : List Value} {dv : Value} (w1 : (Cond.methodLink own index ⟨ad, "clone", "()Ljava/lang/Object;"⟩).before a0 Z = true) (w2 : (Cond.sameMethod ad "java/lang/Object" "clone" "()Ljava/lang/Object;").before a0 Z = true) (w3 : (Cond.native ⟨"java/lang/Object", "clone", "()Ljava/lang/Object;"⟩).before a0 Z = true)
    (w4 : (Cond.instanceMethod ⟨"java/lang/Object", "clone", "()Ljava/lang/Object;"⟩).before a0 Z = true) (w5 : (Cond.selects ad ⟨ad, "clone", "()Ljava/lang/Object;"⟩ ⟨"java/lang/Object", "clone", "()Ljava/lang/Object;"⟩).before a0 Z = true) (w6 : (Cond.castable ad "java/lang/Cloneable").before a0 Z = true)
    (V : Arv Z h a k ty z vs dv) (E : Exa Z h a ad) (hL : L.size = ml) (hfr : 1 ≤ R.frames) (hlo : (S.map fun v => v.category).sum + 14 ≤ R.locals) (hcap : z.toNatClampNeg ≤ cap) (hd : decode b pc = .ok (.invokevirtual index, 3)) (hq : pc + 3 = q) (hc : c + 1 = c') (hs : s + cap = s') (hc' : c' ≤ R.cells) (hs' : s' ≤ R.slots)
    (nx : ∀ h' d, d = h.size → Ext h h' → Arv Z h' d k ty z vs dv → Exa Z h' d ad → Go l Z K own mn b ml rt R Q h' (d :: F) c' s' q L (.ref d :: S)) : Go l Z K own mn b ml rt R Q h F c s pc L (.ref a :: S) := fun T X => by
  subst hq hc hs
  obtain ⟨vm, k, locs, Y, eT, hS, hk, hZ, hown, N, C, M, O, r⟩ := X
  obtain ⟨cl, A, q1, q2, q3, H, G⟩ := V
  have FC : FitC Z cl := fitC_of A fun i hi v hv => by rw [H i hi] at hv; cases hv; exact G i hi
  obtain ⟨T', h', Y', e', Ex, A', E', st⟩ := cloneA Y r.1 (show Z.Warmed39 (K.2.2.1.setVm vm).vm from hZ) hown w1 w2 w3 w4 w5 w6 eT A E FC (g := mkF K.2.2.2.1 pc L (.ref a :: S)) rfl (by rw [r.2.2.1]; exact hL) (rest := S) rfl (hb r.2.1 hd) hfr (W := (S.map fun v => v.category).sum) (by show 2 * 0 + _ ≤ _; omega) hlo (by rw [q2]; exact hcap) hc' hs'
  obtain ⟨s₂, o, x, r'⟩ := nx h' _ rfl Ex ⟨cloneOf cl, A', q1, q2, q3, H, G⟩ E' T' (St.grew Ex (fun x hx => by rcases List.mem_cons.mp hx with rfl | hx; exact Or.inr ⟨Nat.le_refl _, A'.lt⟩; exact Or.inl hx) Y' e' hS hk hZ hown N C M O r)
  exact ⟨s₂, o, st _ x, r'⟩
section Calls
variable {index : Nat} {y : MethodName} {b' : ByteArray} {ml' : Nat} {rt' : Option FieldType} {R' : Room} {F' : List Addr} {as : Array Value} {Q' : QT} {argsL : List Value}
/-- invokevirtual of a method that the named class inherits -/
theorem go_virtualUp (H : Wd Z a0) {a : Addr} {C owner : String} {z : MethodName} (w1 : (Cond.methodLink own index y).before a0 Z = true) (w2 : (Cond.sameMethod y.cls owner y.name y.desc).before a0 Z = true) (w2' : (Cond.declares ⟨owner, y.name, y.desc⟩).before a0 Z = true) (how : owner ≠ "java/lang/invoke/MethodHandle" ∧ owner ≠ "java/lang/invoke/VarHandle") (w3 : (Cond.selects C y z).before a0 Z = true) (w4 : (Cond.instanceMethod z).before a0 Z = true) (w5 : (Cond.initialized z.cls).before a0 Z = true) (w6 : (Cond.code z b' ml' rt').before a0 Z = true)
    (E : Exa Z h a C) (M' : Met l Z z b' ml' rt' R' h F' as Q')
    (ha : (.ref a :: argsL).toArray = as) (hst : S' = argsL.reverse ++ .ref a :: S) (hlen : ∀ sig, parseMethodDescriptor y.desc = some sig → argsL.length = sig.parameters.length) (hF : ∀ x ∈ F', x ∈ F) (hL : L.size = ml) (hfr : R'.frames + 1 ≤ R.frames) (hlo : (S.map fun v => v.category).sum + (ml' + 11) + R'.locals ≤ R.locals) (hc : c + R'.cells = c') (hs : s + R'.slots = s') (hc' : c' ≤ R.cells) (hs' : s' ≤ R.slots)
    (hd : decode b pc = .ok (.invokevirtual index, 3)) (hq : pc + 3 = q) (nx : ∀ v h' G, h.size ≤ h'.size → Q' v h' G → ∃ F2, (∀ x ∈ F2, x ∈ G ∨ x ∈ F) ∧ Go l Z K own mn b ml rt R Q h' F2 c' s' q L (v.toList ++ S)) : Go l Z K own mn b ml rt R Q h F c s pc L S' := fun T X => by
  subst hq hc hs hst ha
  obtain ⟨vm, k, locs, Y, eT, hS, hk, hZ, hown, N, C, M, O, r⟩ := X
  obtain ⟨cB, kB, g1, g2, g3⟩ := isOf (s := K.2.2.1.setVm vm) hZ eT E
  obtain ⟨v, vm₁, B, -, Y', hS', hg, P, st⟩ := Y.virtualBackUpS r.1 hown (mvT (s := K.2.2.1.setVm vm) hZ w1) (mvT (s := K.2.2.1.setVm vm) hZ w2) (mvT (s := K.2.2.1.setVm vm) hZ w2') how (mvT (s := K.2.2.1.setVm vm) hZ w3) (mvT (s := K.2.2.1.setVm vm) hZ w4) (W := (S.map fun v => v.category).sum) (M'.back H hZ w6 w5 hfr hlo C.1 (fun x hx => M x (hF x hx)) O) g1 g3 (g := mkF K.2.2.2.1 pc L (argsL.reverse ++ .ref a :: S)) rfl (by rw [r.2.2.1]; exact hL) (Steps.refl _) (argsL := argsL) (rest := S) hlen rfl (by show 2 * 0 + _ ≤ _; omega) (hb r.2.1 hd) (fun _ _ => ⟨rfl, eT, hc', hs'⟩)
  obtain ⟨G, q1, q2⟩ := St.came Y eT hS hk hZ hown N C M r Y' hS' hg P
  obtain ⟨F2, f1, f2⟩ := nx v B.U.heap G (by rw [← eT]; exact hg) q1
  obtain ⟨s₂, o, x, r'⟩ := f2 B.U (q2 F2 f1)
  exact ⟨s₂, o, st.trans x, r'⟩
end Calls
end G
abbrev ALN : String := "java/util/ArrayList"
abbrev ABL : String := "java/util/AbstractList"
abbrev OBJ : String := "java/lang/Object"
abbrev OA : String := "[Ljava/lang/Object;"
/-- the shared empty array of a new ArrayList -/
def Dfl (Z : State) (de : Addr) : Prop := Sta Z Z.heap ALN "DEFAULTCAPACITY_EMPTY_ELEMENTDATA" OA (.ref de) ∧ ∃ k, Arv Z Z.heap de k (.object OBJ) 0 [] .null
/-- the ArrayList x: its array, size, modCount -/
def ALf (Z : State) (h : Heap) (x : Addr) (d : Value) (n m : Int32) : Prop := Exa Z h x ALN ∧ Fld Z h x ALN "elementData" OA d ∧ Fld Z h x ALN "size" "I" (.int n) ∧ Fld Z h x ABL "modCount" "I" (.int m)
/-- an array of ten references -/
def Ten (Z : State) (h : Heap) (d : Addr) (vs : List Value) : Prop := vs.length = 10 ∧ ∃ k, Ovr Z k OBJ ∧ Arv Z h d k (.object OBJ) 10 vs .null
section
variable {Z : State} {h h' : Heap} {x d : Addr} {v : Value} {n m : Int32} {vs : List Value} {ws : List Addr}
theorem ALf.keep (A : ALf Z h x v n m) (K : Keep h h' ws) (q : x ∉ ws) : ALf Z h' x v n m := ⟨A.1.keep K, A.2.1.keep K q, A.2.2.1.keep K q, A.2.2.2.keep K q⟩
theorem ALf.ext (A : ALf Z h x v n m) (E : Ext h h') : ALf Z h' x v n m := A.keep ((Keep.refl h []).ext E) nin0
theorem Ten.keep (A : Ten Z h d vs) (K : Keep h h' ws) (q : d ∉ ws) : Ten Z h' d vs := by
  obtain ⟨h1, k, O, V⟩ := A; exact ⟨h1, k, O, V.keep K q⟩
theorem Ten.ext (A : Ten Z h d vs) (E : Ext h h') : Ten Z h' d vs := A.keep ((Keep.refl h []).ext E) nin0
end
end Own
end Jvm.Pilot.@@N@@
/-! OWN FRAMEWORK, part 7: Strings of UTF-16. -/
namespace Jvm.Pilot.@@N@@
namespace Own
open Jvm Jvm.ClassFile Sem Op Lib Jvm.Free Jvm.Stand Jvm.LawKit Jvm.RoadKit
abbrev loB (c : Int32) : Value := .int c.toInt8.toInt32
abbrev hiB (c : Int32) : Value := .int (c >>> ((8 : Int32) &&& 31)).toInt8.toInt32
def utf : List Int32 → List Value
  | [] => []
  | c :: r => loB c :: hiB c :: utf r
def U16 (cs : List Int32) : Prop := cs.length ≤ 4096 ∧ ∀ c ∈ cs, ¬ c < 0 ∧ ¬ 65535 < c
def StrU (Z : State) (h : Heap) (F : List Addr) (a : Addr) (cs : List Int32) : Prop :=
  Exa Z h a ST ∧ Fld Z h a ST "coder" "B" (.int 1) ∧ a ∉ F ∧ U16 cs ∧ ∃ bb k, bb ∉ F ∧ Fld Z h a ST "value" "[B" (.ref bb) ∧ Arv Z h bb k .byte (Int32.ofNat (2 * cs.length)) (utf cs) (.int 0)
def Txt (Z : State) (h : Heap) (F : List Addr) (a : Addr) (cs : List Int32) : Prop := Str Z h F a cs ∨ StrU Z h F a cs
def U16S (Z : State) : Prop := Sta Z Z.heap "java/lang/StringUTF16" "$assertionsDisabled" "Z" (.int 1) ∧ Sta Z Z.heap "java/lang/StringUTF16" "HI_BYTE_SHIFT" "I" (.int 0) ∧ Sta Z Z.heap "java/lang/StringUTF16" "LO_BYTE_SHIFT" "I" (.int 8)
theorem StrU.keep0 {Z : State} {h h' : Heap} {F : List Addr} {a : Addr} {cs : List Int32} (S : StrU Z h F a cs) (K : Keep h h' []) : StrU Z h' F a cs := by
  obtain ⟨E, C, ha, hl, bb, k, hb, V, A⟩ := S
  exact ⟨E.keep K, C.keep K nin0, ha, hl, bb, k, hb, V.keep K nin0, A.keep K nin0⟩
theorem StrU.exa {Z : State} {h : Heap} {F : List Addr} {a : Addr} {cs : List Int32} (S : StrU Z h F a cs) : Exa Z h a ST := S.1
theorem Txt.keep0 {Z : State} {h h' : Heap} {F : List Addr} {a : Addr} {cs : List Int32} (S : Txt Z h F a cs) (K : Keep h h' []) : Txt Z h' F a cs := S.imp (fun s => s.keep0 K) (fun s => s.keep0 K)
theorem utf_len : ∀ cs : List Int32, (utf cs).length = 2 * cs.length
  | [] => rfl
  | c :: r => by have := utf_len r; simp only [utf, List.length_cons]; omega
theorem utf_app : ∀ (a b : List Int32), utf (a ++ b) = utf a ++ utf b
  | [], b => rfl
  | c :: r, b => by simp only [utf, List.cons_append]; rw [utf_app r b]
theorem utf_at : ∀ {cs : List Int32} {i : Nat} (hi : i < cs.length), (utf cs).getD (2 * i) (.int 0) = loB cs[i] ∧ (utf cs).getD (2 * i + 1) (.int 0) = hiB cs[i]
  | c :: r, 0, _ => ⟨rfl, rfl⟩
  | c :: r, i + 1, h => by
    have e := utf_at (cs := r) (i := i) (Nat.lt_of_succ_lt_succ h)
    rw [show 2 * (i + 1) = 2 * i + 1 + 1 by omega]
    simp only [utf, List.getD_cons_succ, List.getElem_cons_succ]
    exact e
theorem set2 {A t : List Value} {x y : Value} {n : Nat} (h : A.length = n) : ((A ++ (.int 0 :: .int 0 :: t)).set n x).set (n + 1) y = A ++ (x :: y :: t) := by
  subst h
  rw [List.set_append_right _ _ (Nat.le_refl _), Nat.sub_self, List.set_cons_zero, List.set_append_right _ _ (by omega), show A.length + 1 - A.length = 1 by omega]
  rfl
theorem utf_set {cs : List Int32} {i : Nat} (hi : i < cs.length) : ((utf (cs.take i) ++ zs (2 * (cs.length - i))).set (2 * i) (loB cs[i])).set (2 * i + 1) (hiB cs[i]) = utf (cs.take (i + 1)) ++ zs (2 * (cs.length - (i + 1))) := by
  have hl : (utf (cs.take i)).length = 2 * i := by rw [utf_len, List.length_take, Nat.min_eq_left (by omega)]
  rw [show 2 * (cs.length - i) = 2 * (cs.length - (i + 1)) + 1 + 1 by omega, show zs (2 * (cs.length - (i + 1)) + 1 + 1) = .int 0 :: .int 0 :: zs (2 * (cs.length - (i + 1))) from rfl, set2 hl, List.take_succ_eq_append_getElem hi, utf_app, List.append_assoc]
  rfl
theorem nar_c16 {x : Int32} (h0 : ¬ x < 0) (h1 : ¬ 65535 < x) : nar .char x = x := by
  have h := c_i2c x
  rw [Int32.lt_iff_toInt_lt] at h0 h1
  have e0 : (0 : Int32).toInt = 0 := rfl
  have e1 : (65535 : Int32).toInt = 65535 := rfl
  rw [← Int32.toInt_inj]
  show x.toUInt32.toUInt16.toUInt32.toInt32.toInt = _
  omega
theorem u16 {c : Int32} (hc : ¬ c < 0 ∧ ¬ 65535 < c) : ((c.toInt8.toInt32 &&& 255) <<< ((0 : Int32) &&& 31)) ||| (((c >>> ((8 : Int32) &&& 31)).toInt8.toInt32 &&& 255) <<< ((8 : Int32) &&& 31)) = c := by
  rw [Int32.lt_iff_toInt_lt, Int32.lt_iff_toInt_lt] at hc
  have e0 : (0 : Int32).toInt = 0 := rfl
  have e1 : (65535 : Int32).toInt = 65535 := rfl
  have a1 := c_i2b c
  have a2 := c_mask c.toInt8.toInt32 255 8 (by decide) (by decide)
  have b0 := c_ishr c 8 8 rfl
  have b1 := c_i2b (c >>> ((8 : Int32) &&& 31))
  have b2 := c_mask (c >>> ((8 : Int32) &&& 31)).toInt8.toInt32 255 8 (by decide) (by decide)
  rw [shl0]
  generalize c >>> ((8 : Int32) &&& 31) = d at b0 b1 b2 ⊢
  generalize hlo : c.toInt8.toInt32 &&& 255 = lo at a2 ⊢
  generalize hhi : d.toInt8.toInt32 &&& 255 = hi at b2 ⊢
  have b3 := c_ishl hi 8 8 rfl
  generalize hi <<< ((8 : Int32) &&& 31) = hs at b3 ⊢
  have t1 := hs.le_toInt; have t2 := hs.toInt_lt
  have p8 : ((2 ^ 8 : Nat) : Int) = 256 := by decide
  rw [p8] at a2 b0 b2 b3
  have hs2 : hs.toInt = hi.toInt * 256 := by omega
  have o := c_or hs lo 8 (by decide) 256 (by decide) (by omega) (by omega) (by omega)
  rw [Int32.or_comm]
  have t3 := (hs ||| lo).le_toInt; have t4 := (hs ||| lo).toInt_lt
  rw [← Int32.toInt_inj]; omega
theorem shl1 {i : Nat} (h : i < 1000) : Int32.ofNat i <<< ((1 : Int32) &&& 31) = Int32.ofNat (2 * i) := by
  have e := c_ishl (Int32.ofNat i) 1 1 rfl
  rw [toInt_ofNat (by omega)] at e
  have p : ((2 ^ 1 : Nat) : Int) = 2 := by decide
  rw [p] at e
  have t1 := (Int32.ofNat i <<< ((1 : Int32) &&& 31)).le_toInt; have t2 := (Int32.ofNat i <<< ((1 : Int32) &&& 31)).toInt_lt
  rw [← Int32.toInt_inj, toInt_ofNat (by omega)]; omega
theorem shr1 {n : Nat} (h : n < 10000) : Int32.ofNat (2 * n) >>> ((1 : Int32) &&& 31) = Int32.ofNat n := by
  have e := c_ishr (Int32.ofNat (2 * n)) 1 1 rfl
  rw [toInt_ofNat (by omega)] at e
  have p : ((2 ^ 1 : Nat) : Int) = 2 := by decide
  rw [p] at e
  rw [← Int32.toInt_inj, e, toInt_ofNat (by omega)]; omega
theorem coder1 {n : Nat} (h0 : 0 < n) (h : n < 10000) : XT.ushr (Int32.ofNat n - Int32.ofNat (2 * n)) 31 = 1 := by
  have e := sub_ofNat (i := n) (j := 2 * n) (by omega) (by omega)
  have u := c_iushr (Int32.ofNat n - Int32.ofNat (2 * n)) 31 31 rfl (by decide)
  rw [e] at u
  have p : ((2 ^ 31 : Nat) : Int) = 2147483648 := by decide
  rw [p] at u
  rw [← Int32.toInt_inj]
  show (((Int32.ofNat n - Int32.ofNat (2 * n)).toUInt32 >>> ((31 : Int32) &&& 31).toUInt32).toInt32).toInt = (1 : Int32).toInt
  rw [u, show (1 : Int32).toInt = 1 from rfl]; omega
theorem first_big : ∀ cs : List Int32, (∀ c ∈ cs, ¬ 255 < c) ∨ ∃ k, ∃ h : k < cs.length, 255 < cs[k] ∧ ∀ j (hj : j < k), ¬ 255 < cs[j]
  | [] => Or.inl (fun _ h => nomatch h)
  | c :: r => by
    by_cases h : 255 < c
    · exact Or.inr ⟨0, Nat.succ_pos _, h, fun j hj => absurd hj (Nat.not_lt_zero _)⟩
    · rcases first_big r with a | ⟨k, hk, h1, h2⟩
      · exact Or.inl (fun x hx => by
          rcases List.mem_cons.mp hx with rfl | hx
          · exact h
          · exact a x hx)
      · refine Or.inr ⟨k + 1, Nat.succ_lt_succ hk, h1, fun j hj => ?_⟩
        cases j with
        | zero => exact h
        | succ j => exact h2 j (Nat.lt_of_succ_lt_succ hj)
/-- what indexOf answers -/
def Ix (c : Int32) (cs : List Int32) (r : Int32) : Prop := (∃ i, cs[i]? = some c ∧ r = Int32.ofNat i) ∨ (c ∉ cs ∧ r = -1)
/-- a hexadecimal digit's value, or -1 -/
def hxv (c : Int32) : Int32 := if ¬ c < 48 ∧ ¬ 57 < c then c - 48 else if ¬ c < 65 ∧ ¬ 70 < c then c - 65 + 10 else if ¬ c < 97 ∧ ¬ 102 < c then c - 97 + 10 else -1
abbrev HEXL : List Int32 := [48, 49, 50, 51, 52, 53, 54, 55, 56, 57, 65, 66, 67, 68, 69, 70, 97, 98, 99, 100, 101, 102]
theorem hx_in {c : Int32} : (¬ c < 48 ∧ ¬ 57 < c) ∨ (¬ c < 65 ∧ ¬ 70 < c) ∨ (¬ c < 97 ∧ ¬ 102 < c) → c ∈ HEXL := by
  simp only [HEXL, List.mem_cons, List.not_mem_nil, or_false, Int32.lt_iff_toInt_lt]
  have e : ∀ k : Int32, c = k ↔ c.toInt = k.toInt := fun k => Int32.toInt_inj.symm
  simp only [e]
  simp only [show (48 : Int32).toInt = 48 from rfl, show (49 : Int32).toInt = 49 from rfl, show (50 : Int32).toInt = 50 from rfl, show (51 : Int32).toInt = 51 from rfl, show (52 : Int32).toInt = 52 from rfl, show (53 : Int32).toInt = 53 from rfl, show (54 : Int32).toInt = 54 from rfl, show (55 : Int32).toInt = 55 from rfl, show (56 : Int32).toInt = 56 from rfl, show (57 : Int32).toInt = 57 from rfl, show (65 : Int32).toInt = 65 from rfl, show (66 : Int32).toInt = 66 from rfl, show (67 : Int32).toInt = 67 from rfl, show (68 : Int32).toInt = 68 from rfl, show (69 : Int32).toInt = 69 from rfl, show (70 : Int32).toInt = 70 from rfl, show (97 : Int32).toInt = 97 from rfl, show (98 : Int32).toInt = 98 from rfl, show (99 : Int32).toInt = 99 from rfl, show (100 : Int32).toInt = 100 from rfl, show (101 : Int32).toInt = 101 from rfl, show (102 : Int32).toInt = 102 from rfl]
  omega
theorem hxv_out {c : Int32} (h : c ∉ HEXL) : hxv c = -1 := by
  unfold hxv
  rw [if_neg (fun q => h (hx_in (Or.inl q))), if_neg (fun q => h (hx_in (Or.inr (Or.inl q)))), if_neg (fun q => h (hx_in (Or.inr (Or.inr q))))]
theorem hxv_ix {c r : Int32} (h : Ix c HEXL r) : (r < 16 → r = hxv c) ∧ (¬ r < 16 → r - 6 = hxv c) := by
  rcases h with ⟨i, h1, rfl⟩ | ⟨h1, rfl⟩
  · have hi : i < 22 := (List.getElem?_eq_some_iff.mp h1).1
    have : i = 0 ∨ i = 1 ∨ i = 2 ∨ i = 3 ∨ i = 4 ∨ i = 5 ∨ i = 6 ∨ i = 7 ∨ i = 8 ∨ i = 9 ∨ i = 10 ∨ i = 11 ∨ i = 12 ∨ i = 13 ∨ i = 14 ∨ i = 15 ∨ i = 16 ∨ i = 17 ∨ i = 18 ∨ i = 19 ∨ i = 20 ∨ i = 21 := by omega
    rcases this with rfl | rfl | rfl | rfl | rfl | rfl | rfl | rfl | rfl | rfl | rfl | rfl | rfl | rfl | rfl | rfl | rfl | rfl | rfl | rfl | rfl | rfl <;> (cases (Option.some.inj h1 : _ = c); decide)
  · rw [hxv_out h1]; decide
theorem hxv_rng (c : Int32) : hxv c < 0 ∨ (¬ hxv c < 0 ∧ hxv c < 16) := by
  by_cases h : c ∈ HEXL
  · simp only [HEXL, List.mem_cons, List.not_mem_nil, or_false] at h
    rcases h with rfl | rfl | rfl | rfl | rfl | rfl | rfl | rfl | rfl | rfl | rfl | rfl | rfl | rfl | rfl | rfl | rfl | rfl | rfl | rfl | rfl | rfl <;> decide
  · rw [hxv_out h]; decide
theorem hexjoin {x y : Int32} (hx : ¬ x < 0 ∧ x < 16) (hy : ¬ y < 0 ∧ y < 16) : (x <<< ((4 : Int32) &&& 31)) ||| y = x * 16 + y := by
  rw [Int32.lt_iff_toInt_lt, Int32.lt_iff_toInt_lt] at hx hy
  have e0 : (0 : Int32).toInt = 0 := rfl
  have e1 : (16 : Int32).toInt = 16 := rfl
  have a := c_ishl x 4 4 rfl
  have p : ((2 ^ 4 : Nat) : Int) = 16 := by decide
  rw [p] at a
  generalize x <<< ((4 : Int32) &&& 31) = s at a ⊢
  have t1 := s.le_toInt; have t2 := s.toInt_lt
  have hs : s.toInt = x.toInt * 16 := by omega
  have o := c_or s y 4 (by decide) 16 (by decide) (by omega) (by omega) (by omega)
  have m := c_imul x 16
  rw [e1] at m
  have d := c_iadd (x * 16) y
  have t3 := (s ||| y).le_toInt; have t4 := (s ||| y).toInt_lt
  have t5 := (x * 16 + y).le_toInt; have t6 := (x * 16 + y).toInt_lt
  rw [← Int32.toInt_inj]; omega
end Own
end Jvm.Pilot.@@N@@
namespace Jvm.Pilot.@@N@@
namespace Own
open Jvm Jvm.ClassFile Sem Op Lib Jvm.Free Jvm.Stand Jvm.LawKit Jvm.RoadKit
/-- draw's answer -/
def Dr (n a b c : Int32) (cs : List Int32) : Prop := (n = 0 ∧ cs = []) ∨ (n = 1 ∧ cs = [a]) ∨ (n = 2 ∧ cs = [a, b]) ∨ (n = 3 ∧ cs = [a, b, c])
theorem Dr.len {n a b c : Int32} {cs : List Int32} (D : Dr n a b c cs) : Int32.ofNat cs.length = n := by
  rcases D with ⟨rfl, rfl⟩ | ⟨rfl, rfl⟩ | ⟨rfl, rfl⟩ | ⟨rfl, rfl⟩ <;> rfl
theorem and3 (x : Int32) : x &&& 3 = 0 ∨ x &&& 3 = 1 ∨ x &&& 3 = 2 ∨ x &&& 3 = 3 := by
  have h := c_and x 3 (by decide)
  have e : ∀ k : Int32, x &&& 3 = k ↔ (x &&& 3).toInt = k.toInt := fun k => Int32.toInt_inj.symm
  rw [e, e, e, e]
  have e0 : (0 : Int32).toInt = 0 := rfl
  have e1 : (1 : Int32).toInt = 1 := rfl
  have e2 : (2 : Int32).toInt = 2 := rfl
  have e3 : (3 : Int32).toInt = 3 := rfl
  omega
theorem Dr.any (x a b c : Int32) : ∃ cs, Dr (x &&& 3) a b c cs := by
  rcases and3 x with h | h | h | h <;> rw [h]
  · exact ⟨_, Or.inl ⟨rfl, rfl⟩⟩
  · exact ⟨_, Or.inr (Or.inl ⟨rfl, rfl⟩)⟩
  · exact ⟨_, Or.inr (Or.inr (Or.inl ⟨rfl, rfl⟩))⟩
  · exact ⟨_, Or.inr (Or.inr (Or.inr ⟨rfl, rfl⟩))⟩
def NA (n t : Int32) : Prop := (n = 1 ∧ t = 0) ∨ (n = 2 ∧ t = 0) ∨ (n = 2 ∧ t = 1) ∨ (n = 3 ∧ t = 0) ∨ (n = 3 ∧ t = 1) ∨ (n = 3 ∧ t = 2) ∨ (n = 4 ∧ t = 0) ∨ (n = 4 ∧ t = 1) ∨ (n = 4 ∧ t = 2) ∨ (n = 4 ∧ t = 3)
theorem na_any (x y : Int32) : 1 + (x &&& 3) ≠ 0 ∧ NA (1 + (x &&& 3)) ((y &&& 2147483647) % (1 + (x &&& 3))) := by
  have hm := c_and y 2147483647 (by decide)
  have e : ∀ (j k : Int32), j = k ↔ j.toInt = k.toInt := fun j k => Int32.toInt_inj.symm
  have t0 : (0 : Int32).toInt = 0 := rfl
  have t1 : (1 : Int32).toInt = 1 := rfl
  have t2 : (2 : Int32).toInt = 2 := rfl
  have t3 : (3 : Int32).toInt = 3 := rfl
  have t4 : (4 : Int32).toInt = 4 := rfl
  rcases and3 x with h | h | h | h <;> rw [h]
  · have hr := (c_iremV (y &&& 2147483647) 1).1 hm.1 (by decide)
    rw [t1] at hr
    refine ⟨by decide, ?_⟩
    show NA 1 ((y &&& 2147483647) % 1)
    generalize (y &&& 2147483647) % 1 = r at hr ⊢
    unfold NA
    simp only [e, t0, t1, t2, t3, t4, true_and, false_and, false_or, or_false, and_true, true_or, or_true]
    omega
  · have hr := (c_iremV (y &&& 2147483647) 2).1 hm.1 (by decide)
    rw [t2] at hr
    refine ⟨by decide, ?_⟩
    show NA 2 ((y &&& 2147483647) % 2)
    generalize (y &&& 2147483647) % 2 = r at hr ⊢
    unfold NA
    simp only [e, t0, t1, t2, t3, t4, true_and, false_and, false_or, or_false, and_true, true_or, or_true]
    omega
  · have hr := (c_iremV (y &&& 2147483647) 3).1 hm.1 (by decide)
    rw [t3] at hr
    refine ⟨by decide, ?_⟩
    show NA 3 ((y &&& 2147483647) % 3)
    generalize (y &&& 2147483647) % 3 = r at hr ⊢
    unfold NA
    simp only [e, t0, t1, t2, t3, t4, true_and, false_and, false_or, or_false, and_true, true_or, or_true]
    omega
  · have hr := (c_iremV (y &&& 2147483647) 4).1 hm.1 (by decide)
    rw [t4] at hr
    refine ⟨by decide, ?_⟩
    show NA 4 ((y &&& 2147483647) % 4)
    generalize (y &&& 2147483647) % 4 = r at hr ⊢
    unfold NA
    simp only [e, t0, t1, t2, t3, t4, true_and, false_and, false_or, or_false, and_true, true_or, or_true]
    omega
theorem w_0 {Z : State} {a0 : Array Value} (H : Wd Z a0) : ((Jvm.Cond.constant "com/example/tabane/tabane/url/PercentEscapesByteAtPinLaw" (20 : Nat) (2147483647 : Int32)) : Jvm.Cond).before a0 Z = true := H.1 _ (List.mem_of_getElem? (i := 0) rfl)
theorem w_1 {Z : State} {a0 : Array Value} (H : Wd Z a0) : ((Jvm.Cond.methodLink "com/example/tabane/tabane/url/PercentEscapesByteAtPinLaw" (21 : Nat) ({ cls := "com/example/tabane/tabane/url/PercentEscapesByteAtPinLaw", name := "draw", desc := "(I)C" } : Jvm.MethodName)) : Jvm.Cond).before a0 Z = true := H.1 _ (List.mem_of_getElem? (i := 1) rfl)
theorem w_2 {Z : State} {a0 : Array Value} (H : Wd Z a0) : ((Jvm.Cond.static ({ cls := "com/example/tabane/tabane/url/PercentEscapesByteAtPinLaw", name := "draw", desc := "(I)C" } : Jvm.MethodName)) : Jvm.Cond).before a0 Z = true := H.1 _ (List.mem_of_getElem? (i := 2) rfl)
theorem w_3 {Z : State} {a0 : Array Value} (H : Wd Z a0) : ((Jvm.Cond.initialized "com/example/tabane/tabane/url/PercentEscapesByteAtPinLaw") : Jvm.Cond).before a0 Z = true := H.1 _ (List.mem_of_getElem? (i := 3) rfl)
theorem w_4 {Z : State} {a0 : Array Value} (H : Wd Z a0) : ((Jvm.Cond.code ({ cls := "com/example/tabane/tabane/url/PercentEscapesByteAtPinLaw", name := "draw", desc := "(I)C" } : Jvm.MethodName) method_2_code (1 : Nat) (Option.some Jvm.ClassFile.FieldType.char)) : Jvm.Cond).before a0 Z = true := H.1 _ (List.mem_of_getElem? (i := 4) rfl)
theorem w_5 {Z : State} {a0 : Array Value} (H : Wd Z a0) : ((Jvm.Cond.constant "com/example/tabane/tabane/url/PercentEscapesByteAtPinLaw" (7 : Nat) (65536 : Int32)) : Jvm.Cond).before a0 Z = true := H.1 _ (List.mem_of_getElem? (i := 5) rfl)
theorem w_6 {Z : State} {a0 : Array Value} (H : Wd Z a0) : ((Jvm.Cond.constant "com/example/tabane/tabane/url/PercentEscapesByteAtPinLaw" (8 : Nat) (65535 : Int32)) : Jvm.Cond).before a0 Z = true := H.1 _ (List.mem_of_getElem? (i := 6) rfl)
theorem w_7 {Z : State} {a0 : Array Value} (H : Wd Z a0) : ((Jvm.Cond.methodLink "com/example/tabane/tabane/url/PercentEscapesByteAtPinLaw" (26 : Nat) ({ cls := "com/example/tabane/tabane/url/PercentEscapesByteAtPinLaw", name := "make", desc := "(ICCCC)Ljava/lang/String;" } : Jvm.MethodName)) : Jvm.Cond).before a0 Z = true := H.1 _ (List.mem_of_getElem? (i := 7) rfl)
theorem w_8 {Z : State} {a0 : Array Value} (H : Wd Z a0) : ((Jvm.Cond.static ({ cls := "com/example/tabane/tabane/url/PercentEscapesByteAtPinLaw", name := "make", desc := "(ICCCC)Ljava/lang/String;" } : Jvm.MethodName)) : Jvm.Cond).before a0 Z = true := H.1 _ (List.mem_of_getElem? (i := 8) rfl)
theorem w_9 {Z : State} {a0 : Array Value} (H : Wd Z a0) : ((Jvm.Cond.code ({ cls := "com/example/tabane/tabane/url/PercentEscapesByteAtPinLaw", name := "make", desc := "(ICCCC)Ljava/lang/String;" } : Jvm.MethodName) method_5_code (5 : Nat) (Option.some (Jvm.ClassFile.FieldType.object "java/lang/String"))) : Jvm.Cond).before a0 Z = true := H.1 _ (List.mem_of_getElem? (i := 9) rfl)
theorem w_10 {Z : State} {a0 : Array Value} (H : Wd Z a0) : ((Jvm.Cond.classLink "com/example/tabane/tabane/url/PercentEscapesByteAtPinLaw" (12 : Nat) "java/lang/String") : Jvm.Cond).before a0 Z = true := H.1 _ (List.mem_of_getElem? (i := 10) rfl)
theorem w_11 {Z : State} {a0 : Array Value} (H : Wd Z a0) : ((Jvm.Cond.instantiable "java/lang/String" (4 : Nat)) : Jvm.Cond).before a0 Z = true := H.1 _ (List.mem_of_getElem? (i := 11) rfl)
theorem w_12 {Z : State} {a0 : Array Value} (H : Wd Z a0) : ((Jvm.Cond.initialized "java/lang/String") : Jvm.Cond).before a0 Z = true := H.1 _ (List.mem_of_getElem? (i := 12) rfl)
theorem w_13 {Z : State} {a0 : Array Value} (H : Wd Z a0) : ((Jvm.Cond.arrayClass Jvm.ClassFile.FieldType.char) : Jvm.Cond).before a0 Z = true := H.1 _ (List.mem_of_getElem? (i := 13) rfl)
theorem w_14 {Z : State} {a0 : Array Value} (H : Wd Z a0) : ((Jvm.Cond.methodLink "com/example/tabane/tabane/url/PercentEscapesByteAtPinLaw" (17 : Nat) ({ cls := "java/lang/String", name := "<init>", desc := "([C)V" } : Jvm.MethodName)) : Jvm.Cond).before a0 Z = true := H.1 _ (List.mem_of_getElem? (i := 14) rfl)
theorem w_15 {Z : State} {a0 : Array Value} (H : Wd Z a0) : ((Jvm.Cond.instanceMethod ({ cls := "java/lang/String", name := "<init>", desc := "([C)V" } : Jvm.MethodName)) : Jvm.Cond).before a0 Z = true := H.1 _ (List.mem_of_getElem? (i := 15) rfl)
theorem w_16 {Z : State} {a0 : Array Value} (H : Wd Z a0) : ((Jvm.Cond.code ({ cls := "java/lang/String", name := "<init>", desc := "([C)V" } : Jvm.MethodName) jdk_42_method_3_code (2 : Nat) (Option.none : Option Jvm.ClassFile.FieldType)) : Jvm.Cond).before a0 Z = true := H.1 _ (List.mem_of_getElem? (i := 16) rfl)
theorem w_17 {Z : State} {a0 : Array Value} (H : Wd Z a0) : ((Jvm.Cond.methodLink "java/lang/String" (27 : Nat) ({ cls := "java/lang/String", name := "<init>", desc := "([CIILjava/lang/Void;)V" } : Jvm.MethodName)) : Jvm.Cond).before a0 Z = true := H.1 _ (List.mem_of_getElem? (i := 17) rfl)
theorem w_18 {Z : State} {a0 : Array Value} (H : Wd Z a0) : ((Jvm.Cond.instanceMethod ({ cls := "java/lang/String", name := "<init>", desc := "([CIILjava/lang/Void;)V" } : Jvm.MethodName)) : Jvm.Cond).before a0 Z = true := H.1 _ (List.mem_of_getElem? (i := 18) rfl)
theorem w_20 {Z : State} {a0 : Array Value} (H : Wd Z a0) : ((Jvm.Cond.code ({ cls := "java/lang/String", name := "<init>", desc := "([CIILjava/lang/Void;)V" } : Jvm.MethodName) jdk_42_method_149_code (6 : Nat) (Option.none : Option Jvm.ClassFile.FieldType)) : Jvm.Cond).before a0 Z = true := H.1 _ (List.mem_of_getElem? (i := 20) rfl)
theorem w_21 {Z : State} {a0 : Array Value} (H : Wd Z a0) : ((Jvm.Cond.methodLink "java/lang/String" (1 : Nat) ({ cls := "java/lang/Object", name := "<init>", desc := "()V" } : Jvm.MethodName)) : Jvm.Cond).before a0 Z = true := H.1 _ (List.mem_of_getElem? (i := 21) rfl)
theorem w_22 {Z : State} {a0 : Array Value} (H : Wd Z a0) : ((Jvm.Cond.instanceMethod ({ cls := "java/lang/Object", name := "<init>", desc := "()V" } : Jvm.MethodName)) : Jvm.Cond).before a0 Z = true := H.1 _ (List.mem_of_getElem? (i := 22) rfl)
theorem w_23 {Z : State} {a0 : Array Value} (H : Wd Z a0) : ((Jvm.Cond.code ({ cls := "java/lang/Object", name := "<init>", desc := "()V" } : Jvm.MethodName) object_method_1_code (1 : Nat) (Option.none : Option Jvm.ClassFile.FieldType)) : Jvm.Cond).before a0 Z = true := H.1 _ (List.mem_of_getElem? (i := 23) rfl)
theorem w_24 {Z : State} {a0 : Array Value} (H : Wd Z a0) : ((Jvm.Cond.fieldLink "java/lang/String" (38 : Nat) "java/lang/String" "COMPACT_STRINGS" "Z") : Jvm.Cond).before a0 Z = true := H.1 _ (List.mem_of_getElem? (i := 24) rfl)
theorem w_25 {Z : State} {a0 : Array Value} (H : Wd Z a0) : ((Jvm.Cond.methodLink "java/lang/String" (177 : Nat) ({ cls := "java/lang/StringUTF16", name := "compress", desc := "([CII)[B" } : Jvm.MethodName)) : Jvm.Cond).before a0 Z = true := H.1 _ (List.mem_of_getElem? (i := 25) rfl)
theorem w_26 {Z : State} {a0 : Array Value} (H : Wd Z a0) : ((Jvm.Cond.static ({ cls := "java/lang/StringUTF16", name := "compress", desc := "([CII)[B" } : Jvm.MethodName)) : Jvm.Cond).before a0 Z = true := H.1 _ (List.mem_of_getElem? (i := 26) rfl)
theorem w_27 {Z : State} {a0 : Array Value} (H : Wd Z a0) : ((Jvm.Cond.initialized "java/lang/StringUTF16") : Jvm.Cond).before a0 Z = true := H.1 _ (List.mem_of_getElem? (i := 27) rfl)
theorem w_28 {Z : State} {a0 : Array Value} (H : Wd Z a0) : ((Jvm.Cond.code ({ cls := "java/lang/StringUTF16", name := "compress", desc := "([CII)[B" } : Jvm.MethodName) jdk_52_method_16_code (6 : Nat) (Option.some (Jvm.ClassFile.FieldType.array Jvm.ClassFile.FieldType.byte))) : Jvm.Cond).before a0 Z = true := H.1 _ (List.mem_of_getElem? (i := 28) rfl)
theorem w_29 {Z : State} {a0 : Array Value} (H : Wd Z a0) : ((Jvm.Cond.arrayClass Jvm.ClassFile.FieldType.byte) : Jvm.Cond).before a0 Z = true := H.1 _ (List.mem_of_getElem? (i := 29) rfl)
theorem w_30 {Z : State} {a0 : Array Value} (H : Wd Z a0) : ((Jvm.Cond.methodLink "java/lang/StringUTF16" (115 : Nat) ({ cls := "java/lang/StringUTF16", name := "compress", desc := "([CI[BII)I" } : Jvm.MethodName)) : Jvm.Cond).before a0 Z = true := H.1 _ (List.mem_of_getElem? (i := 30) rfl)
theorem w_31 {Z : State} {a0 : Array Value} (H : Wd Z a0) : ((Jvm.Cond.static ({ cls := "java/lang/StringUTF16", name := "compress", desc := "([CI[BII)I" } : Jvm.MethodName)) : Jvm.Cond).before a0 Z = true := H.1 _ (List.mem_of_getElem? (i := 31) rfl)
theorem w_32 {Z : State} {a0 : Array Value} (H : Wd Z a0) : ((Jvm.Cond.code ({ cls := "java/lang/StringUTF16", name := "compress", desc := "([CI[BII)I" } : Jvm.MethodName) jdk_52_method_21_code (7 : Nat) (Option.some Jvm.ClassFile.FieldType.int)) : Jvm.Cond).before a0 Z = true := H.1 _ (List.mem_of_getElem? (i := 32) rfl)
theorem w_33 {Z : State} {a0 : Array Value} (H : Wd Z a0) : ((Jvm.Cond.methodLink "java/lang/String" (47 : Nat) ({ cls := "java/lang/StringUTF16", name := "coderFromArrayLen", desc := "([BI)B" } : Jvm.MethodName)) : Jvm.Cond).before a0 Z = true := H.1 _ (List.mem_of_getElem? (i := 33) rfl)
theorem w_34 {Z : State} {a0 : Array Value} (H : Wd Z a0) : ((Jvm.Cond.static ({ cls := "java/lang/StringUTF16", name := "coderFromArrayLen", desc := "([BI)B" } : Jvm.MethodName)) : Jvm.Cond).before a0 Z = true := H.1 _ (List.mem_of_getElem? (i := 34) rfl)
theorem w_35 {Z : State} {a0 : Array Value} (H : Wd Z a0) : ((Jvm.Cond.code ({ cls := "java/lang/StringUTF16", name := "coderFromArrayLen", desc := "([BI)B" } : Jvm.MethodName) jdk_52_method_15_code (2 : Nat) (Option.some Jvm.ClassFile.FieldType.byte)) : Jvm.Cond).before a0 Z = true := H.1 _ (List.mem_of_getElem? (i := 35) rfl)
theorem w_36 {Z : State} {a0 : Array Value} (H : Wd Z a0) : ((Jvm.Cond.fieldLink "java/lang/String" (15 : Nat) "java/lang/String" "coder" "B") : Jvm.Cond).before a0 Z = true := H.1 _ (List.mem_of_getElem? (i := 36) rfl)
theorem w_37 {Z : State} {a0 : Array Value} (H : Wd Z a0) : ((Jvm.Cond.laysFinal "java/lang/String" "java/lang/String" "coder" "B") : Jvm.Cond).before a0 Z = true := H.1 _ (List.mem_of_getElem? (i := 37) rfl)
theorem w_38 {Z : State} {a0 : Array Value} (H : Wd Z a0) : ((Jvm.Cond.fieldLink "java/lang/String" (9 : Nat) "java/lang/String" "value" "[B") : Jvm.Cond).before a0 Z = true := H.1 _ (List.mem_of_getElem? (i := 38) rfl)
theorem w_39 {Z : State} {a0 : Array Value} (H : Wd Z a0) : ((Jvm.Cond.laysFinal "java/lang/String" "java/lang/String" "value" "[B") : Jvm.Cond).before a0 Z = true := H.1 _ (List.mem_of_getElem? (i := 39) rfl)
theorem w_40 {Z : State} {a0 : Array Value} (H : Wd Z a0) : ((Jvm.Cond.methodLink "com/example/tabane/tabane/url/PercentEscapesByteAtPinLaw" (38 : Nat) ({ cls := "com/example/tabane/tabane/url/PercentEscapes", name := "byteAt", desc := "(Ljava/lang/String;I)I" } : Jvm.MethodName)) : Jvm.Cond).before a0 Z = true := H.1 _ (List.mem_of_getElem? (i := 40) rfl)
theorem w_41 {Z : State} {a0 : Array Value} (H : Wd Z a0) : ((Jvm.Cond.static ({ cls := "com/example/tabane/tabane/url/PercentEscapes", name := "byteAt", desc := "(Ljava/lang/String;I)I" } : Jvm.MethodName)) : Jvm.Cond).before a0 Z = true := H.1 _ (List.mem_of_getElem? (i := 41) rfl)
theorem w_42 {Z : State} {a0 : Array Value} (H : Wd Z a0) : ((Jvm.Cond.initialized "com/example/tabane/tabane/url/PercentEscapes") : Jvm.Cond).before a0 Z = true := H.1 _ (List.mem_of_getElem? (i := 42) rfl)
theorem w_43 {Z : State} {a0 : Array Value} (H : Wd Z a0) : ((Jvm.Cond.code ({ cls := "com/example/tabane/tabane/url/PercentEscapes", name := "byteAt", desc := "(Ljava/lang/String;I)I" } : Jvm.MethodName) prog_43_method_2_code (4 : Nat) (Option.some Jvm.ClassFile.FieldType.int)) : Jvm.Cond).before a0 Z = true := H.1 _ (List.mem_of_getElem? (i := 43) rfl)
theorem w_44 {Z : State} {a0 : Array Value} (H : Wd Z a0) : ((Jvm.Cond.methodLink "com/example/tabane/tabane/url/PercentEscapes" (7 : Nat) ({ cls := "java/lang/String", name := "length", desc := "()I" } : Jvm.MethodName)) : Jvm.Cond).before a0 Z = true := H.1 _ (List.mem_of_getElem? (i := 44) rfl)
theorem w_45 {Z : State} {a0 : Array Value} (H : Wd Z a0) : ((Jvm.Cond.declares ({ cls := "java/lang/String", name := "length", desc := "()I" } : Jvm.MethodName)) : Jvm.Cond).before a0 Z = true := H.1 _ (List.mem_of_getElem? (i := 45) rfl)
theorem w_46 {Z : State} {a0 : Array Value} (H : Wd Z a0) : ((Jvm.Cond.instanceMethod ({ cls := "java/lang/String", name := "length", desc := "()I" } : Jvm.MethodName)) : Jvm.Cond).before a0 Z = true := H.1 _ (List.mem_of_getElem? (i := 46) rfl)
theorem w_47 {Z : State} {a0 : Array Value} (H : Wd Z a0) : ((Jvm.Cond.selects "java/lang/String" ({ cls := "java/lang/String", name := "length", desc := "()I" } : Jvm.MethodName) ({ cls := "java/lang/String", name := "length", desc := "()I" } : Jvm.MethodName)) : Jvm.Cond).before a0 Z = true := H.1 _ (List.mem_of_getElem? (i := 47) rfl)
theorem w_48 {Z : State} {a0 : Array Value} (H : Wd Z a0) : ((Jvm.Cond.code ({ cls := "java/lang/String", name := "length", desc := "()I" } : Jvm.MethodName) jdk_42_method_54_code (1 : Nat) (Option.some Jvm.ClassFile.FieldType.int)) : Jvm.Cond).before a0 Z = true := H.1 _ (List.mem_of_getElem? (i := 48) rfl)
theorem w_49 {Z : State} {a0 : Array Value} (H : Wd Z a0) : ((Jvm.Cond.methodLink "java/lang/String" (335 : Nat) ({ cls := "java/lang/String", name := "coder", desc := "()B" } : Jvm.MethodName)) : Jvm.Cond).before a0 Z = true := H.1 _ (List.mem_of_getElem? (i := 49) rfl)
theorem w_50 {Z : State} {a0 : Array Value} (H : Wd Z a0) : ((Jvm.Cond.declares ({ cls := "java/lang/String", name := "coder", desc := "()B" } : Jvm.MethodName)) : Jvm.Cond).before a0 Z = true := H.1 _ (List.mem_of_getElem? (i := 50) rfl)
theorem w_51 {Z : State} {a0 : Array Value} (H : Wd Z a0) : ((Jvm.Cond.instanceMethod ({ cls := "java/lang/String", name := "coder", desc := "()B" } : Jvm.MethodName)) : Jvm.Cond).before a0 Z = true := H.1 _ (List.mem_of_getElem? (i := 51) rfl)
theorem w_52 {Z : State} {a0 : Array Value} (H : Wd Z a0) : ((Jvm.Cond.selects "java/lang/String" ({ cls := "java/lang/String", name := "coder", desc := "()B" } : Jvm.MethodName) ({ cls := "java/lang/String", name := "coder", desc := "()B" } : Jvm.MethodName)) : Jvm.Cond).before a0 Z = true := H.1 _ (List.mem_of_getElem? (i := 52) rfl)
theorem w_53 {Z : State} {a0 : Array Value} (H : Wd Z a0) : ((Jvm.Cond.code ({ cls := "java/lang/String", name := "coder", desc := "()B" } : Jvm.MethodName) jdk_42_method_152_code (1 : Nat) (Option.some Jvm.ClassFile.FieldType.byte)) : Jvm.Cond).before a0 Z = true := H.1 _ (List.mem_of_getElem? (i := 53) rfl)
theorem w_54 {Z : State} {a0 : Array Value} (H : Wd Z a0) : ((Jvm.Cond.stringLink "com/example/tabane/tabane/url/PercentEscapesByteAtPinLaw" (9 : Nat) "/0123456789:@ABCDEFG`abcdefg") : Jvm.Cond).before a0 Z = true := H.1 _ (List.mem_of_getElem? (i := 54) rfl)
theorem w_55 {Z : State} {a0 : Array Value} (H : Wd Z a0) : ((Jvm.Cond.soleField "java/lang/String" "value") : Jvm.Cond).before a0 Z = true := H.1 _ (List.mem_of_getElem? (i := 55) rfl)
theorem w_56 {Z : State} {a0 : Array Value} (H : Wd Z a0) : ((Jvm.Cond.soleField "java/lang/String" "coder") : Jvm.Cond).before a0 Z = true := H.1 _ (List.mem_of_getElem? (i := 56) rfl)
theorem w_57 {Z : State} {a0 : Array Value} (H : Wd Z a0) : ((Jvm.Cond.methodLink "com/example/tabane/tabane/url/PercentEscapesByteAtPinLaw" (11 : Nat) ({ cls := "java/lang/String", name := "charAt", desc := "(I)C" } : Jvm.MethodName)) : Jvm.Cond).before a0 Z = true := H.1 _ (List.mem_of_getElem? (i := 57) rfl)
theorem w_58 {Z : State} {a0 : Array Value} (H : Wd Z a0) : ((Jvm.Cond.declares ({ cls := "java/lang/String", name := "charAt", desc := "(I)C" } : Jvm.MethodName)) : Jvm.Cond).before a0 Z = true := H.1 _ (List.mem_of_getElem? (i := 58) rfl)
theorem w_59 {Z : State} {a0 : Array Value} (H : Wd Z a0) : ((Jvm.Cond.instanceMethod ({ cls := "java/lang/String", name := "charAt", desc := "(I)C" } : Jvm.MethodName)) : Jvm.Cond).before a0 Z = true := H.1 _ (List.mem_of_getElem? (i := 59) rfl)
theorem w_60 {Z : State} {a0 : Array Value} (H : Wd Z a0) : ((Jvm.Cond.selects "java/lang/String" ({ cls := "java/lang/String", name := "charAt", desc := "(I)C" } : Jvm.MethodName) ({ cls := "java/lang/String", name := "charAt", desc := "(I)C" } : Jvm.MethodName)) : Jvm.Cond).before a0 Z = true := H.1 _ (List.mem_of_getElem? (i := 60) rfl)
theorem w_61 {Z : State} {a0 : Array Value} (H : Wd Z a0) : ((Jvm.Cond.code ({ cls := "java/lang/String", name := "charAt", desc := "(I)C" } : Jvm.MethodName) jdk_42_method_56_code (2 : Nat) (Option.some Jvm.ClassFile.FieldType.char)) : Jvm.Cond).before a0 Z = true := H.1 _ (List.mem_of_getElem? (i := 61) rfl)
theorem w_62 {Z : State} {a0 : Array Value} (H : Wd Z a0) : ((Jvm.Cond.methodLink "java/lang/String" (492 : Nat) ({ cls := "java/lang/String", name := "isLatin1", desc := "()Z" } : Jvm.MethodName)) : Jvm.Cond).before a0 Z = true := H.1 _ (List.mem_of_getElem? (i := 62) rfl)
theorem w_63 {Z : State} {a0 : Array Value} (H : Wd Z a0) : ((Jvm.Cond.declares ({ cls := "java/lang/String", name := "isLatin1", desc := "()Z" } : Jvm.MethodName)) : Jvm.Cond).before a0 Z = true := H.1 _ (List.mem_of_getElem? (i := 63) rfl)
theorem w_64 {Z : State} {a0 : Array Value} (H : Wd Z a0) : ((Jvm.Cond.instanceMethod ({ cls := "java/lang/String", name := "isLatin1", desc := "()Z" } : Jvm.MethodName)) : Jvm.Cond).before a0 Z = true := H.1 _ (List.mem_of_getElem? (i := 64) rfl)
theorem w_65 {Z : State} {a0 : Array Value} (H : Wd Z a0) : ((Jvm.Cond.selects "java/lang/String" ({ cls := "java/lang/String", name := "isLatin1", desc := "()Z" } : Jvm.MethodName) ({ cls := "java/lang/String", name := "isLatin1", desc := "()Z" } : Jvm.MethodName)) : Jvm.Cond).before a0 Z = true := H.1 _ (List.mem_of_getElem? (i := 65) rfl)
theorem w_66 {Z : State} {a0 : Array Value} (H : Wd Z a0) : ((Jvm.Cond.code ({ cls := "java/lang/String", name := "isLatin1", desc := "()Z" } : Jvm.MethodName) jdk_42_method_154_code (1 : Nat) (Option.some Jvm.ClassFile.FieldType.boolean)) : Jvm.Cond).before a0 Z = true := H.1 _ (List.mem_of_getElem? (i := 66) rfl)
theorem w_67 {Z : State} {a0 : Array Value} (H : Wd Z a0) : ((Jvm.Cond.methodLink "java/lang/String" (495 : Nat) ({ cls := "java/lang/StringLatin1", name := "charAt", desc := "([BI)C" } : Jvm.MethodName)) : Jvm.Cond).before a0 Z = true := H.1 _ (List.mem_of_getElem? (i := 67) rfl)
theorem w_68 {Z : State} {a0 : Array Value} (H : Wd Z a0) : ((Jvm.Cond.static ({ cls := "java/lang/StringLatin1", name := "charAt", desc := "([BI)C" } : Jvm.MethodName)) : Jvm.Cond).before a0 Z = true := H.1 _ (List.mem_of_getElem? (i := 68) rfl)
theorem w_69 {Z : State} {a0 : Array Value} (H : Wd Z a0) : ((Jvm.Cond.initialized "java/lang/StringLatin1") : Jvm.Cond).before a0 Z = true := H.1 _ (List.mem_of_getElem? (i := 69) rfl)
theorem w_70 {Z : State} {a0 : Array Value} (H : Wd Z a0) : ((Jvm.Cond.code ({ cls := "java/lang/StringLatin1", name := "charAt", desc := "([BI)C" } : Jvm.MethodName) jdk_43_method_2_code (2 : Nat) (Option.some Jvm.ClassFile.FieldType.char)) : Jvm.Cond).before a0 Z = true := H.1 _ (List.mem_of_getElem? (i := 70) rfl)
theorem w_71 {Z : State} {a0 : Array Value} (H : Wd Z a0) : ((Jvm.Cond.methodLink "java/lang/StringLatin1" (9 : Nat) ({ cls := "java/lang/String", name := "checkIndex", desc := "(II)V" } : Jvm.MethodName)) : Jvm.Cond).before a0 Z = true := H.1 _ (List.mem_of_getElem? (i := 71) rfl)
theorem w_72 {Z : State} {a0 : Array Value} (H : Wd Z a0) : ((Jvm.Cond.static ({ cls := "java/lang/String", name := "checkIndex", desc := "(II)V" } : Jvm.MethodName)) : Jvm.Cond).before a0 Z = true := H.1 _ (List.mem_of_getElem? (i := 72) rfl)
theorem w_73 {Z : State} {a0 : Array Value} (H : Wd Z a0) : ((Jvm.Cond.code ({ cls := "java/lang/String", name := "checkIndex", desc := "(II)V" } : Jvm.MethodName) jdk_42_method_155_code (2 : Nat) (Option.none : Option Jvm.ClassFile.FieldType)) : Jvm.Cond).before a0 Z = true := H.1 _ (List.mem_of_getElem? (i := 73) rfl)
theorem w_74 {Z : State} {a0 : Array Value} (H : Wd Z a0) : ((Jvm.Cond.fieldLink "java/lang/String" (1053 : Nat) "jdk/internal/util/Preconditions" "SIOOBE_FORMATTER" "Ljava/util/function/BiFunction;") : Jvm.Cond).before a0 Z = true := H.1 _ (List.mem_of_getElem? (i := 74) rfl)
theorem w_75 {Z : State} {a0 : Array Value} (H : Wd Z a0) : ((Jvm.Cond.initialized "jdk/internal/util/Preconditions") : Jvm.Cond).before a0 Z = true := H.1 _ (List.mem_of_getElem? (i := 75) rfl)
theorem w_76 {Z : State} {a0 : Array Value} (H : Wd Z a0) : ((Jvm.Cond.methodLink "java/lang/String" (1059 : Nat) ({ cls := "jdk/internal/util/Preconditions", name := "checkIndex", desc := "(IILjava/util/function/BiFunction;)I" } : Jvm.MethodName)) : Jvm.Cond).before a0 Z = true := H.1 _ (List.mem_of_getElem? (i := 76) rfl)
theorem w_77 {Z : State} {a0 : Array Value} (H : Wd Z a0) : ((Jvm.Cond.static ({ cls := "jdk/internal/util/Preconditions", name := "checkIndex", desc := "(IILjava/util/function/BiFunction;)I" } : Jvm.MethodName)) : Jvm.Cond).before a0 Z = true := H.1 _ (List.mem_of_getElem? (i := 77) rfl)
theorem w_78 {Z : State} {a0 : Array Value} (H : Wd Z a0) : ((Jvm.Cond.code ({ cls := "jdk/internal/util/Preconditions", name := "checkIndex", desc := "(IILjava/util/function/BiFunction;)I" } : Jvm.MethodName) jdk_41_method_11_code (3 : Nat) (Option.some Jvm.ClassFile.FieldType.int)) : Jvm.Cond).before a0 Z = true := H.1 _ (List.mem_of_getElem? (i := 78) rfl)
theorem w_79 {Z : State} {a0 : Array Value} (H : Wd Z a0) : ((Jvm.Cond.methodLink "java/lang/StringUTF16" (119 : Nat) ({ cls := "java/lang/StringUTF16", name := "toBytes", desc := "([CII)[B" } : Jvm.MethodName)) : Jvm.Cond).before a0 Z = true := H.1 _ (List.mem_of_getElem? (i := 79) rfl)
theorem w_80 {Z : State} {a0 : Array Value} (H : Wd Z a0) : ((Jvm.Cond.static ({ cls := "java/lang/StringUTF16", name := "toBytes", desc := "([CII)[B" } : Jvm.MethodName)) : Jvm.Cond).before a0 Z = true := H.1 _ (List.mem_of_getElem? (i := 80) rfl)
theorem w_81 {Z : State} {a0 : Array Value} (H : Wd Z a0) : ((Jvm.Cond.code ({ cls := "java/lang/StringUTF16", name := "toBytes", desc := "([CII)[B" } : Jvm.MethodName) jdk_52_method_14_code (5 : Nat) (Option.some (Jvm.ClassFile.FieldType.array Jvm.ClassFile.FieldType.byte))) : Jvm.Cond).before a0 Z = true := H.1 _ (List.mem_of_getElem? (i := 81) rfl)
theorem w_82 {Z : State} {a0 : Array Value} (H : Wd Z a0) : ((Jvm.Cond.methodLink "java/lang/StringUTF16" (107 : Nat) ({ cls := "java/lang/StringUTF16", name := "newBytesFor", desc := "(I)[B" } : Jvm.MethodName)) : Jvm.Cond).before a0 Z = true := H.1 _ (List.mem_of_getElem? (i := 82) rfl)
theorem w_83 {Z : State} {a0 : Array Value} (H : Wd Z a0) : ((Jvm.Cond.static ({ cls := "java/lang/StringUTF16", name := "newBytesFor", desc := "(I)[B" } : Jvm.MethodName)) : Jvm.Cond).before a0 Z = true := H.1 _ (List.mem_of_getElem? (i := 83) rfl)
theorem w_84 {Z : State} {a0 : Array Value} (H : Wd Z a0) : ((Jvm.Cond.code ({ cls := "java/lang/StringUTF16", name := "newBytesFor", desc := "(I)[B" } : Jvm.MethodName) jdk_52_method_2_code (1 : Nat) (Option.some (Jvm.ClassFile.FieldType.array Jvm.ClassFile.FieldType.byte))) : Jvm.Cond).before a0 Z = true := H.1 _ (List.mem_of_getElem? (i := 84) rfl)
theorem w_85 {Z : State} {a0 : Array Value} (H : Wd Z a0) : ((Jvm.Cond.methodLink "java/lang/StringUTF16" (11 : Nat) ({ cls := "java/lang/StringUTF16", name := "newBytesLength", desc := "(I)I" } : Jvm.MethodName)) : Jvm.Cond).before a0 Z = true := H.1 _ (List.mem_of_getElem? (i := 85) rfl)
theorem w_86 {Z : State} {a0 : Array Value} (H : Wd Z a0) : ((Jvm.Cond.static ({ cls := "java/lang/StringUTF16", name := "newBytesLength", desc := "(I)I" } : Jvm.MethodName)) : Jvm.Cond).before a0 Z = true := H.1 _ (List.mem_of_getElem? (i := 86) rfl)
theorem w_87 {Z : State} {a0 : Array Value} (H : Wd Z a0) : ((Jvm.Cond.code ({ cls := "java/lang/StringUTF16", name := "newBytesLength", desc := "(I)I" } : Jvm.MethodName) jdk_52_method_3_code (1 : Nat) (Option.some Jvm.ClassFile.FieldType.int)) : Jvm.Cond).before a0 Z = true := H.1 _ (List.mem_of_getElem? (i := 87) rfl)
theorem w_88 {Z : State} {a0 : Array Value} (H : Wd Z a0) : ((Jvm.Cond.constant "java/lang/StringUTF16" (20 : Nat) (1073741823 : Int32)) : Jvm.Cond).before a0 Z = true := H.1 _ (List.mem_of_getElem? (i := 88) rfl)
theorem w_89 {Z : State} {a0 : Array Value} (H : Wd Z a0) : ((Jvm.Cond.methodLink "java/lang/StringUTF16" (111 : Nat) ({ cls := "java/lang/StringUTF16", name := "putChar", desc := "([BII)V" } : Jvm.MethodName)) : Jvm.Cond).before a0 Z = true := H.1 _ (List.mem_of_getElem? (i := 89) rfl)
theorem w_90 {Z : State} {a0 : Array Value} (H : Wd Z a0) : ((Jvm.Cond.static ({ cls := "java/lang/StringUTF16", name := "putChar", desc := "([BII)V" } : Jvm.MethodName)) : Jvm.Cond).before a0 Z = true := H.1 _ (List.mem_of_getElem? (i := 90) rfl)
theorem w_91 {Z : State} {a0 : Array Value} (H : Wd Z a0) : ((Jvm.Cond.code ({ cls := "java/lang/StringUTF16", name := "putChar", desc := "([BII)V" } : Jvm.MethodName) jdk_52_method_4_code (3 : Nat) (Option.none : Option Jvm.ClassFile.FieldType)) : Jvm.Cond).before a0 Z = true := H.1 _ (List.mem_of_getElem? (i := 91) rfl)
theorem w_92 {Z : State} {a0 : Array Value} (H : Wd Z a0) : ((Jvm.Cond.fieldLink "java/lang/StringUTF16" (44 : Nat) "java/lang/StringUTF16" "$assertionsDisabled" "Z") : Jvm.Cond).before a0 Z = true := H.1 _ (List.mem_of_getElem? (i := 92) rfl)
theorem w_93 {Z : State} {a0 : Array Value} (H : Wd Z a0) : ((Jvm.Cond.fieldLink "java/lang/StringUTF16" (59 : Nat) "java/lang/StringUTF16" "HI_BYTE_SHIFT" "I") : Jvm.Cond).before a0 Z = true := H.1 _ (List.mem_of_getElem? (i := 93) rfl)
theorem w_94 {Z : State} {a0 : Array Value} (H : Wd Z a0) : ((Jvm.Cond.fieldLink "java/lang/StringUTF16" (63 : Nat) "java/lang/StringUTF16" "LO_BYTE_SHIFT" "I") : Jvm.Cond).before a0 Z = true := H.1 _ (List.mem_of_getElem? (i := 94) rfl)
theorem w_95 {Z : State} {a0 : Array Value} (H : Wd Z a0) : ((Jvm.Cond.methodLink "java/lang/StringUTF16" (71 : Nat) ({ cls := "java/lang/StringUTF16", name := "getChar", desc := "([BI)C" } : Jvm.MethodName)) : Jvm.Cond).before a0 Z = true := H.1 _ (List.mem_of_getElem? (i := 95) rfl)
theorem w_96 {Z : State} {a0 : Array Value} (H : Wd Z a0) : ((Jvm.Cond.static ({ cls := "java/lang/StringUTF16", name := "getChar", desc := "([BI)C" } : Jvm.MethodName)) : Jvm.Cond).before a0 Z = true := H.1 _ (List.mem_of_getElem? (i := 96) rfl)
theorem w_97 {Z : State} {a0 : Array Value} (H : Wd Z a0) : ((Jvm.Cond.code ({ cls := "java/lang/StringUTF16", name := "getChar", desc := "([BI)C" } : Jvm.MethodName) jdk_52_method_5_code (2 : Nat) (Option.some Jvm.ClassFile.FieldType.char)) : Jvm.Cond).before a0 Z = true := H.1 _ (List.mem_of_getElem? (i := 97) rfl)
theorem w_98 {Z : State} {a0 : Array Value} (H : Wd Z a0) : ((Jvm.Cond.methodLink "com/example/tabane/tabane/url/PercentEscapesByteAtPinLaw" (30 : Nat) ({ cls := "com/example/tabane/tabane/url/PercentEscapesByteAtPinLaw", name := "pick", desc := "(ICCCC)C" } : Jvm.MethodName)) : Jvm.Cond).before a0 Z = true := H.1 _ (List.mem_of_getElem? (i := 98) rfl)
theorem w_99 {Z : State} {a0 : Array Value} (H : Wd Z a0) : ((Jvm.Cond.static ({ cls := "com/example/tabane/tabane/url/PercentEscapesByteAtPinLaw", name := "pick", desc := "(ICCCC)C" } : Jvm.MethodName)) : Jvm.Cond).before a0 Z = true := H.1 _ (List.mem_of_getElem? (i := 99) rfl)
theorem w_100 {Z : State} {a0 : Array Value} (H : Wd Z a0) : ((Jvm.Cond.code ({ cls := "com/example/tabane/tabane/url/PercentEscapesByteAtPinLaw", name := "pick", desc := "(ICCCC)C" } : Jvm.MethodName) method_4_code (5 : Nat) (Option.some Jvm.ClassFile.FieldType.char)) : Jvm.Cond).before a0 Z = true := H.1 _ (List.mem_of_getElem? (i := 100) rfl)
theorem w_101 {Z : State} {a0 : Array Value} (H : Wd Z a0) : ((Jvm.Cond.methodLink "com/example/tabane/tabane/url/PercentEscapesByteAtPinLaw" (34 : Nat) ({ cls := "com/example/tabane/tabane/url/PercentEscapesByteAtPinLaw", name := "hex", desc := "(C)I" } : Jvm.MethodName)) : Jvm.Cond).before a0 Z = true := H.1 _ (List.mem_of_getElem? (i := 101) rfl)
theorem w_102 {Z : State} {a0 : Array Value} (H : Wd Z a0) : ((Jvm.Cond.static ({ cls := "com/example/tabane/tabane/url/PercentEscapesByteAtPinLaw", name := "hex", desc := "(C)I" } : Jvm.MethodName)) : Jvm.Cond).before a0 Z = true := H.1 _ (List.mem_of_getElem? (i := 102) rfl)
theorem w_103 {Z : State} {a0 : Array Value} (H : Wd Z a0) : ((Jvm.Cond.code ({ cls := "com/example/tabane/tabane/url/PercentEscapesByteAtPinLaw", name := "hex", desc := "(C)I" } : Jvm.MethodName) method_3_code (1 : Nat) (Option.some Jvm.ClassFile.FieldType.int)) : Jvm.Cond).before a0 Z = true := H.1 _ (List.mem_of_getElem? (i := 103) rfl)
theorem w_104 {Z : State} {a0 : Array Value} (H : Wd Z a0) : ((Jvm.Cond.methodLink "com/example/tabane/tabane/url/PercentEscapes" (13 : Nat) ({ cls := "java/lang/String", name := "charAt", desc := "(I)C" } : Jvm.MethodName)) : Jvm.Cond).before a0 Z = true := H.1 _ (List.mem_of_getElem? (i := 104) rfl)
theorem w_105 {Z : State} {a0 : Array Value} (H : Wd Z a0) : ((Jvm.Cond.methodLink "com/example/tabane/tabane/url/PercentEscapes" (17 : Nat) ({ cls := "com/example/tabane/tabane/url/PercentEscapes", name := "hexValue", desc := "(C)I" } : Jvm.MethodName)) : Jvm.Cond).before a0 Z = true := H.1 _ (List.mem_of_getElem? (i := 105) rfl)
theorem w_106 {Z : State} {a0 : Array Value} (H : Wd Z a0) : ((Jvm.Cond.static ({ cls := "com/example/tabane/tabane/url/PercentEscapes", name := "hexValue", desc := "(C)I" } : Jvm.MethodName)) : Jvm.Cond).before a0 Z = true := H.1 _ (List.mem_of_getElem? (i := 106) rfl)
theorem w_107 {Z : State} {a0 : Array Value} (H : Wd Z a0) : ((Jvm.Cond.code ({ cls := "com/example/tabane/tabane/url/PercentEscapes", name := "hexValue", desc := "(C)I" } : Jvm.MethodName) prog_43_method_6_code (2 : Nat) (Option.some Jvm.ClassFile.FieldType.int)) : Jvm.Cond).before a0 Z = true := H.1 _ (List.mem_of_getElem? (i := 107) rfl)
theorem w_108 {Z : State} {a0 : Array Value} (H : Wd Z a0) : ((Jvm.Cond.stringLink "com/example/tabane/tabane/url/PercentEscapes" (51 : Nat) "0123456789ABCDEFabcdef") : Jvm.Cond).before a0 Z = true := H.1 _ (List.mem_of_getElem? (i := 108) rfl)
theorem w_109 {Z : State} {a0 : Array Value} (H : Wd Z a0) : ((Jvm.Cond.methodLink "com/example/tabane/tabane/url/PercentEscapes" (23 : Nat) ({ cls := "java/lang/String", name := "indexOf", desc := "(I)I" } : Jvm.MethodName)) : Jvm.Cond).before a0 Z = true := H.1 _ (List.mem_of_getElem? (i := 109) rfl)
theorem w_110 {Z : State} {a0 : Array Value} (H : Wd Z a0) : ((Jvm.Cond.declares ({ cls := "java/lang/String", name := "indexOf", desc := "(I)I" } : Jvm.MethodName)) : Jvm.Cond).before a0 Z = true := H.1 _ (List.mem_of_getElem? (i := 110) rfl)
theorem w_111 {Z : State} {a0 : Array Value} (H : Wd Z a0) : ((Jvm.Cond.instanceMethod ({ cls := "java/lang/String", name := "indexOf", desc := "(I)I" } : Jvm.MethodName)) : Jvm.Cond).before a0 Z = true := H.1 _ (List.mem_of_getElem? (i := 111) rfl)
theorem w_112 {Z : State} {a0 : Array Value} (H : Wd Z a0) : ((Jvm.Cond.selects "java/lang/String" ({ cls := "java/lang/String", name := "indexOf", desc := "(I)I" } : Jvm.MethodName) ({ cls := "java/lang/String", name := "indexOf", desc := "(I)I" } : Jvm.MethodName)) : Jvm.Cond).before a0 Z = true := H.1 _ (List.mem_of_getElem? (i := 112) rfl)
theorem w_113 {Z : State} {a0 : Array Value} (H : Wd Z a0) : ((Jvm.Cond.code ({ cls := "java/lang/String", name := "indexOf", desc := "(I)I" } : Jvm.MethodName) jdk_42_method_79_code (2 : Nat) (Option.some Jvm.ClassFile.FieldType.int)) : Jvm.Cond).before a0 Z = true := H.1 _ (List.mem_of_getElem? (i := 113) rfl)
theorem w_114 {Z : State} {a0 : Array Value} (H : Wd Z a0) : ((Jvm.Cond.methodLink "java/lang/String" (633 : Nat) ({ cls := "java/lang/String", name := "indexOf", desc := "(II)I" } : Jvm.MethodName)) : Jvm.Cond).before a0 Z = true := H.1 _ (List.mem_of_getElem? (i := 114) rfl)
theorem w_115 {Z : State} {a0 : Array Value} (H : Wd Z a0) : ((Jvm.Cond.declares ({ cls := "java/lang/String", name := "indexOf", desc := "(II)I" } : Jvm.MethodName)) : Jvm.Cond).before a0 Z = true := H.1 _ (List.mem_of_getElem? (i := 115) rfl)
theorem w_116 {Z : State} {a0 : Array Value} (H : Wd Z a0) : ((Jvm.Cond.instanceMethod ({ cls := "java/lang/String", name := "indexOf", desc := "(II)I" } : Jvm.MethodName)) : Jvm.Cond).before a0 Z = true := H.1 _ (List.mem_of_getElem? (i := 116) rfl)
theorem w_117 {Z : State} {a0 : Array Value} (H : Wd Z a0) : ((Jvm.Cond.selects "java/lang/String" ({ cls := "java/lang/String", name := "indexOf", desc := "(II)I" } : Jvm.MethodName) ({ cls := "java/lang/String", name := "indexOf", desc := "(II)I" } : Jvm.MethodName)) : Jvm.Cond).before a0 Z = true := H.1 _ (List.mem_of_getElem? (i := 117) rfl)
theorem w_118 {Z : State} {a0 : Array Value} (H : Wd Z a0) : ((Jvm.Cond.code ({ cls := "java/lang/String", name := "indexOf", desc := "(II)I" } : Jvm.MethodName) jdk_42_method_80_code (3 : Nat) (Option.some Jvm.ClassFile.FieldType.int)) : Jvm.Cond).before a0 Z = true := H.1 _ (List.mem_of_getElem? (i := 118) rfl)
theorem w_119 {Z : State} {a0 : Array Value} (H : Wd Z a0) : ((Jvm.Cond.methodLink "java/lang/String" (505 : Nat) ({ cls := "java/lang/String", name := "length", desc := "()I" } : Jvm.MethodName)) : Jvm.Cond).before a0 Z = true := H.1 _ (List.mem_of_getElem? (i := 119) rfl)
theorem w_120 {Z : State} {a0 : Array Value} (H : Wd Z a0) : ((Jvm.Cond.methodLink "java/lang/String" (637 : Nat) ({ cls := "java/lang/StringLatin1", name := "indexOf", desc := "([BIII)I" } : Jvm.MethodName)) : Jvm.Cond).before a0 Z = true := H.1 _ (List.mem_of_getElem? (i := 120) rfl)
theorem w_121 {Z : State} {a0 : Array Value} (H : Wd Z a0) : ((Jvm.Cond.static ({ cls := "java/lang/StringLatin1", name := "indexOf", desc := "([BIII)I" } : Jvm.MethodName)) : Jvm.Cond).before a0 Z = true := H.1 _ (List.mem_of_getElem? (i := 121) rfl)
theorem w_122 {Z : State} {a0 : Array Value} (H : Wd Z a0) : ((Jvm.Cond.code ({ cls := "java/lang/StringLatin1", name := "indexOf", desc := "([BIII)I" } : Jvm.MethodName) jdk_43_method_22_code (4 : Nat) (Option.some Jvm.ClassFile.FieldType.int)) : Jvm.Cond).before a0 Z = true := H.1 _ (List.mem_of_getElem? (i := 122) rfl)
theorem w_123 {Z : State} {a0 : Array Value} (H : Wd Z a0) : ((Jvm.Cond.methodLink "java/lang/StringLatin1" (88 : Nat) ({ cls := "java/lang/StringLatin1", name := "canEncode", desc := "(I)Z" } : Jvm.MethodName)) : Jvm.Cond).before a0 Z = true := H.1 _ (List.mem_of_getElem? (i := 123) rfl)
theorem w_124 {Z : State} {a0 : Array Value} (H : Wd Z a0) : ((Jvm.Cond.static ({ cls := "java/lang/StringLatin1", name := "canEncode", desc := "(I)Z" } : Jvm.MethodName)) : Jvm.Cond).before a0 Z = true := H.1 _ (List.mem_of_getElem? (i := 124) rfl)
theorem w_125 {Z : State} {a0 : Array Value} (H : Wd Z a0) : ((Jvm.Cond.code ({ cls := "java/lang/StringLatin1", name := "canEncode", desc := "(I)Z" } : Jvm.MethodName) jdk_43_method_4_code (1 : Nat) (Option.some Jvm.ClassFile.FieldType.boolean)) : Jvm.Cond).before a0 Z = true := H.1 _ (List.mem_of_getElem? (i := 125) rfl)
theorem w_126 {Z : State} {a0 : Array Value} (H : Wd Z a0) : ((Jvm.Cond.methodLink "java/lang/StringLatin1" (92 : Nat) ({ cls := "java/lang/Math", name := "max", desc := "(II)I" } : Jvm.MethodName)) : Jvm.Cond).before a0 Z = true := H.1 _ (List.mem_of_getElem? (i := 126) rfl)
theorem w_127 {Z : State} {a0 : Array Value} (H : Wd Z a0) : ((Jvm.Cond.static ({ cls := "java/lang/Math", name := "max", desc := "(II)I" } : Jvm.MethodName)) : Jvm.Cond).before a0 Z = true := H.1 _ (List.mem_of_getElem? (i := 127) rfl)
theorem w_128 {Z : State} {a0 : Array Value} (H : Wd Z a0) : ((Jvm.Cond.initialized "java/lang/Math") : Jvm.Cond).before a0 Z = true := H.1 _ (List.mem_of_getElem? (i := 128) rfl)
theorem w_129 {Z : State} {a0 : Array Value} (H : Wd Z a0) : ((Jvm.Cond.code ({ cls := "java/lang/Math", name := "max", desc := "(II)I" } : Jvm.MethodName) jdk_29_method_65_code (2 : Nat) (Option.some Jvm.ClassFile.FieldType.int)) : Jvm.Cond).before a0 Z = true := H.1 _ (List.mem_of_getElem? (i := 129) rfl)
theorem w_130 {Z : State} {a0 : Array Value} (H : Wd Z a0) : ((Jvm.Cond.methodLink "java/lang/StringLatin1" (38 : Nat) ({ cls := "java/lang/Math", name := "min", desc := "(II)I" } : Jvm.MethodName)) : Jvm.Cond).before a0 Z = true := H.1 _ (List.mem_of_getElem? (i := 130) rfl)
theorem w_131 {Z : State} {a0 : Array Value} (H : Wd Z a0) : ((Jvm.Cond.static ({ cls := "java/lang/Math", name := "min", desc := "(II)I" } : Jvm.MethodName)) : Jvm.Cond).before a0 Z = true := H.1 _ (List.mem_of_getElem? (i := 131) rfl)
theorem w_132 {Z : State} {a0 : Array Value} (H : Wd Z a0) : ((Jvm.Cond.code ({ cls := "java/lang/Math", name := "min", desc := "(II)I" } : Jvm.MethodName) jdk_29_method_69_code (2 : Nat) (Option.some Jvm.ClassFile.FieldType.int)) : Jvm.Cond).before a0 Z = true := H.1 _ (List.mem_of_getElem? (i := 132) rfl)
theorem w_133 {Z : State} {a0 : Array Value} (H : Wd Z a0) : ((Jvm.Cond.methodLink "java/lang/StringLatin1" (95 : Nat) ({ cls := "java/lang/StringLatin1", name := "indexOfChar", desc := "([BIII)I" } : Jvm.MethodName)) : Jvm.Cond).before a0 Z = true := H.1 _ (List.mem_of_getElem? (i := 133) rfl)
theorem w_134 {Z : State} {a0 : Array Value} (H : Wd Z a0) : ((Jvm.Cond.static ({ cls := "java/lang/StringLatin1", name := "indexOfChar", desc := "([BIII)I" } : Jvm.MethodName)) : Jvm.Cond).before a0 Z = true := H.1 _ (List.mem_of_getElem? (i := 134) rfl)
theorem w_135 {Z : State} {a0 : Array Value} (H : Wd Z a0) : ((Jvm.Cond.code ({ cls := "java/lang/StringLatin1", name := "indexOfChar", desc := "([BIII)I" } : Jvm.MethodName) jdk_43_method_23_code (6 : Nat) (Option.some Jvm.ClassFile.FieldType.int)) : Jvm.Cond).before a0 Z = true := H.1 _ (List.mem_of_getElem? (i := 135) rfl)
theorem w_136 {Z : State} {a0 : Array Value} (H : Wd Z a0) : ((Jvm.Cond.methodLink "java/lang/String" (498 : Nat) ({ cls := "java/lang/StringUTF16", name := "charAt", desc := "([BI)C" } : Jvm.MethodName)) : Jvm.Cond).before a0 Z = true := H.1 _ (List.mem_of_getElem? (i := 136) rfl)
theorem w_137 {Z : State} {a0 : Array Value} (H : Wd Z a0) : ((Jvm.Cond.static ({ cls := "java/lang/StringUTF16", name := "charAt", desc := "([BI)C" } : Jvm.MethodName)) : Jvm.Cond).before a0 Z = true := H.1 _ (List.mem_of_getElem? (i := 137) rfl)
theorem w_138 {Z : State} {a0 : Array Value} (H : Wd Z a0) : ((Jvm.Cond.code ({ cls := "java/lang/StringUTF16", name := "charAt", desc := "([BI)C" } : Jvm.MethodName) jdk_52_method_83_code (2 : Nat) (Option.some Jvm.ClassFile.FieldType.char)) : Jvm.Cond).before a0 Z = true := H.1 _ (List.mem_of_getElem? (i := 138) rfl)
theorem w_139 {Z : State} {a0 : Array Value} (H : Wd Z a0) : ((Jvm.Cond.methodLink "java/lang/StringUTF16" (67 : Nat) ({ cls := "java/lang/StringUTF16", name := "checkIndex", desc := "(I[B)V" } : Jvm.MethodName)) : Jvm.Cond).before a0 Z = true := H.1 _ (List.mem_of_getElem? (i := 139) rfl)
theorem w_140 {Z : State} {a0 : Array Value} (H : Wd Z a0) : ((Jvm.Cond.static ({ cls := "java/lang/StringUTF16", name := "checkIndex", desc := "(I[B)V" } : Jvm.MethodName)) : Jvm.Cond).before a0 Z = true := H.1 _ (List.mem_of_getElem? (i := 140) rfl)
theorem w_141 {Z : State} {a0 : Array Value} (H : Wd Z a0) : ((Jvm.Cond.code ({ cls := "java/lang/StringUTF16", name := "checkIndex", desc := "(I[B)V" } : Jvm.MethodName) jdk_52_method_91_code (2 : Nat) (Option.none : Option Jvm.ClassFile.FieldType)) : Jvm.Cond).before a0 Z = true := H.1 _ (List.mem_of_getElem? (i := 141) rfl)
theorem w_142 {Z : State} {a0 : Array Value} (H : Wd Z a0) : ((Jvm.Cond.methodLink "java/lang/StringUTF16" (48 : Nat) ({ cls := "java/lang/StringUTF16", name := "length", desc := "([B)I" } : Jvm.MethodName)) : Jvm.Cond).before a0 Z = true := H.1 _ (List.mem_of_getElem? (i := 142) rfl)
theorem w_143 {Z : State} {a0 : Array Value} (H : Wd Z a0) : ((Jvm.Cond.static ({ cls := "java/lang/StringUTF16", name := "length", desc := "([B)I" } : Jvm.MethodName)) : Jvm.Cond).before a0 Z = true := H.1 _ (List.mem_of_getElem? (i := 143) rfl)
theorem w_144 {Z : State} {a0 : Array Value} (H : Wd Z a0) : ((Jvm.Cond.code ({ cls := "java/lang/StringUTF16", name := "length", desc := "([B)I" } : Jvm.MethodName) jdk_52_method_6_code (1 : Nat) (Option.some Jvm.ClassFile.FieldType.int)) : Jvm.Cond).before a0 Z = true := H.1 _ (List.mem_of_getElem? (i := 144) rfl)
theorem w_145 {Z : State} {a0 : Array Value} (H : Wd Z a0) : ((Jvm.Cond.methodLink "java/lang/StringUTF16" (414 : Nat) ({ cls := "java/lang/String", name := "checkIndex", desc := "(II)V" } : Jvm.MethodName)) : Jvm.Cond).before a0 Z = true := H.1 _ (List.mem_of_getElem? (i := 145) rfl)
theorem d0_0 : decode method_2_code 0 = .ok (.iload_n 0, 1) := by decide +kernel
theorem d0_1 : decode method_2_code 1 = .ok (.ldc 7, 2) := by decide +kernel
theorem d0_3 : decode method_2_code 3 = .ok (.iand, 1) := by decide +kernel
theorem d0_4 : decode method_2_code 4 = .ok (.ifCond .ne 9, 3) := by decide +kernel
theorem d0_7 : decode method_2_code 7 = .ok (.iload_n 0, 1) := by decide +kernel
theorem d0_8 : decode method_2_code 8 = .ok (.ldc 8, 2) := by decide +kernel
theorem d0_10 : decode method_2_code 10 = .ok (.iand, 1) := by decide +kernel
theorem d0_11 : decode method_2_code 11 = .ok (.i2c, 1) := by decide +kernel
theorem d0_12 : decode method_2_code 12 = .ok (.ireturn, 1) := by decide +kernel
theorem d0_13 : decode method_2_code 13 = .ok (.ldc 9, 2) := by decide +kernel
theorem d0_15 : decode method_2_code 15 = .ok (.iload_n 0, 1) := by decide +kernel
theorem d0_16 : decode method_2_code 16 = .ok (.ldc 8, 2) := by decide +kernel
theorem d0_18 : decode method_2_code 18 = .ok (.iand, 1) := by decide +kernel
theorem d0_19 : decode method_2_code 19 = .ok (.bipush 28, 2) := by decide +kernel
theorem d0_21 : decode method_2_code 21 = .ok (.irem, 1) := by decide +kernel
theorem d0_22 : decode method_2_code 22 = .ok (.invokevirtual 11, 3) := by decide +kernel
theorem d0_25 : decode method_2_code 25 = .ok (.ireturn, 1) := by decide +kernel
theorem d1_0 : decode method_5_code 0 = .ok (.iload_n 0, 1) := by decide +kernel
theorem d1_1 : decode method_5_code 1 = .ok (.iconst 1, 1) := by decide +kernel
theorem d1_2 : decode method_5_code 2 = .ok (.if_icmp .ne 18, 3) := by decide +kernel
theorem d1_5 : decode method_5_code 5 = .ok (.new 12, 3) := by decide +kernel
theorem d1_8 : decode method_5_code 8 = .ok (.dup, 1) := by decide +kernel
theorem d1_9 : decode method_5_code 9 = .ok (.iconst 1, 1) := by decide +kernel
theorem d1_10 : decode method_5_code 10 = .ok (.newarray .char, 2) := by decide +kernel
theorem d1_12 : decode method_5_code 12 = .ok (.dup, 1) := by decide +kernel
theorem d1_13 : decode method_5_code 13 = .ok (.iconst 0, 1) := by decide +kernel
theorem d1_14 : decode method_5_code 14 = .ok (.iload_n 1, 1) := by decide +kernel
theorem d1_15 : decode method_5_code 15 = .ok (.castore, 1) := by decide +kernel
theorem d1_16 : decode method_5_code 16 = .ok (.invokespecial 17, 3) := by decide +kernel
theorem d1_19 : decode method_5_code 19 = .ok (.areturn, 1) := by decide +kernel
theorem d1_20 : decode method_5_code 20 = .ok (.iload_n 0, 1) := by decide +kernel
theorem d1_21 : decode method_5_code 21 = .ok (.iconst 2, 1) := by decide +kernel
theorem d1_22 : decode method_5_code 22 = .ok (.if_icmp .ne 22, 3) := by decide +kernel
theorem d1_25 : decode method_5_code 25 = .ok (.new 12, 3) := by decide +kernel
theorem d1_28 : decode method_5_code 28 = .ok (.dup, 1) := by decide +kernel
theorem d1_29 : decode method_5_code 29 = .ok (.iconst 2, 1) := by decide +kernel
theorem d1_30 : decode method_5_code 30 = .ok (.newarray .char, 2) := by decide +kernel
theorem d1_32 : decode method_5_code 32 = .ok (.dup, 1) := by decide +kernel
theorem d1_33 : decode method_5_code 33 = .ok (.iconst 0, 1) := by decide +kernel
theorem d1_34 : decode method_5_code 34 = .ok (.iload_n 1, 1) := by decide +kernel
theorem d1_35 : decode method_5_code 35 = .ok (.castore, 1) := by decide +kernel
theorem d1_36 : decode method_5_code 36 = .ok (.dup, 1) := by decide +kernel
theorem d1_37 : decode method_5_code 37 = .ok (.iconst 1, 1) := by decide +kernel
theorem d1_38 : decode method_5_code 38 = .ok (.iload_n 2, 1) := by decide +kernel
theorem d1_39 : decode method_5_code 39 = .ok (.castore, 1) := by decide +kernel
theorem d1_40 : decode method_5_code 40 = .ok (.invokespecial 17, 3) := by decide +kernel
theorem d1_43 : decode method_5_code 43 = .ok (.areturn, 1) := by decide +kernel
theorem d1_44 : decode method_5_code 44 = .ok (.iload_n 0, 1) := by decide +kernel
theorem d1_45 : decode method_5_code 45 = .ok (.iconst 3, 1) := by decide +kernel
theorem d1_46 : decode method_5_code 46 = .ok (.if_icmp .ne 26, 3) := by decide +kernel
theorem d1_49 : decode method_5_code 49 = .ok (.new 12, 3) := by decide +kernel
theorem d1_52 : decode method_5_code 52 = .ok (.dup, 1) := by decide +kernel
theorem d1_53 : decode method_5_code 53 = .ok (.iconst 3, 1) := by decide +kernel
theorem d1_54 : decode method_5_code 54 = .ok (.newarray .char, 2) := by decide +kernel
theorem d1_56 : decode method_5_code 56 = .ok (.dup, 1) := by decide +kernel
theorem d1_57 : decode method_5_code 57 = .ok (.iconst 0, 1) := by decide +kernel
theorem d1_58 : decode method_5_code 58 = .ok (.iload_n 1, 1) := by decide +kernel
theorem d1_59 : decode method_5_code 59 = .ok (.castore, 1) := by decide +kernel
theorem d1_60 : decode method_5_code 60 = .ok (.dup, 1) := by decide +kernel
theorem d1_61 : decode method_5_code 61 = .ok (.iconst 1, 1) := by decide +kernel
theorem d1_62 : decode method_5_code 62 = .ok (.iload_n 2, 1) := by decide +kernel
theorem d1_63 : decode method_5_code 63 = .ok (.castore, 1) := by decide +kernel
theorem d1_64 : decode method_5_code 64 = .ok (.dup, 1) := by decide +kernel
theorem d1_65 : decode method_5_code 65 = .ok (.iconst 2, 1) := by decide +kernel
theorem d1_66 : decode method_5_code 66 = .ok (.iload_n 3, 1) := by decide +kernel
theorem d1_67 : decode method_5_code 67 = .ok (.castore, 1) := by decide +kernel
theorem d1_68 : decode method_5_code 68 = .ok (.invokespecial 17, 3) := by decide +kernel
theorem d1_71 : decode method_5_code 71 = .ok (.areturn, 1) := by decide +kernel
theorem d1_72 : decode method_5_code 72 = .ok (.new 12, 3) := by decide +kernel
theorem d1_75 : decode method_5_code 75 = .ok (.dup, 1) := by decide +kernel
theorem d1_76 : decode method_5_code 76 = .ok (.iconst 4, 1) := by decide +kernel
theorem d1_77 : decode method_5_code 77 = .ok (.newarray .char, 2) := by decide +kernel
theorem d1_79 : decode method_5_code 79 = .ok (.dup, 1) := by decide +kernel
theorem d1_80 : decode method_5_code 80 = .ok (.iconst 0, 1) := by decide +kernel
theorem d1_81 : decode method_5_code 81 = .ok (.iload_n 1, 1) := by decide +kernel
theorem d1_82 : decode method_5_code 82 = .ok (.castore, 1) := by decide +kernel
theorem d1_83 : decode method_5_code 83 = .ok (.dup, 1) := by decide +kernel
theorem d1_84 : decode method_5_code 84 = .ok (.iconst 1, 1) := by decide +kernel
theorem d1_85 : decode method_5_code 85 = .ok (.iload_n 2, 1) := by decide +kernel
theorem d1_86 : decode method_5_code 86 = .ok (.castore, 1) := by decide +kernel
theorem d1_87 : decode method_5_code 87 = .ok (.dup, 1) := by decide +kernel
theorem d1_88 : decode method_5_code 88 = .ok (.iconst 2, 1) := by decide +kernel
theorem d1_89 : decode method_5_code 89 = .ok (.iload_n 3, 1) := by decide +kernel
theorem d1_90 : decode method_5_code 90 = .ok (.castore, 1) := by decide +kernel
theorem d1_91 : decode method_5_code 91 = .ok (.dup, 1) := by decide +kernel
theorem d1_92 : decode method_5_code 92 = .ok (.iconst 3, 1) := by decide +kernel
theorem d1_93 : decode method_5_code 93 = .ok (.iload 4, 2) := by decide +kernel
theorem d1_95 : decode method_5_code 95 = .ok (.castore, 1) := by decide +kernel
theorem d1_96 : decode method_5_code 96 = .ok (.invokespecial 17, 3) := by decide +kernel
theorem d1_99 : decode method_5_code 99 = .ok (.areturn, 1) := by decide +kernel
theorem d2_0 : decode jdk_42_method_3_code 0 = .ok (.aload_n 0, 1) := by decide +kernel
theorem d2_1 : decode jdk_42_method_3_code 1 = .ok (.aload_n 1, 1) := by decide +kernel
theorem d2_2 : decode jdk_42_method_3_code 2 = .ok (.iconst 0, 1) := by decide +kernel
theorem d2_3 : decode jdk_42_method_3_code 3 = .ok (.aload_n 1, 1) := by decide +kernel
theorem d2_4 : decode jdk_42_method_3_code 4 = .ok (.arraylength, 1) := by decide +kernel
theorem d2_5 : decode jdk_42_method_3_code 5 = .ok (.aconst_null, 1) := by decide +kernel
theorem d2_6 : decode jdk_42_method_3_code 6 = .ok (.invokespecial 27, 3) := by decide +kernel
theorem d2_9 : decode jdk_42_method_3_code 9 = .ok (.return_, 1) := by decide +kernel
theorem d3_0 : decode jdk_42_method_149_code 0 = .ok (.aload_n 0, 1) := by decide +kernel
theorem d3_1 : decode jdk_42_method_149_code 1 = .ok (.invokespecial 1, 3) := by decide +kernel
theorem d3_4 : decode jdk_42_method_149_code 4 = .ok (.iload_n 3, 1) := by decide +kernel
theorem d3_5 : decode jdk_42_method_149_code 5 = .ok (.ifCond .ne 22, 3) := by decide +kernel
theorem d3_27 : decode jdk_42_method_149_code 27 = .ok (.getstatic 38, 3) := by decide +kernel
theorem d3_30 : decode jdk_42_method_149_code 30 = .ok (.ifCond .eq 28, 3) := by decide +kernel
theorem d3_33 : decode jdk_42_method_149_code 33 = .ok (.aload_n 1, 1) := by decide +kernel
theorem d3_34 : decode jdk_42_method_149_code 34 = .ok (.iload_n 2, 1) := by decide +kernel
theorem d3_35 : decode jdk_42_method_149_code 35 = .ok (.iload_n 3, 1) := by decide +kernel
theorem d3_36 : decode jdk_42_method_149_code 36 = .ok (.invokestatic 177, 3) := by decide +kernel
theorem d3_39 : decode jdk_42_method_149_code 39 = .ok (.astore 5, 2) := by decide +kernel
theorem d3_41 : decode jdk_42_method_149_code 41 = .ok (.aload_n 0, 1) := by decide +kernel
theorem d3_42 : decode jdk_42_method_149_code 42 = .ok (.aload 5, 2) := by decide +kernel
theorem d3_44 : decode jdk_42_method_149_code 44 = .ok (.iload_n 3, 1) := by decide +kernel
theorem d3_45 : decode jdk_42_method_149_code 45 = .ok (.invokestatic 47, 3) := by decide +kernel
theorem d3_48 : decode jdk_42_method_149_code 48 = .ok (.putfield 15, 3) := by decide +kernel
theorem d3_51 : decode jdk_42_method_149_code 51 = .ok (.aload_n 0, 1) := by decide +kernel
theorem d3_52 : decode jdk_42_method_149_code 52 = .ok (.aload 5, 2) := by decide +kernel
theorem d3_54 : decode jdk_42_method_149_code 54 = .ok (.putfield 9, 3) := by decide +kernel
theorem d3_57 : decode jdk_42_method_149_code 57 = .ok (.return_, 1) := by decide +kernel
theorem d5_0 : decode jdk_52_method_16_code 0 = .ok (.iload_n 2, 1) := by decide +kernel
theorem d5_1 : decode jdk_52_method_16_code 1 = .ok (.newarray .byte, 2) := by decide +kernel
theorem d5_3 : decode jdk_52_method_16_code 3 = .ok (.astore_n 3, 1) := by decide +kernel
theorem d5_4 : decode jdk_52_method_16_code 4 = .ok (.aload_n 0, 1) := by decide +kernel
theorem d5_5 : decode jdk_52_method_16_code 5 = .ok (.iload_n 1, 1) := by decide +kernel
theorem d5_6 : decode jdk_52_method_16_code 6 = .ok (.aload_n 3, 1) := by decide +kernel
theorem d5_7 : decode jdk_52_method_16_code 7 = .ok (.iconst 0, 1) := by decide +kernel
theorem d5_8 : decode jdk_52_method_16_code 8 = .ok (.iload_n 2, 1) := by decide +kernel
theorem d5_9 : decode jdk_52_method_16_code 9 = .ok (.invokestatic 115, 3) := by decide +kernel
theorem d5_12 : decode jdk_52_method_16_code 12 = .ok (.istore 4, 2) := by decide +kernel
theorem d5_14 : decode jdk_52_method_16_code 14 = .ok (.iload 4, 2) := by decide +kernel
theorem d5_16 : decode jdk_52_method_16_code 16 = .ok (.iload_n 2, 1) := by decide +kernel
theorem d5_17 : decode jdk_52_method_16_code 17 = .ok (.if_icmp .eq 40, 3) := by decide +kernel
theorem d5_20 : decode jdk_52_method_16_code 20 = .ok (.aload_n 0, 1) := by decide +kernel
theorem d5_21 : decode jdk_52_method_16_code 21 = .ok (.iload_n 1, 1) := by decide +kernel
theorem d5_22 : decode jdk_52_method_16_code 22 = .ok (.iload_n 2, 1) := by decide +kernel
theorem d5_23 : decode jdk_52_method_16_code 23 = .ok (.invokestatic 119, 3) := by decide +kernel
theorem d5_26 : decode jdk_52_method_16_code 26 = .ok (.astore 5, 2) := by decide +kernel
theorem d5_28 : decode jdk_52_method_16_code 28 = .ok (.aload 5, 2) := by decide +kernel
theorem d5_30 : decode jdk_52_method_16_code 30 = .ok (.iload 4, 2) := by decide +kernel
theorem d5_32 : decode jdk_52_method_16_code 32 = .ok (.invokestatic 71, 3) := by decide +kernel
theorem d5_35 : decode jdk_52_method_16_code 35 = .ok (.sipush 255, 3) := by decide +kernel
theorem d5_38 : decode jdk_52_method_16_code 38 = .ok (.if_icmp .gt 16, 3) := by decide +kernel
theorem d5_54 : decode jdk_52_method_16_code 54 = .ok (.aload 5, 2) := by decide +kernel
theorem d5_56 : decode jdk_52_method_16_code 56 = .ok (.areturn, 1) := by decide +kernel
theorem d5_57 : decode jdk_52_method_16_code 57 = .ok (.aload_n 3, 1) := by decide +kernel
theorem d5_58 : decode jdk_52_method_16_code 58 = .ok (.areturn, 1) := by decide +kernel
theorem d6_0 : decode jdk_52_method_21_code 0 = .ok (.iconst 0, 1) := by decide +kernel
theorem d6_1 : decode jdk_52_method_21_code 1 = .ok (.istore 5, 2) := by decide +kernel
theorem d6_3 : decode jdk_52_method_21_code 3 = .ok (.iload 5, 2) := by decide +kernel
theorem d6_5 : decode jdk_52_method_21_code 5 = .ok (.iload 4, 2) := by decide +kernel
theorem d6_7 : decode jdk_52_method_21_code 7 = .ok (.if_icmp .ge 37, 3) := by decide +kernel
theorem d6_10 : decode jdk_52_method_21_code 10 = .ok (.aload_n 0, 1) := by decide +kernel
theorem d6_11 : decode jdk_52_method_21_code 11 = .ok (.iload_n 1, 1) := by decide +kernel
theorem d6_12 : decode jdk_52_method_21_code 12 = .ok (.caload, 1) := by decide +kernel
theorem d6_13 : decode jdk_52_method_21_code 13 = .ok (.istore 6, 2) := by decide +kernel
theorem d6_15 : decode jdk_52_method_21_code 15 = .ok (.iload 6, 2) := by decide +kernel
theorem d6_17 : decode jdk_52_method_21_code 17 = .ok (.sipush 255, 3) := by decide +kernel
theorem d6_20 : decode jdk_52_method_21_code 20 = .ok (.if_icmp .le 6, 3) := by decide +kernel
theorem d6_23 : decode jdk_52_method_21_code 23 = .ok (.iload 5, 2) := by decide +kernel
theorem d6_25 : decode jdk_52_method_21_code 25 = .ok (.ireturn, 1) := by decide +kernel
theorem d6_26 : decode jdk_52_method_21_code 26 = .ok (.aload_n 2, 1) := by decide +kernel
theorem d6_27 : decode jdk_52_method_21_code 27 = .ok (.iload_n 3, 1) := by decide +kernel
theorem d6_28 : decode jdk_52_method_21_code 28 = .ok (.iload 6, 2) := by decide +kernel
theorem d6_30 : decode jdk_52_method_21_code 30 = .ok (.i2b, 1) := by decide +kernel
theorem d6_31 : decode jdk_52_method_21_code 31 = .ok (.bastore, 1) := by decide +kernel
theorem d6_32 : decode jdk_52_method_21_code 32 = .ok (.iinc 1 1, 3) := by decide +kernel
theorem d6_35 : decode jdk_52_method_21_code 35 = .ok (.iinc 3 1, 3) := by decide +kernel
theorem d6_38 : decode jdk_52_method_21_code 38 = .ok (.iinc 5 1, 3) := by decide +kernel
theorem d6_41 : decode jdk_52_method_21_code 41 = .ok (.goto (-38), 3) := by decide +kernel
theorem d6_44 : decode jdk_52_method_21_code 44 = .ok (.iload 4, 2) := by decide +kernel
theorem d6_46 : decode jdk_52_method_21_code 46 = .ok (.ireturn, 1) := by decide +kernel
theorem d7_0 : decode jdk_52_method_15_code 0 = .ok (.iload_n 1, 1) := by decide +kernel
theorem d7_1 : decode jdk_52_method_15_code 1 = .ok (.aload_n 0, 1) := by decide +kernel
theorem d7_2 : decode jdk_52_method_15_code 2 = .ok (.arraylength, 1) := by decide +kernel
theorem d7_3 : decode jdk_52_method_15_code 3 = .ok (.isub, 1) := by decide +kernel
theorem d7_4 : decode jdk_52_method_15_code 4 = .ok (.bipush 31, 2) := by decide +kernel
theorem d7_6 : decode jdk_52_method_15_code 6 = .ok (.iushr, 1) := by decide +kernel
theorem d7_7 : decode jdk_52_method_15_code 7 = .ok (.i2b, 1) := by decide +kernel
theorem d7_8 : decode jdk_52_method_15_code 8 = .ok (.ireturn, 1) := by decide +kernel
theorem d8_0 : decode prog_43_method_2_code 0 = .ok (.iload_n 1, 1) := by decide +kernel
theorem d8_1 : decode prog_43_method_2_code 1 = .ok (.iconst 2, 1) := by decide +kernel
theorem d8_2 : decode prog_43_method_2_code 2 = .ok (.iadd, 1) := by decide +kernel
theorem d8_3 : decode prog_43_method_2_code 3 = .ok (.aload_n 0, 1) := by decide +kernel
theorem d8_4 : decode prog_43_method_2_code 4 = .ok (.invokevirtual 7, 3) := by decide +kernel
theorem d8_7 : decode prog_43_method_2_code 7 = .ok (.if_icmp .ge 16, 3) := by decide +kernel
theorem d8_10 : decode prog_43_method_2_code 10 = .ok (.aload_n 0, 1) := by decide +kernel
theorem d8_11 : decode prog_43_method_2_code 11 = .ok (.iload_n 1, 1) := by decide +kernel
theorem d8_12 : decode prog_43_method_2_code 12 = .ok (.iconst 1, 1) := by decide +kernel
theorem d8_13 : decode prog_43_method_2_code 13 = .ok (.iadd, 1) := by decide +kernel
theorem d8_14 : decode prog_43_method_2_code 14 = .ok (.invokevirtual 13, 3) := by decide +kernel
theorem d8_17 : decode prog_43_method_2_code 17 = .ok (.invokestatic 17, 3) := by decide +kernel
theorem d8_20 : decode prog_43_method_2_code 20 = .ok (.goto 4, 3) := by decide +kernel
theorem d8_23 : decode prog_43_method_2_code 23 = .ok (.iconst (-1), 1) := by decide +kernel
theorem d8_24 : decode prog_43_method_2_code 24 = .ok (.istore_n 2, 1) := by decide +kernel
theorem d8_25 : decode prog_43_method_2_code 25 = .ok (.iload_n 2, 1) := by decide +kernel
theorem d8_26 : decode prog_43_method_2_code 26 = .ok (.ifCond .ge 7, 3) := by decide +kernel
theorem d8_29 : decode prog_43_method_2_code 29 = .ok (.iconst (-1), 1) := by decide +kernel
theorem d8_30 : decode prog_43_method_2_code 30 = .ok (.goto 13, 3) := by decide +kernel
theorem d8_33 : decode prog_43_method_2_code 33 = .ok (.aload_n 0, 1) := by decide +kernel
theorem d8_34 : decode prog_43_method_2_code 34 = .ok (.iload_n 1, 1) := by decide +kernel
theorem d8_35 : decode prog_43_method_2_code 35 = .ok (.iconst 2, 1) := by decide +kernel
theorem d8_36 : decode prog_43_method_2_code 36 = .ok (.iadd, 1) := by decide +kernel
theorem d8_37 : decode prog_43_method_2_code 37 = .ok (.invokevirtual 13, 3) := by decide +kernel
theorem d8_40 : decode prog_43_method_2_code 40 = .ok (.invokestatic 17, 3) := by decide +kernel
theorem d8_43 : decode prog_43_method_2_code 43 = .ok (.istore_n 3, 1) := by decide +kernel
theorem d8_44 : decode prog_43_method_2_code 44 = .ok (.iload_n 3, 1) := by decide +kernel
theorem d8_45 : decode prog_43_method_2_code 45 = .ok (.ifCond .ge 7, 3) := by decide +kernel
theorem d8_48 : decode prog_43_method_2_code 48 = .ok (.iconst (-1), 1) := by decide +kernel
theorem d8_49 : decode prog_43_method_2_code 49 = .ok (.goto 8, 3) := by decide +kernel
theorem d8_52 : decode prog_43_method_2_code 52 = .ok (.iload_n 2, 1) := by decide +kernel
theorem d8_53 : decode prog_43_method_2_code 53 = .ok (.iconst 4, 1) := by decide +kernel
theorem d8_54 : decode prog_43_method_2_code 54 = .ok (.ishl, 1) := by decide +kernel
theorem d8_55 : decode prog_43_method_2_code 55 = .ok (.iload_n 3, 1) := by decide +kernel
theorem d8_56 : decode prog_43_method_2_code 56 = .ok (.ior, 1) := by decide +kernel
theorem d8_57 : decode prog_43_method_2_code 57 = .ok (.ireturn, 1) := by decide +kernel
theorem d9_0 : decode jdk_42_method_54_code 0 = .ok (.aload_n 0, 1) := by decide +kernel
theorem d9_1 : decode jdk_42_method_54_code 1 = .ok (.getfield 9, 3) := by decide +kernel
theorem d9_4 : decode jdk_42_method_54_code 4 = .ok (.arraylength, 1) := by decide +kernel
theorem d9_5 : decode jdk_42_method_54_code 5 = .ok (.aload_n 0, 1) := by decide +kernel
theorem d9_6 : decode jdk_42_method_54_code 6 = .ok (.invokevirtual 335, 3) := by decide +kernel
theorem d9_9 : decode jdk_42_method_54_code 9 = .ok (.ishr, 1) := by decide +kernel
theorem d9_10 : decode jdk_42_method_54_code 10 = .ok (.ireturn, 1) := by decide +kernel
theorem d10_0 : decode jdk_42_method_152_code 0 = .ok (.getstatic 38, 3) := by decide +kernel
theorem d10_3 : decode jdk_42_method_152_code 3 = .ok (.ifCond .eq 10, 3) := by decide +kernel
theorem d10_6 : decode jdk_42_method_152_code 6 = .ok (.aload_n 0, 1) := by decide +kernel
theorem d10_7 : decode jdk_42_method_152_code 7 = .ok (.getfield 15, 3) := by decide +kernel
theorem d10_10 : decode jdk_42_method_152_code 10 = .ok (.goto 4, 3) := by decide +kernel
theorem d10_14 : decode jdk_42_method_152_code 14 = .ok (.ireturn, 1) := by decide +kernel
theorem d11_0 : decode jdk_42_method_56_code 0 = .ok (.aload_n 0, 1) := by decide +kernel
theorem d11_1 : decode jdk_42_method_56_code 1 = .ok (.invokevirtual 492, 3) := by decide +kernel
theorem d11_4 : decode jdk_42_method_56_code 4 = .ok (.ifCond .eq 12, 3) := by decide +kernel
theorem d11_7 : decode jdk_42_method_56_code 7 = .ok (.aload_n 0, 1) := by decide +kernel
theorem d11_8 : decode jdk_42_method_56_code 8 = .ok (.getfield 9, 3) := by decide +kernel
theorem d11_11 : decode jdk_42_method_56_code 11 = .ok (.iload_n 1, 1) := by decide +kernel
theorem d11_12 : decode jdk_42_method_56_code 12 = .ok (.invokestatic 495, 3) := by decide +kernel
theorem d11_15 : decode jdk_42_method_56_code 15 = .ok (.ireturn, 1) := by decide +kernel
theorem d11_16 : decode jdk_42_method_56_code 16 = .ok (.aload_n 0, 1) := by decide +kernel
theorem d11_17 : decode jdk_42_method_56_code 17 = .ok (.getfield 9, 3) := by decide +kernel
theorem d11_20 : decode jdk_42_method_56_code 20 = .ok (.iload_n 1, 1) := by decide +kernel
theorem d11_21 : decode jdk_42_method_56_code 21 = .ok (.invokestatic 498, 3) := by decide +kernel
theorem d11_24 : decode jdk_42_method_56_code 24 = .ok (.ireturn, 1) := by decide +kernel
theorem d12_0 : decode jdk_42_method_154_code 0 = .ok (.getstatic 38, 3) := by decide +kernel
theorem d12_3 : decode jdk_42_method_154_code 3 = .ok (.ifCond .eq 14, 3) := by decide +kernel
theorem d12_6 : decode jdk_42_method_154_code 6 = .ok (.aload_n 0, 1) := by decide +kernel
theorem d12_7 : decode jdk_42_method_154_code 7 = .ok (.getfield 15, 3) := by decide +kernel
theorem d12_10 : decode jdk_42_method_154_code 10 = .ok (.ifCond .ne 7, 3) := by decide +kernel
theorem d12_13 : decode jdk_42_method_154_code 13 = .ok (.iconst 1, 1) := by decide +kernel
theorem d12_14 : decode jdk_42_method_154_code 14 = .ok (.goto 4, 3) := by decide +kernel
theorem d12_17 : decode jdk_42_method_154_code 17 = .ok (.iconst 0, 1) := by decide +kernel
theorem d12_18 : decode jdk_42_method_154_code 18 = .ok (.ireturn, 1) := by decide +kernel
theorem d13_0 : decode jdk_43_method_2_code 0 = .ok (.iload_n 1, 1) := by decide +kernel
theorem d13_1 : decode jdk_43_method_2_code 1 = .ok (.aload_n 0, 1) := by decide +kernel
theorem d13_2 : decode jdk_43_method_2_code 2 = .ok (.arraylength, 1) := by decide +kernel
theorem d13_3 : decode jdk_43_method_2_code 3 = .ok (.invokestatic 9, 3) := by decide +kernel
theorem d13_6 : decode jdk_43_method_2_code 6 = .ok (.aload_n 0, 1) := by decide +kernel
theorem d13_7 : decode jdk_43_method_2_code 7 = .ok (.iload_n 1, 1) := by decide +kernel
theorem d13_8 : decode jdk_43_method_2_code 8 = .ok (.baload, 1) := by decide +kernel
theorem d13_9 : decode jdk_43_method_2_code 9 = .ok (.sipush 255, 3) := by decide +kernel
theorem d13_12 : decode jdk_43_method_2_code 12 = .ok (.iand, 1) := by decide +kernel
theorem d13_13 : decode jdk_43_method_2_code 13 = .ok (.i2c, 1) := by decide +kernel
theorem d13_14 : decode jdk_43_method_2_code 14 = .ok (.ireturn, 1) := by decide +kernel
theorem d14_0 : decode jdk_42_method_155_code 0 = .ok (.iload_n 0, 1) := by decide +kernel
theorem d14_1 : decode jdk_42_method_155_code 1 = .ok (.iload_n 1, 1) := by decide +kernel
theorem d14_2 : decode jdk_42_method_155_code 2 = .ok (.getstatic 1053, 3) := by decide +kernel
theorem d14_5 : decode jdk_42_method_155_code 5 = .ok (.invokestatic 1059, 3) := by decide +kernel
theorem d14_8 : decode jdk_42_method_155_code 8 = .ok (.pop, 1) := by decide +kernel
theorem d14_9 : decode jdk_42_method_155_code 9 = .ok (.return_, 1) := by decide +kernel
theorem d15_0 : decode jdk_41_method_11_code 0 = .ok (.iload_n 0, 1) := by decide +kernel
theorem d15_1 : decode jdk_41_method_11_code 1 = .ok (.ifCond .lt 8, 3) := by decide +kernel
theorem d15_4 : decode jdk_41_method_11_code 4 = .ok (.iload_n 0, 1) := by decide +kernel
theorem d15_5 : decode jdk_41_method_11_code 5 = .ok (.iload_n 1, 1) := by decide +kernel
theorem d15_6 : decode jdk_41_method_11_code 6 = .ok (.if_icmp .lt 10, 3) := by decide +kernel
theorem d15_16 : decode jdk_41_method_11_code 16 = .ok (.iload_n 0, 1) := by decide +kernel
theorem d15_17 : decode jdk_41_method_11_code 17 = .ok (.ireturn, 1) := by decide +kernel
theorem d16_0 : decode jdk_52_method_14_code 0 = .ok (.iload_n 2, 1) := by decide +kernel
theorem d16_1 : decode jdk_52_method_14_code 1 = .ok (.invokestatic 107, 3) := by decide +kernel
theorem d16_4 : decode jdk_52_method_14_code 4 = .ok (.astore_n 3, 1) := by decide +kernel
theorem d16_5 : decode jdk_52_method_14_code 5 = .ok (.iconst 0, 1) := by decide +kernel
theorem d16_6 : decode jdk_52_method_14_code 6 = .ok (.istore 4, 2) := by decide +kernel
theorem d16_8 : decode jdk_52_method_14_code 8 = .ok (.iload 4, 2) := by decide +kernel
theorem d16_10 : decode jdk_52_method_14_code 10 = .ok (.iload_n 2, 1) := by decide +kernel
theorem d16_11 : decode jdk_52_method_14_code 11 = .ok (.if_icmp .ge 21, 3) := by decide +kernel
theorem d16_14 : decode jdk_52_method_14_code 14 = .ok (.aload_n 3, 1) := by decide +kernel
theorem d16_15 : decode jdk_52_method_14_code 15 = .ok (.iload 4, 2) := by decide +kernel
theorem d16_17 : decode jdk_52_method_14_code 17 = .ok (.aload_n 0, 1) := by decide +kernel
theorem d16_18 : decode jdk_52_method_14_code 18 = .ok (.iload_n 1, 1) := by decide +kernel
theorem d16_19 : decode jdk_52_method_14_code 19 = .ok (.caload, 1) := by decide +kernel
theorem d16_20 : decode jdk_52_method_14_code 20 = .ok (.invokestatic 111, 3) := by decide +kernel
theorem d16_23 : decode jdk_52_method_14_code 23 = .ok (.iinc 1 1, 3) := by decide +kernel
theorem d16_26 : decode jdk_52_method_14_code 26 = .ok (.iinc 4 1, 3) := by decide +kernel
theorem d16_29 : decode jdk_52_method_14_code 29 = .ok (.goto (-21), 3) := by decide +kernel
theorem d16_32 : decode jdk_52_method_14_code 32 = .ok (.aload_n 3, 1) := by decide +kernel
theorem d16_33 : decode jdk_52_method_14_code 33 = .ok (.areturn, 1) := by decide +kernel
theorem d17_0 : decode jdk_52_method_2_code 0 = .ok (.iload_n 0, 1) := by decide +kernel
theorem d17_1 : decode jdk_52_method_2_code 1 = .ok (.invokestatic 11, 3) := by decide +kernel
theorem d17_4 : decode jdk_52_method_2_code 4 = .ok (.newarray .byte, 2) := by decide +kernel
theorem d17_6 : decode jdk_52_method_2_code 6 = .ok (.areturn, 1) := by decide +kernel
theorem d18_0 : decode jdk_52_method_3_code 0 = .ok (.iload_n 0, 1) := by decide +kernel
theorem d18_1 : decode jdk_52_method_3_code 1 = .ok (.ifCond .ge 11, 3) := by decide +kernel
theorem d18_12 : decode jdk_52_method_3_code 12 = .ok (.iload_n 0, 1) := by decide +kernel
theorem d18_13 : decode jdk_52_method_3_code 13 = .ok (.ldc 20, 2) := by decide +kernel
theorem d18_15 : decode jdk_52_method_3_code 15 = .ok (.if_icmp .lt 40, 3) := by decide +kernel
theorem d18_55 : decode jdk_52_method_3_code 55 = .ok (.iload_n 0, 1) := by decide +kernel
theorem d18_56 : decode jdk_52_method_3_code 56 = .ok (.iconst 1, 1) := by decide +kernel
theorem d18_57 : decode jdk_52_method_3_code 57 = .ok (.ishl, 1) := by decide +kernel
theorem d18_58 : decode jdk_52_method_3_code 58 = .ok (.ireturn, 1) := by decide +kernel
theorem d19_0 : decode jdk_52_method_4_code 0 = .ok (.getstatic 44, 3) := by decide +kernel
theorem d19_3 : decode jdk_52_method_4_code 3 = .ok (.ifCond .ne 25, 3) := by decide +kernel
theorem d19_28 : decode jdk_52_method_4_code 28 = .ok (.iload_n 1, 1) := by decide +kernel
theorem d19_29 : decode jdk_52_method_4_code 29 = .ok (.iconst 1, 1) := by decide +kernel
theorem d19_30 : decode jdk_52_method_4_code 30 = .ok (.ishl, 1) := by decide +kernel
theorem d19_31 : decode jdk_52_method_4_code 31 = .ok (.istore_n 1, 1) := by decide +kernel
theorem d19_32 : decode jdk_52_method_4_code 32 = .ok (.aload_n 0, 1) := by decide +kernel
theorem d19_33 : decode jdk_52_method_4_code 33 = .ok (.iload_n 1, 1) := by decide +kernel
theorem d19_34 : decode jdk_52_method_4_code 34 = .ok (.iinc 1 1, 3) := by decide +kernel
theorem d19_37 : decode jdk_52_method_4_code 37 = .ok (.iload_n 2, 1) := by decide +kernel
theorem d19_38 : decode jdk_52_method_4_code 38 = .ok (.getstatic 59, 3) := by decide +kernel
theorem d19_41 : decode jdk_52_method_4_code 41 = .ok (.ishr, 1) := by decide +kernel
theorem d19_42 : decode jdk_52_method_4_code 42 = .ok (.i2b, 1) := by decide +kernel
theorem d19_43 : decode jdk_52_method_4_code 43 = .ok (.bastore, 1) := by decide +kernel
theorem d19_44 : decode jdk_52_method_4_code 44 = .ok (.aload_n 0, 1) := by decide +kernel
theorem d19_45 : decode jdk_52_method_4_code 45 = .ok (.iload_n 1, 1) := by decide +kernel
theorem d19_46 : decode jdk_52_method_4_code 46 = .ok (.iload_n 2, 1) := by decide +kernel
theorem d19_47 : decode jdk_52_method_4_code 47 = .ok (.getstatic 63, 3) := by decide +kernel
theorem d19_50 : decode jdk_52_method_4_code 50 = .ok (.ishr, 1) := by decide +kernel
theorem d19_51 : decode jdk_52_method_4_code 51 = .ok (.i2b, 1) := by decide +kernel
theorem d19_52 : decode jdk_52_method_4_code 52 = .ok (.bastore, 1) := by decide +kernel
theorem d19_53 : decode jdk_52_method_4_code 53 = .ok (.return_, 1) := by decide +kernel
theorem d20_0 : decode jdk_52_method_5_code 0 = .ok (.getstatic 44, 3) := by decide +kernel
theorem d20_3 : decode jdk_52_method_5_code 3 = .ok (.ifCond .ne 25, 3) := by decide +kernel
theorem d20_28 : decode jdk_52_method_5_code 28 = .ok (.iload_n 1, 1) := by decide +kernel
theorem d20_29 : decode jdk_52_method_5_code 29 = .ok (.iconst 1, 1) := by decide +kernel
theorem d20_30 : decode jdk_52_method_5_code 30 = .ok (.ishl, 1) := by decide +kernel
theorem d20_31 : decode jdk_52_method_5_code 31 = .ok (.istore_n 1, 1) := by decide +kernel
theorem d20_32 : decode jdk_52_method_5_code 32 = .ok (.aload_n 0, 1) := by decide +kernel
theorem d20_33 : decode jdk_52_method_5_code 33 = .ok (.iload_n 1, 1) := by decide +kernel
theorem d20_34 : decode jdk_52_method_5_code 34 = .ok (.iinc 1 1, 3) := by decide +kernel
theorem d20_37 : decode jdk_52_method_5_code 37 = .ok (.baload, 1) := by decide +kernel
theorem d20_38 : decode jdk_52_method_5_code 38 = .ok (.sipush 255, 3) := by decide +kernel
theorem d20_41 : decode jdk_52_method_5_code 41 = .ok (.iand, 1) := by decide +kernel
theorem d20_42 : decode jdk_52_method_5_code 42 = .ok (.getstatic 59, 3) := by decide +kernel
theorem d20_45 : decode jdk_52_method_5_code 45 = .ok (.ishl, 1) := by decide +kernel
theorem d20_46 : decode jdk_52_method_5_code 46 = .ok (.aload_n 0, 1) := by decide +kernel
theorem d20_47 : decode jdk_52_method_5_code 47 = .ok (.iload_n 1, 1) := by decide +kernel
theorem d20_48 : decode jdk_52_method_5_code 48 = .ok (.baload, 1) := by decide +kernel
theorem d20_49 : decode jdk_52_method_5_code 49 = .ok (.sipush 255, 3) := by decide +kernel
theorem d20_52 : decode jdk_52_method_5_code 52 = .ok (.iand, 1) := by decide +kernel
theorem d20_53 : decode jdk_52_method_5_code 53 = .ok (.getstatic 63, 3) := by decide +kernel
theorem d20_56 : decode jdk_52_method_5_code 56 = .ok (.ishl, 1) := by decide +kernel
theorem d20_57 : decode jdk_52_method_5_code 57 = .ok (.ior, 1) := by decide +kernel
theorem d20_58 : decode jdk_52_method_5_code 58 = .ok (.i2c, 1) := by decide +kernel
theorem d20_59 : decode jdk_52_method_5_code 59 = .ok (.ireturn, 1) := by decide +kernel
theorem d21_0 : decode method_4_code 0 = .ok (.iload_n 0, 1) := by decide +kernel
theorem d21_1 : decode method_4_code 1 = .ok (.ifCond .ne 5, 3) := by decide +kernel
theorem d21_6 : decode method_4_code 6 = .ok (.iload_n 0, 1) := by decide +kernel
theorem d21_7 : decode method_4_code 7 = .ok (.iconst 1, 1) := by decide +kernel
theorem d21_8 : decode method_4_code 8 = .ok (.if_icmp .ne 5, 3) := by decide +kernel
theorem d21_11 : decode method_4_code 11 = .ok (.iload_n 2, 1) := by decide +kernel
theorem d21_12 : decode method_4_code 12 = .ok (.ireturn, 1) := by decide +kernel
theorem d21_13 : decode method_4_code 13 = .ok (.iload_n 0, 1) := by decide +kernel
theorem d21_14 : decode method_4_code 14 = .ok (.iconst 2, 1) := by decide +kernel
theorem d21_15 : decode method_4_code 15 = .ok (.if_icmp .ne 5, 3) := by decide +kernel
theorem d21_18 : decode method_4_code 18 = .ok (.iload_n 3, 1) := by decide +kernel
theorem d21_19 : decode method_4_code 19 = .ok (.ireturn, 1) := by decide +kernel
theorem d21_20 : decode method_4_code 20 = .ok (.iload 4, 2) := by decide +kernel
theorem d21_22 : decode method_4_code 22 = .ok (.ireturn, 1) := by decide +kernel
theorem d22_0 : decode method_3_code 0 = .ok (.iload_n 0, 1) := by decide +kernel
theorem d22_1 : decode method_3_code 1 = .ok (.bipush 48, 2) := by decide +kernel
theorem d22_3 : decode method_3_code 3 = .ok (.if_icmp .lt 14, 3) := by decide +kernel
theorem d22_6 : decode method_3_code 6 = .ok (.iload_n 0, 1) := by decide +kernel
theorem d22_7 : decode method_3_code 7 = .ok (.bipush 57, 2) := by decide +kernel
theorem d22_9 : decode method_3_code 9 = .ok (.if_icmp .gt 8, 3) := by decide +kernel
theorem d22_12 : decode method_3_code 12 = .ok (.iload_n 0, 1) := by decide +kernel
theorem d22_13 : decode method_3_code 13 = .ok (.bipush 48, 2) := by decide +kernel
theorem d22_15 : decode method_3_code 15 = .ok (.isub, 1) := by decide +kernel
theorem d22_16 : decode method_3_code 16 = .ok (.ireturn, 1) := by decide +kernel
theorem d22_17 : decode method_3_code 17 = .ok (.iload_n 0, 1) := by decide +kernel
theorem d22_18 : decode method_3_code 18 = .ok (.bipush 65, 2) := by decide +kernel
theorem d22_20 : decode method_3_code 20 = .ok (.if_icmp .lt 17, 3) := by decide +kernel
theorem d22_23 : decode method_3_code 23 = .ok (.iload_n 0, 1) := by decide +kernel
theorem d22_24 : decode method_3_code 24 = .ok (.bipush 70, 2) := by decide +kernel
theorem d22_26 : decode method_3_code 26 = .ok (.if_icmp .gt 11, 3) := by decide +kernel
theorem d22_29 : decode method_3_code 29 = .ok (.iload_n 0, 1) := by decide +kernel
theorem d22_30 : decode method_3_code 30 = .ok (.bipush 65, 2) := by decide +kernel
theorem d22_32 : decode method_3_code 32 = .ok (.isub, 1) := by decide +kernel
theorem d22_33 : decode method_3_code 33 = .ok (.bipush 10, 2) := by decide +kernel
theorem d22_35 : decode method_3_code 35 = .ok (.iadd, 1) := by decide +kernel
theorem d22_36 : decode method_3_code 36 = .ok (.ireturn, 1) := by decide +kernel
theorem d22_37 : decode method_3_code 37 = .ok (.iload_n 0, 1) := by decide +kernel
theorem d22_38 : decode method_3_code 38 = .ok (.bipush 97, 2) := by decide +kernel
theorem d22_40 : decode method_3_code 40 = .ok (.if_icmp .lt 17, 3) := by decide +kernel
theorem d22_43 : decode method_3_code 43 = .ok (.iload_n 0, 1) := by decide +kernel
theorem d22_44 : decode method_3_code 44 = .ok (.bipush 102, 2) := by decide +kernel
theorem d22_46 : decode method_3_code 46 = .ok (.if_icmp .gt 11, 3) := by decide +kernel
theorem d22_49 : decode method_3_code 49 = .ok (.iload_n 0, 1) := by decide +kernel
theorem d22_50 : decode method_3_code 50 = .ok (.bipush 97, 2) := by decide +kernel
theorem d22_52 : decode method_3_code 52 = .ok (.isub, 1) := by decide +kernel
theorem d22_53 : decode method_3_code 53 = .ok (.bipush 10, 2) := by decide +kernel
theorem d22_55 : decode method_3_code 55 = .ok (.iadd, 1) := by decide +kernel
theorem d22_56 : decode method_3_code 56 = .ok (.ireturn, 1) := by decide +kernel
theorem d22_57 : decode method_3_code 57 = .ok (.iconst (-1), 1) := by decide +kernel
theorem d22_58 : decode method_3_code 58 = .ok (.ireturn, 1) := by decide +kernel
theorem d23_0 : decode prog_43_method_6_code 0 = .ok (.ldc 51, 2) := by decide +kernel
theorem d23_2 : decode prog_43_method_6_code 2 = .ok (.iload_n 0, 1) := by decide +kernel
theorem d23_3 : decode prog_43_method_6_code 3 = .ok (.invokevirtual 23, 3) := by decide +kernel
theorem d23_6 : decode prog_43_method_6_code 6 = .ok (.istore_n 1, 1) := by decide +kernel
theorem d23_7 : decode prog_43_method_6_code 7 = .ok (.iload_n 1, 1) := by decide +kernel
theorem d23_8 : decode prog_43_method_6_code 8 = .ok (.bipush 16, 2) := by decide +kernel
theorem d23_10 : decode prog_43_method_6_code 10 = .ok (.if_icmp .ge 7, 3) := by decide +kernel
theorem d23_13 : decode prog_43_method_6_code 13 = .ok (.iload_n 1, 1) := by decide +kernel
theorem d23_14 : decode prog_43_method_6_code 14 = .ok (.goto 7, 3) := by decide +kernel
theorem d23_17 : decode prog_43_method_6_code 17 = .ok (.iload_n 1, 1) := by decide +kernel
theorem d23_18 : decode prog_43_method_6_code 18 = .ok (.bipush 6, 2) := by decide +kernel
theorem d23_20 : decode prog_43_method_6_code 20 = .ok (.isub, 1) := by decide +kernel
theorem d23_21 : decode prog_43_method_6_code 21 = .ok (.ireturn, 1) := by decide +kernel
theorem d24_0 : decode jdk_42_method_79_code 0 = .ok (.aload_n 0, 1) := by decide +kernel
theorem d24_1 : decode jdk_42_method_79_code 1 = .ok (.iload_n 1, 1) := by decide +kernel
theorem d24_2 : decode jdk_42_method_79_code 2 = .ok (.iconst 0, 1) := by decide +kernel
theorem d24_3 : decode jdk_42_method_79_code 3 = .ok (.invokevirtual 633, 3) := by decide +kernel
theorem d24_6 : decode jdk_42_method_79_code 6 = .ok (.ireturn, 1) := by decide +kernel
theorem d25_0 : decode jdk_42_method_80_code 0 = .ok (.aload_n 0, 1) := by decide +kernel
theorem d25_1 : decode jdk_42_method_80_code 1 = .ok (.invokevirtual 492, 3) := by decide +kernel
theorem d25_4 : decode jdk_42_method_80_code 4 = .ok (.ifCond .eq 19, 3) := by decide +kernel
theorem d25_7 : decode jdk_42_method_80_code 7 = .ok (.aload_n 0, 1) := by decide +kernel
theorem d25_8 : decode jdk_42_method_80_code 8 = .ok (.getfield 9, 3) := by decide +kernel
theorem d25_11 : decode jdk_42_method_80_code 11 = .ok (.iload_n 1, 1) := by decide +kernel
theorem d25_12 : decode jdk_42_method_80_code 12 = .ok (.iload_n 2, 1) := by decide +kernel
theorem d25_13 : decode jdk_42_method_80_code 13 = .ok (.aload_n 0, 1) := by decide +kernel
theorem d25_14 : decode jdk_42_method_80_code 14 = .ok (.invokevirtual 505, 3) := by decide +kernel
theorem d25_17 : decode jdk_42_method_80_code 17 = .ok (.invokestatic 637, 3) := by decide +kernel
theorem d25_20 : decode jdk_42_method_80_code 20 = .ok (.goto 16, 3) := by decide +kernel
theorem d25_36 : decode jdk_42_method_80_code 36 = .ok (.ireturn, 1) := by decide +kernel
theorem d26_0 : decode jdk_43_method_22_code 0 = .ok (.iload_n 1, 1) := by decide +kernel
theorem d26_1 : decode jdk_43_method_22_code 1 = .ok (.invokestatic 88, 3) := by decide +kernel
theorem d26_4 : decode jdk_43_method_22_code 4 = .ok (.ifCond .ne 5, 3) := by decide +kernel
theorem d26_7 : decode jdk_43_method_22_code 7 = .ok (.iconst (-1), 1) := by decide +kernel
theorem d26_8 : decode jdk_43_method_22_code 8 = .ok (.ireturn, 1) := by decide +kernel
theorem d26_9 : decode jdk_43_method_22_code 9 = .ok (.iload_n 2, 1) := by decide +kernel
theorem d26_10 : decode jdk_43_method_22_code 10 = .ok (.iconst 0, 1) := by decide +kernel
theorem d26_11 : decode jdk_43_method_22_code 11 = .ok (.invokestatic 92, 3) := by decide +kernel
theorem d26_14 : decode jdk_43_method_22_code 14 = .ok (.istore_n 2, 1) := by decide +kernel
theorem d26_15 : decode jdk_43_method_22_code 15 = .ok (.iload_n 3, 1) := by decide +kernel
theorem d26_16 : decode jdk_43_method_22_code 16 = .ok (.aload_n 0, 1) := by decide +kernel
theorem d26_17 : decode jdk_43_method_22_code 17 = .ok (.arraylength, 1) := by decide +kernel
theorem d26_18 : decode jdk_43_method_22_code 18 = .ok (.invokestatic 38, 3) := by decide +kernel
theorem d26_21 : decode jdk_43_method_22_code 21 = .ok (.istore_n 3, 1) := by decide +kernel
theorem d26_22 : decode jdk_43_method_22_code 22 = .ok (.iload_n 2, 1) := by decide +kernel
theorem d26_23 : decode jdk_43_method_22_code 23 = .ok (.iload_n 3, 1) := by decide +kernel
theorem d26_24 : decode jdk_43_method_22_code 24 = .ok (.if_icmp .lt 5, 3) := by decide +kernel
theorem d26_29 : decode jdk_43_method_22_code 29 = .ok (.aload_n 0, 1) := by decide +kernel
theorem d26_30 : decode jdk_43_method_22_code 30 = .ok (.iload_n 1, 1) := by decide +kernel
theorem d26_31 : decode jdk_43_method_22_code 31 = .ok (.iload_n 2, 1) := by decide +kernel
theorem d26_32 : decode jdk_43_method_22_code 32 = .ok (.iload_n 3, 1) := by decide +kernel
theorem d26_33 : decode jdk_43_method_22_code 33 = .ok (.invokestatic 95, 3) := by decide +kernel
theorem d26_36 : decode jdk_43_method_22_code 36 = .ok (.ireturn, 1) := by decide +kernel
theorem d27_0 : decode jdk_43_method_4_code 0 = .ok (.iload_n 0, 1) := by decide +kernel
theorem d27_1 : decode jdk_43_method_4_code 1 = .ok (.ifCond .lt 14, 3) := by decide +kernel
theorem d27_4 : decode jdk_43_method_4_code 4 = .ok (.iload_n 0, 1) := by decide +kernel
theorem d27_5 : decode jdk_43_method_4_code 5 = .ok (.sipush 255, 3) := by decide +kernel
theorem d27_8 : decode jdk_43_method_4_code 8 = .ok (.if_icmp .gt 7, 3) := by decide +kernel
theorem d27_11 : decode jdk_43_method_4_code 11 = .ok (.iconst 1, 1) := by decide +kernel
theorem d27_12 : decode jdk_43_method_4_code 12 = .ok (.goto 4, 3) := by decide +kernel
theorem d27_15 : decode jdk_43_method_4_code 15 = .ok (.iconst 0, 1) := by decide +kernel
theorem d27_16 : decode jdk_43_method_4_code 16 = .ok (.ireturn, 1) := by decide +kernel
theorem d28_0 : decode jdk_29_method_65_code 0 = .ok (.iload_n 0, 1) := by decide +kernel
theorem d28_1 : decode jdk_29_method_65_code 1 = .ok (.iload_n 1, 1) := by decide +kernel
theorem d28_2 : decode jdk_29_method_65_code 2 = .ok (.if_icmp .lt 7, 3) := by decide +kernel
theorem d28_5 : decode jdk_29_method_65_code 5 = .ok (.iload_n 0, 1) := by decide +kernel
theorem d28_6 : decode jdk_29_method_65_code 6 = .ok (.goto 4, 3) := by decide +kernel
theorem d28_9 : decode jdk_29_method_65_code 9 = .ok (.iload_n 1, 1) := by decide +kernel
theorem d28_10 : decode jdk_29_method_65_code 10 = .ok (.ireturn, 1) := by decide +kernel
theorem d29_0 : decode jdk_29_method_69_code 0 = .ok (.iload_n 0, 1) := by decide +kernel
theorem d29_1 : decode jdk_29_method_69_code 1 = .ok (.iload_n 1, 1) := by decide +kernel
theorem d29_2 : decode jdk_29_method_69_code 2 = .ok (.if_icmp .gt 7, 3) := by decide +kernel
theorem d29_5 : decode jdk_29_method_69_code 5 = .ok (.iload_n 0, 1) := by decide +kernel
theorem d29_6 : decode jdk_29_method_69_code 6 = .ok (.goto 4, 3) := by decide +kernel
theorem d29_9 : decode jdk_29_method_69_code 9 = .ok (.iload_n 1, 1) := by decide +kernel
theorem d29_10 : decode jdk_29_method_69_code 10 = .ok (.ireturn, 1) := by decide +kernel
theorem d30_0 : decode jdk_43_method_23_code 0 = .ok (.iload_n 1, 1) := by decide +kernel
theorem d30_1 : decode jdk_43_method_23_code 1 = .ok (.i2b, 1) := by decide +kernel
theorem d30_2 : decode jdk_43_method_23_code 2 = .ok (.istore 4, 2) := by decide +kernel
theorem d30_4 : decode jdk_43_method_23_code 4 = .ok (.iload_n 2, 1) := by decide +kernel
theorem d30_5 : decode jdk_43_method_23_code 5 = .ok (.istore 5, 2) := by decide +kernel
theorem d30_7 : decode jdk_43_method_23_code 7 = .ok (.iload 5, 2) := by decide +kernel
theorem d30_9 : decode jdk_43_method_23_code 9 = .ok (.iload_n 3, 1) := by decide +kernel
theorem d30_10 : decode jdk_43_method_23_code 10 = .ok (.if_icmp .ge 21, 3) := by decide +kernel
theorem d30_13 : decode jdk_43_method_23_code 13 = .ok (.aload_n 0, 1) := by decide +kernel
theorem d30_14 : decode jdk_43_method_23_code 14 = .ok (.iload 5, 2) := by decide +kernel
theorem d30_16 : decode jdk_43_method_23_code 16 = .ok (.baload, 1) := by decide +kernel
theorem d30_17 : decode jdk_43_method_23_code 17 = .ok (.iload 4, 2) := by decide +kernel
theorem d30_19 : decode jdk_43_method_23_code 19 = .ok (.if_icmp .ne 6, 3) := by decide +kernel
theorem d30_22 : decode jdk_43_method_23_code 22 = .ok (.iload 5, 2) := by decide +kernel
theorem d30_24 : decode jdk_43_method_23_code 24 = .ok (.ireturn, 1) := by decide +kernel
theorem d30_25 : decode jdk_43_method_23_code 25 = .ok (.iinc 5 1, 3) := by decide +kernel
theorem d30_28 : decode jdk_43_method_23_code 28 = .ok (.goto (-21), 3) := by decide +kernel
theorem d30_31 : decode jdk_43_method_23_code 31 = .ok (.iconst (-1), 1) := by decide +kernel
theorem d30_32 : decode jdk_43_method_23_code 32 = .ok (.ireturn, 1) := by decide +kernel
theorem d31_0 : decode jdk_52_method_83_code 0 = .ok (.iload_n 1, 1) := by decide +kernel
theorem d31_1 : decode jdk_52_method_83_code 1 = .ok (.aload_n 0, 1) := by decide +kernel
theorem d31_2 : decode jdk_52_method_83_code 2 = .ok (.invokestatic 67, 3) := by decide +kernel
theorem d31_5 : decode jdk_52_method_83_code 5 = .ok (.aload_n 0, 1) := by decide +kernel
theorem d31_6 : decode jdk_52_method_83_code 6 = .ok (.iload_n 1, 1) := by decide +kernel
theorem d31_7 : decode jdk_52_method_83_code 7 = .ok (.invokestatic 71, 3) := by decide +kernel
theorem d31_10 : decode jdk_52_method_83_code 10 = .ok (.ireturn, 1) := by decide +kernel
theorem d32_0 : decode jdk_52_method_91_code 0 = .ok (.iload_n 0, 1) := by decide +kernel
theorem d32_1 : decode jdk_52_method_91_code 1 = .ok (.aload_n 1, 1) := by decide +kernel
theorem d32_2 : decode jdk_52_method_91_code 2 = .ok (.invokestatic 48, 3) := by decide +kernel
theorem d32_5 : decode jdk_52_method_91_code 5 = .ok (.invokestatic 414, 3) := by decide +kernel
theorem d32_8 : decode jdk_52_method_91_code 8 = .ok (.return_, 1) := by decide +kernel
theorem d33_0 : decode jdk_52_method_6_code 0 = .ok (.aload_n 0, 1) := by decide +kernel
theorem d33_1 : decode jdk_52_method_6_code 1 = .ok (.arraylength, 1) := by decide +kernel
theorem d33_2 : decode jdk_52_method_6_code 2 = .ok (.iconst 1, 1) := by decide +kernel
theorem d33_3 : decode jdk_52_method_6_code 3 = .ok (.ishr, 1) := by decide +kernel
theorem d33_4 : decode jdk_52_method_6_code 4 = .ok (.ireturn, 1) := by decide +kernel
theorem pd_0 : parseMethodDescriptor "(I)I" = some ⟨[.int], (some .int)⟩ := by decide +kernel
theorem pd_1 : parseMethodDescriptor "(I)C" = some ⟨[.int], (some .char)⟩ := by decide +kernel
theorem pd_2 : parseMethodDescriptor "()I" = some ⟨[], (some .int)⟩ := by decide +kernel
theorem pd_3 : parseMethodDescriptor "(C)I" = some ⟨[.char], (some .int)⟩ := by decide +kernel
theorem pd_4 : parseMethodDescriptor "()B" = some ⟨[], (some .byte)⟩ := by decide +kernel
theorem pd_5 : parseMethodDescriptor "([CI[BII)I" = some ⟨[(.array .char), .int, (.array .byte), .int, .int], (some .int)⟩ := by decide +kernel
theorem pd_6 : parseMethodDescriptor "([CII)[B" = some ⟨[(.array .char), .int, .int], (some (.array .byte))⟩ := by decide +kernel
theorem pd_7 : parseMethodDescriptor "([BI)B" = some ⟨[(.array .byte), .int], (some .byte)⟩ := by decide +kernel
theorem pd_8 : parseMethodDescriptor "([CIILjava/lang/Void;)V" = some ⟨[(.array .char), .int, .int, (.object "java/lang/Void")], none⟩ := by decide +kernel
theorem pd_9 : parseMethodDescriptor "(IILjava/util/function/BiFunction;)I" = some ⟨[.int, .int, (.object "java/util/function/BiFunction")], (some .int)⟩ := by decide +kernel
theorem pd_10 : parseMethodDescriptor "(II)V" = some ⟨[.int, .int], none⟩ := by decide +kernel
theorem pd_11 : parseMethodDescriptor "()Z" = some ⟨[], (some .boolean)⟩ := by decide +kernel
theorem pd_12 : parseMethodDescriptor "([BI)C" = some ⟨[(.array .byte), .int], (some .char)⟩ := by decide +kernel
theorem pd_13 : parseMethodDescriptor "([BII)V" = some ⟨[(.array .byte), .int, .int], none⟩ := by decide +kernel
theorem pd_14 : parseMethodDescriptor "(I)[B" = some ⟨[.int], (some (.array .byte))⟩ := by decide +kernel
theorem pd_15 : parseMethodDescriptor "([B)I" = some ⟨[(.array .byte)], (some .int)⟩ := by decide +kernel
theorem pd_16 : parseMethodDescriptor "(I[B)V" = some ⟨[.int, (.array .byte)], none⟩ := by decide +kernel
theorem pd_17 : parseMethodDescriptor "(I)Z" = some ⟨[.int], (some .boolean)⟩ := by decide +kernel
theorem pd_18 : parseMethodDescriptor "(II)I" = some ⟨[.int, .int], (some .int)⟩ := by decide +kernel
theorem pd_19 : parseMethodDescriptor "([BIII)I" = some ⟨[(.array .byte), .int, .int, .int], (some .int)⟩ := by decide +kernel
theorem pd_20 : parseMethodDescriptor "([C)V" = some ⟨[(.array .char)], none⟩ := by decide +kernel
theorem pd_21 : parseMethodDescriptor "(ICCCC)Ljava/lang/String;" = some ⟨[.int, .char, .char, .char, .char], (some (.object "java/lang/String"))⟩ := by decide +kernel
theorem pd_22 : parseMethodDescriptor "(Ljava/lang/String;I)I" = some ⟨[(.object "java/lang/String"), .int], (some .int)⟩ := by decide +kernel
theorem pd_23 : parseMethodDescriptor "(ICCCC)C" = some ⟨[.int, .char, .char, .char, .char], (some .char)⟩ := by decide +kernel
set_option maxRecDepth 65536 in
set_option maxHeartbeats 4000000 in
theorem rm_coder {l : Launch} {Z : State} {a0 : Array Value} (H : Wd Z a0) {h : Heap} {a : Addr} (C : Fld Z h a ST "coder" "B" (.int 0)) : Met l Z (⟨"java/lang/String", "coder", "()B"⟩ : MethodName) jdk_42_method_152_code 1 (some .byte) ({ frames := 0, cells := 0, slots := 0, locals := 0 } : Room) h [] #[.ref a] (fun v h' G => v = some (.int 0) ∧ h = h') := by
  refine Met.mk (L := #[.val (.ref a)]) (by decide +kernel) (fun m => by first | (simp [entryFrame, mkF, argsToLocals, Value.category]; done) | rfl) (fun K => ?_)
  show Go _ _ K "java/lang/String" "coder" _ _ _ _ _ _ _ _ _ 0 _ _
  obtain ⟨cz, Sz, nz⟩ := H.2.2.2.1
  refine go_getstatic (v := .int cz) (q := 3) (w_24 H) Via.refl Sz d10_0 rfl ?_
  refine go_ifN (q := 6) d10_3 nz rfl ?_
  refine go_aloadN (v := .ref a) (q := 7) d10_6 rfl rfl rfl ?_
  refine go_getfield (v := .int 0) (q := 10) (w_36 H) Via.refl C d10_7 rfl ?_
  refine go_goto (q := 14) d10_10 (by decide) (by decide) ?_
  exact go_ireturn H (G := []) (t := .byte) rfl (by decide) rfl d10_14 (by decide) (by decide) (fun _ q => nomatch q) ⟨rfl, rfl⟩
set_option maxRecDepth 65536 in
set_option maxHeartbeats 4000000 in
theorem rm_len {l : Launch} {Z : State} {a0 : Array Value} (H : Wd Z a0) {h : Heap} {F : List Addr} {a : Addr} {cs : List Int32} (S : Str Z h F a cs) : Met l Z (⟨"java/lang/String", "length", "()I"⟩ : MethodName) jdk_42_method_54_code 1 (some .int) ({ frames := 1, cells := 0, slots := 0, locals := 13 } : Room) h [] #[.ref a] (fun v h' G => v = some (.int (Int32.ofNat cs.length)) ∧ h = h') := by
  refine Met.mk (L := #[.val (.ref a)]) (by decide +kernel) (fun m => by first | (simp [entryFrame, mkF, argsToLocals, Value.category]; done) | rfl) (fun K => ?_)
  show Go _ _ K "java/lang/String" "length" _ _ _ _ _ _ _ _ _ 0 _ _
  obtain ⟨E, C, ha, hl, bb, k, hb, Vv, A⟩ := S
  refine go_aloadN (v := .ref a) (q := 1) d9_0 rfl rfl rfl ?_
  refine go_getfield (v := .ref bb) (q := 4) (w_38 H) Via.refl Vv d9_1 rfl ?_
  refine go_arraylength (z := Int32.ofNat cs.length) (q := 5) A d9_4 rfl ?_
  refine go_aloadN (v := .ref a) (q := 6) d9_5 rfl rfl rfl ?_
  refine go_virtual (c' := 0) (s' := 0) (q := 9) (S := [.int (Int32.ofNat cs.length)]) (argsL := []) H (C := "java/lang/String") (w_49 H) (w_50 H) (nf_self (w_52 H)) (w_52 H) (w_51 H) (w_12 H) (w_53 H) (by decide) E (rm_coder H C) rfl rfl (lenOf pd_4 rfl) (fun _ q => nomatch q) rfl (by decide) (Nat.le_of_ble_eq_true rfl) rfl rfl (by decide) (by decide) d9_6 rfl ?_
  rintro _ _ G - ⟨rfl, rfl⟩
  refine nx_ (v := none) ?_
  show Go _ _ _ _ _ _ _ _ _ _ _ _ _ _ 9 #[.val (.ref a)] [.int 0, .int (Int32.ofNat cs.length)]
  refine go_ishr (r := Int32.ofNat cs.length) (q := 10) d9_9 (shr0 _) rfl ?_
  exact go_ireturn H (G := []) (t := .int) rfl (by decide) rfl d9_10 (by decide) (by decide) (fun _ q => nomatch q) ⟨rfl, rfl⟩
theorem bts_set {cs : List Int32} {i : Nat} (hi : i < cs.length) : (bts (cs.take i) ++ List.replicate (cs.length - i) (Value.int 0)).set i (.int (cs[i].toInt8.toInt32)) = bts (cs.take (i + 1)) ++ List.replicate (cs.length - (i + 1)) (Value.int 0) := by
  have hl : (bts (cs.take i)).length = i := by simp; omega
  rw [List.set_append_right _ _ (by omega), hl, Nat.sub_self]
  obtain ⟨m, hm⟩ : ∃ m, cs.length - i = m + 1 := ⟨cs.length - i - 1, by omega⟩
  rw [hm, show cs.length - (i + 1) = m by omega, List.replicate_succ, List.set_cons_zero, List.take_succ_eq_append_getElem hi]
  simp only [bts, List.map_append, List.map_cons, List.map_nil, List.append_assoc, List.singleton_append]

set_option maxRecDepth 65536 in
set_option maxHeartbeats 4000000 in
theorem lp_cmp5 {l : Launch} {Z : State} {a0 : Array Value} (H : Wd Z a0) {K : Cx} {h : Heap} {ca ba : Addr} {kc kb : ClassId} {cs : List Int32} (A : Arv Z h ca kc .char (Int32.ofNat cs.length) (ints cs) (.int 0)) (hl : Lat cs) (hne : ca ≠ ba) : ∀ (n i : Nat) (x6 : Slot) (h1 : Heap), n + i = cs.length → One x6 → Keep h h1 [ba] → Arv Z h1 ba kb .byte (Int32.ofNat cs.length) (bts (cs.take i) ++ List.replicate (cs.length - i) (.int 0)) (.int 0) → Go l Z K "java/lang/StringUTF16" "compress" jdk_52_method_21_code 7 (some .int) ({ frames := 0, cells := 0, slots := 0, locals := 0 } : Room) (fun v h' G => v = some (.int (Int32.ofNat cs.length)) ∧ Keep h h' [ba] ∧ Arv Z h' ba kb .byte (Int32.ofNat cs.length) (bts cs) (.int 0)) h1 [ba] 0 0 3 #[.val (.ref ca), .val (.int (Int32.ofNat i)), .val (.ref ba), .val (.int (Int32.ofNat i)), .val (.int (Int32.ofNat cs.length)), .val (.int (Int32.ofNat i)), x6] []

  | 0, i, x6, h1, hn, h6, K1, V1 => by
    obtain rfl : i = cs.length := by omega
    refine go_iload (v := (Int32.ofNat cs.length)) (q := 5) d6_3 rfl rfl ?_
    refine go_iload (v := (Int32.ofNat cs.length)) (q := 7) d6_5 rfl rfl ?_
    refine go_icY (q := 44) d6_7 (show ¬ Int32.ofNat cs.length < Int32.ofNat cs.length from Int32.lt_irrefl) (by decide) (by decide) ?_
    refine go_iload (v := (Int32.ofNat cs.length)) (q := 46) d6_44 rfl rfl ?_
    have V1 : Arv Z h1 ba kb .byte (Int32.ofNat cs.length) (bts cs) (.int 0) := by simpa using V1
    exact go_ireturn H (G := []) (t := .int) rfl (by decide) rfl d6_46 (by decide) (by decide) (fun _ q => nomatch q) ⟨rfl, K1, V1⟩
  | n + 1, i, x6, h1, hn, h6, K1, V1 => by
    have hi : i < cs.length := by omega
    have hb := hl.1
    have hc := hl.2 cs[i] (List.getElem_mem hi)
    refine go_iload (v := (Int32.ofNat i)) (q := 5) d6_3 rfl rfl ?_
    refine go_iload (v := (Int32.ofNat cs.length)) (q := 7) d6_5 rfl rfl ?_
    refine go_icN (q := 10) d6_7 ((lt_ofNat (by omega) (by omega)).mpr hi) rfl ?_
    refine go_aloadN (v := .ref ca) (q := 11) d6_10 rfl rfl rfl ?_
    refine go_iloadN (v := (Int32.ofNat i)) (q := 12) d6_11 rfl rfl ?_
    refine go_caload (v := .int (cs[i])) (q := 13) (A.keep K1 (ninS hne nin0)) ⟨nn_ofNat (by omega), (lt_ofNat (by omega) (by omega)).mpr hi⟩ (by rw [cl_ofNat (by omega)]; simp [ints, hi]) d6_12 rfl ?_
    refine go_istoreO (L' := #[.val (.ref ca), .val (.int (Int32.ofNat i)), .val (.ref ba), .val (.int (Int32.ofNat i)), .val (.int (Int32.ofNat cs.length)), .val (.int (Int32.ofNat i)), .val (.int (cs[i]))]) (q := 15) d6_13 rfl h6 rfl rfl ?_
    refine go_iload (v := cs[i]) (q := 17) d6_15 rfl rfl ?_
    refine go_sipush (x := (255 : Int32)) (q := 20) d6_17 rfl rfl ?_
    refine go_icY (q := 26) d6_20 (show ¬ (255 : Int32) < cs[i] from hc.2) (by decide) (by decide) ?_
    refine go_aloadN (v := .ref ba) (q := 27) d6_26 rfl rfl rfl ?_
    refine go_iloadN (v := (Int32.ofNat i)) (q := 28) d6_27 rfl rfl ?_
    refine go_iload (v := cs[i]) (q := 30) d6_28 rfl rfl ?_
    refine go_i2b (r := (cs[i]).toInt8.toInt32) (q := 31) d6_30 rfl rfl ?_
    refine go_bastore (i := i) (y := cs[i].toInt8.toInt32) (q := 32) V1 ⟨nn_ofNat (by omega), (lt_ofNat (by omega) (by omega)).mpr hi⟩ (cl_ofNat (by omega)) (by simp; omega) (by simp) (show (cs[i].toInt8.toInt32).toInt8.toInt32 = cs[i].toInt8.toInt32 by simp) d6_31 rfl ?_
    intro h2 K2 z2 V2
    rw [bts_set hi] at V2
    refine go_iinc (x := (Int32.ofNat i)) (y := (Int32.ofNat (i + 1))) (L' := #[.val (.ref ca), .val (.int (Int32.ofNat (i + 1))), .val (.ref ba), .val (.int (Int32.ofNat i)), .val (.int (Int32.ofNat cs.length)), .val (.int (Int32.ofNat i)), .val (.int (cs[i]))]) (q := 35) d6_32 rfl add1_ofNat rfl rfl ?_
    refine go_iinc (x := (Int32.ofNat i)) (y := (Int32.ofNat (i + 1))) (L' := #[.val (.ref ca), .val (.int (Int32.ofNat (i + 1))), .val (.ref ba), .val (.int (Int32.ofNat (i + 1))), .val (.int (Int32.ofNat cs.length)), .val (.int (Int32.ofNat i)), .val (.int (cs[i]))]) (q := 38) d6_35 rfl add1_ofNat rfl rfl ?_
    refine go_iinc (x := (Int32.ofNat i)) (y := (Int32.ofNat (i + 1))) (L' := #[.val (.ref ca), .val (.int (Int32.ofNat (i + 1))), .val (.ref ba), .val (.int (Int32.ofNat (i + 1))), .val (.int (Int32.ofNat cs.length)), .val (.int (Int32.ofNat (i + 1))), .val (.int (cs[i]))]) (q := 41) d6_38 rfl add1_ofNat rfl rfl ?_
    refine go_goto (q := 3) d6_41 (by decide) (by decide) ?_
    exact lp_cmp5 H A hl hne n (i + 1) _ h2 (by omega) (One.val rfl) (K1.trans K2 (fun x q => Or.inl q)) V2
set_option maxRecDepth 65536 in
set_option maxHeartbeats 4000000 in
theorem rm_cmp5 {l : Launch} {Z : State} {a0 : Array Value} (H : Wd Z a0) {h : Heap} {ca ba : Addr} {kc kb : ClassId} {cs : List Int32} (A : Arv Z h ca kc .char (Int32.ofNat cs.length) (ints cs) (.int 0)) (V : Arv Z h ba kb .byte (Int32.ofNat cs.length) (List.replicate cs.length (.int 0)) (.int 0)) (hl : Lat cs) (hne : ca ≠ ba) : Met l Z (⟨"java/lang/StringUTF16", "compress", "([CI[BII)I"⟩ : MethodName) jdk_52_method_21_code 7 (some .int) ({ frames := 0, cells := 0, slots := 0, locals := 0 } : Room) h [ba] #[.ref ca, .int 0, .ref ba, .int 0, .int (Int32.ofNat cs.length)] (fun v h' G => v = some (.int (Int32.ofNat cs.length)) ∧ Keep h h' [ba] ∧ Arv Z h' ba kb .byte (Int32.ofNat cs.length) (bts cs) (.int 0)) := by
  refine Met.mk (L := #[.val (.ref ca), .val (.int 0), .val (.ref ba), .val (.int 0), .val (.int (Int32.ofNat cs.length)), .unset, .unset]) (by decide +kernel) (fun m => by first | (simp [entryFrame, mkF, argsToLocals, Value.category]; done) | rfl) (fun K => ?_)
  show Go _ _ K "java/lang/StringUTF16" "compress" _ _ _ _ _ _ _ _ _ 0 _ _
  refine go_iconst (x := (0 : Int32)) (q := 1) d6_0 rfl rfl ?_
  refine go_istore (L' := #[.val (.ref ca), .val (.int 0), .val (.ref ba), .val (.int 0), .val (.int (Int32.ofNat cs.length)), .val (.int (0 : Int32)), .unset]) (q := 3) d6_1 rfl rfl ?_
  exact lp_cmp5 H A hl hne cs.length 0 _ h (by omega) One.u (Keep.refl _ _) (by simpa using V)
set_option maxRecDepth 65536 in
set_option maxHeartbeats 4000000 in
theorem rm_cmp3 {l : Launch} {Z : State} {a0 : Array Value} (H : Wd Z a0) {h : Heap} {ca : Addr} {kc : ClassId} {cs : List Int32} (A : Arv Z h ca kc .char (Int32.ofNat cs.length) (ints cs) (.int 0)) (hl : Lat cs) (hn : cs.length ≤ 16) : Met l Z (⟨"java/lang/StringUTF16", "compress", "([CII)[B"⟩ : MethodName) jdk_52_method_16_code 6 (some (.array .byte)) ({ frames := 1, cells := 1, slots := 16, locals := 18 } : Room) h [] #[.ref ca, .int 0, .int (Int32.ofNat cs.length)] (fun v h' G => ∃ ba kb, v = some (.ref ba) ∧ h.size ≤ ba ∧ Keep h h' [] ∧ Arv Z h' ba kb .byte (Int32.ofNat cs.length) (bts cs) (.int 0)) := by
  refine Met.mk (L := #[.val (.ref ca), .val (.int 0), .val (.int (Int32.ofNat cs.length)), .unset, .unset, .unset]) (by decide +kernel) (fun m => by first | (simp [entryFrame, mkF, argsToLocals, Value.category]; done) | rfl) (fun K => ?_)
  show Go _ _ K "java/lang/StringUTF16" "compress" _ _ _ _ _ _ _ _ _ 0 _ _
  refine go_iloadN (v := (Int32.ofNat cs.length)) (q := 1) d5_0 rfl rfl ?_
  refine go_newarray (ty := .byte) (dv := .int 0) (n := cs.length) (cap := 16) (ad := "[B") (c' := 1) (s' := 16) (q := 3) rfl rfl (cl_ofNat (by have := hl.1; omega)) (w_29 H) d5_1 (nn_ofNat (by have := hl.1; omega)) hn (by decide) rfl rfl rfl rfl (by decide) (by decide) ?_
  intro h1 ba kb g1 E1 V1 X1
  refine go_astoreN (L' := #[.val (.ref ca), .val (.int 0), .val (.int (Int32.ofNat cs.length)), .val (.ref ba), .unset, .unset]) (q := 4) d5_3 rfl rfl rfl ?_
  refine go_aloadN (v := .ref ca) (q := 5) d5_4 rfl rfl rfl ?_
  refine go_iloadN (v := 0) (q := 6) d5_5 rfl rfl ?_
  refine go_aloadN (v := .ref ba) (q := 7) d5_6 rfl rfl rfl ?_
  refine go_iconst (x := (0 : Int32)) (q := 8) d5_7 rfl rfl ?_
  refine go_iloadN (v := (Int32.ofNat cs.length)) (q := 9) d5_8 rfl rfl ?_
  have ne : ca ≠ ba := fun q => absurd A.lt (by rw [q, g1]; exact Nat.lt_irrefl _)
  refine go_static (c' := 1) (s' := 16) (q := 12) (S := []) (argsL := [.ref ca, .int 0, .ref ba, .int (0 : Int32), .int (Int32.ofNat cs.length)]) H (w_30 H) (w_31 H) (w_27 H) (w_32 H) (by decide) (rm_cmp5 H (A.ext E1) V1 hl ne) rfl rfl (lenOf pd_5 rfl) (fun _ q => q) rfl (by decide) (Nat.le_of_ble_eq_true rfl) rfl rfl (by decide) (by decide) d5_9 rfl ?_
  rintro _ h2 G - ⟨rfl, K2, V2⟩
  refine nx_ (v := none) ?_
  show Go _ _ _ _ _ _ _ _ _ _ _ _ _ _ 12 #[.val (.ref ca), .val (.int 0), .val (.int (Int32.ofNat cs.length)), .val (.ref ba), .unset, .unset] [.int (Int32.ofNat cs.length)]
  refine go_istore (L' := #[.val (.ref ca), .val (.int 0), .val (.int (Int32.ofNat cs.length)), .val (.ref ba), .val (.int (Int32.ofNat cs.length)), .unset]) (q := 14) d5_12 rfl rfl ?_
  refine go_iload (v := (Int32.ofNat cs.length)) (q := 16) d5_14 rfl rfl ?_
  refine go_iloadN (v := (Int32.ofNat cs.length)) (q := 17) d5_16 rfl rfl ?_
  refine go_icY (q := 57) d5_17 rfl (by decide) (by decide) ?_
  refine go_aloadN (v := .ref ba) (q := 58) d5_57 rfl rfl rfl ?_
  exact go_areturn H (G := []) (t := (.array .byte)) rfl rfl rfl d5_58 (by decide) (by decide) (fun _ q => nomatch q) ⟨ba, kb, rfl, by rw [g1]; exact Nat.le_refl _, ((Keep.refl h []).ext E1).trans K2 (fun x q => by cases List.mem_singleton.mp q; exact Or.inr (by rw [g1]; exact Nat.le_refl _)), V2⟩
set_option maxRecDepth 65536 in
set_option maxHeartbeats 4000000 in
theorem rm_codL {l : Launch} {Z : State} {a0 : Array Value} (H : Wd Z a0) {h : Heap} {ba : Addr} {kb : ClassId} {z : Int32} {vs : List Value} {dv : Value} (A : Arv Z h ba kb .byte z vs dv) : Met l Z (⟨"java/lang/StringUTF16", "coderFromArrayLen", "([BI)B"⟩ : MethodName) jdk_52_method_15_code 2 (some .byte) ({ frames := 0, cells := 0, slots := 0, locals := 0 } : Room) h [] #[.ref ba, .int z] (fun v h' G => v = some (.int 0) ∧ h = h') := by
  refine Met.mk (L := #[.val (.ref ba), .val (.int z)]) (by decide +kernel) (fun m => by first | (simp [entryFrame, mkF, argsToLocals, Value.category]; done) | rfl) (fun K => ?_)
  show Go _ _ K "java/lang/StringUTF16" "coderFromArrayLen" _ _ _ _ _ _ _ _ _ 0 _ _
  refine go_iloadN (v := z) (q := 1) d7_0 rfl rfl ?_
  refine go_aloadN (v := .ref ba) (q := 2) d7_1 rfl rfl rfl ?_
  refine go_arraylength (z := z) (q := 3) A d7_2 rfl ?_
  refine go_isub (r := 0) (q := 4) d7_3 (Int32.sub_self _) rfl ?_
  refine go_bipush (x := (31 : Int32)) (q := 6) d7_4 rfl rfl ?_
  refine go_iushr (r := 0) (q := 7) d7_6 rfl rfl ?_
  refine go_i2b (r := 0) (q := 8) d7_7 rfl rfl ?_
  exact go_ireturn H (G := []) (t := .byte) rfl (by decide) rfl d7_8 (by decide) (by decide) (fun _ q => nomatch q) ⟨rfl, rfl⟩
set_option maxRecDepth 65536 in
set_option maxHeartbeats 4000000 in
theorem rm_new4 {l : Launch} {Z : State} {a0 : Array Value} (H : Wd Z a0) {h : Heap} {F : List Addr} {x ca : Addr} {kc : ClassId} {cs : List Int32} (E : Exa Z h x ST) (C : Fld Z h x ST "coder" "B" (.int 0)) (Vv : Fld Z h x ST "value" "[B" .null) (A : Arv Z h ca kc .char (Int32.ofNat cs.length) (ints cs) (.int 0)) (hl : Lat cs) (hn : cs.length ≤ 16) (hx : x ∉ F) (h0 : ¬ cs.length = 0) : Met l Z (⟨"java/lang/String", "<init>", "([CIILjava/lang/Void;)V"⟩ : MethodName) jdk_42_method_149_code 6 none ({ frames := 2, cells := 4, slots := 16, locals := 35 } : Room) h (x :: F) #[.ref x, .ref ca, .int 0, .int (Int32.ofNat cs.length), .null] (fun v h' G => v = none ∧ Keep h h' [x] ∧ Str Z h' F x cs) := by
  refine Met.mk (L := #[.val (.ref x), .val (.ref ca), .val (.int 0), .val (.int (Int32.ofNat cs.length)), .val (.null), .unset]) (by decide +kernel) (fun m => by first | (simp [entryFrame, mkF, argsToLocals, Value.category]; done) | rfl) (fun K => ?_)
  show Go _ _ K "java/lang/String" "<init>" _ _ _ _ _ _ _ _ _ 0 _ _
  obtain ⟨cz, Sz, nz⟩ := H.2.2.2.1
  have sne : RoadKit.slotOf Z ST "value" "[B" ≠ RoadKit.slotOf Z ST "coder" "B" := slot_ne (C := ST) (Or.inr (w_39 H)) (Or.inr (w_37 H)) (by decide) (t := .array .byte) (t' := .byte) (by decide) (by decide)
  have wiS := (w_11 H)
  refine go_aloadN (v := .ref x) (q := 1) d3_0 rfl rfl rfl ?_
  refine go_initO (q := 4) (w_21 H) (w_22 H) (w_23 H) rfl d3_1 rfl (by decide) (Nat.le_of_ble_eq_true rfl) ?_
  refine go_iloadN (v := (Int32.ofNat cs.length)) (q := 5) d3_4 rfl rfl ?_
  refine go_mine fun hMine hOld => ?_
  refine go_ifY (q := 27) d3_5 (show ¬ _ = _ from fun q => h0 ((eq_ofNat (n := 0) (by have := hl.1; omega) (by decide)).mp q)) (by decide) (by decide) ?_
  refine go_getstatic (v := .int cz) (q := 30) (w_24 H) Via.refl Sz d3_27 rfl ?_
  refine go_ifN (q := 33) d3_30 nz rfl ?_
  refine go_aloadN (v := .ref ca) (q := 34) d3_33 rfl rfl rfl ?_
  refine go_iloadN (v := 0) (q := 35) d3_34 rfl rfl ?_
  refine go_iloadN (v := (Int32.ofNat cs.length)) (q := 36) d3_35 rfl rfl ?_
  refine go_static (c' := 1) (s' := 16) (q := 39) (S := []) (argsL := [.ref ca, .int 0, .int (Int32.ofNat cs.length)]) H (w_25 H) (w_26 H) (w_27 H) (w_28 H) (by decide) (rm_cmp3 H A hl hn) rfl rfl (lenOf pd_6 rfl) (fun _ q => nomatch q) rfl (by decide) (Nat.le_of_ble_eq_true rfl) rfl rfl (by decide) (by decide) d3_36 rfl ?_
  rintro _ h1 G - ⟨ba, kb, rfl, gb, K1, V1⟩
  refine nx_ (v := none) ?_
  show Go _ _ _ _ _ _ _ _ _ _ _ _ _ _ 39 #[.val (.ref x), .val (.ref ca), .val (.int 0), .val (.int (Int32.ofNat cs.length)), .val (.null), .unset] [.ref ba]
  refine go_astore (L' := #[.val (.ref x), .val (.ref ca), .val (.int 0), .val (.int (Int32.ofNat cs.length)), .val (.null), .val (.ref ba)]) (q := 41) d3_39 rfl rfl rfl ?_
  refine go_aloadN (v := .ref x) (q := 42) d3_41 rfl rfl rfl ?_
  refine go_aload (v := .ref ba) (q := 44) d3_42 rfl rfl rfl ?_
  refine go_iloadN (v := (Int32.ofNat cs.length)) (q := 45) d3_44 rfl rfl ?_
  refine go_static (c' := 1) (s' := 16) (q := 48) (S := [.ref x]) (argsL := [.ref ba, .int (Int32.ofNat cs.length)]) H (w_33 H) (w_34 H) (w_27 H) (w_35 H) (by decide) (rm_codL H V1) rfl rfl (lenOf pd_7 rfl) (fun _ q => nomatch q) rfl (by decide) (Nat.le_of_ble_eq_true rfl) rfl rfl (by decide) (by decide) d3_45 rfl ?_
  rintro _ _ G - ⟨rfl, rfl⟩
  refine nx_ (v := none) ?_
  show Go _ _ _ _ _ _ _ _ _ _ _ _ _ _ 48 #[.val (.ref x), .val (.ref ca), .val (.int 0), .val (.int (Int32.ofNat cs.length)), .val (.null), .val (.ref ba)] [.int 0, .ref x]
  refine go_putfield (q := 51) (w_36 H) Via.refl (C.keep K1 nin0) (E.keep K1) (Or.inr ⟨(w_37 H), rfl, rfl⟩) (w_11 H) (ty := .byte) (by decide) rfl rfl (by simp) d3_48 rfl ?_
  intro h2 W2
  have nxb : ba ≠ x := E.keep K1 |>.neArv V1 wiS |>.symm
  refine go_aloadN (v := .ref x) (q := 52) d3_51 rfl rfl rfl ?_
  refine go_aload (v := .ref ba) (q := 54) d3_52 rfl rfl rfl ?_
  refine go_putfield (q := 57) (w_38 H) Via.refl ((Vv.keep K1 nin0).other W2 (Or.inr sne)) ((E.keep K1).wr W2) (Or.inr ⟨(w_39 H), rfl, rfl⟩) (w_11 H) (ty := (.array .byte)) (by decide) rfl rfl (by simp) d3_54 rfl ?_
  intro h3 W3
  have Kp : Keep h h3 [x] := ((kless K1 (by simp)).wr W2 (Or.inl (by simp))).wr W3 (Or.inl (by simp))
  exact go_return H (G := []) rfl d3_57 (by decide) (by decide) (fun _ q => nomatch q) ⟨rfl, Kp, ((E.keep K1).wr W2).wr W3, (((C.keep K1 nin0).same W2).other W3 (Or.inr sne.symm)), hx, hl, ba, kb, fun q => absurd (hMine ba (by simp [q])).2 (Nat.not_lt.mpr gb), (((Vv.keep K1 nin0).other W2 (Or.inr sne)).same W3), ((V1.other W2 nxb).other W3 nxb)⟩
set_option maxRecDepth 65536 in
set_option maxHeartbeats 4000000 in
theorem rm_new1 {l : Launch} {Z : State} {a0 : Array Value} (H : Wd Z a0) {h : Heap} {F : List Addr} {x ca : Addr} {kc : ClassId} {cs : List Int32} (E : Exa Z h x ST) (C : Fld Z h x ST "coder" "B" (.int 0)) (Vv : Fld Z h x ST "value" "[B" .null) (A : Arv Z h ca kc .char (Int32.ofNat cs.length) (ints cs) (.int 0)) (hl : Lat cs) (hn : cs.length ≤ 16) (hx : x ∉ F) (h0 : ¬ cs.length = 0) : Met l Z (⟨"java/lang/String", "<init>", "([C)V"⟩ : MethodName) jdk_42_method_3_code 2 none ({ frames := 3, cells := 4, slots := 16, locals := 52 } : Room) h (x :: F) #[.ref x, .ref ca] (fun v h' G => v = none ∧ Keep h h' [x] ∧ Str Z h' F x cs) := by
  refine Met.mk (L := #[.val (.ref x), .val (.ref ca)]) (by decide +kernel) (fun m => by first | (simp [entryFrame, mkF, argsToLocals, Value.category]; done) | rfl) (fun K => ?_)
  show Go _ _ K "java/lang/String" "<init>" _ _ _ _ _ _ _ _ _ 0 _ _
  refine go_aloadN (v := .ref x) (q := 1) d2_0 rfl rfl rfl ?_
  refine go_aloadN (v := .ref ca) (q := 2) d2_1 rfl rfl rfl ?_
  refine go_iconst (x := (0 : Int32)) (q := 3) d2_2 rfl rfl ?_
  refine go_aloadN (v := .ref ca) (q := 4) d2_3 rfl rfl rfl ?_
  refine go_arraylength (z := (Int32.ofNat cs.length)) (q := 5) A d2_4 rfl ?_
  refine go_null (q := 6) d2_5 rfl ?_
  refine go_special (c' := 4) (s' := 16) (q := 9) (S := []) (argsL := [.ref ca, .int (0 : Int32), .int (Int32.ofNat cs.length), .null]) H rfl (w_17 H) (w_18 H) (w_12 H) (w_20 H) (by decide) (rm_new4 H E C Vv A hl hn hx h0) rfl rfl (lenOf pd_8 rfl) (fun _ q => q) rfl (by decide) (Nat.le_of_ble_eq_true rfl) rfl rfl (by decide) (by decide) d2_6 rfl ?_
  rintro _ h1 G - ⟨rfl, K1, S1⟩
  refine nx_ (v := none) ?_
  show Go _ _ _ _ _ _ _ _ _ _ _ _ _ _ 9 #[.val (.ref x), .val (.ref ca)] []
  exact go_return H (G := []) rfl d2_9 (by decide) (by decide) (fun _ q => nomatch q) ⟨rfl, K1, S1⟩
set_option maxRecDepth 65536 in
set_option maxHeartbeats 4000000 in
theorem rm_isL {l : Launch} {Z : State} {a0 : Array Value} (H : Wd Z a0) {h : Heap} {a : Addr} (C : Fld Z h a ST "coder" "B" (.int 0)) : Met l Z (⟨"java/lang/String", "isLatin1", "()Z"⟩ : MethodName) jdk_42_method_154_code 1 (some .boolean) ({ frames := 0, cells := 0, slots := 0, locals := 0 } : Room) h [] #[.ref a] (fun v h' G => v = some (.int 1) ∧ h = h') := by
  refine Met.mk (L := #[.val (.ref a)]) (by decide +kernel) (fun m => by first | (simp [entryFrame, mkF, argsToLocals, Value.category]; done) | rfl) (fun K => ?_)
  show Go _ _ K "java/lang/String" "isLatin1" _ _ _ _ _ _ _ _ _ 0 _ _
  obtain ⟨cz, Sz, nz⟩ := H.2.2.2.1
  refine go_getstatic (v := .int cz) (q := 3) (w_24 H) Via.refl Sz d12_0 rfl ?_
  refine go_ifN (q := 6) d12_3 nz rfl ?_
  refine go_aloadN (v := .ref a) (q := 7) d12_6 rfl rfl rfl ?_
  refine go_getfield (v := .int 0) (q := 10) (w_36 H) Via.refl C d12_7 rfl ?_
  refine go_ifN (q := 13) d12_10 rfl rfl ?_
  refine go_iconst (x := (1 : Int32)) (q := 14) d12_13 rfl rfl ?_
  refine go_goto (q := 18) d12_14 (by decide) (by decide) ?_
  exact go_ireturn H (G := []) (t := .boolean) rfl (by decide) rfl d12_18 (by decide) (by decide) (fun _ q => nomatch q) ⟨rfl, rfl⟩
set_option maxRecDepth 65536 in
set_option maxHeartbeats 4000000 in
theorem rm_ckP {l : Launch} {Z : State} {a0 : Array Value} (H : Wd Z a0) {h : Heap} {i n : Int32} {f : Value} (hf : f.isRef = true) (h0 : ¬ i < 0) (h1 : i < n) : Met l Z (⟨"jdk/internal/util/Preconditions", "checkIndex", "(IILjava/util/function/BiFunction;)I"⟩ : MethodName) jdk_41_method_11_code 3 (some .int) ({ frames := 0, cells := 0, slots := 0, locals := 0 } : Room) h [] #[.int i, .int n, f] (fun v h' G => v = some (.int i) ∧ h = h') := by
  refine Met.mk (L := #[.val (.int i), .val (.int n), .val (f)]) (by decide +kernel) (fun m => by rcases ref_cases hf with rfl | ⟨_, rfl⟩ <;> first | (simp [entryFrame, mkF, argsToLocals, Value.category]; done) | rfl) (fun K => ?_)
  show Go _ _ K "jdk/internal/util/Preconditions" "checkIndex" _ _ _ _ _ _ _ _ _ 0 _ _
  refine go_iloadN (v := i) (q := 1) d15_0 rfl rfl ?_
  refine go_ifN (q := 4) d15_1 h0 rfl ?_
  refine go_iloadN (v := i) (q := 5) d15_4 rfl rfl ?_
  refine go_iloadN (v := n) (q := 6) d15_5 rfl rfl ?_
  refine go_icY (q := 16) d15_6 h1 (by decide) (by decide) ?_
  refine go_iloadN (v := i) (q := 17) d15_16 rfl rfl ?_
  exact go_ireturn H (G := []) (t := .int) rfl (by decide) rfl d15_17 (by decide) (by decide) (fun _ q => nomatch q) ⟨rfl, rfl⟩
set_option maxRecDepth 65536 in
set_option maxHeartbeats 4000000 in
theorem rm_ckS {l : Launch} {Z : State} {a0 : Array Value} (H : Wd Z a0) {h : Heap} {i n : Int32} (h0 : ¬ i < 0) (h1 : i < n) : Met l Z (⟨"java/lang/String", "checkIndex", "(II)V"⟩ : MethodName) jdk_42_method_155_code 2 none ({ frames := 1, cells := 0, slots := 0, locals := 14 } : Room) h [] #[.int i, .int n] (fun v h' G => v = none ∧ h = h') := by
  refine Met.mk (L := #[.val (.int i), .val (.int n)]) (by decide +kernel) (fun m => by first | (simp [entryFrame, mkF, argsToLocals, Value.category]; done) | rfl) (fun K => ?_)
  show Go _ _ K "java/lang/String" "checkIndex" _ _ _ _ _ _ _ _ _ 0 _ _
  obtain ⟨fm, Sf, rf⟩ := H.2.2.2.2.1
  refine go_iloadN (v := i) (q := 1) d14_0 rfl rfl ?_
  refine go_iloadN (v := n) (q := 2) d14_1 rfl rfl ?_
  refine go_getstatic (v := fm) (q := 5) (w_74 H) Via.refl Sf d14_2 rfl ?_
  refine go_static (c' := 0) (s' := 0) (q := 8) (S := []) (argsL := [.int i, .int n, fm]) H (w_76 H) (w_77 H) (w_75 H) (w_78 H) (by decide) (rm_ckP H rf h0 h1) rfl rfl (lenOf pd_9 rfl) (fun _ q => nomatch q) rfl (by decide) (Nat.le_of_ble_eq_true rfl) rfl rfl (by decide) (by decide) d14_5 rfl ?_
  rintro _ _ G - ⟨rfl, rfl⟩
  refine nx_ (v := none) ?_
  show Go _ _ _ _ _ _ _ _ _ _ _ _ _ _ 8 #[.val (.int i), .val (.int n)] [.int i]
  refine go_pop (q := 9) d14_8 rfl rfl ?_
  exact go_return H (G := []) rfl d14_9 (by decide) (by decide) (fun _ q => nomatch q) ⟨rfl, rfl⟩
set_option maxRecDepth 65536 in
set_option maxHeartbeats 4000000 in
theorem rm_l1ch {l : Launch} {Z : State} {a0 : Array Value} (H : Wd Z a0) {h : Heap} {ba : Addr} {kb : ClassId} {cs : List Int32} {i : Nat} (A : Arv Z h ba kb .byte (Int32.ofNat cs.length) (bts cs) (.int 0)) (hl : Lat cs) (hi : i < cs.length) : Met l Z (⟨"java/lang/StringLatin1", "charAt", "([BI)C"⟩ : MethodName) jdk_43_method_2_code 2 (some .char) ({ frames := 2, cells := 0, slots := 0, locals := 27 } : Room) h [] #[.ref ba, .int (Int32.ofNat i)] (fun v h' G => v = some (.int cs[i]) ∧ h = h') := by
  refine Met.mk (L := #[.val (.ref ba), .val (.int (Int32.ofNat i))]) (by decide +kernel) (fun m => by first | (simp [entryFrame, mkF, argsToLocals, Value.category]; done) | rfl) (fun K => ?_)
  show Go _ _ K "java/lang/StringLatin1" "charAt" _ _ _ _ _ _ _ _ _ 0 _ _
  have hb := hl.1
  have hc := hl.2 cs[i] (List.getElem_mem hi)
  have n0 : ¬ Int32.ofNat i < 0 := nn_ofNat (by omega)
  have n1 : Int32.ofNat i < Int32.ofNat cs.length := (lt_ofNat (by omega) (by omega)).mpr hi
  refine go_iloadN (v := (Int32.ofNat i)) (q := 1) d13_0 rfl rfl ?_
  refine go_aloadN (v := .ref ba) (q := 2) d13_1 rfl rfl rfl ?_
  refine go_arraylength (z := (Int32.ofNat cs.length)) (q := 3) A d13_2 rfl ?_
  refine go_static (c' := 0) (s' := 0) (q := 6) (S := []) (argsL := [.int (Int32.ofNat i), .int (Int32.ofNat cs.length)]) H (w_71 H) (w_72 H) (w_12 H) (w_73 H) (by decide) (rm_ckS H n0 n1) rfl rfl (lenOf pd_10 rfl) (fun _ q => nomatch q) rfl (by decide) (Nat.le_of_ble_eq_true rfl) rfl rfl (by decide) (by decide) d13_3 rfl ?_
  rintro _ _ G - ⟨rfl, rfl⟩
  refine nx_ (v := none) ?_
  show Go _ _ _ _ _ _ _ _ _ _ _ _ _ _ 6 #[.val (.ref ba), .val (.int (Int32.ofNat i))] []
  refine go_aloadN (v := .ref ba) (q := 7) d13_6 rfl rfl rfl ?_
  refine go_iloadN (v := (Int32.ofNat i)) (q := 8) d13_7 rfl rfl ?_
  refine go_baload (v := .int (cs[i].toInt8.toInt32)) (q := 9) A ⟨n0, n1⟩ (by rw [cl_ofNat (by omega)]; exact bts_at hi) d13_8 rfl ?_
  refine go_sipush (x := (255 : Int32)) (q := 12) d13_9 rfl rfl ?_
  refine go_iand (r := cs[i]) (q := 13) d13_12 (b_and hc) rfl ?_
  refine go_i2c (r := cs[i]) (q := 14) d13_13 (nar_char hc.1 hc.2) rfl ?_
  exact go_ireturn H (G := []) (t := .char) rfl (by decide) (by show Value.int (nar .char cs[i]) = _; rw [nar_char hc.1 hc.2]) d13_14 (by decide) (by decide) (fun _ q => nomatch q) ⟨rfl, rfl⟩
set_option maxRecDepth 65536 in
set_option maxHeartbeats 4000000 in
theorem rm_chAt {l : Launch} {Z : State} {a0 : Array Value} (H : Wd Z a0) {h : Heap} {F : List Addr} {a : Addr} {cs : List Int32} {i : Nat} (S : Str Z h F a cs) (hi : i < cs.length) : Met l Z (⟨"java/lang/String", "charAt", "(I)C"⟩ : MethodName) jdk_42_method_56_code 2 (some .char) ({ frames := 3, cells := 0, slots := 0, locals := 40 } : Room) h [] #[.ref a, .int (Int32.ofNat i)] (fun v h' G => v = some (.int cs[i]) ∧ h = h') := by
  refine Met.mk (L := #[.val (.ref a), .val (.int (Int32.ofNat i))]) (by decide +kernel) (fun m => by first | (simp [entryFrame, mkF, argsToLocals, Value.category]; done) | rfl) (fun K => ?_)
  show Go _ _ K "java/lang/String" "charAt" _ _ _ _ _ _ _ _ _ 0 _ _
  obtain ⟨E, C, ha, hl, bb, k, hb, Vv, A⟩ := S
  have hc := hl.2 cs[i] (List.getElem_mem hi)
  refine go_aloadN (v := .ref a) (q := 1) d11_0 rfl rfl rfl ?_
  refine go_virtual (c' := 0) (s' := 0) (q := 4) (S := []) (argsL := []) H (C := "java/lang/String") (w_62 H) (w_63 H) (nf_self (w_65 H)) (w_65 H) (w_64 H) (w_12 H) (w_66 H) (by decide) E (rm_isL H C) rfl rfl (lenOf pd_11 rfl) (fun _ q => nomatch q) rfl (by decide) (Nat.le_of_ble_eq_true rfl) rfl rfl (by decide) (by decide) d11_1 rfl ?_
  rintro _ _ G - ⟨rfl, rfl⟩
  refine nx_ (v := none) ?_
  show Go _ _ _ _ _ _ _ _ _ _ _ _ _ _ 4 #[.val (.ref a), .val (.int (Int32.ofNat i))] [.int 1]
  refine go_ifN (q := 7) d11_4 (by decide) rfl ?_
  refine go_aloadN (v := .ref a) (q := 8) d11_7 rfl rfl rfl ?_
  refine go_getfield (v := .ref bb) (q := 11) (w_38 H) Via.refl Vv d11_8 rfl ?_
  refine go_iloadN (v := (Int32.ofNat i)) (q := 12) d11_11 rfl rfl ?_
  refine go_static (c' := 0) (s' := 0) (q := 15) (S := []) (argsL := [.ref bb, .int (Int32.ofNat i)]) H (w_67 H) (w_68 H) (w_69 H) (w_70 H) (by decide) (rm_l1ch H A hl hi) rfl rfl (lenOf pd_12 rfl) (fun _ q => nomatch q) rfl (by decide) (Nat.le_of_ble_eq_true rfl) rfl rfl (by decide) (by decide) d11_12 rfl ?_
  rintro _ _ G - ⟨rfl, rfl⟩
  refine nx_ (v := none) ?_
  show Go _ _ _ _ _ _ _ _ _ _ _ _ _ _ 15 #[.val (.ref a), .val (.int (Int32.ofNat i))] [.int (cs[i])]
  exact go_ireturn H (G := []) (t := .char) rfl (by decide) (by show Value.int (nar .char cs[i]) = _; rw [nar_char hc.1 hc.2]) d11_15 (by decide) (by decide) (fun _ q => nomatch q) ⟨rfl, rfl⟩
set_option maxRecDepth 65536 in
set_option maxHeartbeats 4000000 in
theorem rm_max {l : Launch} {Z : State} {a0 : Array Value} (H : Wd Z a0) {h : Heap} {i j : Int32}  : Met l Z (⟨"java/lang/Math", "max", "(II)I"⟩ : MethodName) jdk_29_method_65_code 2 (some .int) ({ frames := 0, cells := 0, slots := 0, locals := 0 } : Room) h [] #[.int i, .int j] (fun u h' G => u = some (.int (if i < j then j else i)) ∧ h = h') := by
  refine Met.mk (L := #[.val (.int i), .val (.int j)]) (by decide +kernel) (fun m => by first | (simp [entryFrame, mkF, argsToLocals, Value.category]; done) | rfl) (fun K => ?_)
  show Go _ _ K "java/lang/Math" "max" _ _ _ _ _ _ _ _ _ 0 _ _
  refine go_iloadN (v := i) (q := 1) d28_0 rfl rfl ?_
  refine go_iloadN (v := j) (q := 2) d28_1 rfl rfl ?_
  by_cases q : i < j
  · refine go_icY (q := 9) d28_2 q (by decide) (by decide) ?_
    refine go_iloadN (v := j) (q := 10) d28_9 rfl rfl ?_
    exact go_ireturn H (G := []) (t := .int) rfl (by decide) rfl d28_10 (by decide) (by decide) (fun _ q => nomatch q) ⟨by rw [if_pos q], rfl⟩
  · refine go_icN (q := 5) d28_2 q rfl ?_
    refine go_iloadN (v := i) (q := 6) d28_5 rfl rfl ?_
    refine go_goto (q := 10) d28_6 (by decide) (by decide) ?_
    exact go_ireturn H (G := []) (t := .int) rfl (by decide) rfl d28_10 (by decide) (by decide) (fun _ q => nomatch q) ⟨by rw [if_neg q], rfl⟩
set_option maxRecDepth 65536 in
set_option maxHeartbeats 4000000 in
theorem rm_min {l : Launch} {Z : State} {a0 : Array Value} (H : Wd Z a0) {h : Heap} {i j : Int32}  : Met l Z (⟨"java/lang/Math", "min", "(II)I"⟩ : MethodName) jdk_29_method_69_code 2 (some .int) ({ frames := 0, cells := 0, slots := 0, locals := 0 } : Room) h [] #[.int i, .int j] (fun u h' G => u = some (.int (if j < i then j else i)) ∧ h = h') := by
  refine Met.mk (L := #[.val (.int i), .val (.int j)]) (by decide +kernel) (fun m => by first | (simp [entryFrame, mkF, argsToLocals, Value.category]; done) | rfl) (fun K => ?_)
  show Go _ _ K "java/lang/Math" "min" _ _ _ _ _ _ _ _ _ 0 _ _
  refine go_iloadN (v := i) (q := 1) d29_0 rfl rfl ?_
  refine go_iloadN (v := j) (q := 2) d29_1 rfl rfl ?_
  by_cases q : j < i
  · refine go_icY (q := 9) d29_2 q (by decide) (by decide) ?_
    refine go_iloadN (v := j) (q := 10) d29_9 rfl rfl ?_
    exact go_ireturn H (G := []) (t := .int) rfl (by decide) rfl d29_10 (by decide) (by decide) (fun _ q => nomatch q) ⟨by rw [if_pos q], rfl⟩
  · refine go_icN (q := 5) d29_2 q rfl ?_
    refine go_iloadN (v := i) (q := 6) d29_5 rfl rfl ?_
    refine go_goto (q := 10) d29_6 (by decide) (by decide) ?_
    exact go_ireturn H (G := []) (t := .int) rfl (by decide) rfl d29_10 (by decide) (by decide) (fun _ q => nomatch q) ⟨by rw [if_neg q], rfl⟩
set_option maxRecDepth 65536 in
set_option maxHeartbeats 4000000 in
theorem lp_cmp5U {l : Launch} {Z : State} {a0 : Array Value} (H : Wd Z a0) {K : Cx} {h : Heap} {ca ba : Addr} {kc kb : ClassId} {cs : List Int32} {k : Nat} (A : Arv Z h ca kc .char (Int32.ofNat cs.length) (ints cs) (.int 0)) (hl : U16 cs) (hne : ca ≠ ba) (hk : k < cs.length) (hg : 255 < cs[k]) (hlo : ∀ j (hj : j < k), ¬ 255 < cs[j]) : ∀ (n i : Nat) (x6 : Slot) (h1 : Heap) (vs : List Value), n + i = k → One x6 → Keep h h1 [ba] → vs.length = cs.length → Arv Z h1 ba kb .byte (Int32.ofNat cs.length) vs (.int 0) → Go l Z K "java/lang/StringUTF16" "compress" jdk_52_method_21_code 7 (some .int) ({ frames := 0, cells := 0, slots := 0, locals := 0 } : Room) (fun v h' G => v = some (.int (Int32.ofNat k)) ∧ Keep h h' [ba]) h1 [ba] 0 0 3 #[.val (.ref ca), .val (.int (Int32.ofNat i)), .val (.ref ba), .val (.int (Int32.ofNat i)), .val (.int (Int32.ofNat cs.length)), .val (.int (Int32.ofNat i)), x6] []
  | 0, i, x6, h1, vs, hn, h6, K1, hv, V1 => by
    obtain rfl : i = k := by omega
    have hi : i < cs.length := hk
    have hb := hl.1
    refine go_iload (v := (Int32.ofNat i)) (q := 5) d6_3 rfl rfl ?_
    refine go_iload (v := (Int32.ofNat cs.length)) (q := 7) d6_5 rfl rfl ?_
    refine go_icN (q := 10) d6_7 ((lt_ofNat (by omega) (by omega)).mpr hi) rfl ?_
    refine go_aloadN (v := .ref ca) (q := 11) d6_10 rfl rfl rfl ?_
    refine go_iloadN (v := (Int32.ofNat i)) (q := 12) d6_11 rfl rfl ?_
    refine go_caload (v := .int (cs[i])) (q := 13) (A.keep K1 (ninS hne nin0)) ⟨nn_ofNat (by omega), (lt_ofNat (by omega) (by omega)).mpr hi⟩ (by rw [cl_ofNat (by omega)]; simp [ints, hi]) d6_12 rfl ?_
    refine go_istoreO (L' := #[.val (.ref ca), .val (.int (Int32.ofNat i)), .val (.ref ba), .val (.int (Int32.ofNat i)), .val (.int (Int32.ofNat cs.length)), .val (.int (Int32.ofNat i)), .val (.int (cs[i]))]) (q := 15) d6_13 rfl h6 rfl rfl ?_
    refine go_iload (v := cs[i]) (q := 17) d6_15 rfl rfl ?_
    refine go_sipush (x := (255 : Int32)) (q := 20) d6_17 rfl rfl ?_
    refine go_icN (q := 23) d6_20 (show (255 : Int32) < cs[i] from hg) rfl ?_
    refine go_iload (v := (Int32.ofNat i)) (q := 25) d6_23 rfl rfl ?_
    exact go_ireturn H (G := []) (t := .int) rfl (by decide) rfl d6_25 (by decide) (by decide) (fun _ q => nomatch q) ⟨rfl, K1⟩
  | n + 1, i, x6, h1, vs, hn, h6, K1, hv, V1 => by
    have hi : i < cs.length := by omega
    have hb := hl.1
    refine go_iload (v := (Int32.ofNat i)) (q := 5) d6_3 rfl rfl ?_
    refine go_iload (v := (Int32.ofNat cs.length)) (q := 7) d6_5 rfl rfl ?_
    refine go_icN (q := 10) d6_7 ((lt_ofNat (by omega) (by omega)).mpr hi) rfl ?_
    refine go_aloadN (v := .ref ca) (q := 11) d6_10 rfl rfl rfl ?_
    refine go_iloadN (v := (Int32.ofNat i)) (q := 12) d6_11 rfl rfl ?_
    refine go_caload (v := .int (cs[i])) (q := 13) (A.keep K1 (ninS hne nin0)) ⟨nn_ofNat (by omega), (lt_ofNat (by omega) (by omega)).mpr hi⟩ (by rw [cl_ofNat (by omega)]; simp [ints, hi]) d6_12 rfl ?_
    refine go_istoreO (L' := #[.val (.ref ca), .val (.int (Int32.ofNat i)), .val (.ref ba), .val (.int (Int32.ofNat i)), .val (.int (Int32.ofNat cs.length)), .val (.int (Int32.ofNat i)), .val (.int (cs[i]))]) (q := 15) d6_13 rfl h6 rfl rfl ?_
    refine go_iload (v := cs[i]) (q := 17) d6_15 rfl rfl ?_
    refine go_sipush (x := (255 : Int32)) (q := 20) d6_17 rfl rfl ?_
    refine go_icY (q := 26) d6_20 (show ¬ (255 : Int32) < cs[i] from hlo i (by omega)) (by decide) (by decide) ?_
    refine go_aloadN (v := .ref ba) (q := 27) d6_26 rfl rfl rfl ?_
    refine go_iloadN (v := (Int32.ofNat i)) (q := 28) d6_27 rfl rfl ?_
    refine go_iload (v := cs[i]) (q := 30) d6_28 rfl rfl ?_
    refine go_i2b (r := (cs[i]).toInt8.toInt32) (q := 31) d6_30 rfl rfl ?_
    refine go_bastore (i := i) (y := cs[i].toInt8.toInt32) (q := 32) V1 ⟨nn_ofNat (by omega), (lt_ofNat (by omega) (by omega)).mpr hi⟩ (cl_ofNat (by omega)) (by omega) (by simp) (show (cs[i].toInt8.toInt32).toInt8.toInt32 = cs[i].toInt8.toInt32 by simp) d6_31 rfl ?_
    intro h2 K2 z2 V2
    refine go_iinc (x := (Int32.ofNat i)) (y := (Int32.ofNat (i + 1))) (L' := #[.val (.ref ca), .val (.int (Int32.ofNat (i + 1))), .val (.ref ba), .val (.int (Int32.ofNat i)), .val (.int (Int32.ofNat cs.length)), .val (.int (Int32.ofNat i)), .val (.int (cs[i]))]) (q := 35) d6_32 rfl add1_ofNat rfl rfl ?_
    refine go_iinc (x := (Int32.ofNat i)) (y := (Int32.ofNat (i + 1))) (L' := #[.val (.ref ca), .val (.int (Int32.ofNat (i + 1))), .val (.ref ba), .val (.int (Int32.ofNat (i + 1))), .val (.int (Int32.ofNat cs.length)), .val (.int (Int32.ofNat i)), .val (.int (cs[i]))]) (q := 38) d6_35 rfl add1_ofNat rfl rfl ?_
    refine go_iinc (x := (Int32.ofNat i)) (y := (Int32.ofNat (i + 1))) (L' := #[.val (.ref ca), .val (.int (Int32.ofNat (i + 1))), .val (.ref ba), .val (.int (Int32.ofNat (i + 1))), .val (.int (Int32.ofNat cs.length)), .val (.int (Int32.ofNat (i + 1))), .val (.int (cs[i]))]) (q := 41) d6_38 rfl add1_ofNat rfl rfl ?_
    refine go_goto (q := 3) d6_41 (by decide) (by decide) ?_
    exact lp_cmp5U H A hl hne hk hg hlo n (i + 1) _ h2 _ (by omega) (One.val rfl) (K1.trans K2 (fun x q => Or.inl q)) (by rw [List.length_set]; exact hv) V2
set_option maxRecDepth 65536 in
set_option maxHeartbeats 4000000 in
theorem rm_cmp5U {l : Launch} {Z : State} {a0 : Array Value} (H : Wd Z a0) {h : Heap} {ca ba : Addr} {kc kb : ClassId} {cs : List Int32} {k : Nat} (A : Arv Z h ca kc .char (Int32.ofNat cs.length) (ints cs) (.int 0)) (hl : U16 cs) (hne : ca ≠ ba) (hk : k < cs.length) (hg : 255 < cs[k]) (hlo : ∀ j (hj : j < k), ¬ 255 < cs[j]) (V : Arv Z h ba kb .byte (Int32.ofNat cs.length) (List.replicate cs.length (.int 0)) (.int 0)) : Met l Z (⟨"java/lang/StringUTF16", "compress", "([CI[BII)I"⟩ : MethodName) jdk_52_method_21_code 7 (some .int) ({ frames := 0, cells := 0, slots := 0, locals := 0 } : Room) h [ba] #[.ref ca, .int 0, .ref ba, .int 0, .int (Int32.ofNat cs.length)] (fun v h' G => v = some (.int (Int32.ofNat k)) ∧ Keep h h' [ba]) := by
  refine Met.mk (L := #[.val (.ref ca), .val (.int 0), .val (.ref ba), .val (.int 0), .val (.int (Int32.ofNat cs.length)), .unset, .unset]) (by decide +kernel) (fun m => by first | (simp [entryFrame, mkF, argsToLocals, Value.category]; done) | rfl) (fun K => ?_)
  show Go _ _ K "java/lang/StringUTF16" "compress" _ _ _ _ _ _ _ _ _ 0 _ _
  refine go_iconst (x := (0 : Int32)) (q := 1) d6_0 rfl rfl ?_
  refine go_istore (L' := #[.val (.ref ca), .val (.int 0), .val (.ref ba), .val (.int 0), .val (.int (Int32.ofNat cs.length)), .val (.int (0 : Int32)), .unset]) (q := 3) d6_1 rfl rfl ?_
  exact lp_cmp5U H A hl hne hk hg hlo k 0 _ h _ (by omega) One.u (Keep.refl _ _) (by simp) V
set_option maxRecDepth 65536 in
set_option maxHeartbeats 4000000 in
theorem rm_nbl {l : Launch} {Z : State} {a0 : Array Value} (H : Wd Z a0) {h : Heap} {n : Nat} (hn : n ≤ 4) : Met l Z (⟨"java/lang/StringUTF16", "newBytesLength", "(I)I"⟩ : MethodName) jdk_52_method_3_code 1 (some .int) ({ frames := 0, cells := 0, slots := 0, locals := 0 } : Room) h [] #[.int (Int32.ofNat n)] (fun u h' G => u = some (.int (Int32.ofNat (2 * n))) ∧ h = h') := by
  refine Met.mk (L := #[.val (.int (Int32.ofNat n))]) (by decide +kernel) (fun m => by first | (simp [entryFrame, mkF, argsToLocals, Value.category]; done) | rfl) (fun K => ?_)
  show Go _ _ K "java/lang/StringUTF16" "newBytesLength" _ _ _ _ _ _ _ _ _ 0 _ _
  refine go_iloadN (v := (Int32.ofNat n)) (q := 1) d18_0 rfl rfl ?_
  refine go_ifY (q := 12) d18_1 (nn_ofNat (by omega)) (by decide) (by decide) ?_
  refine go_iloadN (v := (Int32.ofNat n)) (q := 13) d18_12 rfl rfl ?_
  refine go_ldcInt (v := (1073741823 : Int32)) (q := 15) (w_88 H) d18_13 rfl ?_
  refine go_icY (q := 55) d18_15 ((lt_ofNat (n := 1073741823) (by omega) (by decide)).mpr (by omega)) (by decide) (by decide) ?_
  refine go_iloadN (v := (Int32.ofNat n)) (q := 56) d18_55 rfl rfl ?_
  refine go_iconst (x := (1 : Int32)) (q := 57) d18_56 rfl rfl ?_
  refine go_ishl (r := (Int32.ofNat (2 * n))) (q := 58) d18_57 (shl1 (by omega)) rfl ?_
  exact go_ireturn H (G := []) (t := .int) rfl (by decide) rfl d18_58 (by decide) (by decide) (fun _ q => nomatch q) ⟨rfl, rfl⟩
set_option maxRecDepth 65536 in
set_option maxHeartbeats 4000000 in
theorem rm_nbf {l : Launch} {Z : State} {a0 : Array Value} (H : Wd Z a0) {h : Heap} {n : Nat} (hn : n ≤ 4) : Met l Z (⟨"java/lang/StringUTF16", "newBytesFor", "(I)[B"⟩ : MethodName) jdk_52_method_2_code 1 (some (.array .byte)) ({ frames := 1, cells := 1, slots := 8, locals := 12 } : Room) h [] #[.int (Int32.ofNat n)] (fun u h' G => ∃ ba kb, u = some (.ref ba) ∧ G = [ba] ∧ h.size ≤ ba ∧ Keep h h' [] ∧ Arv Z h' ba kb .byte (Int32.ofNat (2 * n)) (zs (2 * n)) (.int 0)) := by
  refine Met.mk (L := #[.val (.int (Int32.ofNat n))]) (by decide +kernel) (fun m => by first | (simp [entryFrame, mkF, argsToLocals, Value.category]; done) | rfl) (fun K => ?_)
  show Go _ _ K "java/lang/StringUTF16" "newBytesFor" _ _ _ _ _ _ _ _ _ 0 _ _
  have Ka : Keep h h [] := Keep.refl _ _
  refine go_iloadN (v := (Int32.ofNat n)) (q := 1) d17_0 rfl rfl ?_
  refine go_static (c' := 0) (s' := 0) (q := 4) (S := []) (argsL := [.int (Int32.ofNat n)]) H (w_85 H) (w_86 H) (w_27 H) (w_87 H) (by decide) (rm_nbl H hn) rfl rfl (lenOf pd_0 rfl) (fun _ q => nomatch q) rfl (by decide) (Nat.le_of_ble_eq_true rfl) rfl rfl (by decide) (by decide) d17_1 rfl ?_
  rintro _ _ G - ⟨rfl, rfl⟩
  refine nx_ (v := none) ?_
  show Go _ _ _ _ _ _ _ _ _ _ _ _ _ _ 4 #[.val (.int (Int32.ofNat n))] [.int (Int32.ofNat (2 * n))]
  refine go_newarray (ty := .byte) (dv := .int 0) (n := (2 * n)) (cap := 8) (ad := "[B") (c' := 1) (s' := 8) (q := 6) rfl rfl (cl_ofNat (by omega)) (w_29 H) d17_4 (nn_ofNat (by omega)) (by omega) (by decide) rfl rfl rfl rfl (by decide) (by decide) ?_
  intro h1 ba kb g1 E1 V1 X1
  have f_Ka_ba : h.size ≤ ba := by rw [g1]; exact Ka.1
  have Ka : Keep h h1 [] := Ka.ext E1
  exact go_areturn H (G := [ba]) (t := (.array .byte)) rfl rfl rfl d17_6 (by decide) (by decide) (by simp) ⟨ba, kb, rfl, rfl, f_Ka_ba, Ka, V1⟩
set_option maxRecDepth 65536 in
set_option maxHeartbeats 4000000 in
theorem rm_put {l : Launch} {Z : State} {a0 : Array Value} (H : Wd Z a0) {h : Heap} {ba : Addr} {kb : ClassId} {n i : Nat} {c : Int32} {vs : List Value} (US : U16S Z) (V : Arv Z h ba kb .byte (Int32.ofNat (2 * n)) vs (.int 0)) (hv : vs.length = 2 * n) (hi : i < n) (hn : n ≤ 400) : Met l Z (⟨"java/lang/StringUTF16", "putChar", "([BII)V"⟩ : MethodName) jdk_52_method_4_code 3 none ({ frames := 0, cells := 0, slots := 0, locals := 0 } : Room) h [ba] #[.ref ba, .int (Int32.ofNat i), .int c] (fun u h' G => u = none ∧ Keep h h' [ba] ∧ Arv Z h' ba kb .byte (Int32.ofNat (2 * n)) ((vs.set (2 * i) (loB c)).set (2 * i + 1) (hiB c)) (.int 0)) := by
  refine Met.mk (L := #[.val (.ref ba), .val (.int (Int32.ofNat i)), .val (.int c)]) (by decide +kernel) (fun m => by first | (simp [entryFrame, mkF, argsToLocals, Value.category]; done) | rfl) (fun K => ?_)
  show Go _ _ K "java/lang/StringUTF16" "putChar" _ _ _ _ _ _ _ _ _ 0 _ _
  obtain ⟨ua, uh, ul⟩ := US
  refine go_getstatic (v := .int (1 : Int32)) (q := 3) (w_92 H) Via.refl ua d19_0 rfl ?_
  refine go_ifY (q := 28) d19_3 (by decide) (by decide) (by decide) ?_
  refine go_iloadN (v := (Int32.ofNat i)) (q := 29) d19_28 rfl rfl ?_
  refine go_iconst (x := (1 : Int32)) (q := 30) d19_29 rfl rfl ?_
  refine go_ishl (r := (Int32.ofNat (2 * i))) (q := 31) d19_30 (shl1 (by omega)) rfl ?_
  refine go_istoreN (L' := #[.val (.ref ba), .val (.int (Int32.ofNat (2 * i))), .val (.int c)]) (q := 32) d19_31 rfl rfl ?_
  refine go_aloadN (v := .ref ba) (q := 33) d19_32 rfl rfl rfl ?_
  refine go_iloadN (v := (Int32.ofNat (2 * i))) (q := 34) d19_33 rfl rfl ?_
  refine go_iinc (x := (Int32.ofNat (2 * i))) (y := (Int32.ofNat (2 * i + 1))) (L' := #[.val (.ref ba), .val (.int (Int32.ofNat (2 * i + 1))), .val (.int c)]) (q := 37) d19_34 rfl add1_ofNat rfl rfl ?_
  refine go_iloadN (v := c) (q := 38) d19_37 rfl rfl ?_
  refine go_getstatic (v := .int (0 : Int32)) (q := 41) (w_93 H) Via.refl uh d19_38 rfl ?_
  refine go_ishr (r := c) (q := 42) d19_41 (shr0 _) rfl ?_
  refine go_i2b (r := c.toInt8.toInt32) (q := 43) d19_42 rfl rfl ?_
  refine go_bastore (i := 2 * i) (y := c.toInt8.toInt32) (q := 44) V ⟨nn_ofNat (by omega), (lt_ofNat (by omega) (by omega)).mpr (by omega)⟩ (cl_ofNat (by omega)) (by first | omega | (rw [List.length_set]; omega)) (by simp) (show (c.toInt8.toInt32).toInt8.toInt32 = c.toInt8.toInt32 by simp) d19_43 rfl ?_
  intro h1 K1 z1 V1
  refine go_aloadN (v := .ref ba) (q := 45) d19_44 rfl rfl rfl ?_
  refine go_iloadN (v := (Int32.ofNat (2 * i + 1))) (q := 46) d19_45 rfl rfl ?_
  refine go_iloadN (v := c) (q := 47) d19_46 rfl rfl ?_
  refine go_getstatic (v := .int (8 : Int32)) (q := 50) (w_94 H) Via.refl ul d19_47 rfl ?_
  refine go_ishr (r := c >>> ((8 : Int32) &&& 31)) (q := 51) d19_50 rfl rfl ?_
  refine go_i2b (r := (c >>> ((8 : Int32) &&& 31)).toInt8.toInt32) (q := 52) d19_51 rfl rfl ?_
  refine go_bastore (i := 2 * i + 1) (y := (c >>> ((8 : Int32) &&& 31)).toInt8.toInt32) (q := 53) V1 ⟨nn_ofNat (by omega), (lt_ofNat (by omega) (by omega)).mpr (by omega)⟩ (cl_ofNat (by omega)) (by first | omega | (rw [List.length_set]; omega)) (by simp) (show ((c >>> ((8 : Int32) &&& 31)).toInt8.toInt32).toInt8.toInt32 = (c >>> ((8 : Int32) &&& 31)).toInt8.toInt32 by simp) d19_52 rfl ?_
  intro h2 K2 z2 V2
  exact go_return H (G := []) rfl d19_53 (by decide) (by decide) (fun _ q => nomatch q) ⟨rfl, K1.trans K2 (fun _ q => Or.inl q), V2⟩
set_option maxRecDepth 65536 in
set_option maxHeartbeats 4000000 in
theorem rm_getC {l : Launch} {Z : State} {a0 : Array Value} (H : Wd Z a0) {h : Heap} {ba : Addr} {kb : ClassId} {i : Nat} {cs : List Int32} (US : U16S Z) (V : Arv Z h ba kb .byte (Int32.ofNat (2 * cs.length)) (utf cs) (.int 0)) (hu : U16 cs) (hi : i < cs.length) (hn : cs.length ≤ 400) : Met l Z (⟨"java/lang/StringUTF16", "getChar", "([BI)C"⟩ : MethodName) jdk_52_method_5_code 2 (some .char) ({ frames := 0, cells := 0, slots := 0, locals := 0 } : Room) h [] #[.ref ba, .int (Int32.ofNat i)] (fun u h' G => u = some (.int cs[i]) ∧ h = h') := by
  refine Met.mk (L := #[.val (.ref ba), .val (.int (Int32.ofNat i))]) (by decide +kernel) (fun m => by first | (simp [entryFrame, mkF, argsToLocals, Value.category]; done) | rfl) (fun K => ?_)
  show Go _ _ K "java/lang/StringUTF16" "getChar" _ _ _ _ _ _ _ _ _ 0 _ _
  obtain ⟨ua, uh, ul⟩ := US
  have hc := hu.2 cs[i] (List.getElem_mem hi)
  obtain ⟨u0, u1⟩ := utf_at hi
  refine go_getstatic (v := .int (1 : Int32)) (q := 3) (w_92 H) Via.refl ua d20_0 rfl ?_
  refine go_ifY (q := 28) d20_3 (by decide) (by decide) (by decide) ?_
  refine go_iloadN (v := (Int32.ofNat i)) (q := 29) d20_28 rfl rfl ?_
  refine go_iconst (x := (1 : Int32)) (q := 30) d20_29 rfl rfl ?_
  refine go_ishl (r := (Int32.ofNat (2 * i))) (q := 31) d20_30 (shl1 (by omega)) rfl ?_
  refine go_istoreN (L' := #[.val (.ref ba), .val (.int (Int32.ofNat (2 * i)))]) (q := 32) d20_31 rfl rfl ?_
  refine go_aloadN (v := .ref ba) (q := 33) d20_32 rfl rfl rfl ?_
  refine go_iloadN (v := (Int32.ofNat (2 * i))) (q := 34) d20_33 rfl rfl ?_
  refine go_iinc (x := (Int32.ofNat (2 * i))) (y := (Int32.ofNat (2 * i + 1))) (L' := #[.val (.ref ba), .val (.int (Int32.ofNat (2 * i + 1)))]) (q := 37) d20_34 rfl add1_ofNat rfl rfl ?_
  refine go_baload (v := .int (cs[i].toInt8.toInt32)) (q := 38) V ⟨nn_ofNat (by omega), (lt_ofNat (by omega) (by omega)).mpr (by omega)⟩ (by rw [cl_ofNat (by omega)]; exact u0) d20_37 rfl ?_
  refine go_sipush (x := (255 : Int32)) (q := 41) d20_38 rfl rfl ?_
  refine go_iand (r := (cs[i].toInt8.toInt32) &&& (255 : Int32)) (q := 42) d20_41 rfl rfl ?_
  refine go_getstatic (v := .int (0 : Int32)) (q := 45) (w_93 H) Via.refl uh d20_42 rfl ?_
  refine go_ishl (r := ((cs[i].toInt8.toInt32) &&& (255 : Int32)) <<< ((0 : Int32) &&& 31)) (q := 46) d20_45 rfl rfl ?_
  refine go_aloadN (v := .ref ba) (q := 47) d20_46 rfl rfl rfl ?_
  refine go_iloadN (v := (Int32.ofNat (2 * i + 1))) (q := 48) d20_47 rfl rfl ?_
  refine go_baload (v := .int ((cs[i] >>> ((8 : Int32) &&& 31)).toInt8.toInt32)) (q := 49) V ⟨nn_ofNat (by omega), (lt_ofNat (by omega) (by omega)).mpr (by omega)⟩ (by rw [cl_ofNat (by omega)]; exact u1) d20_48 rfl ?_
  refine go_sipush (x := (255 : Int32)) (q := 52) d20_49 rfl rfl ?_
  refine go_iand (r := ((cs[i] >>> ((8 : Int32) &&& 31)).toInt8.toInt32) &&& (255 : Int32)) (q := 53) d20_52 rfl rfl ?_
  refine go_getstatic (v := .int (8 : Int32)) (q := 56) (w_94 H) Via.refl ul d20_53 rfl ?_
  refine go_ishl (r := (((cs[i] >>> ((8 : Int32) &&& 31)).toInt8.toInt32) &&& (255 : Int32)) <<< ((8 : Int32) &&& 31)) (q := 57) d20_56 rfl rfl ?_
  refine go_ior (r := cs[i]) (q := 58) d20_57 (u16 hc) rfl ?_
  refine go_i2c (r := cs[i]) (q := 59) d20_58 (nar_c16 hc.1 hc.2) rfl ?_
  exact go_ireturn H (G := []) (t := .char) rfl (by decide) (by show Value.int (nar .char cs[i]) = _; rw [nar_c16 hc.1 hc.2]) d20_59 (by decide) (by decide) (fun _ q => nomatch q) ⟨rfl, rfl⟩
set_option maxRecDepth 65536 in
set_option maxHeartbeats 4000000 in
theorem lp_tob {l : Launch} {Z : State} {a0 : Array Value} (H : Wd Z a0) {K : Cx} {h : Heap} {ca ba : Addr} {kc kb : ClassId} {cs : List Int32} (US : U16S Z) (A : Arv Z h ca kc .char (Int32.ofNat cs.length) (ints cs) (.int 0)) (hn : cs.length ≤ 4) (gb : h.size ≤ ba) : ∀ (m i : Nat) (h1 : Heap), m + i = cs.length → Keep h h1 [] → Arv Z h1 ba kb .byte (Int32.ofNat (2 * cs.length)) (utf (cs.take i) ++ zs (2 * (cs.length - i))) (.int 0) → Go l Z K "java/lang/StringUTF16" "toBytes" jdk_52_method_14_code 5 (some (.array .byte)) ({ frames := 2, cells := 1, slots := 8, locals := 26 } : Room) (fun u h' G => ∃ ba kb, u = some (.ref ba) ∧ h.size ≤ ba ∧ Keep h h' [] ∧ Arv Z h' ba kb .byte (Int32.ofNat (2 * cs.length)) (utf cs) (.int 0)) h1 [ba] 1 8 8 #[.val (.ref ca), .val (.int (Int32.ofNat i)), .val (.int (Int32.ofNat cs.length)), .val (.ref ba), .val (.int (Int32.ofNat i))] []
  | 0, i, h1, hm, K1, V1 => by
    obtain rfl : i = cs.length := by omega
    refine go_iload (v := (Int32.ofNat cs.length)) (q := 10) d16_8 rfl rfl ?_
    refine go_iloadN (v := (Int32.ofNat cs.length)) (q := 11) d16_10 rfl rfl ?_
    refine go_icY (q := 32) d16_11 (show ¬ Int32.ofNat cs.length < Int32.ofNat cs.length from Int32.lt_irrefl) (by decide) (by decide) ?_
    refine go_aloadN (v := .ref ba) (q := 33) d16_32 rfl rfl rfl ?_
    rw [List.take_of_length_le (Nat.le_refl _), Nat.sub_self, show zs (2 * 0) = [] from rfl, List.append_nil] at V1
    exact go_areturn H (G := []) (t := (.array .byte)) rfl rfl rfl d16_33 (by decide) (by decide) (fun _ q => nomatch q) ⟨ba, kb, rfl, gb, K1, V1⟩
  | m + 1, i, h1, hm, K1, V1 => by
    have hi : i < cs.length := by omega
    refine go_iload (v := (Int32.ofNat i)) (q := 10) d16_8 rfl rfl ?_
    refine go_iloadN (v := (Int32.ofNat cs.length)) (q := 11) d16_10 rfl rfl ?_
    refine go_icN (q := 14) d16_11 ((lt_ofNat (by omega) (by omega)).mpr hi) rfl ?_
    refine go_aloadN (v := .ref ba) (q := 15) d16_14 rfl rfl rfl ?_
    refine go_iload (v := (Int32.ofNat i)) (q := 17) d16_15 rfl rfl ?_
    refine go_aloadN (v := .ref ca) (q := 18) d16_17 rfl rfl rfl ?_
    refine go_iloadN (v := (Int32.ofNat i)) (q := 19) d16_18 rfl rfl ?_
    refine go_caload (v := .int (cs[i])) (q := 20) (A.keep K1 nin0) ⟨nn_ofNat (by omega), (lt_ofNat (by omega) (by omega)).mpr hi⟩ (by rw [cl_ofNat (by omega)]; simp [ints, hi]) d16_19 rfl ?_
    refine go_static (c' := 1) (s' := 8) (q := 23) (S := []) (argsL := [.ref ba, .int (Int32.ofNat i), .int (cs[i])]) H (w_89 H) (w_90 H) (w_27 H) (w_91 H) (by decide) (rm_put H US V1 (by rw [List.length_append, utf_len, List.length_take, List.length_replicate]; omega) hi (by omega)) rfl rfl (lenOf pd_13 rfl) (fun _ q => q) rfl (by decide) (Nat.le_of_ble_eq_true rfl) rfl rfl (by decide) (by decide) d16_20 rfl ?_
    rintro _ h2 G - ⟨rfl, K2, V2⟩
    refine nx_ (v := none) ?_
    show Go _ _ _ _ _ _ _ _ _ _ _ _ _ _ 23 #[.val (.ref ca), .val (.int (Int32.ofNat i)), .val (.int (Int32.ofNat cs.length)), .val (.ref ba), .val (.int (Int32.ofNat i))] []
    rw [utf_set hi] at V2
    refine go_iinc (x := (Int32.ofNat i)) (y := (Int32.ofNat (i + 1))) (L' := #[.val (.ref ca), .val (.int (Int32.ofNat (i + 1))), .val (.int (Int32.ofNat cs.length)), .val (.ref ba), .val (.int (Int32.ofNat i))]) (q := 26) d16_23 rfl add1_ofNat rfl rfl ?_
    refine go_iinc (x := (Int32.ofNat i)) (y := (Int32.ofNat (i + 1))) (L' := #[.val (.ref ca), .val (.int (Int32.ofNat (i + 1))), .val (.int (Int32.ofNat cs.length)), .val (.ref ba), .val (.int (Int32.ofNat (i + 1)))]) (q := 29) d16_26 rfl add1_ofNat rfl rfl ?_
    refine go_goto (q := 8) d16_29 (by decide) (by decide) ?_
    exact lp_tob H US A hn gb m (i + 1) h2 (by omega) (kfresh K1 K2 gb) V2
set_option maxRecDepth 65536 in
set_option maxHeartbeats 4000000 in
theorem rm_tob {l : Launch} {Z : State} {a0 : Array Value} (H : Wd Z a0) {h : Heap} {ca : Addr} {kc : ClassId} {cs : List Int32} (US : U16S Z) (A : Arv Z h ca kc .char (Int32.ofNat cs.length) (ints cs) (.int 0)) (hn : cs.length ≤ 4) : Met l Z (⟨"java/lang/StringUTF16", "toBytes", "([CII)[B"⟩ : MethodName) jdk_52_method_14_code 5 (some (.array .byte)) ({ frames := 2, cells := 1, slots := 8, locals := 26 } : Room) h [] #[.ref ca, .int 0, .int (Int32.ofNat cs.length)] (fun u h' G => ∃ ba kb, u = some (.ref ba) ∧ h.size ≤ ba ∧ Keep h h' [] ∧ Arv Z h' ba kb .byte (Int32.ofNat (2 * cs.length)) (utf cs) (.int 0)) := by
  refine Met.mk (L := #[.val (.ref ca), .val (.int 0), .val (.int (Int32.ofNat cs.length)), .unset, .unset]) (by decide +kernel) (fun m => by first | (simp [entryFrame, mkF, argsToLocals, Value.category]; done) | rfl) (fun K => ?_)
  show Go _ _ K "java/lang/StringUTF16" "toBytes" _ _ _ _ _ _ _ _ _ 0 _ _
  refine go_iloadN (v := (Int32.ofNat cs.length)) (q := 1) d16_0 rfl rfl ?_
  refine go_static (c' := 1) (s' := 8) (q := 4) (S := []) (argsL := [.int (Int32.ofNat cs.length)]) H (w_82 H) (w_83 H) (w_27 H) (w_84 H) (by decide) (rm_nbf H hn) rfl rfl (lenOf pd_14 rfl) (fun _ q => nomatch q) rfl (by decide) (Nat.le_of_ble_eq_true rfl) rfl rfl (by decide) (by decide) d16_1 rfl ?_
  rintro _ h1 G - ⟨ba, kb, rfl, rfl, gb, K1, V1⟩
  refine ⟨[ba], fun _ q => Or.inl q, ?_⟩
  show Go _ _ _ _ _ _ _ _ _ _ _ _ _ _ 4 #[.val (.ref ca), .val (.int 0), .val (.int (Int32.ofNat cs.length)), .unset, .unset] [.ref ba]
  refine go_astoreN (L' := #[.val (.ref ca), .val (.int 0), .val (.int (Int32.ofNat cs.length)), .val (.ref ba), .unset]) (q := 5) d16_4 rfl rfl rfl ?_
  refine go_iconst (x := (0 : Int32)) (q := 6) d16_5 rfl rfl ?_
  refine go_istore (L' := #[.val (.ref ca), .val (.int 0), .val (.int (Int32.ofNat cs.length)), .val (.ref ba), .val (.int (0 : Int32))]) (q := 8) d16_6 rfl rfl ?_
  exact lp_tob H US A hn gb cs.length 0 h1 (by omega) K1 V1
set_option maxRecDepth 65536 in
set_option maxHeartbeats 4000000 in
theorem rm_cmp3U {l : Launch} {Z : State} {a0 : Array Value} (H : Wd Z a0) {h : Heap} {ca : Addr} {kc : ClassId} {cs : List Int32} {k : Nat} (US : U16S Z) (A : Arv Z h ca kc .char (Int32.ofNat cs.length) (ints cs) (.int 0)) (hl : U16 cs) (hn : cs.length ≤ 4) (hk : k < cs.length) (hg : 255 < cs[k]) (hlo : ∀ j (hj : j < k), ¬ 255 < cs[j]) : Met l Z (⟨"java/lang/StringUTF16", "compress", "([CII)[B"⟩ : MethodName) jdk_52_method_16_code 6 (some (.array .byte)) ({ frames := 3, cells := 2, slots := 24, locals := 44 } : Room) h [] #[.ref ca, .int 0, .int (Int32.ofNat cs.length)] (fun v h' G => ∃ ba kb, v = some (.ref ba) ∧ h.size ≤ ba ∧ Keep h h' [] ∧ Arv Z h' ba kb .byte (Int32.ofNat (2 * cs.length)) (utf cs) (.int 0)) := by
  refine Met.mk (L := #[.val (.ref ca), .val (.int 0), .val (.int (Int32.ofNat cs.length)), .unset, .unset, .unset]) (by decide +kernel) (fun m => by first | (simp [entryFrame, mkF, argsToLocals, Value.category]; done) | rfl) (fun K => ?_)
  show Go _ _ K "java/lang/StringUTF16" "compress" _ _ _ _ _ _ _ _ _ 0 _ _
  have Ka : Keep h h [] := Keep.refl _ _
  refine go_iloadN (v := (Int32.ofNat cs.length)) (q := 1) d5_0 rfl rfl ?_
  refine go_newarray (ty := .byte) (dv := .int 0) (n := cs.length) (cap := 16) (ad := "[B") (c' := 1) (s' := 16) (q := 3) rfl rfl (cl_ofNat (by omega)) (w_29 H) d5_1 (nn_ofNat (by omega)) (by omega) (by decide) rfl rfl rfl rfl (by decide) (by decide) ?_
  intro h1 ba kb g1 E1 V1 X1
  have f_Ka_ba : h.size ≤ ba := by rw [g1]; exact Ka.1
  have Ka : Keep h h1 [] := Ka.ext E1
  refine go_astoreN (L' := #[.val (.ref ca), .val (.int 0), .val (.int (Int32.ofNat cs.length)), .val (.ref ba), .unset, .unset]) (q := 4) d5_3 rfl rfl rfl ?_
  refine go_aloadN (v := .ref ca) (q := 5) d5_4 rfl rfl rfl ?_
  refine go_iloadN (v := 0) (q := 6) d5_5 rfl rfl ?_
  refine go_aloadN (v := .ref ba) (q := 7) d5_6 rfl rfl rfl ?_
  refine go_iconst (x := (0 : Int32)) (q := 8) d5_7 rfl rfl ?_
  refine go_iloadN (v := (Int32.ofNat cs.length)) (q := 9) d5_8 rfl rfl ?_
  have ne : ca ≠ ba := fun q => absurd A.lt (by rw [q, g1]; exact Nat.lt_irrefl _)
  refine go_static (c' := 1) (s' := 16) (q := 12) (S := []) (argsL := [.ref ca, .int 0, .ref ba, .int (0 : Int32), .int (Int32.ofNat cs.length)]) H (w_30 H) (w_31 H) (w_27 H) (w_32 H) (by decide) (rm_cmp5U H (A.ext E1) hl ne hk hg hlo V1) rfl rfl (lenOf pd_5 rfl) (fun _ q => q) rfl (by decide) (Nat.le_of_ble_eq_true rfl) rfl rfl (by decide) (by decide) d5_9 rfl ?_
  rintro _ h2 G - ⟨rfl, K2⟩
  refine nx_ (v := none) ?_
  have Ka : Keep h h2 [] := kfresh Ka K2 f_Ka_ba
  show Go _ _ _ _ _ _ _ _ _ _ _ _ _ _ 12 #[.val (.ref ca), .val (.int 0), .val (.int (Int32.ofNat cs.length)), .val (.ref ba), .unset, .unset] [.int (Int32.ofNat k)]
  refine go_istore (L' := #[.val (.ref ca), .val (.int 0), .val (.int (Int32.ofNat cs.length)), .val (.ref ba), .val (.int (Int32.ofNat k)), .unset]) (q := 14) d5_12 rfl rfl ?_
  refine go_iload (v := (Int32.ofNat k)) (q := 16) d5_14 rfl rfl ?_
  refine go_iloadN (v := (Int32.ofNat cs.length)) (q := 17) d5_16 rfl rfl ?_
  refine go_icN (q := 20) d5_17 (fun e => absurd ((eq_ofNat (by omega) (by omega)).mp e) (by omega)) rfl ?_
  refine go_aloadN (v := .ref ca) (q := 21) d5_20 rfl rfl rfl ?_
  refine go_iloadN (v := 0) (q := 22) d5_21 rfl rfl ?_
  refine go_iloadN (v := (Int32.ofNat cs.length)) (q := 23) d5_22 rfl rfl ?_
  refine go_static (c' := 2) (s' := 24) (q := 26) (S := []) (argsL := [.ref ca, .int 0, .int (Int32.ofNat cs.length)]) H (w_79 H) (w_80 H) (w_27 H) (w_81 H) (by decide) (rm_tob H US (A.keep Ka nin0) hn) rfl rfl (lenOf pd_6 rfl) (fun _ q => nomatch q) rfl (by decide) (Nat.le_of_ble_eq_true rfl) rfl rfl (by decide) (by decide) d5_23 rfl ?_
  rintro _ h3 G - ⟨bb, kc2, rfl, gb, K3, V3⟩
  refine nx_ (v := none) ?_
  have Ka : Keep h h3 [] := Ka.trans K3 (fun _ q => nomatch q)
  show Go _ _ _ _ _ _ _ _ _ _ _ _ _ _ 26 #[.val (.ref ca), .val (.int 0), .val (.int (Int32.ofNat cs.length)), .val (.ref ba), .val (.int (Int32.ofNat k)), .unset] [.ref bb]
  refine go_astore (L' := #[.val (.ref ca), .val (.int 0), .val (.int (Int32.ofNat cs.length)), .val (.ref ba), .val (.int (Int32.ofNat k)), .val (.ref bb)]) (q := 28) d5_26 rfl rfl rfl ?_
  refine go_aload (v := .ref bb) (q := 30) d5_28 rfl rfl rfl ?_
  refine go_iload (v := (Int32.ofNat k)) (q := 32) d5_30 rfl rfl ?_
  refine go_static (c' := 2) (s' := 24) (q := 35) (S := []) (argsL := [.ref bb, .int (Int32.ofNat k)]) H (w_95 H) (w_96 H) (w_27 H) (w_97 H) (by decide) (rm_getC H US V3 hl hk (by omega)) rfl rfl (lenOf pd_12 rfl) (fun _ q => nomatch q) rfl (by decide) (Nat.le_of_ble_eq_true rfl) rfl rfl (by decide) (by decide) d5_32 rfl ?_
  rintro _ _ G - ⟨rfl, rfl⟩
  refine nx_ (v := none) ?_
  show Go _ _ _ _ _ _ _ _ _ _ _ _ _ _ 35 #[.val (.ref ca), .val (.int 0), .val (.int (Int32.ofNat cs.length)), .val (.ref ba), .val (.int (Int32.ofNat k)), .val (.ref bb)] [.int (cs[k])]
  refine go_sipush (x := (255 : Int32)) (q := 38) d5_35 rfl rfl ?_
  refine go_icY (q := 54) d5_38 (show (255 : Int32) < cs[k] from hg) (by decide) (by decide) ?_
  refine go_aload (v := .ref bb) (q := 56) d5_54 rfl rfl rfl ?_
  exact go_areturn H (G := []) (t := (.array .byte)) rfl rfl rfl d5_56 (by decide) (by decide) (fun _ q => nomatch q) ⟨bb, kc2, rfl, Nat.le_trans (Nat.le_trans E1.1 K2.1) gb, Ka, V3⟩
set_option maxRecDepth 65536 in
set_option maxHeartbeats 4000000 in
theorem rm_codU {l : Launch} {Z : State} {a0 : Array Value} (H : Wd Z a0) {h : Heap} {ba : Addr} {kb : ClassId} {n : Nat} {vs : List Value} {dv : Value} (A : Arv Z h ba kb .byte (Int32.ofNat (2 * n)) vs dv) (h0 : 0 < n) (hn : n ≤ 4) : Met l Z (⟨"java/lang/StringUTF16", "coderFromArrayLen", "([BI)B"⟩ : MethodName) jdk_52_method_15_code 2 (some .byte) ({ frames := 0, cells := 0, slots := 0, locals := 0 } : Room) h [] #[.ref ba, .int (Int32.ofNat n)] (fun v h' G => v = some (.int 1) ∧ h = h') := by
  refine Met.mk (L := #[.val (.ref ba), .val (.int (Int32.ofNat n))]) (by decide +kernel) (fun m => by first | (simp [entryFrame, mkF, argsToLocals, Value.category]; done) | rfl) (fun K => ?_)
  show Go _ _ K "java/lang/StringUTF16" "coderFromArrayLen" _ _ _ _ _ _ _ _ _ 0 _ _
  refine go_iloadN (v := (Int32.ofNat n)) (q := 1) d7_0 rfl rfl ?_
  refine go_aloadN (v := .ref ba) (q := 2) d7_1 rfl rfl rfl ?_
  refine go_arraylength (z := (Int32.ofNat (2 * n))) (q := 3) A d7_2 rfl ?_
  refine go_isub (r := (Int32.ofNat n) - (Int32.ofNat (2 * n))) (q := 4) d7_3 rfl rfl ?_
  refine go_bipush (x := (31 : Int32)) (q := 6) d7_4 rfl rfl ?_
  refine go_iushr (r := 1) (q := 7) d7_6 (coder1 h0 (by omega)) rfl ?_
  refine go_i2b (r := 1) (q := 8) d7_7 (by decide) rfl ?_
  exact go_ireturn H (G := []) (t := .byte) rfl (by decide) rfl d7_8 (by decide) (by decide) (fun _ q => nomatch q) ⟨rfl, rfl⟩
set_option maxRecDepth 65536 in
set_option maxHeartbeats 4000000 in
theorem rm_new4U {l : Launch} {Z : State} {a0 : Array Value} (H : Wd Z a0) {h : Heap} {F : List Addr} {x ca : Addr} {kc : ClassId} {cs : List Int32} {k : Nat} (US : U16S Z) (E : Exa Z h x ST) (C : Fld Z h x ST "coder" "B" (.int 0)) (Vv : Fld Z h x ST "value" "[B" .null) (A : Arv Z h ca kc .char (Int32.ofNat cs.length) (ints cs) (.int 0)) (hl : U16 cs) (hn : cs.length ≤ 4) (hx : x ∉ F) (hk : k < cs.length) (hg : 255 < cs[k]) (hlo : ∀ j (hj : j < k), ¬ 255 < cs[j]) : Met l Z (⟨"java/lang/String", "<init>", "([CIILjava/lang/Void;)V"⟩ : MethodName) jdk_42_method_149_code 6 none ({ frames := 4, cells := 2, slots := 24, locals := 64 } : Room) h (x :: F) #[.ref x, .ref ca, .int 0, .int (Int32.ofNat cs.length), .null] (fun v h' G => v = none ∧ Keep h h' [x] ∧ StrU Z h' F x cs) := by
  refine Met.mk (L := #[.val (.ref x), .val (.ref ca), .val (.int 0), .val (.int (Int32.ofNat cs.length)), .val (.null), .unset]) (by decide +kernel) (fun m => by first | (simp [entryFrame, mkF, argsToLocals, Value.category]; done) | rfl) (fun K => ?_)
  show Go _ _ K "java/lang/String" "<init>" _ _ _ _ _ _ _ _ _ 0 _ _
  obtain ⟨cz, Sz, nz⟩ := H.2.2.2.1
  have sne : RoadKit.slotOf Z ST "value" "[B" ≠ RoadKit.slotOf Z ST "coder" "B" := slot_ne (C := ST) (Or.inr (w_39 H)) (Or.inr (w_37 H)) (by decide) (t := .array .byte) (t' := .byte) (by decide) (by decide)
  have wiS := (w_11 H)
  refine go_aloadN (v := .ref x) (q := 1) d3_0 rfl rfl rfl ?_
  refine go_initO (q := 4) (w_21 H) (w_22 H) (w_23 H) rfl d3_1 rfl (by decide) (Nat.le_of_ble_eq_true rfl) ?_
  refine go_iloadN (v := (Int32.ofNat cs.length)) (q := 5) d3_4 rfl rfl ?_
  refine go_mine fun hMine hOld => ?_
  refine go_ifY (q := 27) d3_5 (show ¬ _ = _ from fun q => absurd ((eq_ofNat (n := 0) (by omega) (by decide)).mp q) (by omega)) (by decide) (by decide) ?_
  refine go_getstatic (v := .int cz) (q := 30) (w_24 H) Via.refl Sz d3_27 rfl ?_
  refine go_ifN (q := 33) d3_30 nz rfl ?_
  refine go_aloadN (v := .ref ca) (q := 34) d3_33 rfl rfl rfl ?_
  refine go_iloadN (v := 0) (q := 35) d3_34 rfl rfl ?_
  refine go_iloadN (v := (Int32.ofNat cs.length)) (q := 36) d3_35 rfl rfl ?_
  refine go_static (c' := 2) (s' := 24) (q := 39) (S := []) (argsL := [.ref ca, .int 0, .int (Int32.ofNat cs.length)]) H (w_25 H) (w_26 H) (w_27 H) (w_28 H) (by decide) (rm_cmp3U H US A hl hn hk hg hlo) rfl rfl (lenOf pd_6 rfl) (fun _ q => nomatch q) rfl (by decide) (Nat.le_of_ble_eq_true rfl) rfl rfl (by decide) (by decide) d3_36 rfl ?_
  rintro _ h1 G - ⟨ba, kb, rfl, gb, K1, V1⟩
  refine nx_ (v := none) ?_
  show Go _ _ _ _ _ _ _ _ _ _ _ _ _ _ 39 #[.val (.ref x), .val (.ref ca), .val (.int 0), .val (.int (Int32.ofNat cs.length)), .val (.null), .unset] [.ref ba]
  refine go_astore (L' := #[.val (.ref x), .val (.ref ca), .val (.int 0), .val (.int (Int32.ofNat cs.length)), .val (.null), .val (.ref ba)]) (q := 41) d3_39 rfl rfl rfl ?_
  refine go_aloadN (v := .ref x) (q := 42) d3_41 rfl rfl rfl ?_
  refine go_aload (v := .ref ba) (q := 44) d3_42 rfl rfl rfl ?_
  refine go_iloadN (v := (Int32.ofNat cs.length)) (q := 45) d3_44 rfl rfl ?_
  refine go_static (c' := 2) (s' := 24) (q := 48) (S := [.ref x]) (argsL := [.ref ba, .int (Int32.ofNat cs.length)]) H (w_33 H) (w_34 H) (w_27 H) (w_35 H) (by decide) (rm_codU H V1 (by omega) hn) rfl rfl (lenOf pd_7 rfl) (fun _ q => nomatch q) rfl (by decide) (Nat.le_of_ble_eq_true rfl) rfl rfl (by decide) (by decide) d3_45 rfl ?_
  rintro _ _ G - ⟨rfl, rfl⟩
  refine nx_ (v := none) ?_
  show Go _ _ _ _ _ _ _ _ _ _ _ _ _ _ 48 #[.val (.ref x), .val (.ref ca), .val (.int 0), .val (.int (Int32.ofNat cs.length)), .val (.null), .val (.ref ba)] [.int 1, .ref x]
  refine go_putfield (q := 51) (w_36 H) Via.refl (C.keep K1 nin0) (E.keep K1) (Or.inr ⟨(w_37 H), rfl, rfl⟩) (w_11 H) (ty := .byte) (by decide) rfl rfl (by simp) d3_48 rfl ?_
  intro h2 W2
  have nxb : ba ≠ x := E.keep K1 |>.neArv V1 wiS |>.symm
  refine go_aloadN (v := .ref x) (q := 52) d3_51 rfl rfl rfl ?_
  refine go_aload (v := .ref ba) (q := 54) d3_52 rfl rfl rfl ?_
  refine go_putfield (q := 57) (w_38 H) Via.refl ((Vv.keep K1 nin0).other W2 (Or.inr sne)) ((E.keep K1).wr W2) (Or.inr ⟨(w_39 H), rfl, rfl⟩) (w_11 H) (ty := (.array .byte)) (by decide) rfl rfl (by simp) d3_54 rfl ?_
  intro h3 W3
  have Kp : Keep h h3 [x] := ((kless K1 (by simp)).wr W2 (Or.inl (by simp))).wr W3 (Or.inl (by simp))
  exact go_return H (G := []) rfl d3_57 (by decide) (by decide) (fun _ q => nomatch q) ⟨rfl, Kp, ((E.keep K1).wr W2).wr W3, (((C.keep K1 nin0).same W2).other W3 (Or.inr sne.symm)), hx, hl, ba, kb, fun q => absurd (hMine ba (by simp [q])).2 (Nat.not_lt.mpr gb), (((Vv.keep K1 nin0).other W2 (Or.inr sne)).same W3), ((V1.other W2 nxb).other W3 nxb)⟩
set_option maxRecDepth 65536 in
set_option maxHeartbeats 4000000 in
theorem rm_new1U {l : Launch} {Z : State} {a0 : Array Value} (H : Wd Z a0) {h : Heap} {F : List Addr} {x ca : Addr} {kc : ClassId} {cs : List Int32} {k : Nat} (US : U16S Z) (E : Exa Z h x ST) (C : Fld Z h x ST "coder" "B" (.int 0)) (Vv : Fld Z h x ST "value" "[B" .null) (A : Arv Z h ca kc .char (Int32.ofNat cs.length) (ints cs) (.int 0)) (hl : U16 cs) (hn : cs.length ≤ 4) (hx : x ∉ F) (hk : k < cs.length) (hg : 255 < cs[k]) (hlo : ∀ j (hj : j < k), ¬ 255 < cs[j]) : Met l Z (⟨"java/lang/String", "<init>", "([C)V"⟩ : MethodName) jdk_42_method_3_code 2 none ({ frames := 5, cells := 2, slots := 24, locals := 84 } : Room) h (x :: F) #[.ref x, .ref ca] (fun v h' G => v = none ∧ Keep h h' [x] ∧ StrU Z h' F x cs) := by
  refine Met.mk (L := #[.val (.ref x), .val (.ref ca)]) (by decide +kernel) (fun m => by first | (simp [entryFrame, mkF, argsToLocals, Value.category]; done) | rfl) (fun K => ?_)
  show Go _ _ K "java/lang/String" "<init>" _ _ _ _ _ _ _ _ _ 0 _ _
  refine go_aloadN (v := .ref x) (q := 1) d2_0 rfl rfl rfl ?_
  refine go_aloadN (v := .ref ca) (q := 2) d2_1 rfl rfl rfl ?_
  refine go_iconst (x := (0 : Int32)) (q := 3) d2_2 rfl rfl ?_
  refine go_aloadN (v := .ref ca) (q := 4) d2_3 rfl rfl rfl ?_
  refine go_arraylength (z := (Int32.ofNat cs.length)) (q := 5) A d2_4 rfl ?_
  refine go_null (q := 6) d2_5 rfl ?_
  refine go_special (c' := 2) (s' := 24) (q := 9) (S := []) (argsL := [.ref ca, .int (0 : Int32), .int (Int32.ofNat cs.length), .null]) H rfl (w_17 H) (w_18 H) (w_12 H) (w_20 H) (by decide) (rm_new4U H US E C Vv A hl hn hx hk hg hlo) rfl rfl (lenOf pd_8 rfl) (fun _ q => q) rfl (by decide) (Nat.le_of_ble_eq_true rfl) rfl rfl (by decide) (by decide) d2_6 rfl ?_
  rintro _ h1 G - ⟨rfl, K1, S1⟩
  refine nx_ (v := none) ?_
  show Go _ _ _ _ _ _ _ _ _ _ _ _ _ _ 9 #[.val (.ref x), .val (.ref ca)] []
  exact go_return H (G := []) rfl d2_9 (by decide) (by decide) (fun _ q => nomatch q) ⟨rfl, K1, S1⟩
set_option maxRecDepth 65536 in
set_option maxHeartbeats 4000000 in
theorem rm_coderU {l : Launch} {Z : State} {a0 : Array Value} (H : Wd Z a0) {h : Heap} {a : Addr} (C : Fld Z h a ST "coder" "B" (.int 1)) : Met l Z (⟨"java/lang/String", "coder", "()B"⟩ : MethodName) jdk_42_method_152_code 1 (some .byte) ({ frames := 0, cells := 0, slots := 0, locals := 0 } : Room) h [] #[.ref a] (fun v h' G => v = some (.int 1) ∧ h = h') := by
  refine Met.mk (L := #[.val (.ref a)]) (by decide +kernel) (fun m => by first | (simp [entryFrame, mkF, argsToLocals, Value.category]; done) | rfl) (fun K => ?_)
  show Go _ _ K "java/lang/String" "coder" _ _ _ _ _ _ _ _ _ 0 _ _
  obtain ⟨cz, Sz, nz⟩ := H.2.2.2.1
  refine go_getstatic (v := .int cz) (q := 3) (w_24 H) Via.refl Sz d10_0 rfl ?_
  refine go_ifN (q := 6) d10_3 nz rfl ?_
  refine go_aloadN (v := .ref a) (q := 7) d10_6 rfl rfl rfl ?_
  refine go_getfield (v := .int 1) (q := 10) (w_36 H) Via.refl C d10_7 rfl ?_
  refine go_goto (q := 14) d10_10 (by decide) (by decide) ?_
  exact go_ireturn H (G := []) (t := .byte) rfl (by decide) rfl d10_14 (by decide) (by decide) (fun _ q => nomatch q) ⟨rfl, rfl⟩
set_option maxRecDepth 65536 in
set_option maxHeartbeats 4000000 in
theorem rm_lenU {l : Launch} {Z : State} {a0 : Array Value} (H : Wd Z a0) {h : Heap} {F : List Addr} {a : Addr} {cs : List Int32} (S : StrU Z h F a cs) : Met l Z (⟨"java/lang/String", "length", "()I"⟩ : MethodName) jdk_42_method_54_code 1 (some .int) ({ frames := 1, cells := 0, slots := 0, locals := 13 } : Room) h [] #[.ref a] (fun v h' G => v = some (.int (Int32.ofNat cs.length)) ∧ h = h') := by
  refine Met.mk (L := #[.val (.ref a)]) (by decide +kernel) (fun m => by first | (simp [entryFrame, mkF, argsToLocals, Value.category]; done) | rfl) (fun K => ?_)
  show Go _ _ K "java/lang/String" "length" _ _ _ _ _ _ _ _ _ 0 _ _
  obtain ⟨E, C, ha, hl, bb, k, hb, Vv, A⟩ := S
  have hl4 := hl.1
  refine go_aloadN (v := .ref a) (q := 1) d9_0 rfl rfl rfl ?_
  refine go_getfield (v := .ref bb) (q := 4) (w_38 H) Via.refl Vv d9_1 rfl ?_
  refine go_arraylength (z := Int32.ofNat (2 * cs.length)) (q := 5) A d9_4 rfl ?_
  refine go_aloadN (v := .ref a) (q := 6) d9_5 rfl rfl rfl ?_
  refine go_virtual (c' := 0) (s' := 0) (q := 9) (S := [.int (Int32.ofNat (2 * cs.length))]) (argsL := []) H (C := "java/lang/String") (w_49 H) (w_50 H) (nf_self (w_52 H)) (w_52 H) (w_51 H) (w_12 H) (w_53 H) (by decide) E (rm_coderU H C) rfl rfl (lenOf pd_4 rfl) (fun _ q => nomatch q) rfl (by decide) (Nat.le_of_ble_eq_true rfl) rfl rfl (by decide) (by decide) d9_6 rfl ?_
  rintro _ _ G - ⟨rfl, rfl⟩
  refine nx_ (v := none) ?_
  show Go _ _ _ _ _ _ _ _ _ _ _ _ _ _ 9 #[.val (.ref a)] [.int 1, .int (Int32.ofNat (2 * cs.length))]
  refine go_ishr (r := Int32.ofNat cs.length) (q := 10) d9_9 (shr1 (by omega)) rfl ?_
  exact go_ireturn H (G := []) (t := .int) rfl (by decide) rfl d9_10 (by decide) (by decide) (fun _ q => nomatch q) ⟨rfl, rfl⟩
set_option maxRecDepth 65536 in
set_option maxHeartbeats 4000000 in
theorem rm_isU {l : Launch} {Z : State} {a0 : Array Value} (H : Wd Z a0) {h : Heap} {a : Addr} (C : Fld Z h a ST "coder" "B" (.int 1)) : Met l Z (⟨"java/lang/String", "isLatin1", "()Z"⟩ : MethodName) jdk_42_method_154_code 1 (some .boolean) ({ frames := 0, cells := 0, slots := 0, locals := 0 } : Room) h [] #[.ref a] (fun v h' G => v = some (.int 0) ∧ h = h') := by
  refine Met.mk (L := #[.val (.ref a)]) (by decide +kernel) (fun m => by first | (simp [entryFrame, mkF, argsToLocals, Value.category]; done) | rfl) (fun K => ?_)
  show Go _ _ K "java/lang/String" "isLatin1" _ _ _ _ _ _ _ _ _ 0 _ _
  obtain ⟨cz, Sz, nz⟩ := H.2.2.2.1
  refine go_getstatic (v := .int cz) (q := 3) (w_24 H) Via.refl Sz d12_0 rfl ?_
  refine go_ifN (q := 6) d12_3 nz rfl ?_
  refine go_aloadN (v := .ref a) (q := 7) d12_6 rfl rfl rfl ?_
  refine go_getfield (v := .int 1) (q := 10) (w_36 H) Via.refl C d12_7 rfl ?_
  refine go_ifY (q := 17) d12_10 (by decide) (by decide) (by decide) ?_
  refine go_iconst (x := (0 : Int32)) (q := 18) d12_17 rfl rfl ?_
  exact go_ireturn H (G := []) (t := .boolean) rfl (by decide) rfl d12_18 (by decide) (by decide) (fun _ q => nomatch q) ⟨rfl, rfl⟩
set_option maxRecDepth 65536 in
set_option maxHeartbeats 4000000 in
theorem rm_lnB {l : Launch} {Z : State} {a0 : Array Value} (H : Wd Z a0) {h : Heap} {ba : Addr} {kb : ClassId} {n : Nat} {vs : List Value} {dv : Value} (A : Arv Z h ba kb .byte (Int32.ofNat (2 * n)) vs dv) (hn : n < 10000) : Met l Z (⟨"java/lang/StringUTF16", "length", "([B)I"⟩ : MethodName) jdk_52_method_6_code 1 (some .int) ({ frames := 0, cells := 0, slots := 0, locals := 0 } : Room) h [] #[.ref ba] (fun v h' G => v = some (.int (Int32.ofNat n)) ∧ h = h') := by
  refine Met.mk (L := #[.val (.ref ba)]) (by decide +kernel) (fun m => by first | (simp [entryFrame, mkF, argsToLocals, Value.category]; done) | rfl) (fun K => ?_)
  show Go _ _ K "java/lang/StringUTF16" "length" _ _ _ _ _ _ _ _ _ 0 _ _
  refine go_aloadN (v := .ref ba) (q := 1) d33_0 rfl rfl rfl ?_
  refine go_arraylength (z := (Int32.ofNat (2 * n))) (q := 2) A d33_1 rfl ?_
  refine go_iconst (x := (1 : Int32)) (q := 3) d33_2 rfl rfl ?_
  refine go_ishr (r := (Int32.ofNat n)) (q := 4) d33_3 (shr1 hn) rfl ?_
  exact go_ireturn H (G := []) (t := .int) rfl (by decide) rfl d33_4 (by decide) (by decide) (fun _ q => nomatch q) ⟨rfl, rfl⟩
set_option maxRecDepth 65536 in
set_option maxHeartbeats 4000000 in
theorem rm_ckU {l : Launch} {Z : State} {a0 : Array Value} (H : Wd Z a0) {h : Heap} {ba : Addr} {kb : ClassId} {cs : List Int32} {i : Nat} (A : Arv Z h ba kb .byte (Int32.ofNat (2 * cs.length)) (utf cs) (.int 0)) (hi : i < cs.length) (hn : cs.length ≤ 400) : Met l Z (⟨"java/lang/StringUTF16", "checkIndex", "(I[B)V"⟩ : MethodName) jdk_52_method_91_code 2 none ({ frames := 2, cells := 0, slots := 0, locals := 28 } : Room) h [] #[.int (Int32.ofNat i), .ref ba] (fun v h' G => v = none ∧ h = h') := by
  refine Met.mk (L := #[.val (.int (Int32.ofNat i)), .val (.ref ba)]) (by decide +kernel) (fun m => by first | (simp [entryFrame, mkF, argsToLocals, Value.category]; done) | rfl) (fun K => ?_)
  show Go _ _ K "java/lang/StringUTF16" "checkIndex" _ _ _ _ _ _ _ _ _ 0 _ _
  refine go_iloadN (v := (Int32.ofNat i)) (q := 1) d32_0 rfl rfl ?_
  refine go_aloadN (v := .ref ba) (q := 2) d32_1 rfl rfl rfl ?_
  refine go_static (c' := 0) (s' := 0) (q := 5) (S := [.int (Int32.ofNat i)]) (argsL := [.ref ba]) H (w_142 H) (w_143 H) (w_27 H) (w_144 H) (by decide) (rm_lnB H A (by omega)) rfl rfl (lenOf pd_15 rfl) (fun _ q => nomatch q) rfl (by decide) (Nat.le_of_ble_eq_true rfl) rfl rfl (by decide) (by decide) d32_2 rfl ?_
  rintro _ _ G - ⟨rfl, rfl⟩
  refine nx_ (v := none) ?_
  show Go _ _ _ _ _ _ _ _ _ _ _ _ _ _ 5 #[.val (.int (Int32.ofNat i)), .val (.ref ba)] [.int (Int32.ofNat cs.length), .int (Int32.ofNat i)]
  refine go_static (c' := 0) (s' := 0) (q := 8) (S := []) (argsL := [.int (Int32.ofNat i), .int (Int32.ofNat cs.length)]) H (w_145 H) (w_72 H) (w_12 H) (w_73 H) (by decide) (rm_ckS H (nn_ofNat (by omega)) ((lt_ofNat (by omega) (by omega)).mpr hi)) rfl rfl (lenOf pd_10 rfl) (fun _ q => nomatch q) rfl (by decide) (Nat.le_of_ble_eq_true rfl) rfl rfl (by decide) (by decide) d32_5 rfl ?_
  rintro _ _ G - ⟨rfl, rfl⟩
  refine nx_ (v := none) ?_
  show Go _ _ _ _ _ _ _ _ _ _ _ _ _ _ 8 #[.val (.int (Int32.ofNat i)), .val (.ref ba)] []
  exact go_return H (G := []) rfl d32_8 (by decide) (by decide) (fun _ q => nomatch q) ⟨rfl, rfl⟩
set_option maxRecDepth 65536 in
set_option maxHeartbeats 4000000 in
theorem rm_chB {l : Launch} {Z : State} {a0 : Array Value} (H : Wd Z a0) {h : Heap} {ba : Addr} {kb : ClassId} {cs : List Int32} {i : Nat} (US : U16S Z) (hl : U16 cs) (A : Arv Z h ba kb .byte (Int32.ofNat (2 * cs.length)) (utf cs) (.int 0)) (hi : i < cs.length) (hn : cs.length ≤ 400) : Met l Z (⟨"java/lang/StringUTF16", "charAt", "([BI)C"⟩ : MethodName) jdk_52_method_83_code 2 (some .char) ({ frames := 3, cells := 0, slots := 0, locals := 42 } : Room) h [] #[.ref ba, .int (Int32.ofNat i)] (fun v h' G => v = some (.int cs[i]) ∧ h = h') := by
  refine Met.mk (L := #[.val (.ref ba), .val (.int (Int32.ofNat i))]) (by decide +kernel) (fun m => by first | (simp [entryFrame, mkF, argsToLocals, Value.category]; done) | rfl) (fun K => ?_)
  show Go _ _ K "java/lang/StringUTF16" "charAt" _ _ _ _ _ _ _ _ _ 0 _ _
  have hc := hl.2 cs[i] (List.getElem_mem hi)
  refine go_iloadN (v := (Int32.ofNat i)) (q := 1) d31_0 rfl rfl ?_
  refine go_aloadN (v := .ref ba) (q := 2) d31_1 rfl rfl rfl ?_
  refine go_static (c' := 0) (s' := 0) (q := 5) (S := []) (argsL := [.int (Int32.ofNat i), .ref ba]) H (w_139 H) (w_140 H) (w_27 H) (w_141 H) (by decide) (rm_ckU H A hi hn) rfl rfl (lenOf pd_16 rfl) (fun _ q => nomatch q) rfl (by decide) (Nat.le_of_ble_eq_true rfl) rfl rfl (by decide) (by decide) d31_2 rfl ?_
  rintro _ _ G - ⟨rfl, rfl⟩
  refine nx_ (v := none) ?_
  show Go _ _ _ _ _ _ _ _ _ _ _ _ _ _ 5 #[.val (.ref ba), .val (.int (Int32.ofNat i))] []
  refine go_aloadN (v := .ref ba) (q := 6) d31_5 rfl rfl rfl ?_
  refine go_iloadN (v := (Int32.ofNat i)) (q := 7) d31_6 rfl rfl ?_
  refine go_static (c' := 0) (s' := 0) (q := 10) (S := []) (argsL := [.ref ba, .int (Int32.ofNat i)]) H (w_95 H) (w_96 H) (w_27 H) (w_97 H) (by decide) (rm_getC H US A hl hi hn) rfl rfl (lenOf pd_12 rfl) (fun _ q => nomatch q) rfl (by decide) (Nat.le_of_ble_eq_true rfl) rfl rfl (by decide) (by decide) d31_7 rfl ?_
  rintro _ _ G - ⟨rfl, rfl⟩
  refine nx_ (v := none) ?_
  show Go _ _ _ _ _ _ _ _ _ _ _ _ _ _ 10 #[.val (.ref ba), .val (.int (Int32.ofNat i))] [.int (cs[i])]
  exact go_ireturn H (G := []) (t := .char) rfl (by decide) (by show Value.int (nar .char cs[i]) = _; rw [nar_c16 hc.1 hc.2]) d31_10 (by decide) (by decide) (fun _ q => nomatch q) ⟨rfl, rfl⟩
set_option maxRecDepth 65536 in
set_option maxHeartbeats 4000000 in
theorem rm_chU {l : Launch} {Z : State} {a0 : Array Value} (H : Wd Z a0) {h : Heap} {F : List Addr} {a : Addr} {cs : List Int32} {i : Nat} (US : U16S Z) (S : StrU Z h F a cs) (hi : i < cs.length) (hn : cs.length ≤ 400) : Met l Z (⟨"java/lang/String", "charAt", "(I)C"⟩ : MethodName) jdk_42_method_56_code 2 (some .char) ({ frames := 4, cells := 0, slots := 0, locals := 56 } : Room) h [] #[.ref a, .int (Int32.ofNat i)] (fun v h' G => v = some (.int cs[i]) ∧ h = h') := by
  refine Met.mk (L := #[.val (.ref a), .val (.int (Int32.ofNat i))]) (by decide +kernel) (fun m => by first | (simp [entryFrame, mkF, argsToLocals, Value.category]; done) | rfl) (fun K => ?_)
  show Go _ _ K "java/lang/String" "charAt" _ _ _ _ _ _ _ _ _ 0 _ _
  obtain ⟨E, C, ha, hl, bb, k, hb, Vv, A⟩ := S
  have hc := hl.2 cs[i] (List.getElem_mem hi)
  refine go_aloadN (v := .ref a) (q := 1) d11_0 rfl rfl rfl ?_
  refine go_virtual (c' := 0) (s' := 0) (q := 4) (S := []) (argsL := []) H (C := "java/lang/String") (w_62 H) (w_63 H) (nf_self (w_65 H)) (w_65 H) (w_64 H) (w_12 H) (w_66 H) (by decide) E (rm_isU H C) rfl rfl (lenOf pd_11 rfl) (fun _ q => nomatch q) rfl (by decide) (Nat.le_of_ble_eq_true rfl) rfl rfl (by decide) (by decide) d11_1 rfl ?_
  rintro _ _ G - ⟨rfl, rfl⟩
  refine nx_ (v := none) ?_
  show Go _ _ _ _ _ _ _ _ _ _ _ _ _ _ 4 #[.val (.ref a), .val (.int (Int32.ofNat i))] [.int 0]
  refine go_ifY (q := 16) d11_4 (by decide) (by decide) (by decide) ?_
  refine go_aloadN (v := .ref a) (q := 17) d11_16 rfl rfl rfl ?_
  refine go_getfield (v := .ref bb) (q := 20) (w_38 H) Via.refl Vv d11_17 rfl ?_
  refine go_iloadN (v := (Int32.ofNat i)) (q := 21) d11_20 rfl rfl ?_
  refine go_static (c' := 0) (s' := 0) (q := 24) (S := []) (argsL := [.ref bb, .int (Int32.ofNat i)]) H (w_136 H) (w_137 H) (w_27 H) (w_138 H) (by decide) (rm_chB H US hl A hi hn) rfl rfl (lenOf pd_12 rfl) (fun _ q => nomatch q) rfl (by decide) (Nat.le_of_ble_eq_true rfl) rfl rfl (by decide) (by decide) d11_21 rfl ?_
  rintro _ _ G - ⟨rfl, rfl⟩
  refine nx_ (v := none) ?_
  show Go _ _ _ _ _ _ _ _ _ _ _ _ _ _ 24 #[.val (.ref a), .val (.int (Int32.ofNat i))] [.int (cs[i])]
  exact go_ireturn H (G := []) (t := .char) rfl (by decide) (by show Value.int (nar .char cs[i]) = _; rw [nar_c16 hc.1 hc.2]) d11_24 (by decide) (by decide) (fun _ q => nomatch q) ⟨rfl, rfl⟩
set_option maxRecDepth 65536 in
set_option maxHeartbeats 4000000 in
theorem rm_canI {l : Launch} {Z : State} {a0 : Array Value} (H : Wd Z a0) {h : Heap} {c : Int32} (hc : ¬ c < 0 ∧ ¬ 255 < c) : Met l Z (⟨"java/lang/StringLatin1", "canEncode", "(I)Z"⟩ : MethodName) jdk_43_method_4_code 1 (some .boolean) ({ frames := 0, cells := 0, slots := 0, locals := 0 } : Room) h [] #[.int c] (fun v h' G => v = some (.int 1) ∧ h = h') := by
  refine Met.mk (L := #[.val (.int c)]) (by decide +kernel) (fun m => by first | (simp [entryFrame, mkF, argsToLocals, Value.category]; done) | rfl) (fun K => ?_)
  show Go _ _ K "java/lang/StringLatin1" "canEncode" _ _ _ _ _ _ _ _ _ 0 _ _
  refine go_iloadN (v := c) (q := 1) d27_0 rfl rfl ?_
  refine go_ifN (q := 4) d27_1 hc.1 rfl ?_
  refine go_iloadN (v := c) (q := 5) d27_4 rfl rfl ?_
  refine go_sipush (x := (255 : Int32)) (q := 8) d27_5 rfl rfl ?_
  refine go_icN (q := 11) d27_8 (show ¬ (255 : Int32) < c from hc.2) rfl ?_
  refine go_iconst (x := (1 : Int32)) (q := 12) d27_11 rfl rfl ?_
  refine go_goto (q := 16) d27_12 (by decide) (by decide) ?_
  exact go_ireturn H (G := []) (t := .boolean) rfl (by decide) rfl d27_16 (by decide) (by decide) (fun _ q => nomatch q) ⟨rfl, rfl⟩
set_option maxRecDepth 65536 in
set_option maxHeartbeats 4000000 in
theorem rm_canN {l : Launch} {Z : State} {a0 : Array Value} (H : Wd Z a0) {h : Heap} {c : Int32} (h0 : ¬ c < 0) (hc : 255 < c) : Met l Z (⟨"java/lang/StringLatin1", "canEncode", "(I)Z"⟩ : MethodName) jdk_43_method_4_code 1 (some .boolean) ({ frames := 0, cells := 0, slots := 0, locals := 0 } : Room) h [] #[.int c] (fun v h' G => v = some (.int 0) ∧ h = h') := by
  refine Met.mk (L := #[.val (.int c)]) (by decide +kernel) (fun m => by first | (simp [entryFrame, mkF, argsToLocals, Value.category]; done) | rfl) (fun K => ?_)
  show Go _ _ K "java/lang/StringLatin1" "canEncode" _ _ _ _ _ _ _ _ _ 0 _ _
  refine go_iloadN (v := c) (q := 1) d27_0 rfl rfl ?_
  refine go_ifN (q := 4) d27_1 h0 rfl ?_
  refine go_iloadN (v := c) (q := 5) d27_4 rfl rfl ?_
  refine go_sipush (x := (255 : Int32)) (q := 8) d27_5 rfl rfl ?_
  refine go_icY (q := 15) d27_8 (show (255 : Int32) < c from hc) (by decide) (by decide) ?_
  refine go_iconst (x := (0 : Int32)) (q := 16) d27_15 rfl rfl ?_
  exact go_ireturn H (G := []) (t := .boolean) rfl (by decide) rfl d27_16 (by decide) (by decide) (fun _ q => nomatch q) ⟨rfl, rfl⟩
set_option maxRecDepth 65536 in
set_option maxHeartbeats 4000000 in
theorem lp_ioc {l : Launch} {Z : State} {a0 : Array Value} (H : Wd Z a0) {K : Cx} {h : Heap} {ba : Addr} {kb : ClassId} {cs : List Int32} {c : Int32} (A : Arv Z h ba kb .byte (Int32.ofNat cs.length) (bts cs) (.int 0)) (hl : Lat cs) (hc : ¬ c < 0 ∧ ¬ 255 < c) : ∀ (n i : Nat), n + i = cs.length → c ∉ cs.take i → Go l Z K "java/lang/StringLatin1" "indexOfChar" jdk_43_method_23_code 6 (some .int) ({ frames := 0, cells := 0, slots := 0, locals := 0 } : Room) (fun v h' G => (∃ r, v = some (.int r) ∧ Ix c cs r) ∧ h = h') h [] 0 0 7 #[.val (.ref ba), .val (.int c), .val (.int (0 : Int32)), .val (.int (Int32.ofNat cs.length)), .val (.int c.toInt8.toInt32), .val (.int (Int32.ofNat i))] []
  | 0, i, hni, hno => by
    obtain rfl : i = cs.length := by omega
    refine go_iload (v := (Int32.ofNat cs.length)) (q := 9) d30_7 rfl rfl ?_
    refine go_iloadN (v := (Int32.ofNat cs.length)) (q := 10) d30_9 rfl rfl ?_
    refine go_icY (q := 31) d30_10 (show ¬ Int32.ofNat cs.length < Int32.ofNat cs.length from Int32.lt_irrefl) (by decide) (by decide) ?_
    refine go_iconst (x := (-1 : Int32)) (q := 32) d30_31 rfl rfl ?_
    exact go_ireturn H (G := []) (t := .int) rfl (by decide) rfl d30_32 (by decide) (by decide) (fun _ q => nomatch q) ⟨⟨_, rfl, Or.inr ⟨by rw [List.take_of_length_le (Nat.le_refl _)] at hno; exact hno, rfl⟩⟩, rfl⟩
  | n + 1, i, hni, hno => by
    have hi : i < cs.length := by omega
    have hb := hl.1
    refine go_iload (v := (Int32.ofNat i)) (q := 9) d30_7 rfl rfl ?_
    refine go_iloadN (v := (Int32.ofNat cs.length)) (q := 10) d30_9 rfl rfl ?_
    refine go_icN (q := 13) d30_10 ((lt_ofNat (by omega) (by omega)).mpr hi) rfl ?_
    refine go_aloadN (v := .ref ba) (q := 14) d30_13 rfl rfl rfl ?_
    refine go_iload (v := (Int32.ofNat i)) (q := 16) d30_14 rfl rfl ?_
    refine go_baload (v := .int (cs[i].toInt8.toInt32)) (q := 17) A ⟨nn_ofNat (by omega), (lt_ofNat (by omega) (by omega)).mpr hi⟩ (by rw [cl_ofNat (by omega)]; exact bts_at hi) d30_16 rfl ?_
    refine go_iload (v := c.toInt8.toInt32) (q := 19) d30_17 rfl rfl ?_
    by_cases q : cs[i] = c
    · refine go_icN (q := 22) d30_19 (show cs[i].toInt8.toInt32 = c.toInt8.toInt32 by rw [q]) rfl ?_
      refine go_iload (v := (Int32.ofNat i)) (q := 24) d30_22 rfl rfl ?_
      exact go_ireturn H (G := []) (t := .int) rfl (by decide) rfl d30_24 (by decide) (by decide) (fun _ q => nomatch q) ⟨⟨_, rfl, Or.inl ⟨i, by rw [List.getElem?_eq_getElem hi, q], rfl⟩⟩, rfl⟩
    · refine go_icY (q := 25) d30_19 (show ¬ cs[i].toInt8.toInt32 = c.toInt8.toInt32 from fun e => q (b_inj (hl.2 _ (List.getElem_mem hi)) hc e)) (by decide) (by decide) ?_
      refine go_iinc (x := (Int32.ofNat i)) (y := (Int32.ofNat (i + 1))) (L' := #[.val (.ref ba), .val (.int c), .val (.int (0 : Int32)), .val (.int (Int32.ofNat cs.length)), .val (.int c.toInt8.toInt32), .val (.int (Int32.ofNat (i + 1)))]) (q := 28) d30_25 rfl add1_ofNat rfl rfl ?_
      refine go_goto (q := 7) d30_28 (by decide) (by decide) ?_
      exact lp_ioc H A hl hc n (i + 1) (by omega) (by rw [List.take_succ_eq_append_getElem hi]; intro m; rcases List.mem_append.mp m with m | m; exact hno m; exact q (List.mem_singleton.mp m).symm)
set_option maxRecDepth 65536 in
set_option maxHeartbeats 4000000 in
theorem rm_ioc {l : Launch} {Z : State} {a0 : Array Value} (H : Wd Z a0) {h : Heap} {ba : Addr} {kb : ClassId} {cs : List Int32} {c : Int32} (A : Arv Z h ba kb .byte (Int32.ofNat cs.length) (bts cs) (.int 0)) (hl : Lat cs) (hc : ¬ c < 0 ∧ ¬ 255 < c) : Met l Z (⟨"java/lang/StringLatin1", "indexOfChar", "([BIII)I"⟩ : MethodName) jdk_43_method_23_code 6 (some .int) ({ frames := 0, cells := 0, slots := 0, locals := 0 } : Room) h [] #[.ref ba, .int c, .int 0, .int (Int32.ofNat cs.length)] (fun v h' G => (∃ r, v = some (.int r) ∧ Ix c cs r) ∧ h = h') := by
  refine Met.mk (L := #[.val (.ref ba), .val (.int c), .val (.int 0), .val (.int (Int32.ofNat cs.length)), .unset, .unset]) (by decide +kernel) (fun m => by first | (simp [entryFrame, mkF, argsToLocals, Value.category]; done) | rfl) (fun K => ?_)
  show Go _ _ K "java/lang/StringLatin1" "indexOfChar" _ _ _ _ _ _ _ _ _ 0 _ _
  refine go_iloadN (v := c) (q := 1) d30_0 rfl rfl ?_
  refine go_i2b (r := c.toInt8.toInt32) (q := 2) d30_1 rfl rfl ?_
  refine go_istore (L' := #[.val (.ref ba), .val (.int c), .val (.int 0), .val (.int (Int32.ofNat cs.length)), .val (.int c.toInt8.toInt32), .unset]) (q := 4) d30_2 rfl rfl ?_
  refine go_iloadN (v := 0) (q := 5) d30_4 rfl rfl ?_
  refine go_istore (L' := #[.val (.ref ba), .val (.int c), .val (.int 0), .val (.int (Int32.ofNat cs.length)), .val (.int c.toInt8.toInt32), .val (.int 0)]) (q := 7) d30_5 rfl rfl ?_
  exact lp_ioc H A hl hc cs.length 0 (by omega) (by simp)
set_option maxRecDepth 65536 in
set_option maxHeartbeats 4000000 in
theorem rm_io4 {l : Launch} {Z : State} {a0 : Array Value} (H : Wd Z a0) {h : Heap} {ba : Addr} {kb : ClassId} {cs : List Int32} {c : Int32} (A : Arv Z h ba kb .byte (Int32.ofNat cs.length) (bts cs) (.int 0)) (hl : Lat cs) (hc : ¬ c < 0) (h0 : 0 < cs.length) : Met l Z (⟨"java/lang/StringLatin1", "indexOf", "([BIII)I"⟩ : MethodName) jdk_43_method_22_code 4 (some .int) ({ frames := 1, cells := 0, slots := 0, locals := 20 } : Room) h [] #[.ref ba, .int c, .int 0, .int (Int32.ofNat cs.length)] (fun v h' G => (∃ r, v = some (.int r) ∧ Ix c cs r) ∧ h = h') := by
  refine Met.mk (L := #[.val (.ref ba), .val (.int c), .val (.int 0), .val (.int (Int32.ofNat cs.length))]) (by decide +kernel) (fun m => by first | (simp [entryFrame, mkF, argsToLocals, Value.category]; done) | rfl) (fun K => ?_)
  show Go _ _ K "java/lang/StringLatin1" "indexOf" _ _ _ _ _ _ _ _ _ 0 _ _
  have hb := hl.1
  refine go_iloadN (v := c) (q := 1) d26_0 rfl rfl ?_
  by_cases qc : 255 < c
  · refine go_static (c' := 0) (s' := 0) (q := 4) (S := []) (argsL := [.int c]) H (w_123 H) (w_124 H) (w_69 H) (w_125 H) (by decide) (rm_canN H hc qc) rfl rfl (lenOf pd_17 rfl) (fun _ q => nomatch q) rfl (by decide) (Nat.le_of_ble_eq_true rfl) rfl rfl (by decide) (by decide) d26_1 rfl ?_
    rintro _ _ G - ⟨rfl, rfl⟩
    refine nx_ (v := none) ?_
    show Go _ _ _ _ _ _ _ _ _ _ _ _ _ _ 4 #[.val (.ref ba), .val (.int c), .val (.int 0), .val (.int (Int32.ofNat cs.length))] [.int 0]
    refine go_ifN (q := 7) d26_4 (by decide) rfl ?_
    refine go_iconst (x := (-1 : Int32)) (q := 8) d26_7 rfl rfl ?_
    exact go_ireturn H (G := []) (t := .int) rfl (by decide) rfl d26_8 (by decide) (by decide) (fun _ q => nomatch q) ⟨⟨_, rfl, Or.inr ⟨fun m => (hl.2 c m).2 qc, rfl⟩⟩, rfl⟩
  · refine go_static (c' := 0) (s' := 0) (q := 4) (S := []) (argsL := [.int c]) H (w_123 H) (w_124 H) (w_69 H) (w_125 H) (by decide) (rm_canI H ⟨hc, qc⟩) rfl rfl (lenOf pd_17 rfl) (fun _ q => nomatch q) rfl (by decide) (Nat.le_of_ble_eq_true rfl) rfl rfl (by decide) (by decide) d26_1 rfl ?_
    rintro _ _ G - ⟨rfl, rfl⟩
    refine nx_ (v := none) ?_
    show Go _ _ _ _ _ _ _ _ _ _ _ _ _ _ 4 #[.val (.ref ba), .val (.int c), .val (.int 0), .val (.int (Int32.ofNat cs.length))] [.int 1]
    refine go_ifY (q := 9) d26_4 (by decide) (by decide) (by decide) ?_
    refine go_iloadN (v := 0) (q := 10) d26_9 rfl rfl ?_
    refine go_iconst (x := (0 : Int32)) (q := 11) d26_10 rfl rfl ?_
    refine go_static (c' := 0) (s' := 0) (q := 14) (S := []) (argsL := [.int 0, .int (0 : Int32)]) H (w_126 H) (w_127 H) (w_128 H) (w_129 H) (by decide) (rm_max H) rfl rfl (lenOf pd_18 rfl) (fun _ q => nomatch q) rfl (by decide) (Nat.le_of_ble_eq_true rfl) rfl rfl (by decide) (by decide) d26_11 rfl ?_
    rintro _ _ G - ⟨rfl, rfl⟩
    refine nx_ (v := none) ?_
    show Go _ _ _ _ _ _ _ _ _ _ _ _ _ _ 14 #[.val (.ref ba), .val (.int c), .val (.int 0), .val (.int (Int32.ofNat cs.length))] [.int (0 : Int32)]
    refine go_istoreN (L' := #[.val (.ref ba), .val (.int c), .val (.int (0 : Int32)), .val (.int (Int32.ofNat cs.length))]) (q := 15) d26_14 rfl rfl ?_
    refine go_iloadN (v := (Int32.ofNat cs.length)) (q := 16) d26_15 rfl rfl ?_
    refine go_aloadN (v := .ref ba) (q := 17) d26_16 rfl rfl rfl ?_
    refine go_arraylength (z := (Int32.ofNat cs.length)) (q := 18) A d26_17 rfl ?_
    refine go_static (c' := 0) (s' := 0) (q := 21) (S := []) (argsL := [.int (Int32.ofNat cs.length), .int (Int32.ofNat cs.length)]) H (w_130 H) (w_131 H) (w_128 H) (w_132 H) (by decide) (rm_min H) rfl rfl (lenOf pd_18 rfl) (fun _ q => nomatch q) rfl (by decide) (Nat.le_of_ble_eq_true rfl) rfl rfl (by decide) (by decide) d26_18 rfl ?_
    rintro _ _ G - ⟨rfl, rfl⟩
    refine nx_ (v := none) ?_
    show Go _ _ _ _ _ _ _ _ _ _ _ _ _ _ 21 #[.val (.ref ba), .val (.int c), .val (.int (0 : Int32)), .val (.int (Int32.ofNat cs.length))] [.int (if Int32.ofNat cs.length < Int32.ofNat cs.length then Int32.ofNat cs.length else Int32.ofNat cs.length)]
    rw [ite_self]
    show Go _ _ _ _ _ _ _ _ _ _ _ _ _ _ 21 #[.val (.ref ba), .val (.int c), .val (.int (0 : Int32)), .val (.int (Int32.ofNat cs.length))] [.int (Int32.ofNat cs.length)]
    refine go_istoreN (L' := #[.val (.ref ba), .val (.int c), .val (.int (0 : Int32)), .val (.int (Int32.ofNat cs.length))]) (q := 22) d26_21 rfl rfl ?_
    refine go_iloadN (v := (0 : Int32)) (q := 23) d26_22 rfl rfl ?_
    refine go_iloadN (v := (Int32.ofNat cs.length)) (q := 24) d26_23 rfl rfl ?_
    refine go_icY (q := 29) d26_24 ((lt_ofNat (i := 0) (by omega) (by omega)).mpr h0) (by decide) (by decide) ?_
    refine go_aloadN (v := .ref ba) (q := 30) d26_29 rfl rfl rfl ?_
    refine go_iloadN (v := c) (q := 31) d26_30 rfl rfl ?_
    refine go_iloadN (v := (0 : Int32)) (q := 32) d26_31 rfl rfl ?_
    refine go_iloadN (v := (Int32.ofNat cs.length)) (q := 33) d26_32 rfl rfl ?_
    refine go_static (c' := 0) (s' := 0) (q := 36) (S := []) (argsL := [.ref ba, .int c, .int (0 : Int32), .int (Int32.ofNat cs.length)]) H (w_133 H) (w_134 H) (w_69 H) (w_135 H) (by decide) (rm_ioc H A hl ⟨hc, qc⟩) rfl rfl (lenOf pd_19 rfl) (fun _ q => nomatch q) rfl (by decide) (Nat.le_of_ble_eq_true rfl) rfl rfl (by decide) (by decide) d26_33 rfl ?_
    rintro _ _ G - ⟨⟨r, rfl, hr⟩, rfl⟩
    refine nx_ (v := none) ?_
    show Go _ _ _ _ _ _ _ _ _ _ _ _ _ _ 36 #[.val (.ref ba), .val (.int c), .val (.int (0 : Int32)), .val (.int (Int32.ofNat cs.length))] [.int r]
    exact go_ireturn H (G := []) (t := .int) rfl (by decide) rfl d26_36 (by decide) (by decide) (fun _ q => nomatch q) ⟨⟨r, rfl, hr⟩, rfl⟩
set_option maxRecDepth 65536 in
set_option maxHeartbeats 4000000 in
theorem rm_io2 {l : Launch} {Z : State} {a0 : Array Value} (H : Wd Z a0) {h : Heap} {F : List Addr} {a : Addr} {cs : List Int32} {c : Int32} (S : Str Z h F a cs) (hc : ¬ c < 0) (h0 : 0 < cs.length) : Met l Z (⟨"java/lang/String", "indexOf", "(II)I"⟩ : MethodName) jdk_42_method_80_code 3 (some .int) ({ frames := 2, cells := 0, slots := 0, locals := 36 } : Room) h [] #[.ref a, .int c, .int 0] (fun v h' G => (∃ r, v = some (.int r) ∧ Ix c cs r) ∧ h = h') := by
  refine Met.mk (L := #[.val (.ref a), .val (.int c), .val (.int 0)]) (by decide +kernel) (fun m => by first | (simp [entryFrame, mkF, argsToLocals, Value.category]; done) | rfl) (fun K => ?_)
  show Go _ _ K "java/lang/String" "indexOf" _ _ _ _ _ _ _ _ _ 0 _ _
  have S0 := S
  obtain ⟨E, C, ha, hl, bb, k, hb, Vv, A⟩ := S
  refine go_aloadN (v := .ref a) (q := 1) d25_0 rfl rfl rfl ?_
  refine go_virtual (c' := 0) (s' := 0) (q := 4) (S := []) (argsL := []) H (C := "java/lang/String") (w_62 H) (w_63 H) (nf_self (w_65 H)) (w_65 H) (w_64 H) (w_12 H) (w_66 H) (by decide) E (rm_isL H C) rfl rfl (lenOf pd_11 rfl) (fun _ q => nomatch q) rfl (by decide) (Nat.le_of_ble_eq_true rfl) rfl rfl (by decide) (by decide) d25_1 rfl ?_
  rintro _ _ G - ⟨rfl, rfl⟩
  refine nx_ (v := none) ?_
  show Go _ _ _ _ _ _ _ _ _ _ _ _ _ _ 4 #[.val (.ref a), .val (.int c), .val (.int 0)] [.int 1]
  refine go_ifN (q := 7) d25_4 (by decide) rfl ?_
  refine go_aloadN (v := .ref a) (q := 8) d25_7 rfl rfl rfl ?_
  refine go_getfield (v := .ref bb) (q := 11) (w_38 H) Via.refl Vv d25_8 rfl ?_
  refine go_iloadN (v := c) (q := 12) d25_11 rfl rfl ?_
  refine go_iloadN (v := 0) (q := 13) d25_12 rfl rfl ?_
  refine go_aloadN (v := .ref a) (q := 14) d25_13 rfl rfl rfl ?_
  refine go_virtual (c' := 0) (s' := 0) (q := 17) (S := [.int 0, .int c, .ref bb]) (argsL := []) H (C := "java/lang/String") (w_119 H) (w_45 H) (nf_self (w_47 H)) (w_47 H) (w_46 H) (w_12 H) (w_48 H) (by decide) E (rm_len H S0) rfl rfl (lenOf pd_2 rfl) (fun _ q => nomatch q) rfl (by decide) (Nat.le_of_ble_eq_true rfl) rfl rfl (by decide) (by decide) d25_14 rfl ?_
  rintro _ _ G - ⟨rfl, rfl⟩
  refine nx_ (v := none) ?_
  show Go _ _ _ _ _ _ _ _ _ _ _ _ _ _ 17 #[.val (.ref a), .val (.int c), .val (.int 0)] [.int (Int32.ofNat cs.length), .int 0, .int c, .ref bb]
  refine go_static (c' := 0) (s' := 0) (q := 20) (S := []) (argsL := [.ref bb, .int c, .int 0, .int (Int32.ofNat cs.length)]) H (w_120 H) (w_121 H) (w_69 H) (w_122 H) (by decide) (rm_io4 H A hl hc h0) rfl rfl (lenOf pd_19 rfl) (fun _ q => nomatch q) rfl (by decide) (Nat.le_of_ble_eq_true rfl) rfl rfl (by decide) (by decide) d25_17 rfl ?_
  rintro _ _ G - ⟨⟨r, rfl, hr⟩, rfl⟩
  refine nx_ (v := none) ?_
  show Go _ _ _ _ _ _ _ _ _ _ _ _ _ _ 20 #[.val (.ref a), .val (.int c), .val (.int 0)] [.int r]
  refine go_goto (q := 36) d25_20 (by decide) (by decide) ?_
  exact go_ireturn H (G := []) (t := .int) rfl (by decide) rfl d25_36 (by decide) (by decide) (fun _ q => nomatch q) ⟨⟨r, rfl, hr⟩, rfl⟩
set_option maxRecDepth 65536 in
set_option maxHeartbeats 4000000 in
theorem rm_io1 {l : Launch} {Z : State} {a0 : Array Value} (H : Wd Z a0) {h : Heap} {F : List Addr} {a : Addr} {cs : List Int32} {c : Int32} (S : Str Z h F a cs) (hc : ¬ c < 0) (h0 : 0 < cs.length) : Met l Z (⟨"java/lang/String", "indexOf", "(I)I"⟩ : MethodName) jdk_42_method_79_code 2 (some .int) ({ frames := 3, cells := 0, slots := 0, locals := 51 } : Room) h [] #[.ref a, .int c] (fun v h' G => (∃ r, v = some (.int r) ∧ Ix c cs r) ∧ h = h') := by
  refine Met.mk (L := #[.val (.ref a), .val (.int c)]) (by decide +kernel) (fun m => by first | (simp [entryFrame, mkF, argsToLocals, Value.category]; done) | rfl) (fun K => ?_)
  show Go _ _ K "java/lang/String" "indexOf" _ _ _ _ _ _ _ _ _ 0 _ _
  refine go_aloadN (v := .ref a) (q := 1) d24_0 rfl rfl rfl ?_
  refine go_iloadN (v := c) (q := 2) d24_1 rfl rfl ?_
  refine go_iconst (x := (0 : Int32)) (q := 3) d24_2 rfl rfl ?_
  refine go_virtual (c' := 0) (s' := 0) (q := 6) (S := []) (argsL := [.int c, .int (0 : Int32)]) H (C := "java/lang/String") (w_114 H) (w_115 H) (nf_self (w_117 H)) (w_117 H) (w_116 H) (w_12 H) (w_118 H) (by decide) S.exa (rm_io2 H S hc h0) rfl rfl (lenOf pd_18 rfl) (fun _ q => nomatch q) rfl (by decide) (Nat.le_of_ble_eq_true rfl) rfl rfl (by decide) (by decide) d24_3 rfl ?_
  rintro _ _ G - ⟨⟨r, rfl, hr⟩, rfl⟩
  refine nx_ (v := none) ?_
  show Go _ _ _ _ _ _ _ _ _ _ _ _ _ _ 6 #[.val (.ref a), .val (.int c)] [.int r]
  exact go_ireturn H (G := []) (t := .int) rfl (by decide) rfl d24_6 (by decide) (by decide) (fun _ q => nomatch q) ⟨⟨r, rfl, hr⟩, rfl⟩
set_option maxRecDepth 65536 in
set_option maxHeartbeats 4000000 in
theorem rm_hv {l : Launch} {Z : State} {a0 : Array Value} (H : Wd Z a0) {h : Heap} {c : Int32} (hc : (¬ c < 0 ∧ ¬ 65535 < c)) : Met l Z (⟨"com/example/tabane/tabane/url/PercentEscapes", "hexValue", "(C)I"⟩ : MethodName) prog_43_method_6_code 2 (some .int) ({ frames := 4, cells := 2, slots := 92, locals := 68 } : Room) h [] #[.int c] (fun v h' G => v = some (.int (hxv c)) ∧ Keep h h' []) := by
  refine Met.mk (L := #[.val (.int c), .unset]) (plainFor_of_name (by first | (simp [plainName, overriddenIn]; done) | decide +kernel)) (fun m => by first | (simp [entryFrame, mkF, argsToLocals, Value.category]; done) | rfl) (fun K => ?_)
  show Go _ _ K "com/example/tabane/tabane/url/PercentEscapes" "hexValue" _ _ _ _ _ _ _ _ _ 0 _ _
  have Ka : Keep h h [] := Keep.refl _ _
  refine go_lit (cs := [48, 49, 50, 51, 52, 53, 54, 55, 56, 57, 65, 66, 67, 68, 69, 70, 97, 98, 99, 100, 101, 102]) (n := 88) (c' := 2) (s' := 92) (q := 2) H (w_108 H) (by decide) (by decide) (by decide) (by decide) (by decide) d23_0 (by decide) (by decide) rfl rfl rfl (by decide) (by decide) ?_
  intro h1 a1 E1 S1
  have Ka : Keep h h1 [] := Ka.ext E1
  refine go_iloadN (v := c) (q := 3) d23_2 rfl rfl ?_
  refine go_virtual (c' := 2) (s' := 92) (q := 6) (S := []) (argsL := [.int c]) H (C := "java/lang/String") (w_109 H) (w_110 H) (nf_self (w_112 H)) (w_112 H) (w_111 H) (w_12 H) (w_113 H) (by decide) S1.exa (rm_io1 H S1 hc.1 (by decide)) rfl rfl (lenOf pd_0 rfl) (fun _ q => nomatch q) rfl (by decide) (Nat.le_of_ble_eq_true rfl) rfl rfl (by decide) (by decide) d23_3 rfl ?_
  rintro _ _ G - ⟨⟨r, rfl, hr⟩, rfl⟩
  refine nx_ (v := none) ?_
  show Go _ _ _ _ _ _ _ _ _ _ _ _ _ _ 6 #[.val (.int c), .unset] [.int r]
  refine go_istoreN (L' := #[.val (.int c), .val (.int r)]) (q := 7) d23_6 rfl rfl ?_
  refine go_iloadN (v := r) (q := 8) d23_7 rfl rfl ?_
  refine go_bipush (x := (16 : Int32)) (q := 10) d23_8 rfl rfl ?_
  obtain ⟨x1, x2⟩ := hxv_ix hr
  by_cases q : r < 16
  · refine go_icN (q := 13) d23_10 q rfl ?_
    refine go_iloadN (v := r) (q := 14) d23_13 rfl rfl ?_
    refine go_goto (q := 21) d23_14 (by decide) (by decide) ?_
    rw [x1 q]
    exact go_ireturn H (G := []) (t := .int) rfl (by decide) rfl d23_21 (by decide) (by decide) (fun _ q => nomatch q) ⟨rfl, Ka⟩
  · refine go_icY (q := 17) d23_10 q (by decide) (by decide) ?_
    refine go_iloadN (v := r) (q := 18) d23_17 rfl rfl ?_
    refine go_bipush (x := (6 : Int32)) (q := 20) d23_18 rfl rfl ?_
    refine go_isub (r := (hxv c)) (q := 21) d23_20 (x2 q) rfl ?_
    exact go_ireturn H (G := []) (t := .int) rfl (by decide) rfl d23_21 (by decide) (by decide) (fun _ q => nomatch q) ⟨rfl, Ka⟩
set_option maxRecDepth 65536 in
set_option maxHeartbeats 4000000 in
theorem hx_57 {l : Launch} {Z : State} {a0 : Array Value} (H : Wd Z a0) {K : Cx} {h : Heap} {c : Int32} (n0 : ¬ (¬ c < 48 ∧ ¬ 57 < c)) (n1 : ¬ (¬ c < 65 ∧ ¬ 70 < c)) (n2 : ¬ (¬ c < 97 ∧ ¬ 102 < c)) : Go l Z K "com/example/tabane/tabane/url/PercentEscapesByteAtPinLaw" "hex" method_3_code 1 (some .int) ({ frames := 0, cells := 0, slots := 0, locals := 0 } : Room) (fun v h' G => v = some (.int (hxv c)) ∧ h = h') h [] 0 0 57 #[.val (.int c)] [] := by
  refine go_iconst (x := (-1 : Int32)) (q := 58) d22_57 rfl rfl ?_
  exact go_ireturn H (G := []) (t := .int) rfl (by decide) rfl d22_58 (by decide) (by decide) (fun _ q => nomatch q) ⟨by unfold hxv; rw [if_neg n0, if_neg n1, if_neg n2], rfl⟩
set_option maxRecDepth 65536 in
set_option maxHeartbeats 4000000 in
theorem hx_37 {l : Launch} {Z : State} {a0 : Array Value} (H : Wd Z a0) {K : Cx} {h : Heap} {c : Int32} (n0 : ¬ (¬ c < 48 ∧ ¬ 57 < c)) (n1 : ¬ (¬ c < 65 ∧ ¬ 70 < c)) : Go l Z K "com/example/tabane/tabane/url/PercentEscapesByteAtPinLaw" "hex" method_3_code 1 (some .int) ({ frames := 0, cells := 0, slots := 0, locals := 0 } : Room) (fun v h' G => v = some (.int (hxv c)) ∧ h = h') h [] 0 0 37 #[.val (.int c)] [] := by
  refine go_iloadN (v := c) (q := 38) d22_37 rfl rfl ?_
  refine go_bipush (x := (97 : Int32)) (q := 40) d22_38 rfl rfl ?_
  by_cases n2 : ¬ c < 97 ∧ ¬ 102 < c
  · refine go_icN (q := 43) d22_40 n2.1 rfl ?_
    refine go_iloadN (v := c) (q := 44) d22_43 rfl rfl ?_
    refine go_bipush (x := (102 : Int32)) (q := 46) d22_44 rfl rfl ?_
    refine go_icN (q := 49) d22_46 n2.2 rfl ?_
    refine go_iloadN (v := c) (q := 50) d22_49 rfl rfl ?_
    refine go_bipush (x := (97 : Int32)) (q := 52) d22_50 rfl rfl ?_
    refine go_isub (r := c - (97 : Int32)) (q := 53) d22_52 rfl rfl ?_
    refine go_bipush (x := (10 : Int32)) (q := 55) d22_53 rfl rfl ?_
    refine go_iadd (r := (hxv c)) (q := 56) d22_55 (show _ = hxv c from (by unfold hxv; rw [if_neg n0, if_neg n1, if_pos n2])) rfl ?_
    exact go_ireturn H (G := []) (t := .int) rfl (by decide) rfl d22_56 (by decide) (by decide) (fun _ q => nomatch q) ⟨rfl, rfl⟩
  · by_cases l : c < 97
    · refine go_icY (q := 57) d22_40 l (by decide) (by decide) ?_
      exact hx_57 H n0 n1 n2
    · refine go_icN (q := 43) d22_40 l rfl ?_
      refine go_iloadN (v := c) (q := 44) d22_43 rfl rfl ?_
      refine go_bipush (x := (102 : Int32)) (q := 46) d22_44 rfl rfl ?_
      refine go_icY (q := 57) d22_46 (Classical.byContradiction fun e => n2 ⟨l, e⟩) (by decide) (by decide) ?_
      exact hx_57 H n0 n1 n2
set_option maxRecDepth 65536 in
set_option maxHeartbeats 4000000 in
theorem hx_17 {l : Launch} {Z : State} {a0 : Array Value} (H : Wd Z a0) {K : Cx} {h : Heap} {c : Int32} (n0 : ¬ (¬ c < 48 ∧ ¬ 57 < c)) : Go l Z K "com/example/tabane/tabane/url/PercentEscapesByteAtPinLaw" "hex" method_3_code 1 (some .int) ({ frames := 0, cells := 0, slots := 0, locals := 0 } : Room) (fun v h' G => v = some (.int (hxv c)) ∧ h = h') h [] 0 0 17 #[.val (.int c)] [] := by
  refine go_iloadN (v := c) (q := 18) d22_17 rfl rfl ?_
  refine go_bipush (x := (65 : Int32)) (q := 20) d22_18 rfl rfl ?_
  by_cases n1 : ¬ c < 65 ∧ ¬ 70 < c
  · refine go_icN (q := 23) d22_20 n1.1 rfl ?_
    refine go_iloadN (v := c) (q := 24) d22_23 rfl rfl ?_
    refine go_bipush (x := (70 : Int32)) (q := 26) d22_24 rfl rfl ?_
    refine go_icN (q := 29) d22_26 n1.2 rfl ?_
    refine go_iloadN (v := c) (q := 30) d22_29 rfl rfl ?_
    refine go_bipush (x := (65 : Int32)) (q := 32) d22_30 rfl rfl ?_
    refine go_isub (r := c - (65 : Int32)) (q := 33) d22_32 rfl rfl ?_
    refine go_bipush (x := (10 : Int32)) (q := 35) d22_33 rfl rfl ?_
    refine go_iadd (r := (hxv c)) (q := 36) d22_35 (show _ = hxv c from (by unfold hxv; rw [if_neg n0, if_pos n1])) rfl ?_
    exact go_ireturn H (G := []) (t := .int) rfl (by decide) rfl d22_36 (by decide) (by decide) (fun _ q => nomatch q) ⟨rfl, rfl⟩
  · by_cases l : c < 65
    · refine go_icY (q := 37) d22_20 l (by decide) (by decide) ?_
      exact hx_37 H n0 n1
    · refine go_icN (q := 23) d22_20 l rfl ?_
      refine go_iloadN (v := c) (q := 24) d22_23 rfl rfl ?_
      refine go_bipush (x := (70 : Int32)) (q := 26) d22_24 rfl rfl ?_
      refine go_icY (q := 37) d22_26 (Classical.byContradiction fun e => n1 ⟨l, e⟩) (by decide) (by decide) ?_
      exact hx_37 H n0 n1
set_option maxRecDepth 65536 in
set_option maxHeartbeats 4000000 in
theorem rm_hx {l : Launch} {Z : State} {a0 : Array Value} (H : Wd Z a0) {h : Heap} {c : Int32}  : Met l Z (⟨"com/example/tabane/tabane/url/PercentEscapesByteAtPinLaw", "hex", "(C)I"⟩ : MethodName) method_3_code 1 (some .int) ({ frames := 0, cells := 0, slots := 0, locals := 0 } : Room) h [] #[.int c] (fun v h' G => v = some (.int (hxv c)) ∧ h = h') := by
  refine Met.mk (L := #[.val (.int c)]) (plainFor_of_name (by first | (simp [plainName, overriddenIn]; done) | decide +kernel)) (fun m => by first | (simp [entryFrame, mkF, argsToLocals, Value.category]; done) | rfl) (fun K => ?_)
  show Go _ _ K "com/example/tabane/tabane/url/PercentEscapesByteAtPinLaw" "hex" _ _ _ _ _ _ _ _ _ 0 _ _
  refine go_iloadN (v := c) (q := 1) d22_0 rfl rfl ?_
  refine go_bipush (x := (48 : Int32)) (q := 3) d22_1 rfl rfl ?_
  by_cases n0 : ¬ c < 48 ∧ ¬ 57 < c
  · refine go_icN (q := 6) d22_3 n0.1 rfl ?_
    refine go_iloadN (v := c) (q := 7) d22_6 rfl rfl ?_
    refine go_bipush (x := (57 : Int32)) (q := 9) d22_7 rfl rfl ?_
    refine go_icN (q := 12) d22_9 n0.2 rfl ?_
    refine go_iloadN (v := c) (q := 13) d22_12 rfl rfl ?_
    refine go_bipush (x := (48 : Int32)) (q := 15) d22_13 rfl rfl ?_
    refine go_isub (r := (hxv c)) (q := 16) d22_15 (show _ = hxv c from (by unfold hxv; rw [if_pos n0])) rfl ?_
    exact go_ireturn H (G := []) (t := .int) rfl (by decide) rfl d22_16 (by decide) (by decide) (fun _ q => nomatch q) ⟨rfl, rfl⟩
  · by_cases l : c < 48
    · refine go_icY (q := 17) d22_3 l (by decide) (by decide) ?_
      exact hx_17 H n0
    · refine go_icN (q := 6) d22_3 l rfl ?_
      refine go_iloadN (v := c) (q := 7) d22_6 rfl rfl ?_
      refine go_bipush (x := (57 : Int32)) (q := 9) d22_7 rfl rfl ?_
      refine go_icY (q := 17) d22_9 (Classical.byContradiction fun e => n0 ⟨l, e⟩) (by decide) (by decide) ?_
      exact hx_17 H n0
set_option maxRecDepth 65536 in
set_option maxHeartbeats 4000000 in
theorem rm_dr {l : Launch} {Z : State} {a0 : Array Value} (H : Wd Z a0) {h : Heap} {x : Int32}  : Met l Z (⟨"com/example/tabane/tabane/url/PercentEscapesByteAtPinLaw", "draw", "(I)C"⟩ : MethodName) method_2_code 1 (some .char) ({ frames := 4, cells := 2, slots := 116, locals := 60 } : Room) h [] #[.int x] (fun v h' G => ∃ c, v = some (.int c) ∧ (¬ c < 0 ∧ ¬ 65535 < c) ∧ Keep h h' []) := by
  refine Met.mk (L := #[.val (.int x)]) (plainFor_of_name (by first | (simp [plainName, overriddenIn]; done) | decide +kernel)) (fun m => by first | (simp [entryFrame, mkF, argsToLocals, Value.category]; done) | rfl) (fun K => ?_)
  show Go _ _ K "com/example/tabane/tabane/url/PercentEscapesByteAtPinLaw" "draw" _ _ _ _ _ _ _ _ _ 0 _ _
  have Ka : Keep h h [] := Keep.refl _ _
  have hm := c_mask x 65535 16 (by decide) (by decide)
  have p16 : ((2 ^ 16 : Nat) : Int) = 65536 := by decide
  rw [p16] at hm
  have hx : ¬ (x &&& 65535) < 0 ∧ ¬ 65535 < (x &&& 65535) := by rw [Int32.lt_iff_toInt_lt, Int32.lt_iff_toInt_lt, hm, show (0 : Int32).toInt = 0 from rfl, show (65535 : Int32).toInt = 65535 from rfl]; omega
  refine go_iloadN (v := x) (q := 1) d0_0 rfl rfl ?_
  refine go_ldcInt (v := (65536 : Int32)) (q := 3) (w_5 H) d0_1 rfl ?_
  refine go_iand (r := x &&& (65536 : Int32)) (q := 4) d0_3 rfl rfl ?_
  by_cases q : x &&& 65536 = 0
  · refine go_ifN (q := 7) d0_4 q rfl ?_
    refine go_iloadN (v := x) (q := 8) d0_7 rfl rfl ?_
    refine go_ldcInt (v := (65535 : Int32)) (q := 10) (w_6 H) d0_8 rfl ?_
    refine go_iand (r := x &&& (65535 : Int32)) (q := 11) d0_10 rfl rfl ?_
    refine go_i2c (r := (x &&& 65535)) (q := 12) d0_11 (nar_c16 hx.1 hx.2) rfl ?_
    exact go_ireturn H (G := []) (t := .char) rfl (by decide) (by show Value.int (nar .char (x &&& 65535)) = _; rw [nar_c16 hx.1 hx.2]) d0_12 (by decide) (by decide) (fun _ q => nomatch q) ⟨_, rfl, hx, Ka⟩
  · refine go_ifY (q := 13) d0_4 q (by decide) (by decide) ?_
    refine go_lit (cs := [47, 48, 49, 50, 51, 52, 53, 54, 55, 56, 57, 58, 64, 65, 66, 67, 68, 69, 70, 71, 96, 97, 98, 99, 100, 101, 102, 103]) (n := 112) (c' := 2) (s' := 116) (q := 15) H (w_54 H) (by decide) (by decide) (by decide) (by decide) (by decide) d0_13 (by decide) (by decide) rfl rfl rfl (by decide) (by decide) ?_
    intro h1 a1 E1 S1
    have Ka : Keep h h1 [] := Ka.ext E1
    refine go_iloadN (v := x) (q := 16) d0_15 rfl rfl ?_
    refine go_ldcInt (v := (65535 : Int32)) (q := 18) (w_6 H) d0_16 rfl ?_
    refine go_iand (r := x &&& (65535 : Int32)) (q := 19) d0_18 rfl rfl ?_
    refine go_bipush (x := (28 : Int32)) (q := 21) d0_19 rfl rfl ?_
    refine go_irem (r := (x &&& (65535 : Int32)) % (28 : Int32)) (q := 22) d0_21 (by decide) rfl rfl ?_
    have hr := (c_irem (x &&& 65535) 28 28 rfl).1 (by rw [hm]; omega)
    obtain ⟨i, hi, ei⟩ : ∃ i : Nat, i < 28 ∧ (x &&& 65535) % 28 = Int32.ofNat i := ⟨((x &&& 65535) % 28).toInt.toNat, by omega, by rw [← Int32.toInt_inj, toInt_ofNat (by omega)]; omega⟩
    rw [ei]
    show Go _ _ _ _ _ _ _ _ _ _ _ _ _ _ 22 #[.val (.int x)] [.int (Int32.ofNat i), .ref a1]
    obtain ⟨cl, hcl⟩ : ∃ cl : List Int32, cl = [47, 48, 49, 50, 51, 52, 53, 54, 55, 56, 57, 58, 64, 65, 66, 67, 68, 69, 70, 71, 96, 97, 98, 99, 100, 101, 102, 103] := ⟨_, rfl⟩
    have hl28 : cl.length = 28 := by rw [hcl]; rfl
    rw [← hcl] at S1
    have hic : i < cl.length := by omega
    have hc := S1.lat.2 cl[i] (List.getElem_mem hic)
    have hc2 : ¬ 65535 < cl[i] := by rw [Int32.lt_iff_toInt_lt, Int32.lt_iff_toInt_lt] at hc; rw [Int32.lt_iff_toInt_lt, show (65535 : Int32).toInt = 65535 from rfl]; have := hc.2; have : (255 : Int32).toInt = 255 := rfl; omega
    refine go_virtual (c' := 2) (s' := 116) (q := 25) (S := []) (argsL := [.int (Int32.ofNat i)]) H (C := "java/lang/String") (w_57 H) (w_58 H) (nf_self (w_60 H)) (w_60 H) (w_59 H) (w_12 H) (w_61 H) (by decide) S1.exa (rm_chAt H S1 hic) rfl rfl (lenOf pd_1 rfl) (fun _ q => nomatch q) rfl (by decide) (Nat.le_of_ble_eq_true rfl) rfl rfl (by decide) (by decide) d0_22 rfl ?_
    rintro _ _ G - ⟨rfl, rfl⟩
    refine nx_ (v := none) ?_
    show Go _ _ _ _ _ _ _ _ _ _ _ _ _ _ 25 #[.val (.int x)] [.int (cl[i])]
    exact go_ireturn H (G := []) (t := .char) rfl (by decide) (by show Value.int (nar .char cl[i]) = _; rw [nar_c16 hc.1 hc2]) d0_25 (by decide) (by decide) (fun _ q => nomatch q) ⟨_, rfl, ⟨hc.1, hc2⟩, Ka⟩
set_option maxRecDepth 65536 in
set_option maxHeartbeats 4000000 in
theorem rm_mk1 {l : Launch} {Z : State} {a0 : Array Value} (H : Wd Z a0) {h : Heap} {a b c d : Int32} (US : U16S Z) (pa : (¬ a < 0 ∧ ¬ 65535 < a)) (pb : (¬ b < 0 ∧ ¬ 65535 < b)) (pc : (¬ c < 0 ∧ ¬ 65535 < c)) (pd : (¬ d < 0 ∧ ¬ 65535 < d)) : Met l Z (⟨"com/example/tabane/tabane/url/PercentEscapesByteAtPinLaw", "make", "(ICCCC)Ljava/lang/String;"⟩ : MethodName) method_5_code 5 (some (.object "java/lang/String")) ({ frames := 6, cells := 6, slots := 32, locals := 104 } : Room) h [] #[.int (1 : Int32), .int a, .int b, .int c, .int d] (fun v h' G => ∃ x, v = some (.ref x) ∧ Keep h h' [] ∧ Txt Z h' [] x [a]) := by
  refine Met.mk (L := #[.val (.int (1 : Int32)), .val (.int a), .val (.int b), .val (.int c), .val (.int d)]) (plainFor_of_name (by first | (simp [plainName, overriddenIn]; done) | decide +kernel)) (fun m => by first | (simp [entryFrame, mkF, argsToLocals, Value.category]; done) | rfl) (fun K => ?_)
  show Go _ _ K "com/example/tabane/tabane/url/PercentEscapesByteAtPinLaw" "make" _ _ _ _ _ _ _ _ _ 0 _ _
  have Ka : Keep h h [] := Keep.refl _ _
  refine go_iloadN (v := (1 : Int32)) (q := 1) d1_0 rfl rfl ?_
  refine go_iconst (x := (1 : Int32)) (q := 2) d1_1 rfl rfl ?_
  refine go_icN (q := 5) d1_2 (by decide) rfl ?_
  refine go_new (c' := 1) (s' := 4) (q := 8) (w_10 H) (w_11 H) (w_12 H) d1_5 rfl rfl rfl (by decide) (by decide) ?_
  intro h1 x g1 E1 A1 D1
  have f_Ka_x : h.size ≤ x := by rw [g1]; exact Ka.1
  have Ka : Keep h h1 [] := Ka.ext E1
  have C1 : Fld Z h1 x ST "coder" "B" (.int 0) := D1 (Or.inr (w_37 H)) (ty := .byte) (by decide)
  have V1 : Fld Z h1 x ST "value" "[B" .null := D1 (Or.inr (w_39 H)) (ty := .array .byte) (by decide)
  have Kb : Keep h1 h1 [] := Keep.refl _ _
  refine go_dup (q := 9) d1_8 rfl rfl ?_
  refine go_iconst (x := (1 : Int32)) (q := 10) d1_9 rfl rfl ?_
  refine go_newarray (ty := .char) (dv := .int 0) (n := 1) (cap := 1) (ad := "[C") (c' := 2) (s' := 5) (q := 12) rfl rfl (by decide) (w_13 H) d1_10 (by decide) (by decide) (by decide) rfl rfl rfl rfl (by decide) (by decide) ?_
  intro h2 y k g2 E2 W2 X2
  have f_Ka_y : h.size ≤ y := by rw [g2]; exact Ka.1
  have f_Kb_y : h1.size ≤ y := by rw [g2]; exact Kb.1
  have Ka : Keep h h2 [] := Ka.ext E2
  have Kb : Keep h1 h2 [] := Kb.ext E2
  have W2 : Arv Z h2 y k .char (1 : Int32) [.int 0] (.int 0) := W2
  refine go_dup (q := 13) d1_12 rfl rfl ?_
  refine go_iconst (x := (0 : Int32)) (q := 14) d1_13 rfl rfl ?_
  refine go_iloadN (v := a) (q := 15) d1_14 rfl rfl ?_
  refine go_castore (i := 0) (y := a) (q := 16) W2 (by decide) rfl (Nat.le_of_ble_eq_true rfl) (by simp) (nar_c16 (pa).1 (pa).2) d1_15 rfl ?_
  intro h3 K3 z3 W3
  have Ka : Keep h h3 [] := kfresh Ka K3 f_Ka_y
  have Kb : Keep h1 h3 [] := kfresh Kb K3 f_Kb_y
  have W3 : Arv Z h3 y k .char (1 : Int32) [.int a] (.int 0) := W3
  have hU : U16 [a] := ⟨Nat.le_of_ble_eq_true rfl, (by intro c hc; simp only [List.mem_cons, List.not_mem_nil, or_false] at hc; subst hc; exact pa)⟩
  rcases first_big [a] with hb | ⟨k, hk, hg, hlo⟩
  · have hL : Lat [a] := ⟨Nat.le_of_ble_eq_true rfl, fun c hc => ⟨(hU.2 c hc).1, hb c hc⟩⟩
    refine go_special (c' := 6) (s' := 21) (q := 19) (S := [.ref x]) (argsL := [.ref y]) H rfl (w_14 H) (w_15 H) (w_12 H) (w_16 H) (by decide) (rm_new1 H (cs := [a]) (F := []) (A1.keep Kb) (C1.keep Kb nin0) (V1.keep Kb nin0) W3 hL (Nat.le_of_ble_eq_true rfl) (by simp) (by simp)) rfl rfl (lenOf pd_20 rfl) (by intro z hz; simp only [List.mem_cons, List.not_mem_nil, or_false] at hz ⊢; first | exact hz | exact Or.inl hz | (rcases hz with hz | hz <;> simp [hz]; done) | (rcases hz with rfl | rfl <;> simp)) rfl (by decide) (Nat.le_of_ble_eq_true rfl) rfl rfl (by decide) (by decide) d1_16 rfl ?_
    rintro _ hz G - ⟨rfl, Kc, S⟩
    refine nx_ (v := none) ?_
    have Ka : Keep h hz [] := kfresh Ka Kc f_Ka_x
    show Go _ _ _ _ _ _ _ _ _ _ _ _ _ _ 19 #[.val (.int (1 : Int32)), .val (.int a), .val (.int b), .val (.int c), .val (.int d)] [.ref x]
    exact go_areturn H (G := []) (t := (.object "java/lang/String")) rfl rfl rfl d1_19 (by decide) (by decide) (fun _ q => nomatch q) ⟨x, rfl, Ka, Or.inl S⟩
  · refine go_special (c' := 4) (s' := 29) (q := 19) (S := [.ref x]) (argsL := [.ref y]) H rfl (w_14 H) (w_15 H) (w_12 H) (w_16 H) (by decide) (rm_new1U H US (cs := [a]) (F := []) (A1.keep Kb) (C1.keep Kb nin0) (V1.keep Kb nin0) W3 hU (Nat.le_of_ble_eq_true rfl) (by simp) hk hg hlo) rfl rfl (lenOf pd_20 rfl) (by intro z hz; simp only [List.mem_cons, List.not_mem_nil, or_false] at hz ⊢; first | exact hz | exact Or.inl hz | (rcases hz with hz | hz <;> simp [hz]; done) | (rcases hz with rfl | rfl <;> simp)) rfl (by decide) (Nat.le_of_ble_eq_true rfl) rfl rfl (by decide) (by decide) d1_16 rfl ?_
    rintro _ hz G - ⟨rfl, Kc, S⟩
    refine nx_ (v := none) ?_
    have Ka : Keep h hz [] := kfresh Ka Kc f_Ka_x
    show Go _ _ _ _ _ _ _ _ _ _ _ _ _ _ 19 #[.val (.int (1 : Int32)), .val (.int a), .val (.int b), .val (.int c), .val (.int d)] [.ref x]
    exact go_areturn H (G := []) (t := (.object "java/lang/String")) rfl rfl rfl d1_19 (by decide) (by decide) (fun _ q => nomatch q) ⟨x, rfl, Ka, Or.inr S⟩
set_option maxRecDepth 65536 in
set_option maxHeartbeats 4000000 in
theorem rm_mk2 {l : Launch} {Z : State} {a0 : Array Value} (H : Wd Z a0) {h : Heap} {a b c d : Int32} (US : U16S Z) (pa : (¬ a < 0 ∧ ¬ 65535 < a)) (pb : (¬ b < 0 ∧ ¬ 65535 < b)) (pc : (¬ c < 0 ∧ ¬ 65535 < c)) (pd : (¬ d < 0 ∧ ¬ 65535 < d)) : Met l Z (⟨"com/example/tabane/tabane/url/PercentEscapesByteAtPinLaw", "make", "(ICCCC)Ljava/lang/String;"⟩ : MethodName) method_5_code 5 (some (.object "java/lang/String")) ({ frames := 6, cells := 6, slots := 32, locals := 104 } : Room) h [] #[.int (2 : Int32), .int a, .int b, .int c, .int d] (fun v h' G => ∃ x, v = some (.ref x) ∧ Keep h h' [] ∧ Txt Z h' [] x [a, b]) := by
  refine Met.mk (L := #[.val (.int (2 : Int32)), .val (.int a), .val (.int b), .val (.int c), .val (.int d)]) (plainFor_of_name (by first | (simp [plainName, overriddenIn]; done) | decide +kernel)) (fun m => by first | (simp [entryFrame, mkF, argsToLocals, Value.category]; done) | rfl) (fun K => ?_)
  show Go _ _ K "com/example/tabane/tabane/url/PercentEscapesByteAtPinLaw" "make" _ _ _ _ _ _ _ _ _ 0 _ _
  have Ka : Keep h h [] := Keep.refl _ _
  refine go_iloadN (v := (2 : Int32)) (q := 1) d1_0 rfl rfl ?_
  refine go_iconst (x := (1 : Int32)) (q := 2) d1_1 rfl rfl ?_
  refine go_icY (q := 20) d1_2 (by decide) (by decide) (by decide) ?_
  refine go_iloadN (v := (2 : Int32)) (q := 21) d1_20 rfl rfl ?_
  refine go_iconst (x := (2 : Int32)) (q := 22) d1_21 rfl rfl ?_
  refine go_icN (q := 25) d1_22 (by decide) rfl ?_
  refine go_new (c' := 1) (s' := 4) (q := 28) (w_10 H) (w_11 H) (w_12 H) d1_25 rfl rfl rfl (by decide) (by decide) ?_
  intro h1 x g1 E1 A1 D1
  have f_Ka_x : h.size ≤ x := by rw [g1]; exact Ka.1
  have Ka : Keep h h1 [] := Ka.ext E1
  have C1 : Fld Z h1 x ST "coder" "B" (.int 0) := D1 (Or.inr (w_37 H)) (ty := .byte) (by decide)
  have V1 : Fld Z h1 x ST "value" "[B" .null := D1 (Or.inr (w_39 H)) (ty := .array .byte) (by decide)
  have Kb : Keep h1 h1 [] := Keep.refl _ _
  refine go_dup (q := 29) d1_28 rfl rfl ?_
  refine go_iconst (x := (2 : Int32)) (q := 30) d1_29 rfl rfl ?_
  refine go_newarray (ty := .char) (dv := .int 0) (n := 2) (cap := 2) (ad := "[C") (c' := 2) (s' := 6) (q := 32) rfl rfl (by decide) (w_13 H) d1_30 (by decide) (by decide) (by decide) rfl rfl rfl rfl (by decide) (by decide) ?_
  intro h2 y k g2 E2 W2 X2
  have f_Ka_y : h.size ≤ y := by rw [g2]; exact Ka.1
  have f_Kb_y : h1.size ≤ y := by rw [g2]; exact Kb.1
  have Ka : Keep h h2 [] := Ka.ext E2
  have Kb : Keep h1 h2 [] := Kb.ext E2
  have W2 : Arv Z h2 y k .char (2 : Int32) [.int 0, .int 0] (.int 0) := W2
  refine go_dup (q := 33) d1_32 rfl rfl ?_
  refine go_iconst (x := (0 : Int32)) (q := 34) d1_33 rfl rfl ?_
  refine go_iloadN (v := a) (q := 35) d1_34 rfl rfl ?_
  refine go_castore (i := 0) (y := a) (q := 36) W2 (by decide) rfl (Nat.le_of_ble_eq_true rfl) (by simp) (nar_c16 (pa).1 (pa).2) d1_35 rfl ?_
  intro h3 K3 z3 W3
  have Ka : Keep h h3 [] := kfresh Ka K3 f_Ka_y
  have Kb : Keep h1 h3 [] := kfresh Kb K3 f_Kb_y
  have W3 : Arv Z h3 y k .char (2 : Int32) [.int a, .int 0] (.int 0) := W3
  refine go_dup (q := 37) d1_36 rfl rfl ?_
  refine go_iconst (x := (1 : Int32)) (q := 38) d1_37 rfl rfl ?_
  refine go_iloadN (v := b) (q := 39) d1_38 rfl rfl ?_
  refine go_castore (i := 1) (y := b) (q := 40) W3 (by decide) rfl (Nat.le_of_ble_eq_true rfl) (by simp) (nar_c16 (pb).1 (pb).2) d1_39 rfl ?_
  intro h4 K4 z4 W4
  have Ka : Keep h h4 [] := kfresh Ka K4 f_Ka_y
  have Kb : Keep h1 h4 [] := kfresh Kb K4 f_Kb_y
  have W4 : Arv Z h4 y k .char (2 : Int32) [.int a, .int b] (.int 0) := W4
  have hU : U16 [a, b] := ⟨Nat.le_of_ble_eq_true rfl, (by intro c hc; simp only [List.mem_cons, List.not_mem_nil, or_false] at hc; rcases hc with rfl | rfl <;> first | exact pa | exact pb)⟩
  rcases first_big [a, b] with hb | ⟨k, hk, hg, hlo⟩
  · have hL : Lat [a, b] := ⟨Nat.le_of_ble_eq_true rfl, fun c hc => ⟨(hU.2 c hc).1, hb c hc⟩⟩
    refine go_special (c' := 6) (s' := 22) (q := 43) (S := [.ref x]) (argsL := [.ref y]) H rfl (w_14 H) (w_15 H) (w_12 H) (w_16 H) (by decide) (rm_new1 H (cs := [a, b]) (F := []) (A1.keep Kb) (C1.keep Kb nin0) (V1.keep Kb nin0) W4 hL (Nat.le_of_ble_eq_true rfl) (by simp) (by simp)) rfl rfl (lenOf pd_20 rfl) (by intro z hz; simp only [List.mem_cons, List.not_mem_nil, or_false] at hz ⊢; first | exact hz | exact Or.inl hz | (rcases hz with hz | hz <;> simp [hz]; done) | (rcases hz with rfl | rfl <;> simp)) rfl (by decide) (Nat.le_of_ble_eq_true rfl) rfl rfl (by decide) (by decide) d1_40 rfl ?_
    rintro _ hz G - ⟨rfl, Kc, S⟩
    refine nx_ (v := none) ?_
    have Ka : Keep h hz [] := kfresh Ka Kc f_Ka_x
    show Go _ _ _ _ _ _ _ _ _ _ _ _ _ _ 43 #[.val (.int (2 : Int32)), .val (.int a), .val (.int b), .val (.int c), .val (.int d)] [.ref x]
    exact go_areturn H (G := []) (t := (.object "java/lang/String")) rfl rfl rfl d1_43 (by decide) (by decide) (fun _ q => nomatch q) ⟨x, rfl, Ka, Or.inl S⟩
  · refine go_special (c' := 4) (s' := 30) (q := 43) (S := [.ref x]) (argsL := [.ref y]) H rfl (w_14 H) (w_15 H) (w_12 H) (w_16 H) (by decide) (rm_new1U H US (cs := [a, b]) (F := []) (A1.keep Kb) (C1.keep Kb nin0) (V1.keep Kb nin0) W4 hU (Nat.le_of_ble_eq_true rfl) (by simp) hk hg hlo) rfl rfl (lenOf pd_20 rfl) (by intro z hz; simp only [List.mem_cons, List.not_mem_nil, or_false] at hz ⊢; first | exact hz | exact Or.inl hz | (rcases hz with hz | hz <;> simp [hz]; done) | (rcases hz with rfl | rfl <;> simp)) rfl (by decide) (Nat.le_of_ble_eq_true rfl) rfl rfl (by decide) (by decide) d1_40 rfl ?_
    rintro _ hz G - ⟨rfl, Kc, S⟩
    refine nx_ (v := none) ?_
    have Ka : Keep h hz [] := kfresh Ka Kc f_Ka_x
    show Go _ _ _ _ _ _ _ _ _ _ _ _ _ _ 43 #[.val (.int (2 : Int32)), .val (.int a), .val (.int b), .val (.int c), .val (.int d)] [.ref x]
    exact go_areturn H (G := []) (t := (.object "java/lang/String")) rfl rfl rfl d1_43 (by decide) (by decide) (fun _ q => nomatch q) ⟨x, rfl, Ka, Or.inr S⟩
set_option maxRecDepth 65536 in
set_option maxHeartbeats 4000000 in
theorem rm_mk3 {l : Launch} {Z : State} {a0 : Array Value} (H : Wd Z a0) {h : Heap} {a b c d : Int32} (US : U16S Z) (pa : (¬ a < 0 ∧ ¬ 65535 < a)) (pb : (¬ b < 0 ∧ ¬ 65535 < b)) (pc : (¬ c < 0 ∧ ¬ 65535 < c)) (pd : (¬ d < 0 ∧ ¬ 65535 < d)) : Met l Z (⟨"com/example/tabane/tabane/url/PercentEscapesByteAtPinLaw", "make", "(ICCCC)Ljava/lang/String;"⟩ : MethodName) method_5_code 5 (some (.object "java/lang/String")) ({ frames := 6, cells := 6, slots := 32, locals := 104 } : Room) h [] #[.int (3 : Int32), .int a, .int b, .int c, .int d] (fun v h' G => ∃ x, v = some (.ref x) ∧ Keep h h' [] ∧ Txt Z h' [] x [a, b, c]) := by
  refine Met.mk (L := #[.val (.int (3 : Int32)), .val (.int a), .val (.int b), .val (.int c), .val (.int d)]) (plainFor_of_name (by first | (simp [plainName, overriddenIn]; done) | decide +kernel)) (fun m => by first | (simp [entryFrame, mkF, argsToLocals, Value.category]; done) | rfl) (fun K => ?_)
  show Go _ _ K "com/example/tabane/tabane/url/PercentEscapesByteAtPinLaw" "make" _ _ _ _ _ _ _ _ _ 0 _ _
  have Ka : Keep h h [] := Keep.refl _ _
  refine go_iloadN (v := (3 : Int32)) (q := 1) d1_0 rfl rfl ?_
  refine go_iconst (x := (1 : Int32)) (q := 2) d1_1 rfl rfl ?_
  refine go_icY (q := 20) d1_2 (by decide) (by decide) (by decide) ?_
  refine go_iloadN (v := (3 : Int32)) (q := 21) d1_20 rfl rfl ?_
  refine go_iconst (x := (2 : Int32)) (q := 22) d1_21 rfl rfl ?_
  refine go_icY (q := 44) d1_22 (by decide) (by decide) (by decide) ?_
  refine go_iloadN (v := (3 : Int32)) (q := 45) d1_44 rfl rfl ?_
  refine go_iconst (x := (3 : Int32)) (q := 46) d1_45 rfl rfl ?_
  refine go_icN (q := 49) d1_46 (by decide) rfl ?_
  refine go_new (c' := 1) (s' := 4) (q := 52) (w_10 H) (w_11 H) (w_12 H) d1_49 rfl rfl rfl (by decide) (by decide) ?_
  intro h1 x g1 E1 A1 D1
  have f_Ka_x : h.size ≤ x := by rw [g1]; exact Ka.1
  have Ka : Keep h h1 [] := Ka.ext E1
  have C1 : Fld Z h1 x ST "coder" "B" (.int 0) := D1 (Or.inr (w_37 H)) (ty := .byte) (by decide)
  have V1 : Fld Z h1 x ST "value" "[B" .null := D1 (Or.inr (w_39 H)) (ty := .array .byte) (by decide)
  have Kb : Keep h1 h1 [] := Keep.refl _ _
  refine go_dup (q := 53) d1_52 rfl rfl ?_
  refine go_iconst (x := (3 : Int32)) (q := 54) d1_53 rfl rfl ?_
  refine go_newarray (ty := .char) (dv := .int 0) (n := 3) (cap := 3) (ad := "[C") (c' := 2) (s' := 7) (q := 56) rfl rfl (by decide) (w_13 H) d1_54 (by decide) (by decide) (by decide) rfl rfl rfl rfl (by decide) (by decide) ?_
  intro h2 y k g2 E2 W2 X2
  have f_Ka_y : h.size ≤ y := by rw [g2]; exact Ka.1
  have f_Kb_y : h1.size ≤ y := by rw [g2]; exact Kb.1
  have Ka : Keep h h2 [] := Ka.ext E2
  have Kb : Keep h1 h2 [] := Kb.ext E2
  have W2 : Arv Z h2 y k .char (3 : Int32) [.int 0, .int 0, .int 0] (.int 0) := W2
  refine go_dup (q := 57) d1_56 rfl rfl ?_
  refine go_iconst (x := (0 : Int32)) (q := 58) d1_57 rfl rfl ?_
  refine go_iloadN (v := a) (q := 59) d1_58 rfl rfl ?_
  refine go_castore (i := 0) (y := a) (q := 60) W2 (by decide) rfl (Nat.le_of_ble_eq_true rfl) (by simp) (nar_c16 (pa).1 (pa).2) d1_59 rfl ?_
  intro h3 K3 z3 W3
  have Ka : Keep h h3 [] := kfresh Ka K3 f_Ka_y
  have Kb : Keep h1 h3 [] := kfresh Kb K3 f_Kb_y
  have W3 : Arv Z h3 y k .char (3 : Int32) [.int a, .int 0, .int 0] (.int 0) := W3
  refine go_dup (q := 61) d1_60 rfl rfl ?_
  refine go_iconst (x := (1 : Int32)) (q := 62) d1_61 rfl rfl ?_
  refine go_iloadN (v := b) (q := 63) d1_62 rfl rfl ?_
  refine go_castore (i := 1) (y := b) (q := 64) W3 (by decide) rfl (Nat.le_of_ble_eq_true rfl) (by simp) (nar_c16 (pb).1 (pb).2) d1_63 rfl ?_
  intro h4 K4 z4 W4
  have Ka : Keep h h4 [] := kfresh Ka K4 f_Ka_y
  have Kb : Keep h1 h4 [] := kfresh Kb K4 f_Kb_y
  have W4 : Arv Z h4 y k .char (3 : Int32) [.int a, .int b, .int 0] (.int 0) := W4
  refine go_dup (q := 65) d1_64 rfl rfl ?_
  refine go_iconst (x := (2 : Int32)) (q := 66) d1_65 rfl rfl ?_
  refine go_iloadN (v := c) (q := 67) d1_66 rfl rfl ?_
  refine go_castore (i := 2) (y := c) (q := 68) W4 (by decide) rfl (Nat.le_of_ble_eq_true rfl) (by simp) (nar_c16 (pc).1 (pc).2) d1_67 rfl ?_
  intro h5 K5 z5 W5
  have Ka : Keep h h5 [] := kfresh Ka K5 f_Ka_y
  have Kb : Keep h1 h5 [] := kfresh Kb K5 f_Kb_y
  have W5 : Arv Z h5 y k .char (3 : Int32) [.int a, .int b, .int c] (.int 0) := W5
  have hU : U16 [a, b, c] := ⟨Nat.le_of_ble_eq_true rfl, (by intro c hc; simp only [List.mem_cons, List.not_mem_nil, or_false] at hc; rcases hc with rfl | rfl | rfl <;> first | exact pa | exact pb | exact pc)⟩
  rcases first_big [a, b, c] with hb | ⟨k, hk, hg, hlo⟩
  · have hL : Lat [a, b, c] := ⟨Nat.le_of_ble_eq_true rfl, fun c hc => ⟨(hU.2 c hc).1, hb c hc⟩⟩
    refine go_special (c' := 6) (s' := 23) (q := 71) (S := [.ref x]) (argsL := [.ref y]) H rfl (w_14 H) (w_15 H) (w_12 H) (w_16 H) (by decide) (rm_new1 H (cs := [a, b, c]) (F := []) (A1.keep Kb) (C1.keep Kb nin0) (V1.keep Kb nin0) W5 hL (Nat.le_of_ble_eq_true rfl) (by simp) (by simp)) rfl rfl (lenOf pd_20 rfl) (by intro z hz; simp only [List.mem_cons, List.not_mem_nil, or_false] at hz ⊢; first | exact hz | exact Or.inl hz | (rcases hz with hz | hz <;> simp [hz]; done) | (rcases hz with rfl | rfl <;> simp)) rfl (by decide) (Nat.le_of_ble_eq_true rfl) rfl rfl (by decide) (by decide) d1_68 rfl ?_
    rintro _ hz G - ⟨rfl, Kc, S⟩
    refine nx_ (v := none) ?_
    have Ka : Keep h hz [] := kfresh Ka Kc f_Ka_x
    show Go _ _ _ _ _ _ _ _ _ _ _ _ _ _ 71 #[.val (.int (3 : Int32)), .val (.int a), .val (.int b), .val (.int c), .val (.int d)] [.ref x]
    exact go_areturn H (G := []) (t := (.object "java/lang/String")) rfl rfl rfl d1_71 (by decide) (by decide) (fun _ q => nomatch q) ⟨x, rfl, Ka, Or.inl S⟩
  · refine go_special (c' := 4) (s' := 31) (q := 71) (S := [.ref x]) (argsL := [.ref y]) H rfl (w_14 H) (w_15 H) (w_12 H) (w_16 H) (by decide) (rm_new1U H US (cs := [a, b, c]) (F := []) (A1.keep Kb) (C1.keep Kb nin0) (V1.keep Kb nin0) W5 hU (Nat.le_of_ble_eq_true rfl) (by simp) hk hg hlo) rfl rfl (lenOf pd_20 rfl) (by intro z hz; simp only [List.mem_cons, List.not_mem_nil, or_false] at hz ⊢; first | exact hz | exact Or.inl hz | (rcases hz with hz | hz <;> simp [hz]; done) | (rcases hz with rfl | rfl <;> simp)) rfl (by decide) (Nat.le_of_ble_eq_true rfl) rfl rfl (by decide) (by decide) d1_68 rfl ?_
    rintro _ hz G - ⟨rfl, Kc, S⟩
    refine nx_ (v := none) ?_
    have Ka : Keep h hz [] := kfresh Ka Kc f_Ka_x
    show Go _ _ _ _ _ _ _ _ _ _ _ _ _ _ 71 #[.val (.int (3 : Int32)), .val (.int a), .val (.int b), .val (.int c), .val (.int d)] [.ref x]
    exact go_areturn H (G := []) (t := (.object "java/lang/String")) rfl rfl rfl d1_71 (by decide) (by decide) (fun _ q => nomatch q) ⟨x, rfl, Ka, Or.inr S⟩
set_option maxRecDepth 65536 in
set_option maxHeartbeats 4000000 in
theorem rm_mk4 {l : Launch} {Z : State} {a0 : Array Value} (H : Wd Z a0) {h : Heap} {a b c d : Int32} (US : U16S Z) (pa : (¬ a < 0 ∧ ¬ 65535 < a)) (pb : (¬ b < 0 ∧ ¬ 65535 < b)) (pc : (¬ c < 0 ∧ ¬ 65535 < c)) (pd : (¬ d < 0 ∧ ¬ 65535 < d)) : Met l Z (⟨"com/example/tabane/tabane/url/PercentEscapesByteAtPinLaw", "make", "(ICCCC)Ljava/lang/String;"⟩ : MethodName) method_5_code 5 (some (.object "java/lang/String")) ({ frames := 6, cells := 6, slots := 32, locals := 104 } : Room) h [] #[.int (4 : Int32), .int a, .int b, .int c, .int d] (fun v h' G => ∃ x, v = some (.ref x) ∧ Keep h h' [] ∧ Txt Z h' [] x [a, b, c, d]) := by
  refine Met.mk (L := #[.val (.int (4 : Int32)), .val (.int a), .val (.int b), .val (.int c), .val (.int d)]) (plainFor_of_name (by first | (simp [plainName, overriddenIn]; done) | decide +kernel)) (fun m => by first | (simp [entryFrame, mkF, argsToLocals, Value.category]; done) | rfl) (fun K => ?_)
  show Go _ _ K "com/example/tabane/tabane/url/PercentEscapesByteAtPinLaw" "make" _ _ _ _ _ _ _ _ _ 0 _ _
  have Ka : Keep h h [] := Keep.refl _ _
  refine go_iloadN (v := (4 : Int32)) (q := 1) d1_0 rfl rfl ?_
  refine go_iconst (x := (1 : Int32)) (q := 2) d1_1 rfl rfl ?_
  refine go_icY (q := 20) d1_2 (by decide) (by decide) (by decide) ?_
  refine go_iloadN (v := (4 : Int32)) (q := 21) d1_20 rfl rfl ?_
  refine go_iconst (x := (2 : Int32)) (q := 22) d1_21 rfl rfl ?_
  refine go_icY (q := 44) d1_22 (by decide) (by decide) (by decide) ?_
  refine go_iloadN (v := (4 : Int32)) (q := 45) d1_44 rfl rfl ?_
  refine go_iconst (x := (3 : Int32)) (q := 46) d1_45 rfl rfl ?_
  refine go_icY (q := 72) d1_46 (by decide) (by decide) (by decide) ?_
  refine go_new (c' := 1) (s' := 4) (q := 75) (w_10 H) (w_11 H) (w_12 H) d1_72 rfl rfl rfl (by decide) (by decide) ?_
  intro h1 x g1 E1 A1 D1
  have f_Ka_x : h.size ≤ x := by rw [g1]; exact Ka.1
  have Ka : Keep h h1 [] := Ka.ext E1
  have C1 : Fld Z h1 x ST "coder" "B" (.int 0) := D1 (Or.inr (w_37 H)) (ty := .byte) (by decide)
  have V1 : Fld Z h1 x ST "value" "[B" .null := D1 (Or.inr (w_39 H)) (ty := .array .byte) (by decide)
  have Kb : Keep h1 h1 [] := Keep.refl _ _
  refine go_dup (q := 76) d1_75 rfl rfl ?_
  refine go_iconst (x := (4 : Int32)) (q := 77) d1_76 rfl rfl ?_
  refine go_newarray (ty := .char) (dv := .int 0) (n := 4) (cap := 4) (ad := "[C") (c' := 2) (s' := 8) (q := 79) rfl rfl (by decide) (w_13 H) d1_77 (by decide) (by decide) (by decide) rfl rfl rfl rfl (by decide) (by decide) ?_
  intro h2 y k g2 E2 W2 X2
  have f_Ka_y : h.size ≤ y := by rw [g2]; exact Ka.1
  have f_Kb_y : h1.size ≤ y := by rw [g2]; exact Kb.1
  have Ka : Keep h h2 [] := Ka.ext E2
  have Kb : Keep h1 h2 [] := Kb.ext E2
  have W2 : Arv Z h2 y k .char (4 : Int32) [.int 0, .int 0, .int 0, .int 0] (.int 0) := W2
  refine go_dup (q := 80) d1_79 rfl rfl ?_
  refine go_iconst (x := (0 : Int32)) (q := 81) d1_80 rfl rfl ?_
  refine go_iloadN (v := a) (q := 82) d1_81 rfl rfl ?_
  refine go_castore (i := 0) (y := a) (q := 83) W2 (by decide) rfl (Nat.le_of_ble_eq_true rfl) (by simp) (nar_c16 (pa).1 (pa).2) d1_82 rfl ?_
  intro h3 K3 z3 W3
  have Ka : Keep h h3 [] := kfresh Ka K3 f_Ka_y
  have Kb : Keep h1 h3 [] := kfresh Kb K3 f_Kb_y
  have W3 : Arv Z h3 y k .char (4 : Int32) [.int a, .int 0, .int 0, .int 0] (.int 0) := W3
  refine go_dup (q := 84) d1_83 rfl rfl ?_
  refine go_iconst (x := (1 : Int32)) (q := 85) d1_84 rfl rfl ?_
  refine go_iloadN (v := b) (q := 86) d1_85 rfl rfl ?_
  refine go_castore (i := 1) (y := b) (q := 87) W3 (by decide) rfl (Nat.le_of_ble_eq_true rfl) (by simp) (nar_c16 (pb).1 (pb).2) d1_86 rfl ?_
  intro h4 K4 z4 W4
  have Ka : Keep h h4 [] := kfresh Ka K4 f_Ka_y
  have Kb : Keep h1 h4 [] := kfresh Kb K4 f_Kb_y
  have W4 : Arv Z h4 y k .char (4 : Int32) [.int a, .int b, .int 0, .int 0] (.int 0) := W4
  refine go_dup (q := 88) d1_87 rfl rfl ?_
  refine go_iconst (x := (2 : Int32)) (q := 89) d1_88 rfl rfl ?_
  refine go_iloadN (v := c) (q := 90) d1_89 rfl rfl ?_
  refine go_castore (i := 2) (y := c) (q := 91) W4 (by decide) rfl (Nat.le_of_ble_eq_true rfl) (by simp) (nar_c16 (pc).1 (pc).2) d1_90 rfl ?_
  intro h5 K5 z5 W5
  have Ka : Keep h h5 [] := kfresh Ka K5 f_Ka_y
  have Kb : Keep h1 h5 [] := kfresh Kb K5 f_Kb_y
  have W5 : Arv Z h5 y k .char (4 : Int32) [.int a, .int b, .int c, .int 0] (.int 0) := W5
  refine go_dup (q := 92) d1_91 rfl rfl ?_
  refine go_iconst (x := (3 : Int32)) (q := 93) d1_92 rfl rfl ?_
  refine go_iload (v := d) (q := 95) d1_93 rfl rfl ?_
  refine go_castore (i := 3) (y := d) (q := 96) W5 (by decide) rfl (Nat.le_of_ble_eq_true rfl) (by simp) (nar_c16 (pd).1 (pd).2) d1_95 rfl ?_
  intro h6 K6 z6 W6
  have Ka : Keep h h6 [] := kfresh Ka K6 f_Ka_y
  have Kb : Keep h1 h6 [] := kfresh Kb K6 f_Kb_y
  have W6 : Arv Z h6 y k .char (4 : Int32) [.int a, .int b, .int c, .int d] (.int 0) := W6
  have hU : U16 [a, b, c, d] := ⟨Nat.le_of_ble_eq_true rfl, (by intro c hc; simp only [List.mem_cons, List.not_mem_nil, or_false] at hc; rcases hc with rfl | rfl | rfl | rfl <;> first | exact pa | exact pb | exact pc | exact pd)⟩
  rcases first_big [a, b, c, d] with hb | ⟨k, hk, hg, hlo⟩
  · have hL : Lat [a, b, c, d] := ⟨Nat.le_of_ble_eq_true rfl, fun c hc => ⟨(hU.2 c hc).1, hb c hc⟩⟩
    refine go_special (c' := 6) (s' := 24) (q := 99) (S := [.ref x]) (argsL := [.ref y]) H rfl (w_14 H) (w_15 H) (w_12 H) (w_16 H) (by decide) (rm_new1 H (cs := [a, b, c, d]) (F := []) (A1.keep Kb) (C1.keep Kb nin0) (V1.keep Kb nin0) W6 hL (Nat.le_of_ble_eq_true rfl) (by simp) (by simp)) rfl rfl (lenOf pd_20 rfl) (by intro z hz; simp only [List.mem_cons, List.not_mem_nil, or_false] at hz ⊢; first | exact hz | exact Or.inl hz | (rcases hz with hz | hz <;> simp [hz]; done) | (rcases hz with rfl | rfl <;> simp)) rfl (by decide) (Nat.le_of_ble_eq_true rfl) rfl rfl (by decide) (by decide) d1_96 rfl ?_
    rintro _ hz G - ⟨rfl, Kc, S⟩
    refine nx_ (v := none) ?_
    have Ka : Keep h hz [] := kfresh Ka Kc f_Ka_x
    show Go _ _ _ _ _ _ _ _ _ _ _ _ _ _ 99 #[.val (.int (4 : Int32)), .val (.int a), .val (.int b), .val (.int c), .val (.int d)] [.ref x]
    exact go_areturn H (G := []) (t := (.object "java/lang/String")) rfl rfl rfl d1_99 (by decide) (by decide) (fun _ q => nomatch q) ⟨x, rfl, Ka, Or.inl S⟩
  · refine go_special (c' := 4) (s' := 32) (q := 99) (S := [.ref x]) (argsL := [.ref y]) H rfl (w_14 H) (w_15 H) (w_12 H) (w_16 H) (by decide) (rm_new1U H US (cs := [a, b, c, d]) (F := []) (A1.keep Kb) (C1.keep Kb nin0) (V1.keep Kb nin0) W6 hU (Nat.le_of_ble_eq_true rfl) (by simp) hk hg hlo) rfl rfl (lenOf pd_20 rfl) (by intro z hz; simp only [List.mem_cons, List.not_mem_nil, or_false] at hz ⊢; first | exact hz | exact Or.inl hz | (rcases hz with hz | hz <;> simp [hz]; done) | (rcases hz with rfl | rfl <;> simp)) rfl (by decide) (Nat.le_of_ble_eq_true rfl) rfl rfl (by decide) (by decide) d1_96 rfl ?_
    rintro _ hz G - ⟨rfl, Kc, S⟩
    refine nx_ (v := none) ?_
    have Ka : Keep h hz [] := kfresh Ka Kc f_Ka_x
    show Go _ _ _ _ _ _ _ _ _ _ _ _ _ _ 99 #[.val (.int (4 : Int32)), .val (.int a), .val (.int b), .val (.int c), .val (.int d)] [.ref x]
    exact go_areturn H (G := []) (t := (.object "java/lang/String")) rfl rfl rfl d1_99 (by decide) (by decide) (fun _ q => nomatch q) ⟨x, rfl, Ka, Or.inr S⟩
set_option maxRecDepth 65536 in
set_option maxHeartbeats 4000000 in
theorem rm_pk1 {l : Launch} {Z : State} {a0 : Array Value} (H : Wd Z a0) {h : Heap} {a b c d : Int32} (hc : (¬ b < 0 ∧ ¬ 65535 < b)) : Met l Z (⟨"com/example/tabane/tabane/url/PercentEscapesByteAtPinLaw", "pick", "(ICCCC)C"⟩ : MethodName) method_4_code 5 (some .char) ({ frames := 0, cells := 0, slots := 0, locals := 0 } : Room) h [] #[.int (1 : Int32), .int a, .int b, .int c, .int d] (fun v h' G => v = some (.int b) ∧ h = h') := by
  refine Met.mk (L := #[.val (.int (1 : Int32)), .val (.int a), .val (.int b), .val (.int c), .val (.int d)]) (plainFor_of_name (by first | (simp [plainName, overriddenIn]; done) | decide +kernel)) (fun m => by first | (simp [entryFrame, mkF, argsToLocals, Value.category]; done) | rfl) (fun K => ?_)
  show Go _ _ K "com/example/tabane/tabane/url/PercentEscapesByteAtPinLaw" "pick" _ _ _ _ _ _ _ _ _ 0 _ _
  refine go_iloadN (v := (1 : Int32)) (q := 1) d21_0 rfl rfl ?_
  refine go_ifY (q := 6) d21_1 (by decide) (by decide) (by decide) ?_
  refine go_iloadN (v := (1 : Int32)) (q := 7) d21_6 rfl rfl ?_
  refine go_iconst (x := (1 : Int32)) (q := 8) d21_7 rfl rfl ?_
  refine go_icN (q := 11) d21_8 (by decide) rfl ?_
  refine go_iloadN (v := b) (q := 12) d21_11 rfl rfl ?_
  exact go_ireturn H (G := []) (t := .char) rfl (by decide) (by show Value.int (nar .char b) = _; rw [nar_c16 hc.1 hc.2]) d21_12 (by decide) (by decide) (fun _ q => nomatch q) ⟨rfl, rfl⟩
set_option maxRecDepth 65536 in
set_option maxHeartbeats 4000000 in
theorem rm_pk2 {l : Launch} {Z : State} {a0 : Array Value} (H : Wd Z a0) {h : Heap} {a b c d : Int32} (hc : (¬ c < 0 ∧ ¬ 65535 < c)) : Met l Z (⟨"com/example/tabane/tabane/url/PercentEscapesByteAtPinLaw", "pick", "(ICCCC)C"⟩ : MethodName) method_4_code 5 (some .char) ({ frames := 0, cells := 0, slots := 0, locals := 0 } : Room) h [] #[.int (2 : Int32), .int a, .int b, .int c, .int d] (fun v h' G => v = some (.int c) ∧ h = h') := by
  refine Met.mk (L := #[.val (.int (2 : Int32)), .val (.int a), .val (.int b), .val (.int c), .val (.int d)]) (plainFor_of_name (by first | (simp [plainName, overriddenIn]; done) | decide +kernel)) (fun m => by first | (simp [entryFrame, mkF, argsToLocals, Value.category]; done) | rfl) (fun K => ?_)
  show Go _ _ K "com/example/tabane/tabane/url/PercentEscapesByteAtPinLaw" "pick" _ _ _ _ _ _ _ _ _ 0 _ _
  refine go_iloadN (v := (2 : Int32)) (q := 1) d21_0 rfl rfl ?_
  refine go_ifY (q := 6) d21_1 (by decide) (by decide) (by decide) ?_
  refine go_iloadN (v := (2 : Int32)) (q := 7) d21_6 rfl rfl ?_
  refine go_iconst (x := (1 : Int32)) (q := 8) d21_7 rfl rfl ?_
  refine go_icY (q := 13) d21_8 (by decide) (by decide) (by decide) ?_
  refine go_iloadN (v := (2 : Int32)) (q := 14) d21_13 rfl rfl ?_
  refine go_iconst (x := (2 : Int32)) (q := 15) d21_14 rfl rfl ?_
  refine go_icN (q := 18) d21_15 (by decide) rfl ?_
  refine go_iloadN (v := c) (q := 19) d21_18 rfl rfl ?_
  exact go_ireturn H (G := []) (t := .char) rfl (by decide) (by show Value.int (nar .char c) = _; rw [nar_c16 hc.1 hc.2]) d21_19 (by decide) (by decide) (fun _ q => nomatch q) ⟨rfl, rfl⟩
set_option maxRecDepth 65536 in
set_option maxHeartbeats 4000000 in
theorem rm_pk3 {l : Launch} {Z : State} {a0 : Array Value} (H : Wd Z a0) {h : Heap} {a b c d : Int32} (hc : (¬ d < 0 ∧ ¬ 65535 < d)) : Met l Z (⟨"com/example/tabane/tabane/url/PercentEscapesByteAtPinLaw", "pick", "(ICCCC)C"⟩ : MethodName) method_4_code 5 (some .char) ({ frames := 0, cells := 0, slots := 0, locals := 0 } : Room) h [] #[.int (3 : Int32), .int a, .int b, .int c, .int d] (fun v h' G => v = some (.int d) ∧ h = h') := by
  refine Met.mk (L := #[.val (.int (3 : Int32)), .val (.int a), .val (.int b), .val (.int c), .val (.int d)]) (plainFor_of_name (by first | (simp [plainName, overriddenIn]; done) | decide +kernel)) (fun m => by first | (simp [entryFrame, mkF, argsToLocals, Value.category]; done) | rfl) (fun K => ?_)
  show Go _ _ K "com/example/tabane/tabane/url/PercentEscapesByteAtPinLaw" "pick" _ _ _ _ _ _ _ _ _ 0 _ _
  refine go_iloadN (v := (3 : Int32)) (q := 1) d21_0 rfl rfl ?_
  refine go_ifY (q := 6) d21_1 (by decide) (by decide) (by decide) ?_
  refine go_iloadN (v := (3 : Int32)) (q := 7) d21_6 rfl rfl ?_
  refine go_iconst (x := (1 : Int32)) (q := 8) d21_7 rfl rfl ?_
  refine go_icY (q := 13) d21_8 (by decide) (by decide) (by decide) ?_
  refine go_iloadN (v := (3 : Int32)) (q := 14) d21_13 rfl rfl ?_
  refine go_iconst (x := (2 : Int32)) (q := 15) d21_14 rfl rfl ?_
  refine go_icY (q := 20) d21_15 (by decide) (by decide) (by decide) ?_
  refine go_iload (v := d) (q := 22) d21_20 rfl rfl ?_
  exact go_ireturn H (G := []) (t := .char) rfl (by decide) (by show Value.int (nar .char d) = _; rw [nar_c16 hc.1 hc.2]) d21_22 (by decide) (by decide) (fun _ q => nomatch q) ⟨rfl, rfl⟩
set_option maxRecDepth 65536 in
set_option maxHeartbeats 4000000 in
theorem rm_baN {l : Launch} {Z : State} {a0 : Array Value} (H : Wd Z a0) {h : Heap} {r : Addr} {cs : List Int32} {k : Nat} (T : Txt Z h [] r cs) (hn : cs.length ≤ 4) (hk : k ≤ 3) (h2 : ¬ k + 2 < cs.length) : Met l Z (⟨"com/example/tabane/tabane/url/PercentEscapes", "byteAt", "(Ljava/lang/String;I)I"⟩ : MethodName) prog_43_method_2_code 4 (some .int) ({ frames := 5, cells := 4, slots := 184, locals := 84 } : Room) h [] #[.ref r, .int (Int32.ofNat k)] (fun v h' G => v = some (.int (-1)) ∧ Keep h h' []) := by
  refine Met.mk (L := #[.val (.ref r), .val (.int (Int32.ofNat k)), .unset, .unset]) (plainFor_of_name (by first | (simp [plainName, overriddenIn]; done) | decide +kernel)) (fun m => by first | (simp [entryFrame, mkF, argsToLocals, Value.category]; done) | rfl) (fun K => ?_)
  show Go _ _ K "com/example/tabane/tabane/url/PercentEscapes" "byteAt" _ _ _ _ _ _ _ _ _ 0 _ _
  refine go_iloadN (v := (Int32.ofNat k)) (q := 1) d8_0 rfl rfl ?_
  refine go_iconst (x := (2 : Int32)) (q := 2) d8_1 rfl rfl ?_
  refine go_iadd (r := (Int32.ofNat (k + 2))) (q := 3) d8_2 (add_ofNat k 2) rfl ?_
  refine go_aloadN (v := .ref r) (q := 4) d8_3 rfl rfl rfl ?_
  rcases T with S | S
  · refine go_virtual (c' := 0) (s' := 0) (q := 7) (S := [.int (Int32.ofNat (k + 2))]) (argsL := []) H (C := "java/lang/String") (w_44 H) (w_45 H) (nf_self (w_47 H)) (w_47 H) (w_46 H) (w_12 H) (w_48 H) (by decide) S.exa (rm_len H S) rfl rfl (lenOf pd_2 rfl) (fun _ q => nomatch q) rfl (by decide) (Nat.le_of_ble_eq_true rfl) rfl rfl (by decide) (by decide) d8_4 rfl ?_
    rintro _ _ G - ⟨rfl, rfl⟩
    refine nx_ (v := none) ?_
    show Go _ _ _ _ _ _ _ _ _ _ _ _ _ _ 7 #[.val (.ref r), .val (.int (Int32.ofNat k)), .unset, .unset] [.int (Int32.ofNat cs.length), .int (Int32.ofNat (k + 2))]
    refine go_icY (q := 23) d8_7 (fun z => h2 ((lt_ofNat (by omega) (by omega)).mp z)) (by decide) (by decide) ?_
    refine go_iconst (x := (-1 : Int32)) (q := 24) d8_23 rfl rfl ?_
    refine go_istoreN (L' := #[.val (.ref r), .val (.int (Int32.ofNat k)), .val (.int (-1 : Int32)), .unset]) (q := 25) d8_24 rfl rfl ?_
    refine go_iloadN (v := (-1 : Int32)) (q := 26) d8_25 rfl rfl ?_
    refine go_ifN (q := 29) d8_26 (by decide) rfl ?_
    refine go_iconst (x := (-1 : Int32)) (q := 30) d8_29 rfl rfl ?_
    refine go_goto (q := 43) d8_30 (by decide) (by decide) ?_
    refine go_istoreN (L' := #[.val (.ref r), .val (.int (Int32.ofNat k)), .val (.int (-1 : Int32)), .val (.int (-1 : Int32))]) (q := 44) d8_43 rfl rfl ?_
    refine go_iloadN (v := (-1 : Int32)) (q := 45) d8_44 rfl rfl ?_
    refine go_ifN (q := 48) d8_45 (by decide) rfl ?_
    refine go_iconst (x := (-1 : Int32)) (q := 49) d8_48 rfl rfl ?_
    refine go_goto (q := 57) d8_49 (by decide) (by decide) ?_
    exact go_ireturn H (G := []) (t := .int) rfl (by decide) rfl d8_57 (by decide) (by decide) (fun _ q => nomatch q) ⟨rfl, Keep.refl _ _⟩
  · refine go_virtual (c' := 0) (s' := 0) (q := 7) (S := [.int (Int32.ofNat (k + 2))]) (argsL := []) H (C := "java/lang/String") (w_44 H) (w_45 H) (nf_self (w_47 H)) (w_47 H) (w_46 H) (w_12 H) (w_48 H) (by decide) S.exa (rm_lenU H S) rfl rfl (lenOf pd_2 rfl) (fun _ q => nomatch q) rfl (by decide) (Nat.le_of_ble_eq_true rfl) rfl rfl (by decide) (by decide) d8_4 rfl ?_
    rintro _ _ G - ⟨rfl, rfl⟩
    refine nx_ (v := none) ?_
    show Go _ _ _ _ _ _ _ _ _ _ _ _ _ _ 7 #[.val (.ref r), .val (.int (Int32.ofNat k)), .unset, .unset] [.int (Int32.ofNat cs.length), .int (Int32.ofNat (k + 2))]
    refine go_icY (q := 23) d8_7 (fun z => h2 ((lt_ofNat (by omega) (by omega)).mp z)) (by decide) (by decide) ?_
    refine go_iconst (x := (-1 : Int32)) (q := 24) d8_23 rfl rfl ?_
    refine go_istoreN (L' := #[.val (.ref r), .val (.int (Int32.ofNat k)), .val (.int (-1 : Int32)), .unset]) (q := 25) d8_24 rfl rfl ?_
    refine go_iloadN (v := (-1 : Int32)) (q := 26) d8_25 rfl rfl ?_
    refine go_ifN (q := 29) d8_26 (by decide) rfl ?_
    refine go_iconst (x := (-1 : Int32)) (q := 30) d8_29 rfl rfl ?_
    refine go_goto (q := 43) d8_30 (by decide) (by decide) ?_
    refine go_istoreN (L' := #[.val (.ref r), .val (.int (Int32.ofNat k)), .val (.int (-1 : Int32)), .val (.int (-1 : Int32))]) (q := 44) d8_43 rfl rfl ?_
    refine go_iloadN (v := (-1 : Int32)) (q := 45) d8_44 rfl rfl ?_
    refine go_ifN (q := 48) d8_45 (by decide) rfl ?_
    refine go_iconst (x := (-1 : Int32)) (q := 49) d8_48 rfl rfl ?_
    refine go_goto (q := 57) d8_49 (by decide) (by decide) ?_
    exact go_ireturn H (G := []) (t := .int) rfl (by decide) rfl d8_57 (by decide) (by decide) (fun _ q => nomatch q) ⟨rfl, Keep.refl _ _⟩
set_option maxRecDepth 65536 in
set_option maxHeartbeats 4000000 in
theorem rm_baY {l : Launch} {Z : State} {a0 : Array Value} (H : Wd Z a0) {h : Heap} {r : Addr} {cs : List Int32} {k : Nat} (US : U16S Z) (T : Txt Z h [] r cs) (hU : U16 cs) (hn : cs.length ≤ 4) (h2 : k + 2 < cs.length) : Met l Z (⟨"com/example/tabane/tabane/url/PercentEscapes", "byteAt", "(Ljava/lang/String;I)I"⟩ : MethodName) prog_43_method_2_code 4 (some .int) ({ frames := 5, cells := 4, slots := 184, locals := 84 } : Room) h [] #[.ref r, .int (Int32.ofNat k)] (fun v h' G => v = some (.int (if hxv cs[k + 1] < 0 ∨ hxv cs[k + 2] < 0 then -1 else hxv cs[k + 1] * 16 + hxv cs[k + 2])) ∧ Keep h h' []) := by
  refine Met.mk (L := #[.val (.ref r), .val (.int (Int32.ofNat k)), .unset, .unset]) (plainFor_of_name (by first | (simp [plainName, overriddenIn]; done) | decide +kernel)) (fun m => by first | (simp [entryFrame, mkF, argsToLocals, Value.category]; done) | rfl) (fun K => ?_)
  show Go _ _ K "com/example/tabane/tabane/url/PercentEscapes" "byteAt" _ _ _ _ _ _ _ _ _ 0 _ _
  have h1 : k + 1 < cs.length := by omega
  have c1 := hU.2 cs[k + 1] (List.getElem_mem h1)
  have c2 := hU.2 cs[k + 2] (List.getElem_mem h2)
  have r1 := hxv_rng cs[k + 1]
  have r2 := hxv_rng cs[k + 2]
  refine go_iloadN (v := (Int32.ofNat k)) (q := 1) d8_0 rfl rfl ?_
  refine go_iconst (x := (2 : Int32)) (q := 2) d8_1 rfl rfl ?_
  refine go_iadd (r := (Int32.ofNat (k + 2))) (q := 3) d8_2 (add_ofNat k 2) rfl ?_
  refine go_aloadN (v := .ref r) (q := 4) d8_3 rfl rfl rfl ?_
  rcases T with S | S
  · refine go_virtual (c' := 0) (s' := 0) (q := 7) (S := [.int (Int32.ofNat (k + 2))]) (argsL := []) H (C := "java/lang/String") (w_44 H) (w_45 H) (nf_self (w_47 H)) (w_47 H) (w_46 H) (w_12 H) (w_48 H) (by decide) S.exa (rm_len H S) rfl rfl (lenOf pd_2 rfl) (fun _ q => nomatch q) rfl (by decide) (Nat.le_of_ble_eq_true rfl) rfl rfl (by decide) (by decide) d8_4 rfl ?_
    rintro _ _ G - ⟨rfl, rfl⟩
    refine nx_ (v := none) ?_
    show Go _ _ _ _ _ _ _ _ _ _ _ _ _ _ 7 #[.val (.ref r), .val (.int (Int32.ofNat k)), .unset, .unset] [.int (Int32.ofNat cs.length), .int (Int32.ofNat (k + 2))]
    refine go_icN (q := 10) d8_7 ((lt_ofNat (by omega) (by omega)).mpr h2) rfl ?_
    refine go_aloadN (v := .ref r) (q := 11) d8_10 rfl rfl rfl ?_
    refine go_iloadN (v := (Int32.ofNat k)) (q := 12) d8_11 rfl rfl ?_
    refine go_iconst (x := (1 : Int32)) (q := 13) d8_12 rfl rfl ?_
    refine go_iadd (r := (Int32.ofNat (k + 1))) (q := 14) d8_13 (add_ofNat k 1) rfl ?_
    refine go_virtual (c' := 0) (s' := 0) (q := 17) (S := []) (argsL := [.int (Int32.ofNat (k + 1))]) H (C := "java/lang/String") (w_104 H) (w_58 H) (nf_self (w_60 H)) (w_60 H) (w_59 H) (w_12 H) (w_61 H) (by decide) S.exa (rm_chAt H S h1) rfl rfl (lenOf pd_1 rfl) (fun _ q => nomatch q) rfl (by decide) (Nat.le_of_ble_eq_true rfl) rfl rfl (by decide) (by decide) d8_14 rfl ?_
    rintro _ _ G - ⟨rfl, rfl⟩
    refine nx_ (v := none) ?_
    show Go _ _ _ _ _ _ _ _ _ _ _ _ _ _ 17 #[.val (.ref r), .val (.int (Int32.ofNat k)), .unset, .unset] [.int (cs[k + 1])]
    refine go_static (c' := 2) (s' := 92) (q := 20) (S := []) (argsL := [.int (cs[k + 1])]) H (w_105 H) (w_106 H) (w_42 H) (w_107 H) (by decide) (rm_hv H c1) rfl rfl (lenOf pd_3 rfl) (fun _ q => nomatch q) rfl (by decide) (Nat.le_of_ble_eq_true rfl) rfl rfl (by decide) (by decide) d8_17 rfl ?_
    rintro _ hA G - ⟨rfl, KA⟩
    refine nx_ (v := none) ?_
    show Go _ _ _ _ _ _ _ _ _ _ _ _ _ _ 20 #[.val (.ref r), .val (.int (Int32.ofNat k)), .unset, .unset] [.int (hxv cs[k + 1])]
    have S := S.keep0 KA
    refine go_goto (q := 24) d8_20 (by decide) (by decide) ?_
    refine go_istoreN (L' := #[.val (.ref r), .val (.int (Int32.ofNat k)), .val (.int (hxv cs[k + 1])), .unset]) (q := 25) d8_24 rfl rfl ?_
    refine go_iloadN (v := (hxv cs[k + 1])) (q := 26) d8_25 rfl rfl ?_
    by_cases q1 : hxv cs[k + 1] < 0
    · refine go_ifN (q := 29) d8_26 q1 rfl ?_
      refine go_iconst (x := (-1 : Int32)) (q := 30) d8_29 rfl rfl ?_
      refine go_goto (q := 43) d8_30 (by decide) (by decide) ?_
      refine go_istoreN (L' := #[.val (.ref r), .val (.int (Int32.ofNat k)), .val (.int (hxv cs[k + 1])), .val (.int (-1 : Int32))]) (q := 44) d8_43 rfl rfl ?_
      refine go_iloadN (v := (-1 : Int32)) (q := 45) d8_44 rfl rfl ?_
      refine go_ifN (q := 48) d8_45 (by decide) rfl ?_
      refine go_iconst (x := (-1 : Int32)) (q := 49) d8_48 rfl rfl ?_
      refine go_goto (q := 57) d8_49 (by decide) (by decide) ?_
      exact go_ireturn H (G := []) (t := .int) rfl (by decide) rfl d8_57 (by decide) (by decide) (fun _ q => nomatch q) ⟨by rw [if_pos (Or.inl q1)], KA⟩
    · refine go_ifY (q := 33) d8_26 q1 (by decide) (by decide) ?_
      refine go_aloadN (v := .ref r) (q := 34) d8_33 rfl rfl rfl ?_
      refine go_iloadN (v := (Int32.ofNat k)) (q := 35) d8_34 rfl rfl ?_
      refine go_iconst (x := (2 : Int32)) (q := 36) d8_35 rfl rfl ?_
      refine go_iadd (r := (Int32.ofNat (k + 2))) (q := 37) d8_36 (add_ofNat k 2) rfl ?_
      refine go_virtual (c' := 2) (s' := 92) (q := 40) (S := []) (argsL := [.int (Int32.ofNat (k + 2))]) H (C := "java/lang/String") (w_104 H) (w_58 H) (nf_self (w_60 H)) (w_60 H) (w_59 H) (w_12 H) (w_61 H) (by decide) S.exa (rm_chAt H S h2) rfl rfl (lenOf pd_1 rfl) (fun _ q => nomatch q) rfl (by decide) (Nat.le_of_ble_eq_true rfl) rfl rfl (by decide) (by decide) d8_37 rfl ?_
      rintro _ _ G - ⟨rfl, rfl⟩
      refine nx_ (v := none) ?_
      show Go _ _ _ _ _ _ _ _ _ _ _ _ _ _ 40 #[.val (.ref r), .val (.int (Int32.ofNat k)), .val (.int (hxv cs[k + 1])), .unset] [.int (cs[k + 2])]
      refine go_static (c' := 4) (s' := 184) (q := 43) (S := []) (argsL := [.int (cs[k + 2])]) H (w_105 H) (w_106 H) (w_42 H) (w_107 H) (by decide) (rm_hv H c2) rfl rfl (lenOf pd_3 rfl) (fun _ q => nomatch q) rfl (by decide) (Nat.le_of_ble_eq_true rfl) rfl rfl (by decide) (by decide) d8_40 rfl ?_
      rintro _ hB G - ⟨rfl, KB⟩
      refine nx_ (v := none) ?_
      show Go _ _ _ _ _ _ _ _ _ _ _ _ _ _ 43 #[.val (.ref r), .val (.int (Int32.ofNat k)), .val (.int (hxv cs[k + 1])), .unset] [.int (hxv cs[k + 2])]
      refine go_istoreN (L' := #[.val (.ref r), .val (.int (Int32.ofNat k)), .val (.int (hxv cs[k + 1])), .val (.int (hxv cs[k + 2]))]) (q := 44) d8_43 rfl rfl ?_
      refine go_iloadN (v := (hxv cs[k + 2])) (q := 45) d8_44 rfl rfl ?_
      by_cases q2 : hxv cs[k + 2] < 0
      · refine go_ifN (q := 48) d8_45 q2 rfl ?_
        refine go_iconst (x := (-1 : Int32)) (q := 49) d8_48 rfl rfl ?_
        refine go_goto (q := 57) d8_49 (by decide) (by decide) ?_
        exact go_ireturn H (G := []) (t := .int) rfl (by decide) rfl d8_57 (by decide) (by decide) (fun _ q => nomatch q) ⟨by rw [if_pos (Or.inr q2)], KA.trans KB (fun _ q => nomatch q)⟩
      · refine go_ifY (q := 52) d8_45 q2 (by decide) (by decide) ?_
        refine go_iloadN (v := (hxv cs[k + 1])) (q := 53) d8_52 rfl rfl ?_
        refine go_iconst (x := (4 : Int32)) (q := 54) d8_53 rfl rfl ?_
        refine go_ishl (r := (hxv cs[k + 1]) <<< ((4 : Int32) &&& 31)) (q := 55) d8_54 rfl rfl ?_
        refine go_iloadN (v := (hxv cs[k + 2])) (q := 56) d8_55 rfl rfl ?_
        refine go_ior (r := (hxv cs[k + 1] * 16 + hxv cs[k + 2])) (q := 57) d8_56 (hexjoin (r1.resolve_left q1) (r2.resolve_left q2)) rfl ?_
        exact go_ireturn H (G := []) (t := .int) rfl (by decide) rfl d8_57 (by decide) (by decide) (fun _ q => nomatch q) ⟨by rw [if_neg (fun e => e.elim q1 q2)], KA.trans KB (fun _ q => nomatch q)⟩
  · refine go_virtual (c' := 0) (s' := 0) (q := 7) (S := [.int (Int32.ofNat (k + 2))]) (argsL := []) H (C := "java/lang/String") (w_44 H) (w_45 H) (nf_self (w_47 H)) (w_47 H) (w_46 H) (w_12 H) (w_48 H) (by decide) S.exa (rm_lenU H S) rfl rfl (lenOf pd_2 rfl) (fun _ q => nomatch q) rfl (by decide) (Nat.le_of_ble_eq_true rfl) rfl rfl (by decide) (by decide) d8_4 rfl ?_
    rintro _ _ G - ⟨rfl, rfl⟩
    refine nx_ (v := none) ?_
    show Go _ _ _ _ _ _ _ _ _ _ _ _ _ _ 7 #[.val (.ref r), .val (.int (Int32.ofNat k)), .unset, .unset] [.int (Int32.ofNat cs.length), .int (Int32.ofNat (k + 2))]
    refine go_icN (q := 10) d8_7 ((lt_ofNat (by omega) (by omega)).mpr h2) rfl ?_
    refine go_aloadN (v := .ref r) (q := 11) d8_10 rfl rfl rfl ?_
    refine go_iloadN (v := (Int32.ofNat k)) (q := 12) d8_11 rfl rfl ?_
    refine go_iconst (x := (1 : Int32)) (q := 13) d8_12 rfl rfl ?_
    refine go_iadd (r := (Int32.ofNat (k + 1))) (q := 14) d8_13 (add_ofNat k 1) rfl ?_
    refine go_virtual (c' := 0) (s' := 0) (q := 17) (S := []) (argsL := [.int (Int32.ofNat (k + 1))]) H (C := "java/lang/String") (w_104 H) (w_58 H) (nf_self (w_60 H)) (w_60 H) (w_59 H) (w_12 H) (w_61 H) (by decide) S.exa (rm_chU H US S h1 (by omega)) rfl rfl (lenOf pd_1 rfl) (fun _ q => nomatch q) rfl (by decide) (Nat.le_of_ble_eq_true rfl) rfl rfl (by decide) (by decide) d8_14 rfl ?_
    rintro _ _ G - ⟨rfl, rfl⟩
    refine nx_ (v := none) ?_
    show Go _ _ _ _ _ _ _ _ _ _ _ _ _ _ 17 #[.val (.ref r), .val (.int (Int32.ofNat k)), .unset, .unset] [.int (cs[k + 1])]
    refine go_static (c' := 2) (s' := 92) (q := 20) (S := []) (argsL := [.int (cs[k + 1])]) H (w_105 H) (w_106 H) (w_42 H) (w_107 H) (by decide) (rm_hv H c1) rfl rfl (lenOf pd_3 rfl) (fun _ q => nomatch q) rfl (by decide) (Nat.le_of_ble_eq_true rfl) rfl rfl (by decide) (by decide) d8_17 rfl ?_
    rintro _ hA G - ⟨rfl, KA⟩
    refine nx_ (v := none) ?_
    show Go _ _ _ _ _ _ _ _ _ _ _ _ _ _ 20 #[.val (.ref r), .val (.int (Int32.ofNat k)), .unset, .unset] [.int (hxv cs[k + 1])]
    have S := S.keep0 KA
    refine go_goto (q := 24) d8_20 (by decide) (by decide) ?_
    refine go_istoreN (L' := #[.val (.ref r), .val (.int (Int32.ofNat k)), .val (.int (hxv cs[k + 1])), .unset]) (q := 25) d8_24 rfl rfl ?_
    refine go_iloadN (v := (hxv cs[k + 1])) (q := 26) d8_25 rfl rfl ?_
    by_cases q1 : hxv cs[k + 1] < 0
    · refine go_ifN (q := 29) d8_26 q1 rfl ?_
      refine go_iconst (x := (-1 : Int32)) (q := 30) d8_29 rfl rfl ?_
      refine go_goto (q := 43) d8_30 (by decide) (by decide) ?_
      refine go_istoreN (L' := #[.val (.ref r), .val (.int (Int32.ofNat k)), .val (.int (hxv cs[k + 1])), .val (.int (-1 : Int32))]) (q := 44) d8_43 rfl rfl ?_
      refine go_iloadN (v := (-1 : Int32)) (q := 45) d8_44 rfl rfl ?_
      refine go_ifN (q := 48) d8_45 (by decide) rfl ?_
      refine go_iconst (x := (-1 : Int32)) (q := 49) d8_48 rfl rfl ?_
      refine go_goto (q := 57) d8_49 (by decide) (by decide) ?_
      exact go_ireturn H (G := []) (t := .int) rfl (by decide) rfl d8_57 (by decide) (by decide) (fun _ q => nomatch q) ⟨by rw [if_pos (Or.inl q1)], KA⟩
    · refine go_ifY (q := 33) d8_26 q1 (by decide) (by decide) ?_
      refine go_aloadN (v := .ref r) (q := 34) d8_33 rfl rfl rfl ?_
      refine go_iloadN (v := (Int32.ofNat k)) (q := 35) d8_34 rfl rfl ?_
      refine go_iconst (x := (2 : Int32)) (q := 36) d8_35 rfl rfl ?_
      refine go_iadd (r := (Int32.ofNat (k + 2))) (q := 37) d8_36 (add_ofNat k 2) rfl ?_
      refine go_virtual (c' := 2) (s' := 92) (q := 40) (S := []) (argsL := [.int (Int32.ofNat (k + 2))]) H (C := "java/lang/String") (w_104 H) (w_58 H) (nf_self (w_60 H)) (w_60 H) (w_59 H) (w_12 H) (w_61 H) (by decide) S.exa (rm_chU H US S h2 (by omega)) rfl rfl (lenOf pd_1 rfl) (fun _ q => nomatch q) rfl (by decide) (Nat.le_of_ble_eq_true rfl) rfl rfl (by decide) (by decide) d8_37 rfl ?_
      rintro _ _ G - ⟨rfl, rfl⟩
      refine nx_ (v := none) ?_
      show Go _ _ _ _ _ _ _ _ _ _ _ _ _ _ 40 #[.val (.ref r), .val (.int (Int32.ofNat k)), .val (.int (hxv cs[k + 1])), .unset] [.int (cs[k + 2])]
      refine go_static (c' := 4) (s' := 184) (q := 43) (S := []) (argsL := [.int (cs[k + 2])]) H (w_105 H) (w_106 H) (w_42 H) (w_107 H) (by decide) (rm_hv H c2) rfl rfl (lenOf pd_3 rfl) (fun _ q => nomatch q) rfl (by decide) (Nat.le_of_ble_eq_true rfl) rfl rfl (by decide) (by decide) d8_40 rfl ?_
      rintro _ hB G - ⟨rfl, KB⟩
      refine nx_ (v := none) ?_
      show Go _ _ _ _ _ _ _ _ _ _ _ _ _ _ 43 #[.val (.ref r), .val (.int (Int32.ofNat k)), .val (.int (hxv cs[k + 1])), .unset] [.int (hxv cs[k + 2])]
      refine go_istoreN (L' := #[.val (.ref r), .val (.int (Int32.ofNat k)), .val (.int (hxv cs[k + 1])), .val (.int (hxv cs[k + 2]))]) (q := 44) d8_43 rfl rfl ?_
      refine go_iloadN (v := (hxv cs[k + 2])) (q := 45) d8_44 rfl rfl ?_
      by_cases q2 : hxv cs[k + 2] < 0
      · refine go_ifN (q := 48) d8_45 q2 rfl ?_
        refine go_iconst (x := (-1 : Int32)) (q := 49) d8_48 rfl rfl ?_
        refine go_goto (q := 57) d8_49 (by decide) (by decide) ?_
        exact go_ireturn H (G := []) (t := .int) rfl (by decide) rfl d8_57 (by decide) (by decide) (fun _ q => nomatch q) ⟨by rw [if_pos (Or.inr q2)], KA.trans KB (fun _ q => nomatch q)⟩
      · refine go_ifY (q := 52) d8_45 q2 (by decide) (by decide) ?_
        refine go_iloadN (v := (hxv cs[k + 1])) (q := 53) d8_52 rfl rfl ?_
        refine go_iconst (x := (4 : Int32)) (q := 54) d8_53 rfl rfl ?_
        refine go_ishl (r := (hxv cs[k + 1]) <<< ((4 : Int32) &&& 31)) (q := 55) d8_54 rfl rfl ?_
        refine go_iloadN (v := (hxv cs[k + 2])) (q := 56) d8_55 rfl rfl ?_
        refine go_ior (r := (hxv cs[k + 1] * 16 + hxv cs[k + 2])) (q := 57) d8_56 (hexjoin (r1.resolve_left q1) (r2.resolve_left q2)) rfl ?_
        exact go_ireturn H (G := []) (t := .int) rfl (by decide) rfl d8_57 (by decide) (by decide) (fun _ q => nomatch q) ⟨by rw [if_neg (fun e => e.elim q1 q2)], KA.trans KB (fun _ q => nomatch q)⟩
abbrev GL (l : Launch) (Z : State) (K : Cx) (h : Heap) (F : List Addr) (c s pc : Nat) (L : Array Slot) (S : List Value) : Prop := Go l Z K "com/example/tabane/tabane/url/PercentEscapesByteAtPinLaw" "law" code 16 ret ({ frames := 10, cells := 24, slots := 2176, locals := 224 } : Room) (fun v h' G => v = some (.int 1)) h F c s pc L S
set_option maxRecDepth 65536 in
set_option maxHeartbeats 8000000 in
theorem j42_1_0 {l : Launch} {Z : State} {a0 : Array Value} (H : Wd Z a0) {K : Cx} {h : Heap} {i0 i1 i2 i3 i4 i5 a b c d : Int32} (US : U16S Z) (pa : (¬ a < 0 ∧ ¬ 65535 < a)) (pb : (¬ b < 0 ∧ ¬ 65535 < b)) (pc : (¬ c < 0 ∧ ¬ 65535 < c)) (pd : (¬ d < 0 ∧ ¬ 65535 < d)) : GL l Z K h [] 8 464 42 #[.val (.int i0), .val (.int i1), .val (.int i2), .val (.int i3), .val (.int i4), .val (.int i5), .val (.int (1 : Int32)), .val (.int (0 : Int32)), .val (.int a), .val (.int b), .val (.int c), .val (.int d), .unset, .unset, .unset, .unset] [] := by
  refine go_iload (v := (0 : Int32)) (q := 44) at_42 rfl rfl ?_
  refine go_ifN (q := 47) at_44 (by decide) rfl ?_
  refine go_bipush (x := (37 : Int32)) (q := 49) at_47 rfl rfl ?_
  refine go_istore (L' := #[.val (.int i0), .val (.int i1), .val (.int i2), .val (.int i3), .val (.int i4), .val (.int i5), .val (.int (1 : Int32)), .val (.int (0 : Int32)), .val (.int (37 : Int32)), .val (.int b), .val (.int c), .val (.int d), .unset, .unset, .unset, .unset]) (q := 51) at_49 rfl rfl ?_
  refine go_goto (q := 84) at_51 (by decide) (by decide) ?_
  refine go_iload (v := (1 : Int32)) (q := 86) at_84 rfl rfl ?_
  refine go_iload (v := (37 : Int32)) (q := 88) at_86 rfl rfl ?_
  refine go_iload (v := b) (q := 90) at_88 rfl rfl ?_
  refine go_iload (v := c) (q := 92) at_90 rfl rfl ?_
  refine go_iload (v := d) (q := 94) at_92 rfl rfl ?_
  refine go_static (c' := 14) (s' := 496) (q := 97) (S := []) (argsL := [.int (1 : Int32), .int (37 : Int32), .int b, .int c, .int d]) H (w_7 H) (w_8 H) (w_3 H) (w_9 H) (by decide) (rm_mk1 H US (by decide : ¬ (37 : Int32) < 0 ∧ ¬ 65535 < (37 : Int32)) pb pc pd) rfl rfl (lenOf pd_21 rfl) (fun _ q => nomatch q) rfl (by decide) (Nat.le_of_ble_eq_true rfl) rfl rfl (by decide) (by decide) at_94 rfl ?_
  rintro _ h1 G - ⟨x, rfl, K1, T⟩
  refine nx_ (v := none) ?_
  show Go _ _ _ _ _ _ _ _ _ _ _ _ _ _ 97 #[.val (.int i0), .val (.int i1), .val (.int i2), .val (.int i3), .val (.int i4), .val (.int i5), .val (.int (1 : Int32)), .val (.int (0 : Int32)), .val (.int (37 : Int32)), .val (.int b), .val (.int c), .val (.int d), .unset, .unset, .unset, .unset] [.ref x]
  refine go_astore (L' := #[.val (.int i0), .val (.int i1), .val (.int i2), .val (.int i3), .val (.int i4), .val (.int i5), .val (.int (1 : Int32)), .val (.int (0 : Int32)), .val (.int (37 : Int32)), .val (.int b), .val (.int c), .val (.int d), .val (.ref x), .unset, .unset, .unset]) (q := 99) at_97 rfl rfl rfl ?_
  refine go_iconst (x := (-1 : Int32)) (q := 100) at_99 rfl rfl ?_
  refine go_istore (L' := #[.val (.int i0), .val (.int i1), .val (.int i2), .val (.int i3), .val (.int i4), .val (.int i5), .val (.int (1 : Int32)), .val (.int (0 : Int32)), .val (.int (37 : Int32)), .val (.int b), .val (.int c), .val (.int d), .val (.ref x), .val (.int (-1 : Int32)), .unset, .unset]) (q := 102) at_100 rfl rfl ?_
  refine go_iload (v := (0 : Int32)) (q := 104) at_102 rfl rfl ?_
  refine go_iconst (x := (2 : Int32)) (q := 105) at_104 rfl rfl ?_
  refine go_iadd (r := (2 : Int32)) (q := 106) at_105 (by decide) rfl ?_
  refine go_iload (v := (1 : Int32)) (q := 108) at_106 rfl rfl ?_
  refine go_icY (q := 171) at_108 (by decide) (by decide) (by decide) ?_
  refine go_aload (v := .ref x) (q := 173) at_171 rfl rfl rfl ?_
  refine go_iload (v := (0 : Int32)) (q := 175) at_173 rfl rfl ?_
  refine go_static (c' := 18) (s' := 680) (q := 178) (S := []) (argsL := [.ref x, .int (0 : Int32)]) H (w_40 H) (w_41 H) (w_42 H) (w_43 H) (by decide) (rm_baN H (cs := [(37 : Int32)]) (k := 0) T (Nat.le_of_ble_eq_true rfl) (by decide) (Nat.not_lt.mpr (Nat.le_of_ble_eq_true rfl))) rfl rfl (lenOf pd_22 rfl) (fun _ q => nomatch q) rfl (by decide) (Nat.le_of_ble_eq_true rfl) rfl rfl (by decide) (by decide) at_175 rfl ?_
  rintro _ h2 G - ⟨rfl, K2⟩
  refine nx_ (v := none) ?_
  show Go _ _ _ _ _ _ _ _ _ _ _ _ _ _ 178 #[.val (.int i0), .val (.int i1), .val (.int i2), .val (.int i3), .val (.int i4), .val (.int i5), .val (.int (1 : Int32)), .val (.int (0 : Int32)), .val (.int (37 : Int32)), .val (.int b), .val (.int c), .val (.int d), .val (.ref x), .val (.int (-1 : Int32)), .unset, .unset] [.int (-1 : Int32)]
  refine go_iload (v := (-1 : Int32)) (q := 180) at_178 rfl rfl ?_
  refine go_icN (q := 183) at_180 (by decide) rfl ?_
  refine go_iconst (x := (1 : Int32)) (q := 184) at_183 rfl rfl ?_
  refine go_goto (q := 188) at_184 (by decide) (by decide) ?_
  exact go_ireturn H (G := []) (t := .boolean) rfl (by decide) rfl at_188 (by decide) (by decide) (fun _ q => nomatch q) rfl
set_option maxRecDepth 65536 in
set_option maxHeartbeats 8000000 in
theorem j42_2_0 {l : Launch} {Z : State} {a0 : Array Value} (H : Wd Z a0) {K : Cx} {h : Heap} {i0 i1 i2 i3 i4 i5 a b c d : Int32} (US : U16S Z) (pa : (¬ a < 0 ∧ ¬ 65535 < a)) (pb : (¬ b < 0 ∧ ¬ 65535 < b)) (pc : (¬ c < 0 ∧ ¬ 65535 < c)) (pd : (¬ d < 0 ∧ ¬ 65535 < d)) : GL l Z K h [] 8 464 42 #[.val (.int i0), .val (.int i1), .val (.int i2), .val (.int i3), .val (.int i4), .val (.int i5), .val (.int (2 : Int32)), .val (.int (0 : Int32)), .val (.int a), .val (.int b), .val (.int c), .val (.int d), .unset, .unset, .unset, .unset] [] := by
  refine go_iload (v := (0 : Int32)) (q := 44) at_42 rfl rfl ?_
  refine go_ifN (q := 47) at_44 (by decide) rfl ?_
  refine go_bipush (x := (37 : Int32)) (q := 49) at_47 rfl rfl ?_
  refine go_istore (L' := #[.val (.int i0), .val (.int i1), .val (.int i2), .val (.int i3), .val (.int i4), .val (.int i5), .val (.int (2 : Int32)), .val (.int (0 : Int32)), .val (.int (37 : Int32)), .val (.int b), .val (.int c), .val (.int d), .unset, .unset, .unset, .unset]) (q := 51) at_49 rfl rfl ?_
  refine go_goto (q := 84) at_51 (by decide) (by decide) ?_
  refine go_iload (v := (2 : Int32)) (q := 86) at_84 rfl rfl ?_
  refine go_iload (v := (37 : Int32)) (q := 88) at_86 rfl rfl ?_
  refine go_iload (v := b) (q := 90) at_88 rfl rfl ?_
  refine go_iload (v := c) (q := 92) at_90 rfl rfl ?_
  refine go_iload (v := d) (q := 94) at_92 rfl rfl ?_
  refine go_static (c' := 14) (s' := 496) (q := 97) (S := []) (argsL := [.int (2 : Int32), .int (37 : Int32), .int b, .int c, .int d]) H (w_7 H) (w_8 H) (w_3 H) (w_9 H) (by decide) (rm_mk2 H US (by decide : ¬ (37 : Int32) < 0 ∧ ¬ 65535 < (37 : Int32)) pb pc pd) rfl rfl (lenOf pd_21 rfl) (fun _ q => nomatch q) rfl (by decide) (Nat.le_of_ble_eq_true rfl) rfl rfl (by decide) (by decide) at_94 rfl ?_
  rintro _ h1 G - ⟨x, rfl, K1, T⟩
  refine nx_ (v := none) ?_
  show Go _ _ _ _ _ _ _ _ _ _ _ _ _ _ 97 #[.val (.int i0), .val (.int i1), .val (.int i2), .val (.int i3), .val (.int i4), .val (.int i5), .val (.int (2 : Int32)), .val (.int (0 : Int32)), .val (.int (37 : Int32)), .val (.int b), .val (.int c), .val (.int d), .unset, .unset, .unset, .unset] [.ref x]
  refine go_astore (L' := #[.val (.int i0), .val (.int i1), .val (.int i2), .val (.int i3), .val (.int i4), .val (.int i5), .val (.int (2 : Int32)), .val (.int (0 : Int32)), .val (.int (37 : Int32)), .val (.int b), .val (.int c), .val (.int d), .val (.ref x), .unset, .unset, .unset]) (q := 99) at_97 rfl rfl rfl ?_
  refine go_iconst (x := (-1 : Int32)) (q := 100) at_99 rfl rfl ?_
  refine go_istore (L' := #[.val (.int i0), .val (.int i1), .val (.int i2), .val (.int i3), .val (.int i4), .val (.int i5), .val (.int (2 : Int32)), .val (.int (0 : Int32)), .val (.int (37 : Int32)), .val (.int b), .val (.int c), .val (.int d), .val (.ref x), .val (.int (-1 : Int32)), .unset, .unset]) (q := 102) at_100 rfl rfl ?_
  refine go_iload (v := (0 : Int32)) (q := 104) at_102 rfl rfl ?_
  refine go_iconst (x := (2 : Int32)) (q := 105) at_104 rfl rfl ?_
  refine go_iadd (r := (2 : Int32)) (q := 106) at_105 (by decide) rfl ?_
  refine go_iload (v := (2 : Int32)) (q := 108) at_106 rfl rfl ?_
  refine go_icY (q := 171) at_108 (by decide) (by decide) (by decide) ?_
  refine go_aload (v := .ref x) (q := 173) at_171 rfl rfl rfl ?_
  refine go_iload (v := (0 : Int32)) (q := 175) at_173 rfl rfl ?_
  refine go_static (c' := 18) (s' := 680) (q := 178) (S := []) (argsL := [.ref x, .int (0 : Int32)]) H (w_40 H) (w_41 H) (w_42 H) (w_43 H) (by decide) (rm_baN H (cs := [(37 : Int32), b]) (k := 0) T (Nat.le_of_ble_eq_true rfl) (by decide) (Nat.not_lt.mpr (Nat.le_of_ble_eq_true rfl))) rfl rfl (lenOf pd_22 rfl) (fun _ q => nomatch q) rfl (by decide) (Nat.le_of_ble_eq_true rfl) rfl rfl (by decide) (by decide) at_175 rfl ?_
  rintro _ h2 G - ⟨rfl, K2⟩
  refine nx_ (v := none) ?_
  show Go _ _ _ _ _ _ _ _ _ _ _ _ _ _ 178 #[.val (.int i0), .val (.int i1), .val (.int i2), .val (.int i3), .val (.int i4), .val (.int i5), .val (.int (2 : Int32)), .val (.int (0 : Int32)), .val (.int (37 : Int32)), .val (.int b), .val (.int c), .val (.int d), .val (.ref x), .val (.int (-1 : Int32)), .unset, .unset] [.int (-1 : Int32)]
  refine go_iload (v := (-1 : Int32)) (q := 180) at_178 rfl rfl ?_
  refine go_icN (q := 183) at_180 (by decide) rfl ?_
  refine go_iconst (x := (1 : Int32)) (q := 184) at_183 rfl rfl ?_
  refine go_goto (q := 188) at_184 (by decide) (by decide) ?_
  exact go_ireturn H (G := []) (t := .boolean) rfl (by decide) rfl at_188 (by decide) (by decide) (fun _ q => nomatch q) rfl
set_option maxRecDepth 65536 in
set_option maxHeartbeats 8000000 in
theorem j42_2_1 {l : Launch} {Z : State} {a0 : Array Value} (H : Wd Z a0) {K : Cx} {h : Heap} {i0 i1 i2 i3 i4 i5 a b c d : Int32} (US : U16S Z) (pa : (¬ a < 0 ∧ ¬ 65535 < a)) (pb : (¬ b < 0 ∧ ¬ 65535 < b)) (pc : (¬ c < 0 ∧ ¬ 65535 < c)) (pd : (¬ d < 0 ∧ ¬ 65535 < d)) : GL l Z K h [] 8 464 42 #[.val (.int i0), .val (.int i1), .val (.int i2), .val (.int i3), .val (.int i4), .val (.int i5), .val (.int (2 : Int32)), .val (.int (1 : Int32)), .val (.int a), .val (.int b), .val (.int c), .val (.int d), .unset, .unset, .unset, .unset] [] := by
  refine go_iload (v := (1 : Int32)) (q := 44) at_42 rfl rfl ?_
  refine go_ifY (q := 54) at_44 (by decide) (by decide) (by decide) ?_
  refine go_iload (v := (1 : Int32)) (q := 56) at_54 rfl rfl ?_
  refine go_iconst (x := (1 : Int32)) (q := 57) at_56 rfl rfl ?_
  refine go_icN (q := 60) at_57 (by decide) rfl ?_
  refine go_bipush (x := (37 : Int32)) (q := 62) at_60 rfl rfl ?_
  refine go_istore (L' := #[.val (.int i0), .val (.int i1), .val (.int i2), .val (.int i3), .val (.int i4), .val (.int i5), .val (.int (2 : Int32)), .val (.int (1 : Int32)), .val (.int a), .val (.int (37 : Int32)), .val (.int c), .val (.int d), .unset, .unset, .unset, .unset]) (q := 64) at_62 rfl rfl ?_
  refine go_goto (q := 84) at_64 (by decide) (by decide) ?_
  refine go_iload (v := (2 : Int32)) (q := 86) at_84 rfl rfl ?_
  refine go_iload (v := a) (q := 88) at_86 rfl rfl ?_
  refine go_iload (v := (37 : Int32)) (q := 90) at_88 rfl rfl ?_
  refine go_iload (v := c) (q := 92) at_90 rfl rfl ?_
  refine go_iload (v := d) (q := 94) at_92 rfl rfl ?_
  refine go_static (c' := 14) (s' := 496) (q := 97) (S := []) (argsL := [.int (2 : Int32), .int a, .int (37 : Int32), .int c, .int d]) H (w_7 H) (w_8 H) (w_3 H) (w_9 H) (by decide) (rm_mk2 H US pa (by decide : ¬ (37 : Int32) < 0 ∧ ¬ 65535 < (37 : Int32)) pc pd) rfl rfl (lenOf pd_21 rfl) (fun _ q => nomatch q) rfl (by decide) (Nat.le_of_ble_eq_true rfl) rfl rfl (by decide) (by decide) at_94 rfl ?_
  rintro _ h1 G - ⟨x, rfl, K1, T⟩
  refine nx_ (v := none) ?_
  show Go _ _ _ _ _ _ _ _ _ _ _ _ _ _ 97 #[.val (.int i0), .val (.int i1), .val (.int i2), .val (.int i3), .val (.int i4), .val (.int i5), .val (.int (2 : Int32)), .val (.int (1 : Int32)), .val (.int a), .val (.int (37 : Int32)), .val (.int c), .val (.int d), .unset, .unset, .unset, .unset] [.ref x]
  refine go_astore (L' := #[.val (.int i0), .val (.int i1), .val (.int i2), .val (.int i3), .val (.int i4), .val (.int i5), .val (.int (2 : Int32)), .val (.int (1 : Int32)), .val (.int a), .val (.int (37 : Int32)), .val (.int c), .val (.int d), .val (.ref x), .unset, .unset, .unset]) (q := 99) at_97 rfl rfl rfl ?_
  refine go_iconst (x := (-1 : Int32)) (q := 100) at_99 rfl rfl ?_
  refine go_istore (L' := #[.val (.int i0), .val (.int i1), .val (.int i2), .val (.int i3), .val (.int i4), .val (.int i5), .val (.int (2 : Int32)), .val (.int (1 : Int32)), .val (.int a), .val (.int (37 : Int32)), .val (.int c), .val (.int d), .val (.ref x), .val (.int (-1 : Int32)), .unset, .unset]) (q := 102) at_100 rfl rfl ?_
  refine go_iload (v := (1 : Int32)) (q := 104) at_102 rfl rfl ?_
  refine go_iconst (x := (2 : Int32)) (q := 105) at_104 rfl rfl ?_
  refine go_iadd (r := (3 : Int32)) (q := 106) at_105 (by decide) rfl ?_
  refine go_iload (v := (2 : Int32)) (q := 108) at_106 rfl rfl ?_
  refine go_icY (q := 171) at_108 (by decide) (by decide) (by decide) ?_
  refine go_aload (v := .ref x) (q := 173) at_171 rfl rfl rfl ?_
  refine go_iload (v := (1 : Int32)) (q := 175) at_173 rfl rfl ?_
  refine go_static (c' := 18) (s' := 680) (q := 178) (S := []) (argsL := [.ref x, .int (1 : Int32)]) H (w_40 H) (w_41 H) (w_42 H) (w_43 H) (by decide) (rm_baN H (cs := [a, (37 : Int32)]) (k := 1) T (Nat.le_of_ble_eq_true rfl) (by decide) (Nat.not_lt.mpr (Nat.le_of_ble_eq_true rfl))) rfl rfl (lenOf pd_22 rfl) (fun _ q => nomatch q) rfl (by decide) (Nat.le_of_ble_eq_true rfl) rfl rfl (by decide) (by decide) at_175 rfl ?_
  rintro _ h2 G - ⟨rfl, K2⟩
  refine nx_ (v := none) ?_
  show Go _ _ _ _ _ _ _ _ _ _ _ _ _ _ 178 #[.val (.int i0), .val (.int i1), .val (.int i2), .val (.int i3), .val (.int i4), .val (.int i5), .val (.int (2 : Int32)), .val (.int (1 : Int32)), .val (.int a), .val (.int (37 : Int32)), .val (.int c), .val (.int d), .val (.ref x), .val (.int (-1 : Int32)), .unset, .unset] [.int (-1 : Int32)]
  refine go_iload (v := (-1 : Int32)) (q := 180) at_178 rfl rfl ?_
  refine go_icN (q := 183) at_180 (by decide) rfl ?_
  refine go_iconst (x := (1 : Int32)) (q := 184) at_183 rfl rfl ?_
  refine go_goto (q := 188) at_184 (by decide) (by decide) ?_
  exact go_ireturn H (G := []) (t := .boolean) rfl (by decide) rfl at_188 (by decide) (by decide) (fun _ q => nomatch q) rfl
set_option maxRecDepth 65536 in
set_option maxHeartbeats 8000000 in
theorem j42_3_0 {l : Launch} {Z : State} {a0 : Array Value} (H : Wd Z a0) {K : Cx} {h : Heap} {i0 i1 i2 i3 i4 i5 a b c d : Int32} (US : U16S Z) (pa : (¬ a < 0 ∧ ¬ 65535 < a)) (pb : (¬ b < 0 ∧ ¬ 65535 < b)) (pc : (¬ c < 0 ∧ ¬ 65535 < c)) (pd : (¬ d < 0 ∧ ¬ 65535 < d)) : GL l Z K h [] 8 464 42 #[.val (.int i0), .val (.int i1), .val (.int i2), .val (.int i3), .val (.int i4), .val (.int i5), .val (.int (3 : Int32)), .val (.int (0 : Int32)), .val (.int a), .val (.int b), .val (.int c), .val (.int d), .unset, .unset, .unset, .unset] [] := by
  refine go_iload (v := (0 : Int32)) (q := 44) at_42 rfl rfl ?_
  refine go_ifN (q := 47) at_44 (by decide) rfl ?_
  refine go_bipush (x := (37 : Int32)) (q := 49) at_47 rfl rfl ?_
  refine go_istore (L' := #[.val (.int i0), .val (.int i1), .val (.int i2), .val (.int i3), .val (.int i4), .val (.int i5), .val (.int (3 : Int32)), .val (.int (0 : Int32)), .val (.int (37 : Int32)), .val (.int b), .val (.int c), .val (.int d), .unset, .unset, .unset, .unset]) (q := 51) at_49 rfl rfl ?_
  refine go_goto (q := 84) at_51 (by decide) (by decide) ?_
  refine go_iload (v := (3 : Int32)) (q := 86) at_84 rfl rfl ?_
  refine go_iload (v := (37 : Int32)) (q := 88) at_86 rfl rfl ?_
  refine go_iload (v := b) (q := 90) at_88 rfl rfl ?_
  refine go_iload (v := c) (q := 92) at_90 rfl rfl ?_
  refine go_iload (v := d) (q := 94) at_92 rfl rfl ?_
  refine go_static (c' := 14) (s' := 496) (q := 97) (S := []) (argsL := [.int (3 : Int32), .int (37 : Int32), .int b, .int c, .int d]) H (w_7 H) (w_8 H) (w_3 H) (w_9 H) (by decide) (rm_mk3 H US (by decide : ¬ (37 : Int32) < 0 ∧ ¬ 65535 < (37 : Int32)) pb pc pd) rfl rfl (lenOf pd_21 rfl) (fun _ q => nomatch q) rfl (by decide) (Nat.le_of_ble_eq_true rfl) rfl rfl (by decide) (by decide) at_94 rfl ?_
  rintro _ h1 G - ⟨x, rfl, K1, T⟩
  refine nx_ (v := none) ?_
  show Go _ _ _ _ _ _ _ _ _ _ _ _ _ _ 97 #[.val (.int i0), .val (.int i1), .val (.int i2), .val (.int i3), .val (.int i4), .val (.int i5), .val (.int (3 : Int32)), .val (.int (0 : Int32)), .val (.int (37 : Int32)), .val (.int b), .val (.int c), .val (.int d), .unset, .unset, .unset, .unset] [.ref x]
  refine go_astore (L' := #[.val (.int i0), .val (.int i1), .val (.int i2), .val (.int i3), .val (.int i4), .val (.int i5), .val (.int (3 : Int32)), .val (.int (0 : Int32)), .val (.int (37 : Int32)), .val (.int b), .val (.int c), .val (.int d), .val (.ref x), .unset, .unset, .unset]) (q := 99) at_97 rfl rfl rfl ?_
  refine go_iconst (x := (-1 : Int32)) (q := 100) at_99 rfl rfl ?_
  refine go_istore (L' := #[.val (.int i0), .val (.int i1), .val (.int i2), .val (.int i3), .val (.int i4), .val (.int i5), .val (.int (3 : Int32)), .val (.int (0 : Int32)), .val (.int (37 : Int32)), .val (.int b), .val (.int c), .val (.int d), .val (.ref x), .val (.int (-1 : Int32)), .unset, .unset]) (q := 102) at_100 rfl rfl ?_
  refine go_iload (v := (0 : Int32)) (q := 104) at_102 rfl rfl ?_
  refine go_iconst (x := (2 : Int32)) (q := 105) at_104 rfl rfl ?_
  refine go_iadd (r := (2 : Int32)) (q := 106) at_105 (by decide) rfl ?_
  refine go_iload (v := (3 : Int32)) (q := 108) at_106 rfl rfl ?_
  refine go_icN (q := 111) at_108 (by decide) rfl ?_
  refine go_iload (v := (0 : Int32)) (q := 113) at_111 rfl rfl ?_
  refine go_iconst (x := (1 : Int32)) (q := 114) at_113 rfl rfl ?_
  refine go_iadd (r := (1 : Int32)) (q := 115) at_114 (by decide) rfl ?_
  refine go_iload (v := (37 : Int32)) (q := 117) at_115 rfl rfl ?_
  refine go_iload (v := b) (q := 119) at_117 rfl rfl ?_
  refine go_iload (v := c) (q := 121) at_119 rfl rfl ?_
  refine go_iload (v := d) (q := 123) at_121 rfl rfl ?_
  refine go_static (c' := 14) (s' := 496) (q := 126) (S := []) (argsL := [.int (1 : Int32), .int (37 : Int32), .int b, .int c, .int d]) H (w_98 H) (w_99 H) (w_3 H) (w_100 H) (by decide) (rm_pk1 H pb) rfl rfl (lenOf pd_23 rfl) (fun _ q => nomatch q) rfl (by decide) (Nat.le_of_ble_eq_true rfl) rfl rfl (by decide) (by decide) at_123 rfl ?_
  rintro _ _ G - ⟨rfl, rfl⟩
  refine nx_ (v := none) ?_
  show Go _ _ _ _ _ _ _ _ _ _ _ _ _ _ 126 #[.val (.int i0), .val (.int i1), .val (.int i2), .val (.int i3), .val (.int i4), .val (.int i5), .val (.int (3 : Int32)), .val (.int (0 : Int32)), .val (.int (37 : Int32)), .val (.int b), .val (.int c), .val (.int d), .val (.ref x), .val (.int (-1 : Int32)), .unset, .unset] [.int b]
  refine go_static (c' := 14) (s' := 496) (q := 129) (S := []) (argsL := [.int b]) H (w_101 H) (w_102 H) (w_3 H) (w_103 H) (by decide) (rm_hx H) rfl rfl (lenOf pd_3 rfl) (fun _ q => nomatch q) rfl (by decide) (Nat.le_of_ble_eq_true rfl) rfl rfl (by decide) (by decide) at_126 rfl ?_
  rintro _ _ G - ⟨rfl, rfl⟩
  refine nx_ (v := none) ?_
  show Go _ _ _ _ _ _ _ _ _ _ _ _ _ _ 129 #[.val (.int i0), .val (.int i1), .val (.int i2), .val (.int i3), .val (.int i4), .val (.int i5), .val (.int (3 : Int32)), .val (.int (0 : Int32)), .val (.int (37 : Int32)), .val (.int b), .val (.int c), .val (.int d), .val (.ref x), .val (.int (-1 : Int32)), .unset, .unset] [.int (hxv b)]
  refine go_istore (L' := #[.val (.int i0), .val (.int i1), .val (.int i2), .val (.int i3), .val (.int i4), .val (.int i5), .val (.int (3 : Int32)), .val (.int (0 : Int32)), .val (.int (37 : Int32)), .val (.int b), .val (.int c), .val (.int d), .val (.ref x), .val (.int (-1 : Int32)), .val (.int (hxv b)), .unset]) (q := 131) at_129 rfl rfl ?_
  refine go_iload (v := (0 : Int32)) (q := 133) at_131 rfl rfl ?_
  refine go_iconst (x := (2 : Int32)) (q := 134) at_133 rfl rfl ?_
  refine go_iadd (r := (2 : Int32)) (q := 135) at_134 (by decide) rfl ?_
  refine go_iload (v := (37 : Int32)) (q := 137) at_135 rfl rfl ?_
  refine go_iload (v := b) (q := 139) at_137 rfl rfl ?_
  refine go_iload (v := c) (q := 141) at_139 rfl rfl ?_
  refine go_iload (v := d) (q := 143) at_141 rfl rfl ?_
  refine go_static (c' := 14) (s' := 496) (q := 146) (S := []) (argsL := [.int (2 : Int32), .int (37 : Int32), .int b, .int c, .int d]) H (w_98 H) (w_99 H) (w_3 H) (w_100 H) (by decide) (rm_pk2 H pc) rfl rfl (lenOf pd_23 rfl) (fun _ q => nomatch q) rfl (by decide) (Nat.le_of_ble_eq_true rfl) rfl rfl (by decide) (by decide) at_143 rfl ?_
  rintro _ _ G - ⟨rfl, rfl⟩
  refine nx_ (v := none) ?_
  show Go _ _ _ _ _ _ _ _ _ _ _ _ _ _ 146 #[.val (.int i0), .val (.int i1), .val (.int i2), .val (.int i3), .val (.int i4), .val (.int i5), .val (.int (3 : Int32)), .val (.int (0 : Int32)), .val (.int (37 : Int32)), .val (.int b), .val (.int c), .val (.int d), .val (.ref x), .val (.int (-1 : Int32)), .val (.int (hxv b)), .unset] [.int c]
  refine go_static (c' := 14) (s' := 496) (q := 149) (S := []) (argsL := [.int c]) H (w_101 H) (w_102 H) (w_3 H) (w_103 H) (by decide) (rm_hx H) rfl rfl (lenOf pd_3 rfl) (fun _ q => nomatch q) rfl (by decide) (Nat.le_of_ble_eq_true rfl) rfl rfl (by decide) (by decide) at_146 rfl ?_
  rintro _ _ G - ⟨rfl, rfl⟩
  refine nx_ (v := none) ?_
  show Go _ _ _ _ _ _ _ _ _ _ _ _ _ _ 149 #[.val (.int i0), .val (.int i1), .val (.int i2), .val (.int i3), .val (.int i4), .val (.int i5), .val (.int (3 : Int32)), .val (.int (0 : Int32)), .val (.int (37 : Int32)), .val (.int b), .val (.int c), .val (.int d), .val (.ref x), .val (.int (-1 : Int32)), .val (.int (hxv b)), .unset] [.int (hxv c)]
  refine go_istore (L' := #[.val (.int i0), .val (.int i1), .val (.int i2), .val (.int i3), .val (.int i4), .val (.int i5), .val (.int (3 : Int32)), .val (.int (0 : Int32)), .val (.int (37 : Int32)), .val (.int b), .val (.int c), .val (.int d), .val (.ref x), .val (.int (-1 : Int32)), .val (.int (hxv b)), .val (.int (hxv c))]) (q := 151) at_149 rfl rfl ?_
  refine go_iload (v := (hxv b)) (q := 153) at_151 rfl rfl ?_
  have hU : U16 [(37 : Int32), b, c] := ⟨Nat.le_of_ble_eq_true rfl, (by intro c hc; simp only [List.mem_cons, List.not_mem_nil, or_false] at hc; rcases hc with rfl | rfl | rfl <;> first | exact (by decide : ¬ (37 : Int32) < 0 ∧ ¬ 65535 < (37 : Int32)) | exact pb | exact pc)⟩
  by_cases q1 : (hxv b) < 0
  · refine go_ifY (q := 171) at_153 q1 (by decide) (by decide) ?_
    refine go_aload (v := .ref x) (q := 173) at_171 rfl rfl rfl ?_
    refine go_iload (v := (0 : Int32)) (q := 175) at_173 rfl rfl ?_
    refine go_static (c' := 18) (s' := 680) (q := 178) (S := []) (argsL := [.ref x, .int (0 : Int32)]) H (w_40 H) (w_41 H) (w_42 H) (w_43 H) (by decide) (rm_baY H US (cs := [(37 : Int32), b, c]) (k := 0) T hU (Nat.le_of_ble_eq_true rfl) (Nat.le_of_ble_eq_true rfl)) rfl rfl (lenOf pd_22 rfl) (fun _ q => nomatch q) rfl (by decide) (Nat.le_of_ble_eq_true rfl) rfl rfl (by decide) (by decide) at_175 rfl ?_
    rintro _ h2 G - ⟨rfl, K2⟩
    refine nx_ (v := none) ?_
    show Go _ _ _ _ _ _ _ _ _ _ _ _ _ _ 178 #[.val (.int i0), .val (.int i1), .val (.int i2), .val (.int i3), .val (.int i4), .val (.int i5), .val (.int (3 : Int32)), .val (.int (0 : Int32)), .val (.int (37 : Int32)), .val (.int b), .val (.int c), .val (.int d), .val (.ref x), .val (.int (-1 : Int32)), .val (.int (hxv b)), .val (.int (hxv c))] [.int (if (hxv b) < 0 ∨ (hxv c) < 0 then -1 else (hxv b) * 16 + (hxv c))]
    rw [show (if (hxv b) < 0 ∨ (hxv c) < 0 then -1 else (hxv b) * 16 + (hxv c)) = (-1 : Int32) from if_pos (Or.inl q1)]
    show Go _ _ _ _ _ _ _ _ _ _ _ _ _ _ 178 #[.val (.int i0), .val (.int i1), .val (.int i2), .val (.int i3), .val (.int i4), .val (.int i5), .val (.int (3 : Int32)), .val (.int (0 : Int32)), .val (.int (37 : Int32)), .val (.int b), .val (.int c), .val (.int d), .val (.ref x), .val (.int (-1 : Int32)), .val (.int (hxv b)), .val (.int (hxv c))] [.int (-1 : Int32)]
    refine go_iload (v := (-1 : Int32)) (q := 180) at_178 rfl rfl ?_
    refine go_icN (q := 183) at_180 rfl rfl ?_
    refine go_iconst (x := (1 : Int32)) (q := 184) at_183 rfl rfl ?_
    refine go_goto (q := 188) at_184 (by decide) (by decide) ?_
    exact go_ireturn H (G := []) (t := .boolean) rfl (by decide) rfl at_188 (by decide) (by decide) (fun _ q => nomatch q) rfl
  · refine go_ifN (q := 156) at_153 q1 rfl ?_
    refine go_iload (v := (hxv c)) (q := 158) at_156 rfl rfl ?_
    by_cases q2 : (hxv c) < 0
    · refine go_ifY (q := 171) at_158 q2 (by decide) (by decide) ?_
      refine go_aload (v := .ref x) (q := 173) at_171 rfl rfl rfl ?_
      refine go_iload (v := (0 : Int32)) (q := 175) at_173 rfl rfl ?_
      refine go_static (c' := 18) (s' := 680) (q := 178) (S := []) (argsL := [.ref x, .int (0 : Int32)]) H (w_40 H) (w_41 H) (w_42 H) (w_43 H) (by decide) (rm_baY H US (cs := [(37 : Int32), b, c]) (k := 0) T hU (Nat.le_of_ble_eq_true rfl) (Nat.le_of_ble_eq_true rfl)) rfl rfl (lenOf pd_22 rfl) (fun _ q => nomatch q) rfl (by decide) (Nat.le_of_ble_eq_true rfl) rfl rfl (by decide) (by decide) at_175 rfl ?_
      rintro _ h2 G - ⟨rfl, K2⟩
      refine nx_ (v := none) ?_
      show Go _ _ _ _ _ _ _ _ _ _ _ _ _ _ 178 #[.val (.int i0), .val (.int i1), .val (.int i2), .val (.int i3), .val (.int i4), .val (.int i5), .val (.int (3 : Int32)), .val (.int (0 : Int32)), .val (.int (37 : Int32)), .val (.int b), .val (.int c), .val (.int d), .val (.ref x), .val (.int (-1 : Int32)), .val (.int (hxv b)), .val (.int (hxv c))] [.int (if (hxv b) < 0 ∨ (hxv c) < 0 then -1 else (hxv b) * 16 + (hxv c))]
      rw [show (if (hxv b) < 0 ∨ (hxv c) < 0 then -1 else (hxv b) * 16 + (hxv c)) = (-1 : Int32) from if_pos (Or.inr q2)]
      show Go _ _ _ _ _ _ _ _ _ _ _ _ _ _ 178 #[.val (.int i0), .val (.int i1), .val (.int i2), .val (.int i3), .val (.int i4), .val (.int i5), .val (.int (3 : Int32)), .val (.int (0 : Int32)), .val (.int (37 : Int32)), .val (.int b), .val (.int c), .val (.int d), .val (.ref x), .val (.int (-1 : Int32)), .val (.int (hxv b)), .val (.int (hxv c))] [.int (-1 : Int32)]
      refine go_iload (v := (-1 : Int32)) (q := 180) at_178 rfl rfl ?_
      refine go_icN (q := 183) at_180 rfl rfl ?_
      refine go_iconst (x := (1 : Int32)) (q := 184) at_183 rfl rfl ?_
      refine go_goto (q := 188) at_184 (by decide) (by decide) ?_
      exact go_ireturn H (G := []) (t := .boolean) rfl (by decide) rfl at_188 (by decide) (by decide) (fun _ q => nomatch q) rfl
    · refine go_ifN (q := 161) at_158 q2 rfl ?_
      refine go_iload (v := (hxv b)) (q := 163) at_161 rfl rfl ?_
      refine go_bipush (x := (16 : Int32)) (q := 165) at_163 rfl rfl ?_
      refine go_imul (r := (hxv b) * (16 : Int32)) (q := 166) at_165 rfl rfl ?_
      refine go_iload (v := (hxv c)) (q := 168) at_166 rfl rfl ?_
      refine go_iadd (r := ((hxv b) * (16 : Int32)) + (hxv c)) (q := 169) at_168 rfl rfl ?_
      refine go_istore (L' := #[.val (.int i0), .val (.int i1), .val (.int i2), .val (.int i3), .val (.int i4), .val (.int i5), .val (.int (3 : Int32)), .val (.int (0 : Int32)), .val (.int (37 : Int32)), .val (.int b), .val (.int c), .val (.int d), .val (.ref x), .val (.int (((hxv b) * (16 : Int32)) + (hxv c))), .val (.int (hxv b)), .val (.int (hxv c))]) (q := 171) at_169 rfl rfl ?_
      refine go_aload (v := .ref x) (q := 173) at_171 rfl rfl rfl ?_
      refine go_iload (v := (0 : Int32)) (q := 175) at_173 rfl rfl ?_
      refine go_static (c' := 18) (s' := 680) (q := 178) (S := []) (argsL := [.ref x, .int (0 : Int32)]) H (w_40 H) (w_41 H) (w_42 H) (w_43 H) (by decide) (rm_baY H US (cs := [(37 : Int32), b, c]) (k := 0) T hU (Nat.le_of_ble_eq_true rfl) (Nat.le_of_ble_eq_true rfl)) rfl rfl (lenOf pd_22 rfl) (fun _ q => nomatch q) rfl (by decide) (Nat.le_of_ble_eq_true rfl) rfl rfl (by decide) (by decide) at_175 rfl ?_
      rintro _ h2 G - ⟨rfl, K2⟩
      refine nx_ (v := none) ?_
      show Go _ _ _ _ _ _ _ _ _ _ _ _ _ _ 178 #[.val (.int i0), .val (.int i1), .val (.int i2), .val (.int i3), .val (.int i4), .val (.int i5), .val (.int (3 : Int32)), .val (.int (0 : Int32)), .val (.int (37 : Int32)), .val (.int b), .val (.int c), .val (.int d), .val (.ref x), .val (.int (((hxv b) * (16 : Int32)) + (hxv c))), .val (.int (hxv b)), .val (.int (hxv c))] [.int (if (hxv b) < 0 ∨ (hxv c) < 0 then -1 else (hxv b) * 16 + (hxv c))]
      rw [show (if (hxv b) < 0 ∨ (hxv c) < 0 then -1 else (hxv b) * 16 + (hxv c)) = ((hxv b) * 16 + (hxv c)) from if_neg (fun e => e.elim q1 q2)]
      show Go _ _ _ _ _ _ _ _ _ _ _ _ _ _ 178 #[.val (.int i0), .val (.int i1), .val (.int i2), .val (.int i3), .val (.int i4), .val (.int i5), .val (.int (3 : Int32)), .val (.int (0 : Int32)), .val (.int (37 : Int32)), .val (.int b), .val (.int c), .val (.int d), .val (.ref x), .val (.int (((hxv b) * (16 : Int32)) + (hxv c))), .val (.int (hxv b)), .val (.int (hxv c))] [.int ((hxv b) * 16 + (hxv c))]
      refine go_iload (v := ((hxv b) * (16 : Int32)) + (hxv c)) (q := 180) at_178 rfl rfl ?_
      refine go_icN (q := 183) at_180 rfl rfl ?_
      refine go_iconst (x := (1 : Int32)) (q := 184) at_183 rfl rfl ?_
      refine go_goto (q := 188) at_184 (by decide) (by decide) ?_
      exact go_ireturn H (G := []) (t := .boolean) rfl (by decide) rfl at_188 (by decide) (by decide) (fun _ q => nomatch q) rfl
set_option maxRecDepth 65536 in
set_option maxHeartbeats 8000000 in
theorem j42_3_1 {l : Launch} {Z : State} {a0 : Array Value} (H : Wd Z a0) {K : Cx} {h : Heap} {i0 i1 i2 i3 i4 i5 a b c d : Int32} (US : U16S Z) (pa : (¬ a < 0 ∧ ¬ 65535 < a)) (pb : (¬ b < 0 ∧ ¬ 65535 < b)) (pc : (¬ c < 0 ∧ ¬ 65535 < c)) (pd : (¬ d < 0 ∧ ¬ 65535 < d)) : GL l Z K h [] 8 464 42 #[.val (.int i0), .val (.int i1), .val (.int i2), .val (.int i3), .val (.int i4), .val (.int i5), .val (.int (3 : Int32)), .val (.int (1 : Int32)), .val (.int a), .val (.int b), .val (.int c), .val (.int d), .unset, .unset, .unset, .unset] [] := by
  refine go_iload (v := (1 : Int32)) (q := 44) at_42 rfl rfl ?_
  refine go_ifY (q := 54) at_44 (by decide) (by decide) (by decide) ?_
  refine go_iload (v := (1 : Int32)) (q := 56) at_54 rfl rfl ?_
  refine go_iconst (x := (1 : Int32)) (q := 57) at_56 rfl rfl ?_
  refine go_icN (q := 60) at_57 (by decide) rfl ?_
  refine go_bipush (x := (37 : Int32)) (q := 62) at_60 rfl rfl ?_
  refine go_istore (L' := #[.val (.int i0), .val (.int i1), .val (.int i2), .val (.int i3), .val (.int i4), .val (.int i5), .val (.int (3 : Int32)), .val (.int (1 : Int32)), .val (.int a), .val (.int (37 : Int32)), .val (.int c), .val (.int d), .unset, .unset, .unset, .unset]) (q := 64) at_62 rfl rfl ?_
  refine go_goto (q := 84) at_64 (by decide) (by decide) ?_
  refine go_iload (v := (3 : Int32)) (q := 86) at_84 rfl rfl ?_
  refine go_iload (v := a) (q := 88) at_86 rfl rfl ?_
  refine go_iload (v := (37 : Int32)) (q := 90) at_88 rfl rfl ?_
  refine go_iload (v := c) (q := 92) at_90 rfl rfl ?_
  refine go_iload (v := d) (q := 94) at_92 rfl rfl ?_
  refine go_static (c' := 14) (s' := 496) (q := 97) (S := []) (argsL := [.int (3 : Int32), .int a, .int (37 : Int32), .int c, .int d]) H (w_7 H) (w_8 H) (w_3 H) (w_9 H) (by decide) (rm_mk3 H US pa (by decide : ¬ (37 : Int32) < 0 ∧ ¬ 65535 < (37 : Int32)) pc pd) rfl rfl (lenOf pd_21 rfl) (fun _ q => nomatch q) rfl (by decide) (Nat.le_of_ble_eq_true rfl) rfl rfl (by decide) (by decide) at_94 rfl ?_
  rintro _ h1 G - ⟨x, rfl, K1, T⟩
  refine nx_ (v := none) ?_
  show Go _ _ _ _ _ _ _ _ _ _ _ _ _ _ 97 #[.val (.int i0), .val (.int i1), .val (.int i2), .val (.int i3), .val (.int i4), .val (.int i5), .val (.int (3 : Int32)), .val (.int (1 : Int32)), .val (.int a), .val (.int (37 : Int32)), .val (.int c), .val (.int d), .unset, .unset, .unset, .unset] [.ref x]
  refine go_astore (L' := #[.val (.int i0), .val (.int i1), .val (.int i2), .val (.int i3), .val (.int i4), .val (.int i5), .val (.int (3 : Int32)), .val (.int (1 : Int32)), .val (.int a), .val (.int (37 : Int32)), .val (.int c), .val (.int d), .val (.ref x), .unset, .unset, .unset]) (q := 99) at_97 rfl rfl rfl ?_
  refine go_iconst (x := (-1 : Int32)) (q := 100) at_99 rfl rfl ?_
  refine go_istore (L' := #[.val (.int i0), .val (.int i1), .val (.int i2), .val (.int i3), .val (.int i4), .val (.int i5), .val (.int (3 : Int32)), .val (.int (1 : Int32)), .val (.int a), .val (.int (37 : Int32)), .val (.int c), .val (.int d), .val (.ref x), .val (.int (-1 : Int32)), .unset, .unset]) (q := 102) at_100 rfl rfl ?_
  refine go_iload (v := (1 : Int32)) (q := 104) at_102 rfl rfl ?_
  refine go_iconst (x := (2 : Int32)) (q := 105) at_104 rfl rfl ?_
  refine go_iadd (r := (3 : Int32)) (q := 106) at_105 (by decide) rfl ?_
  refine go_iload (v := (3 : Int32)) (q := 108) at_106 rfl rfl ?_
  refine go_icY (q := 171) at_108 (by decide) (by decide) (by decide) ?_
  refine go_aload (v := .ref x) (q := 173) at_171 rfl rfl rfl ?_
  refine go_iload (v := (1 : Int32)) (q := 175) at_173 rfl rfl ?_
  refine go_static (c' := 18) (s' := 680) (q := 178) (S := []) (argsL := [.ref x, .int (1 : Int32)]) H (w_40 H) (w_41 H) (w_42 H) (w_43 H) (by decide) (rm_baN H (cs := [a, (37 : Int32), c]) (k := 1) T (Nat.le_of_ble_eq_true rfl) (by decide) (Nat.not_lt.mpr (Nat.le_of_ble_eq_true rfl))) rfl rfl (lenOf pd_22 rfl) (fun _ q => nomatch q) rfl (by decide) (Nat.le_of_ble_eq_true rfl) rfl rfl (by decide) (by decide) at_175 rfl ?_
  rintro _ h2 G - ⟨rfl, K2⟩
  refine nx_ (v := none) ?_
  show Go _ _ _ _ _ _ _ _ _ _ _ _ _ _ 178 #[.val (.int i0), .val (.int i1), .val (.int i2), .val (.int i3), .val (.int i4), .val (.int i5), .val (.int (3 : Int32)), .val (.int (1 : Int32)), .val (.int a), .val (.int (37 : Int32)), .val (.int c), .val (.int d), .val (.ref x), .val (.int (-1 : Int32)), .unset, .unset] [.int (-1 : Int32)]
  refine go_iload (v := (-1 : Int32)) (q := 180) at_178 rfl rfl ?_
  refine go_icN (q := 183) at_180 (by decide) rfl ?_
  refine go_iconst (x := (1 : Int32)) (q := 184) at_183 rfl rfl ?_
  refine go_goto (q := 188) at_184 (by decide) (by decide) ?_
  exact go_ireturn H (G := []) (t := .boolean) rfl (by decide) rfl at_188 (by decide) (by decide) (fun _ q => nomatch q) rfl
set_option maxRecDepth 65536 in
set_option maxHeartbeats 8000000 in
theorem j42_3_2 {l : Launch} {Z : State} {a0 : Array Value} (H : Wd Z a0) {K : Cx} {h : Heap} {i0 i1 i2 i3 i4 i5 a b c d : Int32} (US : U16S Z) (pa : (¬ a < 0 ∧ ¬ 65535 < a)) (pb : (¬ b < 0 ∧ ¬ 65535 < b)) (pc : (¬ c < 0 ∧ ¬ 65535 < c)) (pd : (¬ d < 0 ∧ ¬ 65535 < d)) : GL l Z K h [] 8 464 42 #[.val (.int i0), .val (.int i1), .val (.int i2), .val (.int i3), .val (.int i4), .val (.int i5), .val (.int (3 : Int32)), .val (.int (2 : Int32)), .val (.int a), .val (.int b), .val (.int c), .val (.int d), .unset, .unset, .unset, .unset] [] := by
  refine go_iload (v := (2 : Int32)) (q := 44) at_42 rfl rfl ?_
  refine go_ifY (q := 54) at_44 (by decide) (by decide) (by decide) ?_
  refine go_iload (v := (2 : Int32)) (q := 56) at_54 rfl rfl ?_
  refine go_iconst (x := (1 : Int32)) (q := 57) at_56 rfl rfl ?_
  refine go_icY (q := 67) at_57 (by decide) (by decide) (by decide) ?_
  refine go_iload (v := (2 : Int32)) (q := 69) at_67 rfl rfl ?_
  refine go_iconst (x := (2 : Int32)) (q := 70) at_69 rfl rfl ?_
  refine go_icN (q := 73) at_70 (by decide) rfl ?_
  refine go_bipush (x := (37 : Int32)) (q := 75) at_73 rfl rfl ?_
  refine go_istore (L' := #[.val (.int i0), .val (.int i1), .val (.int i2), .val (.int i3), .val (.int i4), .val (.int i5), .val (.int (3 : Int32)), .val (.int (2 : Int32)), .val (.int a), .val (.int b), .val (.int (37 : Int32)), .val (.int d), .unset, .unset, .unset, .unset]) (q := 77) at_75 rfl rfl ?_
  refine go_goto (q := 84) at_77 (by decide) (by decide) ?_
  refine go_iload (v := (3 : Int32)) (q := 86) at_84 rfl rfl ?_
  refine go_iload (v := a) (q := 88) at_86 rfl rfl ?_
  refine go_iload (v := b) (q := 90) at_88 rfl rfl ?_
  refine go_iload (v := (37 : Int32)) (q := 92) at_90 rfl rfl ?_
  refine go_iload (v := d) (q := 94) at_92 rfl rfl ?_
  refine go_static (c' := 14) (s' := 496) (q := 97) (S := []) (argsL := [.int (3 : Int32), .int a, .int b, .int (37 : Int32), .int d]) H (w_7 H) (w_8 H) (w_3 H) (w_9 H) (by decide) (rm_mk3 H US pa pb (by decide : ¬ (37 : Int32) < 0 ∧ ¬ 65535 < (37 : Int32)) pd) rfl rfl (lenOf pd_21 rfl) (fun _ q => nomatch q) rfl (by decide) (Nat.le_of_ble_eq_true rfl) rfl rfl (by decide) (by decide) at_94 rfl ?_
  rintro _ h1 G - ⟨x, rfl, K1, T⟩
  refine nx_ (v := none) ?_
  show Go _ _ _ _ _ _ _ _ _ _ _ _ _ _ 97 #[.val (.int i0), .val (.int i1), .val (.int i2), .val (.int i3), .val (.int i4), .val (.int i5), .val (.int (3 : Int32)), .val (.int (2 : Int32)), .val (.int a), .val (.int b), .val (.int (37 : Int32)), .val (.int d), .unset, .unset, .unset, .unset] [.ref x]
  refine go_astore (L' := #[.val (.int i0), .val (.int i1), .val (.int i2), .val (.int i3), .val (.int i4), .val (.int i5), .val (.int (3 : Int32)), .val (.int (2 : Int32)), .val (.int a), .val (.int b), .val (.int (37 : Int32)), .val (.int d), .val (.ref x), .unset, .unset, .unset]) (q := 99) at_97 rfl rfl rfl ?_
  refine go_iconst (x := (-1 : Int32)) (q := 100) at_99 rfl rfl ?_
  refine go_istore (L' := #[.val (.int i0), .val (.int i1), .val (.int i2), .val (.int i3), .val (.int i4), .val (.int i5), .val (.int (3 : Int32)), .val (.int (2 : Int32)), .val (.int a), .val (.int b), .val (.int (37 : Int32)), .val (.int d), .val (.ref x), .val (.int (-1 : Int32)), .unset, .unset]) (q := 102) at_100 rfl rfl ?_
  refine go_iload (v := (2 : Int32)) (q := 104) at_102 rfl rfl ?_
  refine go_iconst (x := (2 : Int32)) (q := 105) at_104 rfl rfl ?_
  refine go_iadd (r := (4 : Int32)) (q := 106) at_105 (by decide) rfl ?_
  refine go_iload (v := (3 : Int32)) (q := 108) at_106 rfl rfl ?_
  refine go_icY (q := 171) at_108 (by decide) (by decide) (by decide) ?_
  refine go_aload (v := .ref x) (q := 173) at_171 rfl rfl rfl ?_
  refine go_iload (v := (2 : Int32)) (q := 175) at_173 rfl rfl ?_
  refine go_static (c' := 18) (s' := 680) (q := 178) (S := []) (argsL := [.ref x, .int (2 : Int32)]) H (w_40 H) (w_41 H) (w_42 H) (w_43 H) (by decide) (rm_baN H (cs := [a, b, (37 : Int32)]) (k := 2) T (Nat.le_of_ble_eq_true rfl) (by decide) (Nat.not_lt.mpr (Nat.le_of_ble_eq_true rfl))) rfl rfl (lenOf pd_22 rfl) (fun _ q => nomatch q) rfl (by decide) (Nat.le_of_ble_eq_true rfl) rfl rfl (by decide) (by decide) at_175 rfl ?_
  rintro _ h2 G - ⟨rfl, K2⟩
  refine nx_ (v := none) ?_
  show Go _ _ _ _ _ _ _ _ _ _ _ _ _ _ 178 #[.val (.int i0), .val (.int i1), .val (.int i2), .val (.int i3), .val (.int i4), .val (.int i5), .val (.int (3 : Int32)), .val (.int (2 : Int32)), .val (.int a), .val (.int b), .val (.int (37 : Int32)), .val (.int d), .val (.ref x), .val (.int (-1 : Int32)), .unset, .unset] [.int (-1 : Int32)]
  refine go_iload (v := (-1 : Int32)) (q := 180) at_178 rfl rfl ?_
  refine go_icN (q := 183) at_180 (by decide) rfl ?_
  refine go_iconst (x := (1 : Int32)) (q := 184) at_183 rfl rfl ?_
  refine go_goto (q := 188) at_184 (by decide) (by decide) ?_
  exact go_ireturn H (G := []) (t := .boolean) rfl (by decide) rfl at_188 (by decide) (by decide) (fun _ q => nomatch q) rfl
set_option maxRecDepth 65536 in
set_option maxHeartbeats 8000000 in
theorem j42_4_0 {l : Launch} {Z : State} {a0 : Array Value} (H : Wd Z a0) {K : Cx} {h : Heap} {i0 i1 i2 i3 i4 i5 a b c d : Int32} (US : U16S Z) (pa : (¬ a < 0 ∧ ¬ 65535 < a)) (pb : (¬ b < 0 ∧ ¬ 65535 < b)) (pc : (¬ c < 0 ∧ ¬ 65535 < c)) (pd : (¬ d < 0 ∧ ¬ 65535 < d)) : GL l Z K h [] 8 464 42 #[.val (.int i0), .val (.int i1), .val (.int i2), .val (.int i3), .val (.int i4), .val (.int i5), .val (.int (4 : Int32)), .val (.int (0 : Int32)), .val (.int a), .val (.int b), .val (.int c), .val (.int d), .unset, .unset, .unset, .unset] [] := by
  refine go_iload (v := (0 : Int32)) (q := 44) at_42 rfl rfl ?_
  refine go_ifN (q := 47) at_44 (by decide) rfl ?_
  refine go_bipush (x := (37 : Int32)) (q := 49) at_47 rfl rfl ?_
  refine go_istore (L' := #[.val (.int i0), .val (.int i1), .val (.int i2), .val (.int i3), .val (.int i4), .val (.int i5), .val (.int (4 : Int32)), .val (.int (0 : Int32)), .val (.int (37 : Int32)), .val (.int b), .val (.int c), .val (.int d), .unset, .unset, .unset, .unset]) (q := 51) at_49 rfl rfl ?_
  refine go_goto (q := 84) at_51 (by decide) (by decide) ?_
  refine go_iload (v := (4 : Int32)) (q := 86) at_84 rfl rfl ?_
  refine go_iload (v := (37 : Int32)) (q := 88) at_86 rfl rfl ?_
  refine go_iload (v := b) (q := 90) at_88 rfl rfl ?_
  refine go_iload (v := c) (q := 92) at_90 rfl rfl ?_
  refine go_iload (v := d) (q := 94) at_92 rfl rfl ?_
  refine go_static (c' := 14) (s' := 496) (q := 97) (S := []) (argsL := [.int (4 : Int32), .int (37 : Int32), .int b, .int c, .int d]) H (w_7 H) (w_8 H) (w_3 H) (w_9 H) (by decide) (rm_mk4 H US (by decide : ¬ (37 : Int32) < 0 ∧ ¬ 65535 < (37 : Int32)) pb pc pd) rfl rfl (lenOf pd_21 rfl) (fun _ q => nomatch q) rfl (by decide) (Nat.le_of_ble_eq_true rfl) rfl rfl (by decide) (by decide) at_94 rfl ?_
  rintro _ h1 G - ⟨x, rfl, K1, T⟩
  refine nx_ (v := none) ?_
  show Go _ _ _ _ _ _ _ _ _ _ _ _ _ _ 97 #[.val (.int i0), .val (.int i1), .val (.int i2), .val (.int i3), .val (.int i4), .val (.int i5), .val (.int (4 : Int32)), .val (.int (0 : Int32)), .val (.int (37 : Int32)), .val (.int b), .val (.int c), .val (.int d), .unset, .unset, .unset, .unset] [.ref x]
  refine go_astore (L' := #[.val (.int i0), .val (.int i1), .val (.int i2), .val (.int i3), .val (.int i4), .val (.int i5), .val (.int (4 : Int32)), .val (.int (0 : Int32)), .val (.int (37 : Int32)), .val (.int b), .val (.int c), .val (.int d), .val (.ref x), .unset, .unset, .unset]) (q := 99) at_97 rfl rfl rfl ?_
  refine go_iconst (x := (-1 : Int32)) (q := 100) at_99 rfl rfl ?_
  refine go_istore (L' := #[.val (.int i0), .val (.int i1), .val (.int i2), .val (.int i3), .val (.int i4), .val (.int i5), .val (.int (4 : Int32)), .val (.int (0 : Int32)), .val (.int (37 : Int32)), .val (.int b), .val (.int c), .val (.int d), .val (.ref x), .val (.int (-1 : Int32)), .unset, .unset]) (q := 102) at_100 rfl rfl ?_
  refine go_iload (v := (0 : Int32)) (q := 104) at_102 rfl rfl ?_
  refine go_iconst (x := (2 : Int32)) (q := 105) at_104 rfl rfl ?_
  refine go_iadd (r := (2 : Int32)) (q := 106) at_105 (by decide) rfl ?_
  refine go_iload (v := (4 : Int32)) (q := 108) at_106 rfl rfl ?_
  refine go_icN (q := 111) at_108 (by decide) rfl ?_
  refine go_iload (v := (0 : Int32)) (q := 113) at_111 rfl rfl ?_
  refine go_iconst (x := (1 : Int32)) (q := 114) at_113 rfl rfl ?_
  refine go_iadd (r := (1 : Int32)) (q := 115) at_114 (by decide) rfl ?_
  refine go_iload (v := (37 : Int32)) (q := 117) at_115 rfl rfl ?_
  refine go_iload (v := b) (q := 119) at_117 rfl rfl ?_
  refine go_iload (v := c) (q := 121) at_119 rfl rfl ?_
  refine go_iload (v := d) (q := 123) at_121 rfl rfl ?_
  refine go_static (c' := 14) (s' := 496) (q := 126) (S := []) (argsL := [.int (1 : Int32), .int (37 : Int32), .int b, .int c, .int d]) H (w_98 H) (w_99 H) (w_3 H) (w_100 H) (by decide) (rm_pk1 H pb) rfl rfl (lenOf pd_23 rfl) (fun _ q => nomatch q) rfl (by decide) (Nat.le_of_ble_eq_true rfl) rfl rfl (by decide) (by decide) at_123 rfl ?_
  rintro _ _ G - ⟨rfl, rfl⟩
  refine nx_ (v := none) ?_
  show Go _ _ _ _ _ _ _ _ _ _ _ _ _ _ 126 #[.val (.int i0), .val (.int i1), .val (.int i2), .val (.int i3), .val (.int i4), .val (.int i5), .val (.int (4 : Int32)), .val (.int (0 : Int32)), .val (.int (37 : Int32)), .val (.int b), .val (.int c), .val (.int d), .val (.ref x), .val (.int (-1 : Int32)), .unset, .unset] [.int b]
  refine go_static (c' := 14) (s' := 496) (q := 129) (S := []) (argsL := [.int b]) H (w_101 H) (w_102 H) (w_3 H) (w_103 H) (by decide) (rm_hx H) rfl rfl (lenOf pd_3 rfl) (fun _ q => nomatch q) rfl (by decide) (Nat.le_of_ble_eq_true rfl) rfl rfl (by decide) (by decide) at_126 rfl ?_
  rintro _ _ G - ⟨rfl, rfl⟩
  refine nx_ (v := none) ?_
  show Go _ _ _ _ _ _ _ _ _ _ _ _ _ _ 129 #[.val (.int i0), .val (.int i1), .val (.int i2), .val (.int i3), .val (.int i4), .val (.int i5), .val (.int (4 : Int32)), .val (.int (0 : Int32)), .val (.int (37 : Int32)), .val (.int b), .val (.int c), .val (.int d), .val (.ref x), .val (.int (-1 : Int32)), .unset, .unset] [.int (hxv b)]
  refine go_istore (L' := #[.val (.int i0), .val (.int i1), .val (.int i2), .val (.int i3), .val (.int i4), .val (.int i5), .val (.int (4 : Int32)), .val (.int (0 : Int32)), .val (.int (37 : Int32)), .val (.int b), .val (.int c), .val (.int d), .val (.ref x), .val (.int (-1 : Int32)), .val (.int (hxv b)), .unset]) (q := 131) at_129 rfl rfl ?_
  refine go_iload (v := (0 : Int32)) (q := 133) at_131 rfl rfl ?_
  refine go_iconst (x := (2 : Int32)) (q := 134) at_133 rfl rfl ?_
  refine go_iadd (r := (2 : Int32)) (q := 135) at_134 (by decide) rfl ?_
  refine go_iload (v := (37 : Int32)) (q := 137) at_135 rfl rfl ?_
  refine go_iload (v := b) (q := 139) at_137 rfl rfl ?_
  refine go_iload (v := c) (q := 141) at_139 rfl rfl ?_
  refine go_iload (v := d) (q := 143) at_141 rfl rfl ?_
  refine go_static (c' := 14) (s' := 496) (q := 146) (S := []) (argsL := [.int (2 : Int32), .int (37 : Int32), .int b, .int c, .int d]) H (w_98 H) (w_99 H) (w_3 H) (w_100 H) (by decide) (rm_pk2 H pc) rfl rfl (lenOf pd_23 rfl) (fun _ q => nomatch q) rfl (by decide) (Nat.le_of_ble_eq_true rfl) rfl rfl (by decide) (by decide) at_143 rfl ?_
  rintro _ _ G - ⟨rfl, rfl⟩
  refine nx_ (v := none) ?_
  show Go _ _ _ _ _ _ _ _ _ _ _ _ _ _ 146 #[.val (.int i0), .val (.int i1), .val (.int i2), .val (.int i3), .val (.int i4), .val (.int i5), .val (.int (4 : Int32)), .val (.int (0 : Int32)), .val (.int (37 : Int32)), .val (.int b), .val (.int c), .val (.int d), .val (.ref x), .val (.int (-1 : Int32)), .val (.int (hxv b)), .unset] [.int c]
  refine go_static (c' := 14) (s' := 496) (q := 149) (S := []) (argsL := [.int c]) H (w_101 H) (w_102 H) (w_3 H) (w_103 H) (by decide) (rm_hx H) rfl rfl (lenOf pd_3 rfl) (fun _ q => nomatch q) rfl (by decide) (Nat.le_of_ble_eq_true rfl) rfl rfl (by decide) (by decide) at_146 rfl ?_
  rintro _ _ G - ⟨rfl, rfl⟩
  refine nx_ (v := none) ?_
  show Go _ _ _ _ _ _ _ _ _ _ _ _ _ _ 149 #[.val (.int i0), .val (.int i1), .val (.int i2), .val (.int i3), .val (.int i4), .val (.int i5), .val (.int (4 : Int32)), .val (.int (0 : Int32)), .val (.int (37 : Int32)), .val (.int b), .val (.int c), .val (.int d), .val (.ref x), .val (.int (-1 : Int32)), .val (.int (hxv b)), .unset] [.int (hxv c)]
  refine go_istore (L' := #[.val (.int i0), .val (.int i1), .val (.int i2), .val (.int i3), .val (.int i4), .val (.int i5), .val (.int (4 : Int32)), .val (.int (0 : Int32)), .val (.int (37 : Int32)), .val (.int b), .val (.int c), .val (.int d), .val (.ref x), .val (.int (-1 : Int32)), .val (.int (hxv b)), .val (.int (hxv c))]) (q := 151) at_149 rfl rfl ?_
  refine go_iload (v := (hxv b)) (q := 153) at_151 rfl rfl ?_
  have hU : U16 [(37 : Int32), b, c, d] := ⟨Nat.le_of_ble_eq_true rfl, (by intro c hc; simp only [List.mem_cons, List.not_mem_nil, or_false] at hc; rcases hc with rfl | rfl | rfl | rfl <;> first | exact (by decide : ¬ (37 : Int32) < 0 ∧ ¬ 65535 < (37 : Int32)) | exact pb | exact pc | exact pd)⟩
  by_cases q1 : (hxv b) < 0
  · refine go_ifY (q := 171) at_153 q1 (by decide) (by decide) ?_
    refine go_aload (v := .ref x) (q := 173) at_171 rfl rfl rfl ?_
    refine go_iload (v := (0 : Int32)) (q := 175) at_173 rfl rfl ?_
    refine go_static (c' := 18) (s' := 680) (q := 178) (S := []) (argsL := [.ref x, .int (0 : Int32)]) H (w_40 H) (w_41 H) (w_42 H) (w_43 H) (by decide) (rm_baY H US (cs := [(37 : Int32), b, c, d]) (k := 0) T hU (Nat.le_of_ble_eq_true rfl) (Nat.le_of_ble_eq_true rfl)) rfl rfl (lenOf pd_22 rfl) (fun _ q => nomatch q) rfl (by decide) (Nat.le_of_ble_eq_true rfl) rfl rfl (by decide) (by decide) at_175 rfl ?_
    rintro _ h2 G - ⟨rfl, K2⟩
    refine nx_ (v := none) ?_
    show Go _ _ _ _ _ _ _ _ _ _ _ _ _ _ 178 #[.val (.int i0), .val (.int i1), .val (.int i2), .val (.int i3), .val (.int i4), .val (.int i5), .val (.int (4 : Int32)), .val (.int (0 : Int32)), .val (.int (37 : Int32)), .val (.int b), .val (.int c), .val (.int d), .val (.ref x), .val (.int (-1 : Int32)), .val (.int (hxv b)), .val (.int (hxv c))] [.int (if (hxv b) < 0 ∨ (hxv c) < 0 then -1 else (hxv b) * 16 + (hxv c))]
    rw [show (if (hxv b) < 0 ∨ (hxv c) < 0 then -1 else (hxv b) * 16 + (hxv c)) = (-1 : Int32) from if_pos (Or.inl q1)]
    show Go _ _ _ _ _ _ _ _ _ _ _ _ _ _ 178 #[.val (.int i0), .val (.int i1), .val (.int i2), .val (.int i3), .val (.int i4), .val (.int i5), .val (.int (4 : Int32)), .val (.int (0 : Int32)), .val (.int (37 : Int32)), .val (.int b), .val (.int c), .val (.int d), .val (.ref x), .val (.int (-1 : Int32)), .val (.int (hxv b)), .val (.int (hxv c))] [.int (-1 : Int32)]
    refine go_iload (v := (-1 : Int32)) (q := 180) at_178 rfl rfl ?_
    refine go_icN (q := 183) at_180 rfl rfl ?_
    refine go_iconst (x := (1 : Int32)) (q := 184) at_183 rfl rfl ?_
    refine go_goto (q := 188) at_184 (by decide) (by decide) ?_
    exact go_ireturn H (G := []) (t := .boolean) rfl (by decide) rfl at_188 (by decide) (by decide) (fun _ q => nomatch q) rfl
  · refine go_ifN (q := 156) at_153 q1 rfl ?_
    refine go_iload (v := (hxv c)) (q := 158) at_156 rfl rfl ?_
    by_cases q2 : (hxv c) < 0
    · refine go_ifY (q := 171) at_158 q2 (by decide) (by decide) ?_
      refine go_aload (v := .ref x) (q := 173) at_171 rfl rfl rfl ?_
      refine go_iload (v := (0 : Int32)) (q := 175) at_173 rfl rfl ?_
      refine go_static (c' := 18) (s' := 680) (q := 178) (S := []) (argsL := [.ref x, .int (0 : Int32)]) H (w_40 H) (w_41 H) (w_42 H) (w_43 H) (by decide) (rm_baY H US (cs := [(37 : Int32), b, c, d]) (k := 0) T hU (Nat.le_of_ble_eq_true rfl) (Nat.le_of_ble_eq_true rfl)) rfl rfl (lenOf pd_22 rfl) (fun _ q => nomatch q) rfl (by decide) (Nat.le_of_ble_eq_true rfl) rfl rfl (by decide) (by decide) at_175 rfl ?_
      rintro _ h2 G - ⟨rfl, K2⟩
      refine nx_ (v := none) ?_
      show Go _ _ _ _ _ _ _ _ _ _ _ _ _ _ 178 #[.val (.int i0), .val (.int i1), .val (.int i2), .val (.int i3), .val (.int i4), .val (.int i5), .val (.int (4 : Int32)), .val (.int (0 : Int32)), .val (.int (37 : Int32)), .val (.int b), .val (.int c), .val (.int d), .val (.ref x), .val (.int (-1 : Int32)), .val (.int (hxv b)), .val (.int (hxv c))] [.int (if (hxv b) < 0 ∨ (hxv c) < 0 then -1 else (hxv b) * 16 + (hxv c))]
      rw [show (if (hxv b) < 0 ∨ (hxv c) < 0 then -1 else (hxv b) * 16 + (hxv c)) = (-1 : Int32) from if_pos (Or.inr q2)]
      show Go _ _ _ _ _ _ _ _ _ _ _ _ _ _ 178 #[.val (.int i0), .val (.int i1), .val (.int i2), .val (.int i3), .val (.int i4), .val (.int i5), .val (.int (4 : Int32)), .val (.int (0 : Int32)), .val (.int (37 : Int32)), .val (.int b), .val (.int c), .val (.int d), .val (.ref x), .val (.int (-1 : Int32)), .val (.int (hxv b)), .val (.int (hxv c))] [.int (-1 : Int32)]
      refine go_iload (v := (-1 : Int32)) (q := 180) at_178 rfl rfl ?_
      refine go_icN (q := 183) at_180 rfl rfl ?_
      refine go_iconst (x := (1 : Int32)) (q := 184) at_183 rfl rfl ?_
      refine go_goto (q := 188) at_184 (by decide) (by decide) ?_
      exact go_ireturn H (G := []) (t := .boolean) rfl (by decide) rfl at_188 (by decide) (by decide) (fun _ q => nomatch q) rfl
    · refine go_ifN (q := 161) at_158 q2 rfl ?_
      refine go_iload (v := (hxv b)) (q := 163) at_161 rfl rfl ?_
      refine go_bipush (x := (16 : Int32)) (q := 165) at_163 rfl rfl ?_
      refine go_imul (r := (hxv b) * (16 : Int32)) (q := 166) at_165 rfl rfl ?_
      refine go_iload (v := (hxv c)) (q := 168) at_166 rfl rfl ?_
      refine go_iadd (r := ((hxv b) * (16 : Int32)) + (hxv c)) (q := 169) at_168 rfl rfl ?_
      refine go_istore (L' := #[.val (.int i0), .val (.int i1), .val (.int i2), .val (.int i3), .val (.int i4), .val (.int i5), .val (.int (4 : Int32)), .val (.int (0 : Int32)), .val (.int (37 : Int32)), .val (.int b), .val (.int c), .val (.int d), .val (.ref x), .val (.int (((hxv b) * (16 : Int32)) + (hxv c))), .val (.int (hxv b)), .val (.int (hxv c))]) (q := 171) at_169 rfl rfl ?_
      refine go_aload (v := .ref x) (q := 173) at_171 rfl rfl rfl ?_
      refine go_iload (v := (0 : Int32)) (q := 175) at_173 rfl rfl ?_
      refine go_static (c' := 18) (s' := 680) (q := 178) (S := []) (argsL := [.ref x, .int (0 : Int32)]) H (w_40 H) (w_41 H) (w_42 H) (w_43 H) (by decide) (rm_baY H US (cs := [(37 : Int32), b, c, d]) (k := 0) T hU (Nat.le_of_ble_eq_true rfl) (Nat.le_of_ble_eq_true rfl)) rfl rfl (lenOf pd_22 rfl) (fun _ q => nomatch q) rfl (by decide) (Nat.le_of_ble_eq_true rfl) rfl rfl (by decide) (by decide) at_175 rfl ?_
      rintro _ h2 G - ⟨rfl, K2⟩
      refine nx_ (v := none) ?_
      show Go _ _ _ _ _ _ _ _ _ _ _ _ _ _ 178 #[.val (.int i0), .val (.int i1), .val (.int i2), .val (.int i3), .val (.int i4), .val (.int i5), .val (.int (4 : Int32)), .val (.int (0 : Int32)), .val (.int (37 : Int32)), .val (.int b), .val (.int c), .val (.int d), .val (.ref x), .val (.int (((hxv b) * (16 : Int32)) + (hxv c))), .val (.int (hxv b)), .val (.int (hxv c))] [.int (if (hxv b) < 0 ∨ (hxv c) < 0 then -1 else (hxv b) * 16 + (hxv c))]
      rw [show (if (hxv b) < 0 ∨ (hxv c) < 0 then -1 else (hxv b) * 16 + (hxv c)) = ((hxv b) * 16 + (hxv c)) from if_neg (fun e => e.elim q1 q2)]
      show Go _ _ _ _ _ _ _ _ _ _ _ _ _ _ 178 #[.val (.int i0), .val (.int i1), .val (.int i2), .val (.int i3), .val (.int i4), .val (.int i5), .val (.int (4 : Int32)), .val (.int (0 : Int32)), .val (.int (37 : Int32)), .val (.int b), .val (.int c), .val (.int d), .val (.ref x), .val (.int (((hxv b) * (16 : Int32)) + (hxv c))), .val (.int (hxv b)), .val (.int (hxv c))] [.int ((hxv b) * 16 + (hxv c))]
      refine go_iload (v := ((hxv b) * (16 : Int32)) + (hxv c)) (q := 180) at_178 rfl rfl ?_
      refine go_icN (q := 183) at_180 rfl rfl ?_
      refine go_iconst (x := (1 : Int32)) (q := 184) at_183 rfl rfl ?_
      refine go_goto (q := 188) at_184 (by decide) (by decide) ?_
      exact go_ireturn H (G := []) (t := .boolean) rfl (by decide) rfl at_188 (by decide) (by decide) (fun _ q => nomatch q) rfl
set_option maxRecDepth 65536 in
set_option maxHeartbeats 8000000 in
theorem j42_4_1 {l : Launch} {Z : State} {a0 : Array Value} (H : Wd Z a0) {K : Cx} {h : Heap} {i0 i1 i2 i3 i4 i5 a b c d : Int32} (US : U16S Z) (pa : (¬ a < 0 ∧ ¬ 65535 < a)) (pb : (¬ b < 0 ∧ ¬ 65535 < b)) (pc : (¬ c < 0 ∧ ¬ 65535 < c)) (pd : (¬ d < 0 ∧ ¬ 65535 < d)) : GL l Z K h [] 8 464 42 #[.val (.int i0), .val (.int i1), .val (.int i2), .val (.int i3), .val (.int i4), .val (.int i5), .val (.int (4 : Int32)), .val (.int (1 : Int32)), .val (.int a), .val (.int b), .val (.int c), .val (.int d), .unset, .unset, .unset, .unset] [] := by
  refine go_iload (v := (1 : Int32)) (q := 44) at_42 rfl rfl ?_
  refine go_ifY (q := 54) at_44 (by decide) (by decide) (by decide) ?_
  refine go_iload (v := (1 : Int32)) (q := 56) at_54 rfl rfl ?_
  refine go_iconst (x := (1 : Int32)) (q := 57) at_56 rfl rfl ?_
  refine go_icN (q := 60) at_57 (by decide) rfl ?_
  refine go_bipush (x := (37 : Int32)) (q := 62) at_60 rfl rfl ?_
  refine go_istore (L' := #[.val (.int i0), .val (.int i1), .val (.int i2), .val (.int i3), .val (.int i4), .val (.int i5), .val (.int (4 : Int32)), .val (.int (1 : Int32)), .val (.int a), .val (.int (37 : Int32)), .val (.int c), .val (.int d), .unset, .unset, .unset, .unset]) (q := 64) at_62 rfl rfl ?_
  refine go_goto (q := 84) at_64 (by decide) (by decide) ?_
  refine go_iload (v := (4 : Int32)) (q := 86) at_84 rfl rfl ?_
  refine go_iload (v := a) (q := 88) at_86 rfl rfl ?_
  refine go_iload (v := (37 : Int32)) (q := 90) at_88 rfl rfl ?_
  refine go_iload (v := c) (q := 92) at_90 rfl rfl ?_
  refine go_iload (v := d) (q := 94) at_92 rfl rfl ?_
  refine go_static (c' := 14) (s' := 496) (q := 97) (S := []) (argsL := [.int (4 : Int32), .int a, .int (37 : Int32), .int c, .int d]) H (w_7 H) (w_8 H) (w_3 H) (w_9 H) (by decide) (rm_mk4 H US pa (by decide : ¬ (37 : Int32) < 0 ∧ ¬ 65535 < (37 : Int32)) pc pd) rfl rfl (lenOf pd_21 rfl) (fun _ q => nomatch q) rfl (by decide) (Nat.le_of_ble_eq_true rfl) rfl rfl (by decide) (by decide) at_94 rfl ?_
  rintro _ h1 G - ⟨x, rfl, K1, T⟩
  refine nx_ (v := none) ?_
  show Go _ _ _ _ _ _ _ _ _ _ _ _ _ _ 97 #[.val (.int i0), .val (.int i1), .val (.int i2), .val (.int i3), .val (.int i4), .val (.int i5), .val (.int (4 : Int32)), .val (.int (1 : Int32)), .val (.int a), .val (.int (37 : Int32)), .val (.int c), .val (.int d), .unset, .unset, .unset, .unset] [.ref x]
  refine go_astore (L' := #[.val (.int i0), .val (.int i1), .val (.int i2), .val (.int i3), .val (.int i4), .val (.int i5), .val (.int (4 : Int32)), .val (.int (1 : Int32)), .val (.int a), .val (.int (37 : Int32)), .val (.int c), .val (.int d), .val (.ref x), .unset, .unset, .unset]) (q := 99) at_97 rfl rfl rfl ?_
  refine go_iconst (x := (-1 : Int32)) (q := 100) at_99 rfl rfl ?_
  refine go_istore (L' := #[.val (.int i0), .val (.int i1), .val (.int i2), .val (.int i3), .val (.int i4), .val (.int i5), .val (.int (4 : Int32)), .val (.int (1 : Int32)), .val (.int a), .val (.int (37 : Int32)), .val (.int c), .val (.int d), .val (.ref x), .val (.int (-1 : Int32)), .unset, .unset]) (q := 102) at_100 rfl rfl ?_
  refine go_iload (v := (1 : Int32)) (q := 104) at_102 rfl rfl ?_
  refine go_iconst (x := (2 : Int32)) (q := 105) at_104 rfl rfl ?_
  refine go_iadd (r := (3 : Int32)) (q := 106) at_105 (by decide) rfl ?_
  refine go_iload (v := (4 : Int32)) (q := 108) at_106 rfl rfl ?_
  refine go_icN (q := 111) at_108 (by decide) rfl ?_
  refine go_iload (v := (1 : Int32)) (q := 113) at_111 rfl rfl ?_
  refine go_iconst (x := (1 : Int32)) (q := 114) at_113 rfl rfl ?_
  refine go_iadd (r := (2 : Int32)) (q := 115) at_114 (by decide) rfl ?_
  refine go_iload (v := a) (q := 117) at_115 rfl rfl ?_
  refine go_iload (v := (37 : Int32)) (q := 119) at_117 rfl rfl ?_
  refine go_iload (v := c) (q := 121) at_119 rfl rfl ?_
  refine go_iload (v := d) (q := 123) at_121 rfl rfl ?_
  refine go_static (c' := 14) (s' := 496) (q := 126) (S := []) (argsL := [.int (2 : Int32), .int a, .int (37 : Int32), .int c, .int d]) H (w_98 H) (w_99 H) (w_3 H) (w_100 H) (by decide) (rm_pk2 H pc) rfl rfl (lenOf pd_23 rfl) (fun _ q => nomatch q) rfl (by decide) (Nat.le_of_ble_eq_true rfl) rfl rfl (by decide) (by decide) at_123 rfl ?_
  rintro _ _ G - ⟨rfl, rfl⟩
  refine nx_ (v := none) ?_
  show Go _ _ _ _ _ _ _ _ _ _ _ _ _ _ 126 #[.val (.int i0), .val (.int i1), .val (.int i2), .val (.int i3), .val (.int i4), .val (.int i5), .val (.int (4 : Int32)), .val (.int (1 : Int32)), .val (.int a), .val (.int (37 : Int32)), .val (.int c), .val (.int d), .val (.ref x), .val (.int (-1 : Int32)), .unset, .unset] [.int c]
  refine go_static (c' := 14) (s' := 496) (q := 129) (S := []) (argsL := [.int c]) H (w_101 H) (w_102 H) (w_3 H) (w_103 H) (by decide) (rm_hx H) rfl rfl (lenOf pd_3 rfl) (fun _ q => nomatch q) rfl (by decide) (Nat.le_of_ble_eq_true rfl) rfl rfl (by decide) (by decide) at_126 rfl ?_
  rintro _ _ G - ⟨rfl, rfl⟩
  refine nx_ (v := none) ?_
  show Go _ _ _ _ _ _ _ _ _ _ _ _ _ _ 129 #[.val (.int i0), .val (.int i1), .val (.int i2), .val (.int i3), .val (.int i4), .val (.int i5), .val (.int (4 : Int32)), .val (.int (1 : Int32)), .val (.int a), .val (.int (37 : Int32)), .val (.int c), .val (.int d), .val (.ref x), .val (.int (-1 : Int32)), .unset, .unset] [.int (hxv c)]
  refine go_istore (L' := #[.val (.int i0), .val (.int i1), .val (.int i2), .val (.int i3), .val (.int i4), .val (.int i5), .val (.int (4 : Int32)), .val (.int (1 : Int32)), .val (.int a), .val (.int (37 : Int32)), .val (.int c), .val (.int d), .val (.ref x), .val (.int (-1 : Int32)), .val (.int (hxv c)), .unset]) (q := 131) at_129 rfl rfl ?_
  refine go_iload (v := (1 : Int32)) (q := 133) at_131 rfl rfl ?_
  refine go_iconst (x := (2 : Int32)) (q := 134) at_133 rfl rfl ?_
  refine go_iadd (r := (3 : Int32)) (q := 135) at_134 (by decide) rfl ?_
  refine go_iload (v := a) (q := 137) at_135 rfl rfl ?_
  refine go_iload (v := (37 : Int32)) (q := 139) at_137 rfl rfl ?_
  refine go_iload (v := c) (q := 141) at_139 rfl rfl ?_
  refine go_iload (v := d) (q := 143) at_141 rfl rfl ?_
  refine go_static (c' := 14) (s' := 496) (q := 146) (S := []) (argsL := [.int (3 : Int32), .int a, .int (37 : Int32), .int c, .int d]) H (w_98 H) (w_99 H) (w_3 H) (w_100 H) (by decide) (rm_pk3 H pd) rfl rfl (lenOf pd_23 rfl) (fun _ q => nomatch q) rfl (by decide) (Nat.le_of_ble_eq_true rfl) rfl rfl (by decide) (by decide) at_143 rfl ?_
  rintro _ _ G - ⟨rfl, rfl⟩
  refine nx_ (v := none) ?_
  show Go _ _ _ _ _ _ _ _ _ _ _ _ _ _ 146 #[.val (.int i0), .val (.int i1), .val (.int i2), .val (.int i3), .val (.int i4), .val (.int i5), .val (.int (4 : Int32)), .val (.int (1 : Int32)), .val (.int a), .val (.int (37 : Int32)), .val (.int c), .val (.int d), .val (.ref x), .val (.int (-1 : Int32)), .val (.int (hxv c)), .unset] [.int d]
  refine go_static (c' := 14) (s' := 496) (q := 149) (S := []) (argsL := [.int d]) H (w_101 H) (w_102 H) (w_3 H) (w_103 H) (by decide) (rm_hx H) rfl rfl (lenOf pd_3 rfl) (fun _ q => nomatch q) rfl (by decide) (Nat.le_of_ble_eq_true rfl) rfl rfl (by decide) (by decide) at_146 rfl ?_
  rintro _ _ G - ⟨rfl, rfl⟩
  refine nx_ (v := none) ?_
  show Go _ _ _ _ _ _ _ _ _ _ _ _ _ _ 149 #[.val (.int i0), .val (.int i1), .val (.int i2), .val (.int i3), .val (.int i4), .val (.int i5), .val (.int (4 : Int32)), .val (.int (1 : Int32)), .val (.int a), .val (.int (37 : Int32)), .val (.int c), .val (.int d), .val (.ref x), .val (.int (-1 : Int32)), .val (.int (hxv c)), .unset] [.int (hxv d)]
  refine go_istore (L' := #[.val (.int i0), .val (.int i1), .val (.int i2), .val (.int i3), .val (.int i4), .val (.int i5), .val (.int (4 : Int32)), .val (.int (1 : Int32)), .val (.int a), .val (.int (37 : Int32)), .val (.int c), .val (.int d), .val (.ref x), .val (.int (-1 : Int32)), .val (.int (hxv c)), .val (.int (hxv d))]) (q := 151) at_149 rfl rfl ?_
  refine go_iload (v := (hxv c)) (q := 153) at_151 rfl rfl ?_
  have hU : U16 [a, (37 : Int32), c, d] := ⟨Nat.le_of_ble_eq_true rfl, (by intro c hc; simp only [List.mem_cons, List.not_mem_nil, or_false] at hc; rcases hc with rfl | rfl | rfl | rfl <;> first | exact pa | exact (by decide : ¬ (37 : Int32) < 0 ∧ ¬ 65535 < (37 : Int32)) | exact pc | exact pd)⟩
  by_cases q1 : (hxv c) < 0
  · refine go_ifY (q := 171) at_153 q1 (by decide) (by decide) ?_
    refine go_aload (v := .ref x) (q := 173) at_171 rfl rfl rfl ?_
    refine go_iload (v := (1 : Int32)) (q := 175) at_173 rfl rfl ?_
    refine go_static (c' := 18) (s' := 680) (q := 178) (S := []) (argsL := [.ref x, .int (1 : Int32)]) H (w_40 H) (w_41 H) (w_42 H) (w_43 H) (by decide) (rm_baY H US (cs := [a, (37 : Int32), c, d]) (k := 1) T hU (Nat.le_of_ble_eq_true rfl) (Nat.le_of_ble_eq_true rfl)) rfl rfl (lenOf pd_22 rfl) (fun _ q => nomatch q) rfl (by decide) (Nat.le_of_ble_eq_true rfl) rfl rfl (by decide) (by decide) at_175 rfl ?_
    rintro _ h2 G - ⟨rfl, K2⟩
    refine nx_ (v := none) ?_
    show Go _ _ _ _ _ _ _ _ _ _ _ _ _ _ 178 #[.val (.int i0), .val (.int i1), .val (.int i2), .val (.int i3), .val (.int i4), .val (.int i5), .val (.int (4 : Int32)), .val (.int (1 : Int32)), .val (.int a), .val (.int (37 : Int32)), .val (.int c), .val (.int d), .val (.ref x), .val (.int (-1 : Int32)), .val (.int (hxv c)), .val (.int (hxv d))] [.int (if (hxv c) < 0 ∨ (hxv d) < 0 then -1 else (hxv c) * 16 + (hxv d))]
    rw [show (if (hxv c) < 0 ∨ (hxv d) < 0 then -1 else (hxv c) * 16 + (hxv d)) = (-1 : Int32) from if_pos (Or.inl q1)]
    show Go _ _ _ _ _ _ _ _ _ _ _ _ _ _ 178 #[.val (.int i0), .val (.int i1), .val (.int i2), .val (.int i3), .val (.int i4), .val (.int i5), .val (.int (4 : Int32)), .val (.int (1 : Int32)), .val (.int a), .val (.int (37 : Int32)), .val (.int c), .val (.int d), .val (.ref x), .val (.int (-1 : Int32)), .val (.int (hxv c)), .val (.int (hxv d))] [.int (-1 : Int32)]
    refine go_iload (v := (-1 : Int32)) (q := 180) at_178 rfl rfl ?_
    refine go_icN (q := 183) at_180 rfl rfl ?_
    refine go_iconst (x := (1 : Int32)) (q := 184) at_183 rfl rfl ?_
    refine go_goto (q := 188) at_184 (by decide) (by decide) ?_
    exact go_ireturn H (G := []) (t := .boolean) rfl (by decide) rfl at_188 (by decide) (by decide) (fun _ q => nomatch q) rfl
  · refine go_ifN (q := 156) at_153 q1 rfl ?_
    refine go_iload (v := (hxv d)) (q := 158) at_156 rfl rfl ?_
    by_cases q2 : (hxv d) < 0
    · refine go_ifY (q := 171) at_158 q2 (by decide) (by decide) ?_
      refine go_aload (v := .ref x) (q := 173) at_171 rfl rfl rfl ?_
      refine go_iload (v := (1 : Int32)) (q := 175) at_173 rfl rfl ?_
      refine go_static (c' := 18) (s' := 680) (q := 178) (S := []) (argsL := [.ref x, .int (1 : Int32)]) H (w_40 H) (w_41 H) (w_42 H) (w_43 H) (by decide) (rm_baY H US (cs := [a, (37 : Int32), c, d]) (k := 1) T hU (Nat.le_of_ble_eq_true rfl) (Nat.le_of_ble_eq_true rfl)) rfl rfl (lenOf pd_22 rfl) (fun _ q => nomatch q) rfl (by decide) (Nat.le_of_ble_eq_true rfl) rfl rfl (by decide) (by decide) at_175 rfl ?_
      rintro _ h2 G - ⟨rfl, K2⟩
      refine nx_ (v := none) ?_
      show Go _ _ _ _ _ _ _ _ _ _ _ _ _ _ 178 #[.val (.int i0), .val (.int i1), .val (.int i2), .val (.int i3), .val (.int i4), .val (.int i5), .val (.int (4 : Int32)), .val (.int (1 : Int32)), .val (.int a), .val (.int (37 : Int32)), .val (.int c), .val (.int d), .val (.ref x), .val (.int (-1 : Int32)), .val (.int (hxv c)), .val (.int (hxv d))] [.int (if (hxv c) < 0 ∨ (hxv d) < 0 then -1 else (hxv c) * 16 + (hxv d))]
      rw [show (if (hxv c) < 0 ∨ (hxv d) < 0 then -1 else (hxv c) * 16 + (hxv d)) = (-1 : Int32) from if_pos (Or.inr q2)]
      show Go _ _ _ _ _ _ _ _ _ _ _ _ _ _ 178 #[.val (.int i0), .val (.int i1), .val (.int i2), .val (.int i3), .val (.int i4), .val (.int i5), .val (.int (4 : Int32)), .val (.int (1 : Int32)), .val (.int a), .val (.int (37 : Int32)), .val (.int c), .val (.int d), .val (.ref x), .val (.int (-1 : Int32)), .val (.int (hxv c)), .val (.int (hxv d))] [.int (-1 : Int32)]
      refine go_iload (v := (-1 : Int32)) (q := 180) at_178 rfl rfl ?_
      refine go_icN (q := 183) at_180 rfl rfl ?_
      refine go_iconst (x := (1 : Int32)) (q := 184) at_183 rfl rfl ?_
      refine go_goto (q := 188) at_184 (by decide) (by decide) ?_
      exact go_ireturn H (G := []) (t := .boolean) rfl (by decide) rfl at_188 (by decide) (by decide) (fun _ q => nomatch q) rfl
    · refine go_ifN (q := 161) at_158 q2 rfl ?_
      refine go_iload (v := (hxv c)) (q := 163) at_161 rfl rfl ?_
      refine go_bipush (x := (16 : Int32)) (q := 165) at_163 rfl rfl ?_
      refine go_imul (r := (hxv c) * (16 : Int32)) (q := 166) at_165 rfl rfl ?_
      refine go_iload (v := (hxv d)) (q := 168) at_166 rfl rfl ?_
      refine go_iadd (r := ((hxv c) * (16 : Int32)) + (hxv d)) (q := 169) at_168 rfl rfl ?_
      refine go_istore (L' := #[.val (.int i0), .val (.int i1), .val (.int i2), .val (.int i3), .val (.int i4), .val (.int i5), .val (.int (4 : Int32)), .val (.int (1 : Int32)), .val (.int a), .val (.int (37 : Int32)), .val (.int c), .val (.int d), .val (.ref x), .val (.int (((hxv c) * (16 : Int32)) + (hxv d))), .val (.int (hxv c)), .val (.int (hxv d))]) (q := 171) at_169 rfl rfl ?_
      refine go_aload (v := .ref x) (q := 173) at_171 rfl rfl rfl ?_
      refine go_iload (v := (1 : Int32)) (q := 175) at_173 rfl rfl ?_
      refine go_static (c' := 18) (s' := 680) (q := 178) (S := []) (argsL := [.ref x, .int (1 : Int32)]) H (w_40 H) (w_41 H) (w_42 H) (w_43 H) (by decide) (rm_baY H US (cs := [a, (37 : Int32), c, d]) (k := 1) T hU (Nat.le_of_ble_eq_true rfl) (Nat.le_of_ble_eq_true rfl)) rfl rfl (lenOf pd_22 rfl) (fun _ q => nomatch q) rfl (by decide) (Nat.le_of_ble_eq_true rfl) rfl rfl (by decide) (by decide) at_175 rfl ?_
      rintro _ h2 G - ⟨rfl, K2⟩
      refine nx_ (v := none) ?_
      show Go _ _ _ _ _ _ _ _ _ _ _ _ _ _ 178 #[.val (.int i0), .val (.int i1), .val (.int i2), .val (.int i3), .val (.int i4), .val (.int i5), .val (.int (4 : Int32)), .val (.int (1 : Int32)), .val (.int a), .val (.int (37 : Int32)), .val (.int c), .val (.int d), .val (.ref x), .val (.int (((hxv c) * (16 : Int32)) + (hxv d))), .val (.int (hxv c)), .val (.int (hxv d))] [.int (if (hxv c) < 0 ∨ (hxv d) < 0 then -1 else (hxv c) * 16 + (hxv d))]
      rw [show (if (hxv c) < 0 ∨ (hxv d) < 0 then -1 else (hxv c) * 16 + (hxv d)) = ((hxv c) * 16 + (hxv d)) from if_neg (fun e => e.elim q1 q2)]
      show Go _ _ _ _ _ _ _ _ _ _ _ _ _ _ 178 #[.val (.int i0), .val (.int i1), .val (.int i2), .val (.int i3), .val (.int i4), .val (.int i5), .val (.int (4 : Int32)), .val (.int (1 : Int32)), .val (.int a), .val (.int (37 : Int32)), .val (.int c), .val (.int d), .val (.ref x), .val (.int (((hxv c) * (16 : Int32)) + (hxv d))), .val (.int (hxv c)), .val (.int (hxv d))] [.int ((hxv c) * 16 + (hxv d))]
      refine go_iload (v := ((hxv c) * (16 : Int32)) + (hxv d)) (q := 180) at_178 rfl rfl ?_
      refine go_icN (q := 183) at_180 rfl rfl ?_
      refine go_iconst (x := (1 : Int32)) (q := 184) at_183 rfl rfl ?_
      refine go_goto (q := 188) at_184 (by decide) (by decide) ?_
      exact go_ireturn H (G := []) (t := .boolean) rfl (by decide) rfl at_188 (by decide) (by decide) (fun _ q => nomatch q) rfl
set_option maxRecDepth 65536 in
set_option maxHeartbeats 8000000 in
theorem j42_4_2 {l : Launch} {Z : State} {a0 : Array Value} (H : Wd Z a0) {K : Cx} {h : Heap} {i0 i1 i2 i3 i4 i5 a b c d : Int32} (US : U16S Z) (pa : (¬ a < 0 ∧ ¬ 65535 < a)) (pb : (¬ b < 0 ∧ ¬ 65535 < b)) (pc : (¬ c < 0 ∧ ¬ 65535 < c)) (pd : (¬ d < 0 ∧ ¬ 65535 < d)) : GL l Z K h [] 8 464 42 #[.val (.int i0), .val (.int i1), .val (.int i2), .val (.int i3), .val (.int i4), .val (.int i5), .val (.int (4 : Int32)), .val (.int (2 : Int32)), .val (.int a), .val (.int b), .val (.int c), .val (.int d), .unset, .unset, .unset, .unset] [] := by
  refine go_iload (v := (2 : Int32)) (q := 44) at_42 rfl rfl ?_
  refine go_ifY (q := 54) at_44 (by decide) (by decide) (by decide) ?_
  refine go_iload (v := (2 : Int32)) (q := 56) at_54 rfl rfl ?_
  refine go_iconst (x := (1 : Int32)) (q := 57) at_56 rfl rfl ?_
  refine go_icY (q := 67) at_57 (by decide) (by decide) (by decide) ?_
  refine go_iload (v := (2 : Int32)) (q := 69) at_67 rfl rfl ?_
  refine go_iconst (x := (2 : Int32)) (q := 70) at_69 rfl rfl ?_
  refine go_icN (q := 73) at_70 (by decide) rfl ?_
  refine go_bipush (x := (37 : Int32)) (q := 75) at_73 rfl rfl ?_
  refine go_istore (L' := #[.val (.int i0), .val (.int i1), .val (.int i2), .val (.int i3), .val (.int i4), .val (.int i5), .val (.int (4 : Int32)), .val (.int (2 : Int32)), .val (.int a), .val (.int b), .val (.int (37 : Int32)), .val (.int d), .unset, .unset, .unset, .unset]) (q := 77) at_75 rfl rfl ?_
  refine go_goto (q := 84) at_77 (by decide) (by decide) ?_
  refine go_iload (v := (4 : Int32)) (q := 86) at_84 rfl rfl ?_
  refine go_iload (v := a) (q := 88) at_86 rfl rfl ?_
  refine go_iload (v := b) (q := 90) at_88 rfl rfl ?_
  refine go_iload (v := (37 : Int32)) (q := 92) at_90 rfl rfl ?_
  refine go_iload (v := d) (q := 94) at_92 rfl rfl ?_
  refine go_static (c' := 14) (s' := 496) (q := 97) (S := []) (argsL := [.int (4 : Int32), .int a, .int b, .int (37 : Int32), .int d]) H (w_7 H) (w_8 H) (w_3 H) (w_9 H) (by decide) (rm_mk4 H US pa pb (by decide : ¬ (37 : Int32) < 0 ∧ ¬ 65535 < (37 : Int32)) pd) rfl rfl (lenOf pd_21 rfl) (fun _ q => nomatch q) rfl (by decide) (Nat.le_of_ble_eq_true rfl) rfl rfl (by decide) (by decide) at_94 rfl ?_
  rintro _ h1 G - ⟨x, rfl, K1, T⟩
  refine nx_ (v := none) ?_
  show Go _ _ _ _ _ _ _ _ _ _ _ _ _ _ 97 #[.val (.int i0), .val (.int i1), .val (.int i2), .val (.int i3), .val (.int i4), .val (.int i5), .val (.int (4 : Int32)), .val (.int (2 : Int32)), .val (.int a), .val (.int b), .val (.int (37 : Int32)), .val (.int d), .unset, .unset, .unset, .unset] [.ref x]
  refine go_astore (L' := #[.val (.int i0), .val (.int i1), .val (.int i2), .val (.int i3), .val (.int i4), .val (.int i5), .val (.int (4 : Int32)), .val (.int (2 : Int32)), .val (.int a), .val (.int b), .val (.int (37 : Int32)), .val (.int d), .val (.ref x), .unset, .unset, .unset]) (q := 99) at_97 rfl rfl rfl ?_
  refine go_iconst (x := (-1 : Int32)) (q := 100) at_99 rfl rfl ?_
  refine go_istore (L' := #[.val (.int i0), .val (.int i1), .val (.int i2), .val (.int i3), .val (.int i4), .val (.int i5), .val (.int (4 : Int32)), .val (.int (2 : Int32)), .val (.int a), .val (.int b), .val (.int (37 : Int32)), .val (.int d), .val (.ref x), .val (.int (-1 : Int32)), .unset, .unset]) (q := 102) at_100 rfl rfl ?_
  refine go_iload (v := (2 : Int32)) (q := 104) at_102 rfl rfl ?_
  refine go_iconst (x := (2 : Int32)) (q := 105) at_104 rfl rfl ?_
  refine go_iadd (r := (4 : Int32)) (q := 106) at_105 (by decide) rfl ?_
  refine go_iload (v := (4 : Int32)) (q := 108) at_106 rfl rfl ?_
  refine go_icY (q := 171) at_108 (by decide) (by decide) (by decide) ?_
  refine go_aload (v := .ref x) (q := 173) at_171 rfl rfl rfl ?_
  refine go_iload (v := (2 : Int32)) (q := 175) at_173 rfl rfl ?_
  refine go_static (c' := 18) (s' := 680) (q := 178) (S := []) (argsL := [.ref x, .int (2 : Int32)]) H (w_40 H) (w_41 H) (w_42 H) (w_43 H) (by decide) (rm_baN H (cs := [a, b, (37 : Int32), d]) (k := 2) T (Nat.le_of_ble_eq_true rfl) (by decide) (Nat.not_lt.mpr (Nat.le_of_ble_eq_true rfl))) rfl rfl (lenOf pd_22 rfl) (fun _ q => nomatch q) rfl (by decide) (Nat.le_of_ble_eq_true rfl) rfl rfl (by decide) (by decide) at_175 rfl ?_
  rintro _ h2 G - ⟨rfl, K2⟩
  refine nx_ (v := none) ?_
  show Go _ _ _ _ _ _ _ _ _ _ _ _ _ _ 178 #[.val (.int i0), .val (.int i1), .val (.int i2), .val (.int i3), .val (.int i4), .val (.int i5), .val (.int (4 : Int32)), .val (.int (2 : Int32)), .val (.int a), .val (.int b), .val (.int (37 : Int32)), .val (.int d), .val (.ref x), .val (.int (-1 : Int32)), .unset, .unset] [.int (-1 : Int32)]
  refine go_iload (v := (-1 : Int32)) (q := 180) at_178 rfl rfl ?_
  refine go_icN (q := 183) at_180 (by decide) rfl ?_
  refine go_iconst (x := (1 : Int32)) (q := 184) at_183 rfl rfl ?_
  refine go_goto (q := 188) at_184 (by decide) (by decide) ?_
  exact go_ireturn H (G := []) (t := .boolean) rfl (by decide) rfl at_188 (by decide) (by decide) (fun _ q => nomatch q) rfl
set_option maxRecDepth 65536 in
set_option maxHeartbeats 8000000 in
theorem j42_4_3 {l : Launch} {Z : State} {a0 : Array Value} (H : Wd Z a0) {K : Cx} {h : Heap} {i0 i1 i2 i3 i4 i5 a b c d : Int32} (US : U16S Z) (pa : (¬ a < 0 ∧ ¬ 65535 < a)) (pb : (¬ b < 0 ∧ ¬ 65535 < b)) (pc : (¬ c < 0 ∧ ¬ 65535 < c)) (pd : (¬ d < 0 ∧ ¬ 65535 < d)) : GL l Z K h [] 8 464 42 #[.val (.int i0), .val (.int i1), .val (.int i2), .val (.int i3), .val (.int i4), .val (.int i5), .val (.int (4 : Int32)), .val (.int (3 : Int32)), .val (.int a), .val (.int b), .val (.int c), .val (.int d), .unset, .unset, .unset, .unset] [] := by
  refine go_iload (v := (3 : Int32)) (q := 44) at_42 rfl rfl ?_
  refine go_ifY (q := 54) at_44 (by decide) (by decide) (by decide) ?_
  refine go_iload (v := (3 : Int32)) (q := 56) at_54 rfl rfl ?_
  refine go_iconst (x := (1 : Int32)) (q := 57) at_56 rfl rfl ?_
  refine go_icY (q := 67) at_57 (by decide) (by decide) (by decide) ?_
  refine go_iload (v := (3 : Int32)) (q := 69) at_67 rfl rfl ?_
  refine go_iconst (x := (2 : Int32)) (q := 70) at_69 rfl rfl ?_
  refine go_icY (q := 80) at_70 (by decide) (by decide) (by decide) ?_
  refine go_bipush (x := (37 : Int32)) (q := 82) at_80 rfl rfl ?_
  refine go_istore (L' := #[.val (.int i0), .val (.int i1), .val (.int i2), .val (.int i3), .val (.int i4), .val (.int i5), .val (.int (4 : Int32)), .val (.int (3 : Int32)), .val (.int a), .val (.int b), .val (.int c), .val (.int (37 : Int32)), .unset, .unset, .unset, .unset]) (q := 84) at_82 rfl rfl ?_
  refine go_iload (v := (4 : Int32)) (q := 86) at_84 rfl rfl ?_
  refine go_iload (v := a) (q := 88) at_86 rfl rfl ?_
  refine go_iload (v := b) (q := 90) at_88 rfl rfl ?_
  refine go_iload (v := c) (q := 92) at_90 rfl rfl ?_
  refine go_iload (v := (37 : Int32)) (q := 94) at_92 rfl rfl ?_
  refine go_static (c' := 14) (s' := 496) (q := 97) (S := []) (argsL := [.int (4 : Int32), .int a, .int b, .int c, .int (37 : Int32)]) H (w_7 H) (w_8 H) (w_3 H) (w_9 H) (by decide) (rm_mk4 H US pa pb pc (by decide : ¬ (37 : Int32) < 0 ∧ ¬ 65535 < (37 : Int32))) rfl rfl (lenOf pd_21 rfl) (fun _ q => nomatch q) rfl (by decide) (Nat.le_of_ble_eq_true rfl) rfl rfl (by decide) (by decide) at_94 rfl ?_
  rintro _ h1 G - ⟨x, rfl, K1, T⟩
  refine nx_ (v := none) ?_
  show Go _ _ _ _ _ _ _ _ _ _ _ _ _ _ 97 #[.val (.int i0), .val (.int i1), .val (.int i2), .val (.int i3), .val (.int i4), .val (.int i5), .val (.int (4 : Int32)), .val (.int (3 : Int32)), .val (.int a), .val (.int b), .val (.int c), .val (.int (37 : Int32)), .unset, .unset, .unset, .unset] [.ref x]
  refine go_astore (L' := #[.val (.int i0), .val (.int i1), .val (.int i2), .val (.int i3), .val (.int i4), .val (.int i5), .val (.int (4 : Int32)), .val (.int (3 : Int32)), .val (.int a), .val (.int b), .val (.int c), .val (.int (37 : Int32)), .val (.ref x), .unset, .unset, .unset]) (q := 99) at_97 rfl rfl rfl ?_
  refine go_iconst (x := (-1 : Int32)) (q := 100) at_99 rfl rfl ?_
  refine go_istore (L' := #[.val (.int i0), .val (.int i1), .val (.int i2), .val (.int i3), .val (.int i4), .val (.int i5), .val (.int (4 : Int32)), .val (.int (3 : Int32)), .val (.int a), .val (.int b), .val (.int c), .val (.int (37 : Int32)), .val (.ref x), .val (.int (-1 : Int32)), .unset, .unset]) (q := 102) at_100 rfl rfl ?_
  refine go_iload (v := (3 : Int32)) (q := 104) at_102 rfl rfl ?_
  refine go_iconst (x := (2 : Int32)) (q := 105) at_104 rfl rfl ?_
  refine go_iadd (r := (5 : Int32)) (q := 106) at_105 (by decide) rfl ?_
  refine go_iload (v := (4 : Int32)) (q := 108) at_106 rfl rfl ?_
  refine go_icY (q := 171) at_108 (by decide) (by decide) (by decide) ?_
  refine go_aload (v := .ref x) (q := 173) at_171 rfl rfl rfl ?_
  refine go_iload (v := (3 : Int32)) (q := 175) at_173 rfl rfl ?_
  refine go_static (c' := 18) (s' := 680) (q := 178) (S := []) (argsL := [.ref x, .int (3 : Int32)]) H (w_40 H) (w_41 H) (w_42 H) (w_43 H) (by decide) (rm_baN H (cs := [a, b, c, (37 : Int32)]) (k := 3) T (Nat.le_of_ble_eq_true rfl) (by decide) (Nat.not_lt.mpr (Nat.le_of_ble_eq_true rfl))) rfl rfl (lenOf pd_22 rfl) (fun _ q => nomatch q) rfl (by decide) (Nat.le_of_ble_eq_true rfl) rfl rfl (by decide) (by decide) at_175 rfl ?_
  rintro _ h2 G - ⟨rfl, K2⟩
  refine nx_ (v := none) ?_
  show Go _ _ _ _ _ _ _ _ _ _ _ _ _ _ 178 #[.val (.int i0), .val (.int i1), .val (.int i2), .val (.int i3), .val (.int i4), .val (.int i5), .val (.int (4 : Int32)), .val (.int (3 : Int32)), .val (.int a), .val (.int b), .val (.int c), .val (.int (37 : Int32)), .val (.ref x), .val (.int (-1 : Int32)), .unset, .unset] [.int (-1 : Int32)]
  refine go_iload (v := (-1 : Int32)) (q := 180) at_178 rfl rfl ?_
  refine go_icN (q := 183) at_180 (by decide) rfl ?_
  refine go_iconst (x := (1 : Int32)) (q := 184) at_183 rfl rfl ?_
  refine go_goto (q := 188) at_184 (by decide) (by decide) ?_
  exact go_ireturn H (G := []) (t := .boolean) rfl (by decide) rfl at_188 (by decide) (by decide) (fun _ q => nomatch q) rfl
set_option maxRecDepth 65536 in
set_option maxHeartbeats 8000000 in
theorem rm_law {l : Launch} {Z : State} {a0 : Array Value} (H : Wd Z a0) {i0 i1 i2 i3 i4 i5 : Int32} (US : U16S Z) : MetL l Z x code maxLocals ret room_1 Z.heap [] #[.int i0, .int i1, .int i2, .int i3, .int i4, .int i5] (fun v h' G => v = some (.int 1)) := by
  refine MetL.mk (L := #[.val (.int i0), .val (.int i1), .val (.int i2), .val (.int i3), .val (.int i4), .val (.int i5), .unset, .unset, .unset, .unset, .unset, .unset, .unset, .unset, .unset, .unset]) (plainFor_of_name (by first | (simp [plainName, overriddenIn, x]; done) | decide +kernel)) (fun m => by first | (simp [entryFrame, mkF, argsToLocals, Value.category, maxLocals]; done) | rfl) (fun K => ?_)
  show Go _ _ K "com/example/tabane/tabane/url/PercentEscapesByteAtPinLaw" "law" _ 16 _ ({ frames := 10, cells := 24, slots := 2176, locals := 224 } : Room) _ _ _ _ _ 0 _ _
  obtain ⟨hn0, hna⟩ := na_any i0 i1
  refine go_iconst (x := (1 : Int32)) (q := 1) at_0 rfl rfl ?_
  refine go_iloadN (v := i0) (q := 2) at_1 rfl rfl ?_
  refine go_iconst (x := (3 : Int32)) (q := 3) at_2 rfl rfl ?_
  refine go_iand (r := i0 &&& (3 : Int32)) (q := 4) at_3 rfl rfl ?_
  refine go_iadd (r := (1 : Int32) + (i0 &&& (3 : Int32))) (q := 5) at_4 rfl rfl ?_
  refine go_istore (L' := #[.val (.int i0), .val (.int i1), .val (.int i2), .val (.int i3), .val (.int i4), .val (.int i5), .val (.int ((1 : Int32) + (i0 &&& (3 : Int32)))), .unset, .unset, .unset, .unset, .unset, .unset, .unset, .unset, .unset]) (q := 7) at_5 rfl rfl ?_
  refine go_iloadN (v := i1) (q := 8) at_7 rfl rfl ?_
  refine go_ldcInt (v := (2147483647 : Int32)) (q := 10) (w_0 H) at_8 rfl ?_
  refine go_iand (r := i1 &&& (2147483647 : Int32)) (q := 11) at_10 rfl rfl ?_
  refine go_iload (v := (1 : Int32) + (i0 &&& (3 : Int32))) (q := 13) at_11 rfl rfl ?_
  refine go_irem (r := (i1 &&& (2147483647 : Int32)) % ((1 : Int32) + (i0 &&& (3 : Int32)))) (q := 14) at_13 hn0 rfl rfl ?_
  refine go_istore (L' := #[.val (.int i0), .val (.int i1), .val (.int i2), .val (.int i3), .val (.int i4), .val (.int i5), .val (.int ((1 : Int32) + (i0 &&& (3 : Int32)))), .val (.int ((i1 &&& (2147483647 : Int32)) % ((1 : Int32) + (i0 &&& (3 : Int32))))), .unset, .unset, .unset, .unset, .unset, .unset, .unset, .unset]) (q := 16) at_14 rfl rfl ?_
  generalize (i1 &&& 2147483647) % (1 + (i0 &&& 3)) = t at hna ⊢
  generalize 1 + (i0 &&& 3) = n at hna ⊢
  show Go _ _ _ _ _ _ _ _ _ _ _ _ _ _ 16 #[.val (.int i0), .val (.int i1), .val (.int i2), .val (.int i3), .val (.int i4), .val (.int i5), .val (.int n), .val (.int t), .unset, .unset, .unset, .unset, .unset, .unset, .unset, .unset] []
  refine go_iloadN (v := i2) (q := 17) at_16 rfl rfl ?_
  refine go_static (c' := 2) (s' := 116) (q := 20) (S := []) (argsL := [.int i2]) H (w_1 H) (w_2 H) (w_3 H) (w_4 H) (by decide) (rm_dr H) rfl rfl (lenOf pd_1 rfl) (fun _ q => nomatch q) rfl (by decide) (Nat.le_of_ble_eq_true rfl) rfl rfl (by decide) (by decide) at_17 rfl ?_
  rintro _ h1 G - ⟨a, rfl, pa, K1⟩
  refine nx_ (v := none) ?_
  show Go _ _ _ _ _ _ _ _ _ _ _ _ _ _ 20 #[.val (.int i0), .val (.int i1), .val (.int i2), .val (.int i3), .val (.int i4), .val (.int i5), .val (.int n), .val (.int t), .unset, .unset, .unset, .unset, .unset, .unset, .unset, .unset] [.int a]
  refine go_istore (L' := #[.val (.int i0), .val (.int i1), .val (.int i2), .val (.int i3), .val (.int i4), .val (.int i5), .val (.int n), .val (.int t), .val (.int a), .unset, .unset, .unset, .unset, .unset, .unset, .unset]) (q := 22) at_20 rfl rfl ?_
  refine go_iloadN (v := i3) (q := 23) at_22 rfl rfl ?_
  refine go_static (c' := 4) (s' := 232) (q := 26) (S := []) (argsL := [.int i3]) H (w_1 H) (w_2 H) (w_3 H) (w_4 H) (by decide) (rm_dr H) rfl rfl (lenOf pd_1 rfl) (fun _ q => nomatch q) rfl (by decide) (Nat.le_of_ble_eq_true rfl) rfl rfl (by decide) (by decide) at_23 rfl ?_
  rintro _ h2 G - ⟨b, rfl, pb, K2⟩
  refine nx_ (v := none) ?_
  show Go _ _ _ _ _ _ _ _ _ _ _ _ _ _ 26 #[.val (.int i0), .val (.int i1), .val (.int i2), .val (.int i3), .val (.int i4), .val (.int i5), .val (.int n), .val (.int t), .val (.int a), .unset, .unset, .unset, .unset, .unset, .unset, .unset] [.int b]
  refine go_istore (L' := #[.val (.int i0), .val (.int i1), .val (.int i2), .val (.int i3), .val (.int i4), .val (.int i5), .val (.int n), .val (.int t), .val (.int a), .val (.int b), .unset, .unset, .unset, .unset, .unset, .unset]) (q := 28) at_26 rfl rfl ?_
  refine go_iload (v := i4) (q := 30) at_28 rfl rfl ?_
  refine go_static (c' := 6) (s' := 348) (q := 33) (S := []) (argsL := [.int i4]) H (w_1 H) (w_2 H) (w_3 H) (w_4 H) (by decide) (rm_dr H) rfl rfl (lenOf pd_1 rfl) (fun _ q => nomatch q) rfl (by decide) (Nat.le_of_ble_eq_true rfl) rfl rfl (by decide) (by decide) at_30 rfl ?_
  rintro _ h3 G - ⟨c, rfl, pc, K3⟩
  refine nx_ (v := none) ?_
  show Go _ _ _ _ _ _ _ _ _ _ _ _ _ _ 33 #[.val (.int i0), .val (.int i1), .val (.int i2), .val (.int i3), .val (.int i4), .val (.int i5), .val (.int n), .val (.int t), .val (.int a), .val (.int b), .unset, .unset, .unset, .unset, .unset, .unset] [.int c]
  refine go_istore (L' := #[.val (.int i0), .val (.int i1), .val (.int i2), .val (.int i3), .val (.int i4), .val (.int i5), .val (.int n), .val (.int t), .val (.int a), .val (.int b), .val (.int c), .unset, .unset, .unset, .unset, .unset]) (q := 35) at_33 rfl rfl ?_
  refine go_iload (v := i5) (q := 37) at_35 rfl rfl ?_
  refine go_static (c' := 8) (s' := 464) (q := 40) (S := []) (argsL := [.int i5]) H (w_1 H) (w_2 H) (w_3 H) (w_4 H) (by decide) (rm_dr H) rfl rfl (lenOf pd_1 rfl) (fun _ q => nomatch q) rfl (by decide) (Nat.le_of_ble_eq_true rfl) rfl rfl (by decide) (by decide) at_37 rfl ?_
  rintro _ h4 G - ⟨d, rfl, pd, K4⟩
  refine nx_ (v := none) ?_
  show Go _ _ _ _ _ _ _ _ _ _ _ _ _ _ 40 #[.val (.int i0), .val (.int i1), .val (.int i2), .val (.int i3), .val (.int i4), .val (.int i5), .val (.int n), .val (.int t), .val (.int a), .val (.int b), .val (.int c), .unset, .unset, .unset, .unset, .unset] [.int d]
  refine go_istore (L' := #[.val (.int i0), .val (.int i1), .val (.int i2), .val (.int i3), .val (.int i4), .val (.int i5), .val (.int n), .val (.int t), .val (.int a), .val (.int b), .val (.int c), .val (.int d), .unset, .unset, .unset, .unset]) (q := 42) at_40 rfl rfl ?_
  rcases hna with ⟨rfl, rfl⟩ | ⟨rfl, rfl⟩ | ⟨rfl, rfl⟩ | ⟨rfl, rfl⟩ | ⟨rfl, rfl⟩ | ⟨rfl, rfl⟩ | ⟨rfl, rfl⟩ | ⟨rfl, rfl⟩ | ⟨rfl, rfl⟩ | ⟨rfl, rfl⟩
  · exact j42_1_0 H US pa pb pc pd
  · exact j42_2_0 H US pa pb pc pd
  · exact j42_2_1 H US pa pb pc pd
  · exact j42_3_0 H US pa pb pc pd
  · exact j42_3_1 H US pa pb pc pd
  · exact j42_3_2 H US pa pb pc pd
  · exact j42_4_0 H US pa pb pc pd
  · exact j42_4_1 H US pa pb pc pd
  · exact j42_4_2 H US pa pb pc pd
  · exact j42_4_3 H US pa pb pc pd
set_option maxRecDepth 65536 in
set_option maxHeartbeats 4000000 in
theorem comes_1 {Post : Tables → Env → Array Value → State → Outcome → State → Prop} (hpost : ∀ tb e args s v u, (limb_1_1.after args s (.returned v) u = true ∧ limb_1_2.after args s (.returned v) u = true ∧ True) → Jvm.D.FramedW s (.returned v) u (Jvm.fieldLocs frame_1_writes args s ++ Jvm.arrayLocs frame_1_arrays args s ++ Jvm.staticLocs frame_1_statics s) 24 2176 → Post tb e args s (.returned v) u) :
    Jvm.D.ArmFor flags0 classFile x code maxLocals ret World_1 tables_1 room_1 Calls_1 rest_1 Pre_1 Post := by
  intro l hfl _ _ p e ha hc hk s m args below hf hA hF happ hP
  obtain ⟨hcalls, hrest, hpre⟩ := hP
  obtain ⟨-, -, -, hnamed, -, -, -, hat⟩ := (Spec.applies_iff hf).mp happ
  obtain ⟨hg, hn⟩ := and_e (Cond.before_iff.mp (show (Jvm.Cond.and given_1 narrow_1).before args s = true from hpre))
  obtain ⟨g0, r0⟩ := and_e hg
  obtain ⟨g1, r1⟩ := and_e r0
  obtain ⟨g2, r2⟩ := and_e r1
  obtain ⟨g3, r3⟩ := and_e r2
  obtain ⟨g4, r4⟩ := and_e r3
  obtain ⟨g5, r5⟩ := and_e r4
  obtain ⟨w0, w1, w2, w3, w4, w5, rfl⟩ : ∃ w0 w1 w2 w3 w4 w5 : Value, args = #[w0, w1, w2, w3, w4, w5] := by
    have hs : args.size = 6 := by simpa [Cond.value, given_1] using g0
    obtain ⟨L⟩ := args
    match L, hs with
    | [w0, w1, w2, w3, w4, w5], _ => exact ⟨w0, w1, w2, w3, w4, w5, rfl⟩
  have hw := fun d (hd : d ∈ tables_1) => atoms_spec (ws := Jvm.Cond.code x code maxLocals ret :: tables_1) hat d (List.mem_cons_of_mem _ hd)
  obtain ⟨hsets, hown0⟩ := atoms_of _ (rest_1_c_eq ▸ (show rest_1_c.before _ s = true from hrest))
  have hfit : Fit s := fun {y c} hc i hi => by
    obtain ⟨ha, rfl⟩ := Array.getElem?_eq_some_iff.mp hc
    have q := List.all_eq_true.mp ((Array.all_eq_true_iff_forall_mem.mp hF) _ (Array.getElem_mem ha)) i (List.mem_range.mpr hi)
    simpa [Array.getElem?_eq_getElem hi] using q
  obtain ⟨i0, e0⟩ := is_v g1
  obtain rfl : w0 = (.int i0) := Option.some.inj e0
  obtain ⟨i1, e1⟩ := is_v g2
  obtain rfl : w1 = (.int i1) := Option.some.inj e1
  obtain ⟨i2, e2⟩ := is_v g3
  obtain rfl : w2 = (.int i2) := Option.some.inj e2
  obtain ⟨i3, e3⟩ := is_v g4
  obtain rfl : w3 = (.int i3) := Option.some.inj e3
  obtain ⟨i4, e4⟩ := is_v g5
  obtain rfl : w4 = (.int i4) := Option.some.inj e4
  obtain ⟨i5, e5⟩ := is_v r5
  obtain rfl : w5 = (.int i5) := Option.some.inj e5
  obtain ⟨cz, ecz⟩ := is_v (Cond.before_iff.mp (hsets _ (List.mem_of_getElem? (i := 1) rfl)))
  have Scz : Sta s s.heap "java/lang/String" "COMPACT_STRINGS" "Z" (.int cz) := Sta.start ecz (Or.inl (hsets _ (List.mem_of_getElem? (i := 0) rfl)))
  have ncz : ¬ cz = (0 : Int32) := gotF (Cond.eq_ints ecz (Term.int_eval (0))) (not_v (Cond.before_iff.mp (hsets _ (List.mem_of_getElem? (i := 2) rfl))))
  obtain ⟨fm, efm, rfm⟩ := isR_v (Cond.before_iff.mp (hsets _ (List.mem_of_getElem? (i := 8) rfl)))
  have Sfm : Sta s s.heap "jdk/internal/util/Preconditions" "SIOOBE_FORMATTER" "Ljava/util/function/BiFunction;" fm := Sta.start efm (Or.inl (hsets _ (List.mem_of_getElem? (i := 7) rfl)))
  have hS : ∀ d ∈ Bundle.stringAtoms, d.before #[.int i0, .int i1, .int i2, .int i3, .int i4, .int i5] s = true := by
    intro d hd
    simp only [Bundle.stringAtoms, List.mem_cons, List.not_mem_nil, or_false] at hd
    rcases hd with rfl | rfl | rfl | rfl | rfl | rfl | rfl
    · exact hw _ (List.mem_of_getElem? (i := 12) rfl)
    · exact hw _ (List.mem_of_getElem? (i := 11) rfl)
    · exact hw _ (List.mem_of_getElem? (i := 29) rfl)
    · exact hw _ (List.mem_of_getElem? (i := 39) rfl)
    · exact hw _ (List.mem_of_getElem? (i := 37) rfl)
    · exact hw _ (List.mem_of_getElem? (i := 55) rfl)
    · exact hw _ (List.mem_of_getElem? (i := 56) rfl)
  have hE : EW s #[.int i0, .int i1, .int i2, .int i3, .int i4, .int i5] consts_1 := (EW.cons (hw _ (List.mem_of_getElem? (i := 108) rfl)) (by decide) (EW.cons (hw _ (List.mem_of_getElem? (i := 54) rfl)) (by decide) EW.nil))
  have H : Wd s #[.int i0, .int i1, .int i2, .int i3, .int i4, .int i5] := ⟨hw, hE, hS, ⟨cz, Scz, ncz⟩, ⟨fm, Sfm, rfm⟩, hsets⟩
  have hC : CHv s consts_1 s.vm s.heap := CHv.start hE (fun q hq => hcalls.1 q hq) (Cond.before_iff.mpr (Cond.before_iff.mp (hsets _ (List.mem_of_getElem? (i := 2) rfl)))) (hw _ (List.mem_of_getElem? (i := 29) rfl)) (hw _ (List.mem_of_getElem? (i := 11) rfl))
  have ua : Sta s s.heap "java/lang/StringUTF16" "$assertionsDisabled" "Z" (.int 1) := Sta.start (Cond.eq_int (hsets _ (List.mem_of_getElem? (i := 12) rfl)) rfl) (Or.inl (hsets _ (List.mem_of_getElem? (i := 11) rfl)))
  have uh : Sta s s.heap "java/lang/StringUTF16" "HI_BYTE_SHIFT" "I" (.int 0) := Sta.start (Cond.eq_int (hsets _ (List.mem_of_getElem? (i := 15) rfl)) rfl) (Or.inl (hsets _ (List.mem_of_getElem? (i := 14) rfl)))
  have ul : Sta s s.heap "java/lang/StringUTF16" "LO_BYTE_SHIFT" "I" (.int 8) := Sta.start (Cond.eq_int (hsets _ (List.mem_of_getElem? (i := 18) rfl)) rfl) (Or.inl (hsets _ (List.mem_of_getElem? (i := 17) rfl)))
  obtain ⟨n, o, h1, h2, h3, v, L, G, rfl, hq, N, -, -, -, hE2⟩ := rm_law (l := l) H ⟨ua, uh, ul⟩ p e ha hc hk s m _ below hf ((Spec.applies_iff_loose hf).mp happ).1 ⟨rfl, State.Warmed39.refl s, rfl, hC, (fun _ q => nomatch q), Old.start s⟩ trivial
  subst hq
  refine ⟨n, _, h1, h2, h3, hpost _ _ _ _ _ _ ⟨Cond.after_iff.mpr rfl, Cond.after_iff.mpr (eq_i res_at (Term.int_eval (1)) rfl), trivial⟩ ⟨hE2.1, hE2.2.1, hE2.2.2.1, (hE2.2.2.2.sift fun y hy => Or.inr (N y hy)).mono (by decide) (by decide)⟩⟩
end Own
end Jvm.Pilot.@@N@@
namespace Jvm.Pilot.@@N@@
theorem main_1_1 : Claimed_1_1 := Own.comes_1 fun _ _ _ _ _ _ h hF => ⟨h.1, hF⟩
theorem main_1_2 : Claimed_1_2 := Own.comes_1 fun _ _ _ _ _ _ h hF => ⟨h.2.1, hF⟩
end Jvm.Pilot.@@N@@
namespace Jvm.Pilot.@@N@@
open Jvm Jvm.ClassFile Sem Op Lib Jvm.Free Jvm.Stand Jvm.Pilot.@@N@@.Jvm.D
/-! MADE BY PROGRAM (witnessworld.py) out of the Statement's table words and the real class files: 21 classes; the members and pool entries that the words name. The judged class is class 1, her method 5. -/
namespace start1
open Jvm.ClassFile
def u (s : String) : CpInfo := .utf8 (stringToUtf16 s)
/-- a pool by its gaps: so many unusable entries, then the entry; so many at the end -/
def gap : Nat → List CpInfo → List CpInfo
  | 0, r => r
  | n + 1, r => .unusable :: gap n r
def poolList (es : List (Nat × CpInfo)) (last : Nat) : List CpInfo := es.foldr (fun e r => gap e.1 (e.2 :: r)) (gap last [])
def pool (es : List (Nat × CpInfo)) (last : Nat) : Array CpInfo := ⟨poolList es last⟩
def fileOf (pool : Array CpInfo) (this : Nat) (attrs : Array Attribute := #[]) (ms : Array MethodInfo := #[]) (fl : Nat := 33) (sup : Nat := 0) (ifs : Array Nat := #[]) (fds : Array FieldInfo := #[]) : ClassFile where
  minorVersion := 0
  majorVersion := 65
  constantPool := pool
  accessFlags := fl
  thisClass := this
  superClass := sup
  interfaces := ifs
  fields := fds
  methods := ms
  attributes := attrs
def plain (name : String) (sup : Option ClassId) : Class where
  name := name
  kind := .ordinary
  loader := none
  accessFlags := 33
  super := sup
  interfaces := #[]
  cf := none
  fields := #[]
  methods := #[]
  instanceTypes := #[]
  staticTypes := #[]
  resolved := #[]
  callSites := []
  init := .initialized
  statics := none
  mirror := none

def pool0 : Array CpInfo := pool [(5, u "<init>"), (0, u "()V"), (1, .class_ 10), (1, u "java/lang/Object")] 113

def k0c0 : Code := { maxStack := 0, maxLocals := 1, code := object_method_1_code, exceptionTable := #[], attributes := #[] }
def k0m0 : Method := { name := "<init>", desc := "()V", sig := { parameters := [], returnType := none }, accessFlags := 1, code := some k0c0 }
/-- java/lang/Object -/
def k0 : Class := { plain "java/lang/Object" none with
  accessFlags := 33
  interfaces := #[]
  cf := some (fileOf pool0 8 #[] #[{ accessFlags := 1, nameIndex := 5, descriptorIndex := 6, attributes := #[] }] 33 0 #[] #[])
  fields := #[]
  methods := #[k0m0]
  instanceTypes := #[]
  staticTypes := #[]
  resolved := Array.replicate 124 none
  statics := none }

def pool1 : Array CpInfo := pool [(2, .class_ 4), (1, u "java/lang/Object"), (0, u "<init>"), (0, u "()V"), (0, .integer 65536), (0, .integer 65535), (0, .string 10), (0, u "/0123456789:@ABCDEFG`abcdefg"), (0, .methodref 12 13), (0, .class_ 14), (0, .nameAndType 15 16), (0, u "java/lang/String"), (0, u "charAt"), (0, u "(I)C"), (0, .methodref 12 18), (0, .nameAndType 5 19), (0, u "([C)V"), (0, .integer 2147483647), (0, .methodref 22 23), (0, .class_ 24), (0, .nameAndType 25 16), (0, u "com/example/tabane/tabane/url/PercentEscapesByteAtPinLaw"), (0, u "draw"), (0, .methodref 22 27), (0, .nameAndType 28 29), (0, u "make"), (0, u "(ICCCC)Ljava/lang/String;"), (0, .methodref 22 31), (0, .nameAndType 32 33), (0, u "pick"), (0, u "(ICCCC)C"), (0, .methodref 22 35), (0, .nameAndType 36 37), (0, u "hex"), (0, u "(C)I"), (0, .methodref 39 40), (0, .class_ 41), (0, .nameAndType 42 43), (0, u "com/example/tabane/tabane/url/PercentEscapes"), (0, u "byteAt"), (0, u "(Ljava/lang/String;I)I"), (3, u "law"), (0, u "(IIIIII)Z")] 2

def k1m0 : Method := { name := "<init>", desc := "()V", sig := { parameters := [], returnType := none }, accessFlags := 1, code := none }
def k1c1 : Code := { maxStack := 3, maxLocals := 1, code := method_2_code, exceptionTable := #[], attributes := #[] }
def k1m1 : Method := { name := "draw", desc := "(I)C", sig := { parameters := [.int], returnType := some .char }, accessFlags := 10, code := some k1c1 }
def k1c2 : Code := { maxStack := 2, maxLocals := 1, code := method_3_code, exceptionTable := #[], attributes := #[] }
def k1m2 : Method := { name := "hex", desc := "(C)I", sig := { parameters := [.char], returnType := some .int }, accessFlags := 10, code := some k1c2 }
def k1c3 : Code := { maxStack := 2, maxLocals := 5, code := method_4_code, exceptionTable := #[], attributes := #[] }
def k1m3 : Method := { name := "pick", desc := "(ICCCC)C", sig := { parameters := [.int, .char, .char, .char, .char], returnType := some .char }, accessFlags := 10, code := some k1c3 }
def k1c4 : Code := { maxStack := 6, maxLocals := 5, code := method_5_code, exceptionTable := #[], attributes := #[] }
def k1m4 : Method := { name := "make", desc := "(ICCCC)Ljava/lang/String;", sig := { parameters := [.int, .char, .char, .char, .char], returnType := some (.object "java/lang/String") }, accessFlags := 10, code := some k1c4 }
def k1c5 : Code := { maxStack := 5, maxLocals := 16, code := code, exceptionTable := #[], attributes := #[] }
def k1m5 : Method := { name := "law", desc := "(IIIIII)Z", sig := { parameters := [.int, .int, .int, .int, .int, .int], returnType := some .boolean }, accessFlags := 9, code := some k1c5 }
/-- com/example/tabane/tabane/url/PercentEscapesByteAtPinLaw -/
def k1 : Class := { plain "com/example/tabane/tabane/url/PercentEscapesByteAtPinLaw" (some 0) with
  accessFlags := 49
  interfaces := #[]
  cf := some (fileOf pool1 22 #[] #[{ accessFlags := 1, nameIndex := 5, descriptorIndex := 6, attributes := #[] }, { accessFlags := 10, nameIndex := 25, descriptorIndex := 16, attributes := #[] }, { accessFlags := 10, nameIndex := 36, descriptorIndex := 37, attributes := #[] }, { accessFlags := 10, nameIndex := 32, descriptorIndex := 33, attributes := #[] }, { accessFlags := 10, nameIndex := 28, descriptorIndex := 29, attributes := #[] }, { accessFlags := 9, nameIndex := 47, descriptorIndex := 48, attributes := #[] }] 49 2 #[] #[])
  fields := #[]
  methods := #[k1m0, k1m1, k1m2, k1m3, k1m4, k1m5]
  instanceTypes := #[]
  staticTypes := #[]
  resolved := Array.replicate 51 none
  statics := none }

def pool2 : Array CpInfo := pool [(1, .class_ 2), (0, u "java/io/Serializable"), (0, .class_ 4), (0, u "java/lang/Object")] 2

/-- java/io/Serializable -/
def k2 : Class := { plain "java/io/Serializable" (some 0) with
  accessFlags := 1537
  interfaces := #[]
  cf := some (fileOf pool2 1 #[] #[] 1537 3 #[] #[])
  fields := #[]
  methods := #[]
  instanceTypes := #[]
  staticTypes := #[]
  resolved := Array.replicate 7 none
  statics := none }

def pool3 : Array CpInfo := pool [(1, .class_ 2), (0, u "java/lang/Comparable"), (0, .class_ 4), (0, u "java/lang/Object")] 7

/-- java/lang/Comparable -/
def k3 : Class := { plain "java/lang/Comparable" (some 0) with
  accessFlags := 1537
  interfaces := #[]
  cf := some (fileOf pool3 1 #[] #[] 1537 3 #[] #[])
  fields := #[]
  methods := #[]
  instanceTypes := #[]
  staticTypes := #[]
  resolved := Array.replicate 12 none
  statics := none }

def pool4 : Array CpInfo := pool [(2, .class_ 4), (1, u "java/lang/CharSequence"), (42, .class_ 48), (0, u "java/lang/CharSequence$1CodePointIterator"), (10, .class_ 60), (0, u "java/lang/CharSequence$1CharIterator"), (5, .class_ 67), (0, u "java/lang/Object")] 63

/-- java/lang/CharSequence -/
def k4 : Class := { plain "java/lang/CharSequence" (some 0) with
  accessFlags := 1537
  interfaces := #[]
  cf := some (fileOf pool4 2 #[.nestMembers #[47, 59]] #[] 1537 66 #[] #[])
  fields := #[]
  methods := #[]
  instanceTypes := #[]
  staticTypes := #[]
  resolved := Array.replicate 131 none
  statics := none }

def pool5 : Array CpInfo := pool [(1, .class_ 2), (0, u "java/lang/constant/Constable"), (0, .class_ 4), (0, u "java/lang/Object")] 6

/-- java/lang/constant/Constable -/
def k5 : Class := { plain "java/lang/constant/Constable" (some 0) with
  accessFlags := 1537
  interfaces := #[]
  cf := some (fileOf pool5 1 #[] #[] 1537 3 #[] #[])
  fields := #[]
  methods := #[]
  instanceTypes := #[]
  staticTypes := #[]
  resolved := Array.replicate 11 none
  statics := none }

def pool6 : Array CpInfo := pool [(1, .class_ 2), (0, u "java/lang/constant/ConstantDesc"), (0, .class_ 4), (0, u "java/lang/Object")] 32

/-- java/lang/constant/ConstantDesc -/
def k6 : Class := { plain "java/lang/constant/ConstantDesc" (some 0) with
  accessFlags := 1537
  interfaces := #[]
  cf := some (fileOf pool6 1 #[] #[] 1537 3 #[] #[])
  fields := #[]
  methods := #[]
  instanceTypes := #[]
  staticTypes := #[]
  resolved := Array.replicate 37 none
  statics := none }

def pool7 : Array CpInfo := pool [(1, .methodref 2 3), (0, .class_ 4), (0, .nameAndType 5 6), (0, u "java/lang/Object"), (0, u "<init>"), (0, u "()V"), (2, .fieldref 10 11), (0, .class_ 12), (0, .nameAndType 13 14), (0, u "java/lang/String"), (0, u "value"), (0, u "[B"), (0, .fieldref 10 16), (0, .nameAndType 17 18), (0, u "coder"), (0, u "B"), (2, u "hash"), (0, u "I"), (2, u "hashIsZero"), (0, u "Z"), (0, .methodref 10 28), (0, .nameAndType 5 29), (0, u "([CIILjava/lang/Void;)V"), (8, .fieldref 10 39), (0, .nameAndType 40 26), (0, u "COMPACT_STRINGS"), (1, .class_ 44), (1, u "java/lang/StringUTF16"), (0, u "compress"), (1, .methodref 42 48), (0, .nameAndType 49 50), (0, u "coderFromArrayLen"), (0, u "([BI)B"), (56, .class_ 109), (1, u "java/lang/StringLatin1"), (32, u "()Z"), (34, .methodref 42 178), (0, .nameAndType 45 179), (0, u "([CII)[B"), (154, u "()I"), (0, .methodref 10 336), (0, .nameAndType 17 337), (0, u "()B"), (25, u "([BI)C"), (27, u "(II)V"), (35, u "(I)C"), (64, .methodref 10 493), (0, .nameAndType 494 142), (0, u "isLatin1"), (0, .methodref 107 496), (0, .nameAndType 497 363), (0, u "charAt"), (0, .methodref 42 496), (2, u "checkIndex"), (3, .methodref 10 506), (0, .nameAndType 507 334), (0, u "length"), (67, .class_ 576), (0, u "java/lang/CharSequence"), (22, u "CASE_INSENSITIVE_ORDER"), (0, u "Ljava/util/Comparator;"), (32, .methodref 10 634), (0, .nameAndType 635 636), (0, u "indexOf"), (0, u "(II)I"), (0, .methodref 107 638), (0, .nameAndType 635 639), (0, u "([BIII)I"), (125, u "(I)I"), (244, u "([C)V"), (42, .fieldref 1054 1055), (0, .class_ 1056), (0, .nameAndType 1057 1058), (0, u "jdk/internal/util/Preconditions"), (0, u "SIOOBE_FORMATTER"), (0, u "Ljava/util/function/BiFunction;"), (0, .methodref 1054 1060), (0, .nameAndType 501 1061), (0, u "(IILjava/util/function/BiFunction;)I"), (39, u "serialPersistentFields"), (0, u "[Ljava/io/ObjectStreamField;"), (0, .class_ 1104), (0, u "java/lang/String$CaseInsensitiveComparator"), (1, .class_ 1107), (0, u "java/io/Serializable"), (0, .class_ 1109), (0, u "java/lang/Comparable"), (0, .class_ 1111), (0, u "java/lang/constant/Constable"), (0, .class_ 1113), (0, u "java/lang/constant/ConstantDesc"), (2, u "serialVersionUID"), (0, u "J"), (3, u "REPL"), (0, u "C"), (2, u "LATIN1"), (1, u "UTF16")] 323

def k7m0 : Method := { name := "<init>", desc := "()V", sig := { parameters := [], returnType := none }, accessFlags := 1, code := none }
def k7c1 : Code := { maxStack := 5, maxLocals := 2, code := jdk_42_method_3_code, exceptionTable := #[], attributes := #[] }
def k7m1 : Method := { name := "<init>", desc := "([C)V", sig := { parameters := [(.array .char)], returnType := none }, accessFlags := 1, code := some k7c1 }
def k7c2 : Code := { maxStack := 2, maxLocals := 1, code := jdk_42_method_54_code, exceptionTable := #[], attributes := #[] }
def k7m2 : Method := { name := "length", desc := "()I", sig := { parameters := [], returnType := some .int }, accessFlags := 1, code := some k7c2 }
def k7c3 : Code := { maxStack := 2, maxLocals := 2, code := jdk_42_method_56_code, exceptionTable := #[], attributes := #[] }
def k7m3 : Method := { name := "charAt", desc := "(I)C", sig := { parameters := [.int], returnType := some .char }, accessFlags := 1, code := some k7c3 }
def k7c4 : Code := { maxStack := 3, maxLocals := 2, code := jdk_42_method_79_code, exceptionTable := #[], attributes := #[] }
def k7m4 : Method := { name := "indexOf", desc := "(I)I", sig := { parameters := [.int], returnType := some .int }, accessFlags := 1, code := some k7c4 }
def k7c5 : Code := { maxStack := 4, maxLocals := 3, code := jdk_42_method_80_code, exceptionTable := #[], attributes := #[] }
def k7m5 : Method := { name := "indexOf", desc := "(II)I", sig := { parameters := [.int, .int], returnType := some .int }, accessFlags := 1, code := some k7c5 }
def k7c6 : Code := { maxStack := 4, maxLocals := 6, code := jdk_42_method_149_code, exceptionTable := #[], attributes := #[] }
def k7m6 : Method := { name := "<init>", desc := "([CIILjava/lang/Void;)V", sig := { parameters := [(.array .char), .int, .int, (.object "java/lang/Void")], returnType := none }, accessFlags := 2, code := some k7c6 }
def k7c7 : Code := { maxStack := 1, maxLocals := 1, code := jdk_42_method_152_code, exceptionTable := #[], attributes := #[] }
def k7m7 : Method := { name := "coder", desc := "()B", sig := { parameters := [], returnType := some .byte }, accessFlags := 0, code := some k7c7 }
def k7c8 : Code := { maxStack := 1, maxLocals := 1, code := jdk_42_method_154_code, exceptionTable := #[], attributes := #[] }
def k7m8 : Method := { name := "isLatin1", desc := "()Z", sig := { parameters := [], returnType := some .boolean }, accessFlags := 0, code := some k7c8 }
def k7c9 : Code := { maxStack := 3, maxLocals := 2, code := jdk_42_method_155_code, exceptionTable := #[], attributes := #[] }
def k7m9 : Method := { name := "checkIndex", desc := "(II)V", sig := { parameters := [.int, .int], returnType := none }, accessFlags := 8, code := some k7c9 }
/-- java/lang/String -/
def k7 : Class := { plain "java/lang/String" (some 0) with
  accessFlags := 49
  interfaces := #[2, 3, 4, 5, 6]
  cf := some (fileOf pool7 10 #[.nestMembers #[1103]] #[{ accessFlags := 1, nameIndex := 5, descriptorIndex := 6, attributes := #[] }, { accessFlags := 1, nameIndex := 5, descriptorIndex := 1010, attributes := #[] }, { accessFlags := 1, nameIndex := 507, descriptorIndex := 334, attributes := #[] }, { accessFlags := 1, nameIndex := 497, descriptorIndex := 427, attributes := #[] }, { accessFlags := 1, nameIndex := 635, descriptorIndex := 765, attributes := #[] }, { accessFlags := 1, nameIndex := 635, descriptorIndex := 636, attributes := #[] }, { accessFlags := 2, nameIndex := 5, descriptorIndex := 29, attributes := #[] }, { accessFlags := 0, nameIndex := 17, descriptorIndex := 337, attributes := #[] }, { accessFlags := 0, nameIndex := 494, descriptorIndex := 142, attributes := #[] }, { accessFlags := 8, nameIndex := 501, descriptorIndex := 391, attributes := #[] }] 49 2 #[1106, 1108, 575, 1110, 1112] #[{ accessFlags := 18, nameIndex := 13, descriptorIndex := 14, attributes := #[] }, { accessFlags := 18, nameIndex := 17, descriptorIndex := 18, attributes := #[] }, { accessFlags := 2, nameIndex := 21, descriptorIndex := 22, attributes := #[] }, { accessFlags := 2, nameIndex := 25, descriptorIndex := 26, attributes := #[] }, { accessFlags := 26, nameIndex := 1116, descriptorIndex := 1117, attributes := #[] }, { accessFlags := 24, nameIndex := 40, descriptorIndex := 26, attributes := #[] }, { accessFlags := 26, nameIndex := 1101, descriptorIndex := 1102, attributes := #[] }, { accessFlags := 26, nameIndex := 1121, descriptorIndex := 1122, attributes := #[] }, { accessFlags := 25, nameIndex := 599, descriptorIndex := 600, attributes := #[] }, { accessFlags := 24, nameIndex := 1125, descriptorIndex := 18, attributes := #[] }, { accessFlags := 24, nameIndex := 1127, descriptorIndex := 18, attributes := #[] }])
  fields := #[{ name := "value", type := (.array .byte), accessFlags := 18, slot := 0, constantValue := 0 }, { name := "coder", type := .byte, accessFlags := 18, slot := 1, constantValue := 0 }, { name := "hash", type := .int, accessFlags := 2, slot := 2, constantValue := 0 }, { name := "hashIsZero", type := .boolean, accessFlags := 2, slot := 3, constantValue := 0 }, { name := "serialVersionUID", type := .long, accessFlags := 26, slot := 0, constantValue := 0 }, { name := "COMPACT_STRINGS", type := .boolean, accessFlags := 24, slot := 1, constantValue := 0 }, { name := "serialPersistentFields", type := (.array (.object "java/io/ObjectStreamField")), accessFlags := 26, slot := 2, constantValue := 0 }, { name := "REPL", type := .char, accessFlags := 26, slot := 3, constantValue := 0 }, { name := "CASE_INSENSITIVE_ORDER", type := (.object "java/util/Comparator"), accessFlags := 25, slot := 4, constantValue := 0 }, { name := "LATIN1", type := .byte, accessFlags := 24, slot := 5, constantValue := 0 }, { name := "UTF16", type := .byte, accessFlags := 24, slot := 6, constantValue := 0 }]
  methods := #[k7m0, k7m1, k7m2, k7m3, k7m4, k7m5, k7m6, k7m7, k7m8, k7m9]
  instanceTypes := #[(.array .byte), .byte, .int, .boolean]
  staticTypes := #[.long, .boolean, (.array (.object "java/io/ObjectStreamField")), .char, (.object "java/util/Comparator"), .byte, .byte]
  resolved := Array.replicate 1451 none
  statics := some 0 }

def pool8 : Array CpInfo := pool [(3, .class_ 4), (0, u "java/lang/String"), (1, .class_ 8), (1, u "java/lang/Object"), (0, u "<init>"), (0, u "()V"), (0, .methodref 12 13), (0, .class_ 14), (0, .nameAndType 15 16), (0, u "java/lang/StringUTF16"), (0, u "newBytesLength"), (0, u "(I)I"), (3, .integer 1073741823), (23, .fieldref 12 45), (0, .nameAndType 46 47), (0, u "$assertionsDisabled"), (0, u "Z"), (0, .methodref 12 49), (0, .nameAndType 50 51), (0, u "length"), (0, u "([B)I"), (7, .fieldref 12 60), (0, .nameAndType 61 62), (0, u "HI_BYTE_SHIFT"), (0, u "I"), (0, .fieldref 12 64), (0, .nameAndType 65 62), (0, u "LO_BYTE_SHIFT"), (1, .methodref 12 68), (0, .nameAndType 69 70), (0, u "checkIndex"), (0, u "(I[B)V"), (0, .methodref 12 72), (0, .nameAndType 73 74), (0, u "getChar"), (0, u "([BI)C"), (32, .methodref 12 108), (0, .nameAndType 109 110), (0, u "newBytesFor"), (0, u "(I)[B"), (0, .methodref 12 112), (0, .nameAndType 113 114), (0, u "putChar"), (0, u "([BII)V"), (0, .methodref 12 116), (0, .nameAndType 117 118), (0, u "compress"), (0, u "([CI[BII)I"), (0, .methodref 12 120), (0, .nameAndType 121 122), (0, u "toBytes"), (0, u "([CII)[B"), (138, u "coderFromArrayLen"), (0, u "([BI)B"), (106, .class_ 371), (1, u "java/lang/StringUTF16$LinesSpliterator"), (20, u "charAt"), (21, .methodref 3 415), (0, .nameAndType 69 416), (0, u "(II)V"), (13, u "MAX_LENGTH"), (196, .class_ 628), (0, u "java/lang/StringUTF16$CodePointsSpliterator"), (0, .class_ 630), (0, u "java/lang/StringUTF16$CharsSpliterator")] 4

def k8m0 : Method := { name := "<init>", desc := "()V", sig := { parameters := [], returnType := none }, accessFlags := 0, code := none }
def k8c1 : Code := { maxStack := 1, maxLocals := 1, code := jdk_52_method_2_code, exceptionTable := #[], attributes := #[] }
def k8m1 : Method := { name := "newBytesFor", desc := "(I)[B", sig := { parameters := [.int], returnType := some (.array .byte) }, accessFlags := 9, code := some k8c1 }
def k8c2 : Code := { maxStack := 4, maxLocals := 1, code := jdk_52_method_3_code, exceptionTable := #[], attributes := #[] }
def k8m2 : Method := { name := "newBytesLength", desc := "(I)I", sig := { parameters := [.int], returnType := some .int }, accessFlags := 9, code := some k8c2 }
def k8c3 : Code := { maxStack := 4, maxLocals := 3, code := jdk_52_method_4_code, exceptionTable := #[], attributes := #[] }
def k8m3 : Method := { name := "putChar", desc := "([BII)V", sig := { parameters := [(.array .byte), .int, .int], returnType := none }, accessFlags := 8, code := some k8c3 }
def k8c4 : Code := { maxStack := 3, maxLocals := 2, code := jdk_52_method_5_code, exceptionTable := #[], attributes := #[] }
def k8m4 : Method := { name := "getChar", desc := "([BI)C", sig := { parameters := [(.array .byte), .int], returnType := some .char }, accessFlags := 8, code := some k8c4 }
def k8c5 : Code := { maxStack := 2, maxLocals := 1, code := jdk_52_method_6_code, exceptionTable := #[], attributes := #[] }
def k8m5 : Method := { name := "length", desc := "([B)I", sig := { parameters := [(.array .byte)], returnType := some .int }, accessFlags := 9, code := some k8c5 }
def k8c6 : Code := { maxStack := 4, maxLocals := 5, code := jdk_52_method_14_code, exceptionTable := #[], attributes := #[] }
def k8m6 : Method := { name := "toBytes", desc := "([CII)[B", sig := { parameters := [(.array .char), .int, .int], returnType := some (.array .byte) }, accessFlags := 9, code := some k8c6 }
def k8c7 : Code := { maxStack := 2, maxLocals := 2, code := jdk_52_method_15_code, exceptionTable := #[], attributes := #[] }
def k8m7 : Method := { name := "coderFromArrayLen", desc := "([BI)B", sig := { parameters := [(.array .byte), .int], returnType := some .byte }, accessFlags := 8, code := some k8c7 }
def k8c8 : Code := { maxStack := 5, maxLocals := 6, code := jdk_52_method_16_code, exceptionTable := #[], attributes := #[] }
def k8m8 : Method := { name := "compress", desc := "([CII)[B", sig := { parameters := [(.array .char), .int, .int], returnType := some (.array .byte) }, accessFlags := 9, code := some k8c8 }
def k8c9 : Code := { maxStack := 3, maxLocals := 7, code := jdk_52_method_21_code, exceptionTable := #[], attributes := #[] }
def k8m9 : Method := { name := "compress", desc := "([CI[BII)I", sig := { parameters := [(.array .char), .int, (.array .byte), .int, .int], returnType := some .int }, accessFlags := 9, code := some k8c9 }
def k8c10 : Code := { maxStack := 2, maxLocals := 2, code := jdk_52_method_83_code, exceptionTable := #[], attributes := #[] }
def k8m10 : Method := { name := "charAt", desc := "([BI)C", sig := { parameters := [(.array .byte), .int], returnType := some .char }, accessFlags := 9, code := some k8c10 }
def k8c11 : Code := { maxStack := 2, maxLocals := 2, code := jdk_52_method_91_code, exceptionTable := #[], attributes := #[] }
def k8m11 : Method := { name := "checkIndex", desc := "(I[B)V", sig := { parameters := [.int, (.array .byte)], returnType := none }, accessFlags := 9, code := some k8c11 }
/-- java/lang/StringUTF16 -/
def k8 : Class := { plain "java/lang/StringUTF16" (some 0) with
  accessFlags := 48
  interfaces := #[]
  cf := some (fileOf pool8 12 #[.nestMembers #[627, 629, 369]] #[{ accessFlags := 0, nameIndex := 9, descriptorIndex := 10, attributes := #[] }, { accessFlags := 9, nameIndex := 109, descriptorIndex := 110, attributes := #[] }, { accessFlags := 9, nameIndex := 15, descriptorIndex := 16, attributes := #[] }, { accessFlags := 8, nameIndex := 113, descriptorIndex := 114, attributes := #[] }, { accessFlags := 8, nameIndex := 73, descriptorIndex := 74, attributes := #[] }, { accessFlags := 9, nameIndex := 50, descriptorIndex := 51, attributes := #[] }, { accessFlags := 9, nameIndex := 121, descriptorIndex := 122, attributes := #[] }, { accessFlags := 8, nameIndex := 261, descriptorIndex := 262, attributes := #[] }, { accessFlags := 9, nameIndex := 117, descriptorIndex := 122, attributes := #[] }, { accessFlags := 9, nameIndex := 117, descriptorIndex := 118, attributes := #[] }, { accessFlags := 9, nameIndex := 392, descriptorIndex := 74, attributes := #[] }, { accessFlags := 9, nameIndex := 69, descriptorIndex := 70, attributes := #[] }] 48 6 #[] #[{ accessFlags := 26, nameIndex := 61, descriptorIndex := 62, attributes := #[] }, { accessFlags := 26, nameIndex := 65, descriptorIndex := 62, attributes := #[] }, { accessFlags := 24, nameIndex := 430, descriptorIndex := 62, attributes := #[] }, { accessFlags := 4120, nameIndex := 46, descriptorIndex := 47, attributes := #[] }])
  fields := #[{ name := "HI_BYTE_SHIFT", type := .int, accessFlags := 26, slot := 0, constantValue := 0 }, { name := "LO_BYTE_SHIFT", type := .int, accessFlags := 26, slot := 1, constantValue := 0 }, { name := "MAX_LENGTH", type := .int, accessFlags := 24, slot := 2, constantValue := 0 }, { name := "$assertionsDisabled", type := .boolean, accessFlags := 4120, slot := 3, constantValue := 0 }]
  methods := #[k8m0, k8m1, k8m2, k8m3, k8m4, k8m5, k8m6, k8m7, k8m8, k8m9, k8m10, k8m11]
  instanceTypes := #[]
  staticTypes := #[.int, .int, .int, .boolean]
  resolved := Array.replicate 635 none
  statics := some 1 }

def pool9 : Array CpInfo := pool [(2, .class_ 4), (1, u "java/lang/Object"), (0, u "<init>"), (0, u "()V"), (0, .methodref 8 9), (0, .class_ 10), (0, .nameAndType 11 12), (0, u "java/lang/String"), (0, u "length"), (0, u "()I"), (0, .methodref 8 14), (0, .nameAndType 15 16), (0, u "charAt"), (0, u "(I)C"), (0, .methodref 18 19), (0, .class_ 20), (0, .nameAndType 21 22), (0, u "com/example/tabane/tabane/url/PercentEscapes"), (0, u "hexValue"), (0, u "(C)I"), (0, .methodref 8 24), (0, .nameAndType 25 26), (0, u "indexOf"), (0, u "(I)I"), (7, u "byteAt"), (0, u "(Ljava/lang/String;I)I"), (15, .string 52), (0, u "0123456789ABCDEFabcdef"), (2, u "HEX_DIGITS"), (0, u "Ljava/lang/String;"), (1, u "UNRESERVED_MARKS")] 7

def k9m0 : Method := { name := "<init>", desc := "()V", sig := { parameters := [], returnType := none }, accessFlags := 2, code := none }
def k9c1 : Code := { maxStack := 3, maxLocals := 4, code := prog_43_method_2_code, exceptionTable := #[], attributes := #[] }
def k9m1 : Method := { name := "byteAt", desc := "(Ljava/lang/String;I)I", sig := { parameters := [(.object "java/lang/String"), .int], returnType := some .int }, accessFlags := 9, code := some k9c1 }
def k9c2 : Code := { maxStack := 2, maxLocals := 2, code := prog_43_method_6_code, exceptionTable := #[], attributes := #[] }
def k9m2 : Method := { name := "hexValue", desc := "(C)I", sig := { parameters := [.char], returnType := some .int }, accessFlags := 10, code := some k9c2 }
/-- com/example/tabane/tabane/url/PercentEscapes -/
def k9 : Class := { plain "com/example/tabane/tabane/url/PercentEscapes" (some 0) with
  accessFlags := 49
  interfaces := #[]
  cf := some (fileOf pool9 18 #[] #[{ accessFlags := 2, nameIndex := 5, descriptorIndex := 6, attributes := #[] }, { accessFlags := 9, nameIndex := 34, descriptorIndex := 35, attributes := #[] }, { accessFlags := 10, nameIndex := 21, descriptorIndex := 22, attributes := #[] }] 49 2 #[] #[{ accessFlags := 26, nameIndex := 55, descriptorIndex := 56, attributes := #[] }, { accessFlags := 26, nameIndex := 58, descriptorIndex := 56, attributes := #[] }])
  fields := #[{ name := "HEX_DIGITS", type := (.object "java/lang/String"), accessFlags := 26, slot := 0, constantValue := 0 }, { name := "UNRESERVED_MARKS", type := (.object "java/lang/String"), accessFlags := 26, slot := 1, constantValue := 0 }]
  methods := #[k9m0, k9m1, k9m2]
  instanceTypes := #[]
  staticTypes := #[(.object "java/lang/String"), (.object "java/lang/String")]
  resolved := Array.replicate 66 none
  statics := none }

def pool10 : Array CpInfo := pool [(1, .class_ 2), (0, u "java/lang/String"), (1, .class_ 6), (1, u "java/lang/Object"), (0, u "<init>"), (0, u "()V"), (0, .methodref 1 10), (0, .nameAndType 11 12), (0, u "checkIndex"), (0, u "(II)V"), (1, .class_ 16), (1, u "java/lang/StringLatin1"), (21, .methodref 39 40), (0, .class_ 41), (0, .nameAndType 42 43), (0, u "java/lang/Math"), (0, u "min"), (0, u "(II)I"), (9, u "([BI)C"), (34, .methodref 14 89), (0, .nameAndType 90 91), (0, u "canEncode"), (0, u "(I)Z"), (0, .methodref 39 93), (0, .nameAndType 94 43), (0, u "max"), (0, .methodref 14 96), (0, .nameAndType 97 98), (0, u "indexOfChar"), (0, u "([BIII)I"), (2, u "indexOf"), (19, u "$assertionsDisabled"), (0, u "Z"), (98, .class_ 223), (1, u "java/lang/StringLatin1$LinesSpliterator"), (28, u "charAt"), (137, .class_ 391), (0, u "java/lang/StringLatin1$CharsSpliterator")] 3

def k10m0 : Method := { name := "<init>", desc := "()V", sig := { parameters := [], returnType := none }, accessFlags := 0, code := none }
def k10c1 : Code := { maxStack := 2, maxLocals := 2, code := jdk_43_method_2_code, exceptionTable := #[], attributes := #[] }
def k10m1 : Method := { name := "charAt", desc := "([BI)C", sig := { parameters := [(.array .byte), .int], returnType := some .char }, accessFlags := 9, code := some k10c1 }
def k10c2 : Code := { maxStack := 2, maxLocals := 1, code := jdk_43_method_4_code, exceptionTable := #[], attributes := #[] }
def k10m2 : Method := { name := "canEncode", desc := "(I)Z", sig := { parameters := [.int], returnType := some .boolean }, accessFlags := 9, code := some k10c2 }
def k10c3 : Code := { maxStack := 4, maxLocals := 4, code := jdk_43_method_22_code, exceptionTable := #[], attributes := #[] }
def k10m3 : Method := { name := "indexOf", desc := "([BIII)I", sig := { parameters := [(.array .byte), .int, .int, .int], returnType := some .int }, accessFlags := 9, code := some k10c3 }
def k10c4 : Code := { maxStack := 2, maxLocals := 6, code := jdk_43_method_23_code, exceptionTable := #[], attributes := #[] }
def k10m4 : Method := { name := "indexOfChar", desc := "([BIII)I", sig := { parameters := [(.array .byte), .int, .int, .int], returnType := some .int }, accessFlags := 10, code := some k10c4 }
/-- java/lang/StringLatin1 -/
def k10 : Class := { plain "java/lang/StringLatin1" (some 0) with
  accessFlags := 48
  interfaces := #[]
  cf := some (fileOf pool10 14 #[.nestMembers #[390, 221]] #[{ accessFlags := 0, nameIndex := 7, descriptorIndex := 8, attributes := #[] }, { accessFlags := 9, nameIndex := 252, descriptorIndex := 53, attributes := #[] }, { accessFlags := 9, nameIndex := 90, descriptorIndex := 91, attributes := #[] }, { accessFlags := 9, nameIndex := 101, descriptorIndex := 98, attributes := #[] }, { accessFlags := 10, nameIndex := 97, descriptorIndex := 98, attributes := #[] }] 48 4 #[] #[{ accessFlags := 4120, nameIndex := 121, descriptorIndex := 122, attributes := #[] }])
  fields := #[{ name := "$assertionsDisabled", type := .boolean, accessFlags := 4120, slot := 0, constantValue := 0 }]
  methods := #[k10m0, k10m1, k10m2, k10m3, k10m4]
  instanceTypes := #[]
  staticTypes := #[.boolean]
  resolved := Array.replicate 395 none
  statics := none }

def pool11 : Array CpInfo := pool [(2, .class_ 4), (1, u "java/lang/Object"), (0, u "<init>"), (0, u "()V"), (17, .class_ 26), (1, u "jdk/internal/util/Preconditions"), (6, u "checkIndex"), (21, .class_ 56), (0, u "jdk/internal/util/Preconditions$4"), (57, .class_ 115), (0, u "jdk/internal/util/Preconditions$1"), (7, u "SIOOBE_FORMATTER"), (0, u "Ljava/util/function/BiFunction;"), (0, .class_ 126), (0, u "jdk/internal/util/Preconditions$2"), (3, u "AIOOBE_FORMATTER"), (0, .class_ 132), (0, u "jdk/internal/util/Preconditions$3"), (3, u "IOOBE_FORMATTER"), (41, u "(IILjava/util/function/BiFunction;)I")] 15

def k11m0 : Method := { name := "<init>", desc := "()V", sig := { parameters := [], returnType := none }, accessFlags := 1, code := none }
def k11c1 : Code := { maxStack := 3, maxLocals := 3, code := jdk_41_method_11_code, exceptionTable := #[], attributes := #[] }
def k11m1 : Method := { name := "checkIndex", desc := "(IILjava/util/function/BiFunction;)I", sig := { parameters := [.int, .int, (.object "java/util/function/BiFunction")], returnType := some .int }, accessFlags := 9, code := some k11c1 }
/-- jdk/internal/util/Preconditions -/
def k11 : Class := { plain "jdk/internal/util/Preconditions" (some 0) with
  accessFlags := 33
  interfaces := #[]
  cf := some (fileOf pool11 24 #[.nestMembers #[55, 131, 125, 114]] #[{ accessFlags := 1, nameIndex := 5, descriptorIndex := 6, attributes := #[] }, { accessFlags := 9, nameIndex := 33, descriptorIndex := 178, attributes := #[] }] 33 2 #[] #[{ accessFlags := 25, nameIndex := 123, descriptorIndex := 124, attributes := #[] }, { accessFlags := 25, nameIndex := 130, descriptorIndex := 124, attributes := #[] }, { accessFlags := 25, nameIndex := 136, descriptorIndex := 124, attributes := #[] }])
  fields := #[{ name := "SIOOBE_FORMATTER", type := (.object "java/util/function/BiFunction"), accessFlags := 25, slot := 0, constantValue := 0 }, { name := "AIOOBE_FORMATTER", type := (.object "java/util/function/BiFunction"), accessFlags := 25, slot := 1, constantValue := 0 }, { name := "IOOBE_FORMATTER", type := (.object "java/util/function/BiFunction"), accessFlags := 25, slot := 2, constantValue := 0 }]
  methods := #[k11m0, k11m1]
  instanceTypes := #[]
  staticTypes := #[(.object "java/util/function/BiFunction"), (.object "java/util/function/BiFunction"), (.object "java/util/function/BiFunction")]
  resolved := Array.replicate 194 none
  statics := some 2 }

def pool12 : Array CpInfo := pool [(1, .class_ 2), (0, u "java/lang/Math"), (1, .class_ 6), (1, u "java/lang/Object"), (0, u "<init>"), (0, u "()V"), (89, .class_ 100), (1, u "java/lang/Math$RandomNumberGeneratorHolder"), (71, u "negativeZeroFloatBits"), (0, u "J"), (2, u "negativeZeroDoubleBits"), (21, u "max"), (2, u "min"), (43, u "$assertionsDisabled"), (0, u "Z"), (88, u "(II)I"), (2, u "twoToTheDoubleScaleDown"), (0, u "D"), (4, u "twoToTheDoubleScaleUp"), (9, u "E"), (3, u "PI"), (2, u "TAU"), (2, u "DEGREES_TO_RADIANS"), (0, u "RADIANS_TO_DEGREES")] 94

def k12m0 : Method := { name := "<init>", desc := "()V", sig := { parameters := [], returnType := none }, accessFlags := 2, code := none }
def k12c1 : Code := { maxStack := 2, maxLocals := 2, code := jdk_29_method_65_code, exceptionTable := #[], attributes := #[] }
def k12m1 : Method := { name := "max", desc := "(II)I", sig := { parameters := [.int, .int], returnType := some .int }, accessFlags := 9, code := some k12c1 }
def k12c2 : Code := { maxStack := 2, maxLocals := 2, code := jdk_29_method_69_code, exceptionTable := #[], attributes := #[] }
def k12m2 : Method := { name := "min", desc := "(II)I", sig := { parameters := [.int, .int], returnType := some .int }, accessFlags := 9, code := some k12c2 }
/-- java/lang/Math -/
def k12 : Class := { plain "java/lang/Math" (some 0) with
  accessFlags := 49
  interfaces := #[]
  cf := some (fileOf pool12 1 #[.nestMembers #[98]] #[{ accessFlags := 2, nameIndex := 7, descriptorIndex := 8, attributes := #[] }, { accessFlags := 9, nameIndex := 198, descriptorIndex := 335, attributes := #[] }, { accessFlags := 9, nameIndex := 201, descriptorIndex := 335, attributes := #[] }] 49 4 #[] #[{ accessFlags := 25, nameIndex := 354, descriptorIndex := 339, attributes := #[] }, { accessFlags := 25, nameIndex := 358, descriptorIndex := 339, attributes := #[] }, { accessFlags := 25, nameIndex := 361, descriptorIndex := 339, attributes := #[] }, { accessFlags := 26, nameIndex := 364, descriptorIndex := 339, attributes := #[] }, { accessFlags := 26, nameIndex := 365, descriptorIndex := 339, attributes := #[] }, { accessFlags := 26, nameIndex := 172, descriptorIndex := 173, attributes := #[] }, { accessFlags := 26, nameIndex := 176, descriptorIndex := 173, attributes := #[] }, { accessFlags := 8, nameIndex := 344, descriptorIndex := 339, attributes := #[] }, { accessFlags := 8, nameIndex := 338, descriptorIndex := 339, attributes := #[] }, { accessFlags := 4120, nameIndex := 245, descriptorIndex := 246, attributes := #[] }])
  fields := #[{ name := "E", type := .double, accessFlags := 25, slot := 0, constantValue := 0 }, { name := "PI", type := .double, accessFlags := 25, slot := 1, constantValue := 0 }, { name := "TAU", type := .double, accessFlags := 25, slot := 2, constantValue := 0 }, { name := "DEGREES_TO_RADIANS", type := .double, accessFlags := 26, slot := 3, constantValue := 0 }, { name := "RADIANS_TO_DEGREES", type := .double, accessFlags := 26, slot := 4, constantValue := 0 }, { name := "negativeZeroFloatBits", type := .long, accessFlags := 26, slot := 5, constantValue := 0 }, { name := "negativeZeroDoubleBits", type := .long, accessFlags := 26, slot := 6, constantValue := 0 }, { name := "twoToTheDoubleScaleUp", type := .double, accessFlags := 8, slot := 7, constantValue := 0 }, { name := "twoToTheDoubleScaleDown", type := .double, accessFlags := 8, slot := 8, constantValue := 0 }, { name := "$assertionsDisabled", type := .boolean, accessFlags := 4120, slot := 9, constantValue := 0 }]
  methods := #[k12m0, k12m1, k12m2]
  instanceTypes := #[]
  staticTypes := #[.double, .double, .double, .double, .double, .long, .long, .double, .double, .boolean]
  resolved := Array.replicate 460 none
  statics := none }

def pool13 : Array CpInfo := pool [(9, u "<init>"), (6, .class_ 18), (1, u "java/lang/Object"), (0, u "()V"), (1, .class_ 23), (1, u "jdk/internal/util/ArraysSupport"), (0, u "LOG2_ARRAY_LONG_INDEX_SCALE"), (0, u "I"), (2, u "U"), (0, u "Ljdk/internal/misc/Unsafe;"), (8, u "BIG_ENDIAN"), (0, u "Z"), (8, u "LOG2_BYTE_BIT_SIZE"), (4, u "LOG2_ARRAY_INT_INDEX_SCALE"), (54, u "JLA"), (0, u "Ljdk/internal/access/JavaLangAccess;"), (11, u "LOG2_ARRAY_BOOLEAN_INDEX_SCALE"), (9, u "LOG2_ARRAY_BYTE_INDEX_SCALE"), (5, u "LOG2_ARRAY_CHAR_INDEX_SCALE"), (5, u "LOG2_ARRAY_SHORT_INDEX_SCALE"), (18, u "LOG2_ARRAY_FLOAT_INDEX_SCALE"), (24, u "LOG2_ARRAY_DOUBLE_INDEX_SCALE"), (89, u "T_BOOLEAN"), (2, u "T_CHAR"), (1, u "T_FLOAT"), (1, u "T_DOUBLE"), (1, u "T_BYTE"), (1, u "T_SHORT"), (1, u "T_INT"), (1, u "T_LONG"), (1, u "SOFT_MAX_ARRAY_LENGTH")] 83

def k13m0 : Method := { name := "<init>", desc := "()V", sig := { parameters := [], returnType := none }, accessFlags := 2, code := none }
/-- jdk/internal/util/ArraysSupport -/
def k13 : Class := { plain "jdk/internal/util/ArraysSupport" (some 0) with
  accessFlags := 33
  interfaces := #[]
  cf := some (fileOf pool13 21 #[] #[{ accessFlags := 2, nameIndex := 9, descriptorIndex := 19, attributes := #[] }] 33 16 #[] #[{ accessFlags := 24, nameIndex := 28, descriptorIndex := 29, attributes := #[] }, { accessFlags := 26, nameIndex := 38, descriptorIndex := 39, attributes := #[] }, { accessFlags := 25, nameIndex := 121, descriptorIndex := 25, attributes := #[] }, { accessFlags := 25, nameIndex := 131, descriptorIndex := 25, attributes := #[] }, { accessFlags := 25, nameIndex := 137, descriptorIndex := 25, attributes := #[] }, { accessFlags := 25, nameIndex := 143, descriptorIndex := 25, attributes := #[] }, { accessFlags := 25, nameIndex := 53, descriptorIndex := 25, attributes := #[] }, { accessFlags := 25, nameIndex := 24, descriptorIndex := 25, attributes := #[] }, { accessFlags := 25, nameIndex := 162, descriptorIndex := 25, attributes := #[] }, { accessFlags := 25, nameIndex := 187, descriptorIndex := 25, attributes := #[] }, { accessFlags := 26, nameIndex := 48, descriptorIndex := 25, attributes := #[] }, { accessFlags := 25, nameIndex := 277, descriptorIndex := 25, attributes := #[] }, { accessFlags := 25, nameIndex := 280, descriptorIndex := 25, attributes := #[] }, { accessFlags := 25, nameIndex := 282, descriptorIndex := 25, attributes := #[] }, { accessFlags := 25, nameIndex := 284, descriptorIndex := 25, attributes := #[] }, { accessFlags := 25, nameIndex := 286, descriptorIndex := 25, attributes := #[] }, { accessFlags := 25, nameIndex := 288, descriptorIndex := 25, attributes := #[] }, { accessFlags := 25, nameIndex := 290, descriptorIndex := 25, attributes := #[] }, { accessFlags := 25, nameIndex := 292, descriptorIndex := 25, attributes := #[] }, { accessFlags := 26, nameIndex := 108, descriptorIndex := 109, attributes := #[] }, { accessFlags := 25, nameIndex := 294, descriptorIndex := 25, attributes := #[] }])
  fields := #[{ name := "U", type := (.object "jdk/internal/misc/Unsafe"), accessFlags := 24, slot := 0, constantValue := 0 }, { name := "BIG_ENDIAN", type := .boolean, accessFlags := 26, slot := 1, constantValue := 0 }, { name := "LOG2_ARRAY_BOOLEAN_INDEX_SCALE", type := .int, accessFlags := 25, slot := 2, constantValue := 0 }, { name := "LOG2_ARRAY_BYTE_INDEX_SCALE", type := .int, accessFlags := 25, slot := 3, constantValue := 0 }, { name := "LOG2_ARRAY_CHAR_INDEX_SCALE", type := .int, accessFlags := 25, slot := 4, constantValue := 0 }, { name := "LOG2_ARRAY_SHORT_INDEX_SCALE", type := .int, accessFlags := 25, slot := 5, constantValue := 0 }, { name := "LOG2_ARRAY_INT_INDEX_SCALE", type := .int, accessFlags := 25, slot := 6, constantValue := 0 }, { name := "LOG2_ARRAY_LONG_INDEX_SCALE", type := .int, accessFlags := 25, slot := 7, constantValue := 0 }, { name := "LOG2_ARRAY_FLOAT_INDEX_SCALE", type := .int, accessFlags := 25, slot := 8, constantValue := 0 }, { name := "LOG2_ARRAY_DOUBLE_INDEX_SCALE", type := .int, accessFlags := 25, slot := 9, constantValue := 0 }, { name := "LOG2_BYTE_BIT_SIZE", type := .int, accessFlags := 26, slot := 10, constantValue := 0 }, { name := "T_BOOLEAN", type := .int, accessFlags := 25, slot := 11, constantValue := 0 }, { name := "T_CHAR", type := .int, accessFlags := 25, slot := 12, constantValue := 0 }, { name := "T_FLOAT", type := .int, accessFlags := 25, slot := 13, constantValue := 0 }, { name := "T_DOUBLE", type := .int, accessFlags := 25, slot := 14, constantValue := 0 }, { name := "T_BYTE", type := .int, accessFlags := 25, slot := 15, constantValue := 0 }, { name := "T_SHORT", type := .int, accessFlags := 25, slot := 16, constantValue := 0 }, { name := "T_INT", type := .int, accessFlags := 25, slot := 17, constantValue := 0 }, { name := "T_LONG", type := .int, accessFlags := 25, slot := 18, constantValue := 0 }, { name := "JLA", type := (.object "jdk/internal/access/JavaLangAccess"), accessFlags := 26, slot := 19, constantValue := 0 }, { name := "SOFT_MAX_ARRAY_LENGTH", type := .int, accessFlags := 25, slot := 20, constantValue := 0 }]
  methods := #[k13m0]
  instanceTypes := #[]
  staticTypes := #[(.object "jdk/internal/misc/Unsafe"), .boolean, .int, .int, .int, .int, .int, .int, .int, .int, .int, .int, .int, .int, .int, .int, .int, .int, .int, (.object "jdk/internal/access/JavaLangAccess"), .int]
  resolved := Array.replicate 378 none
  statics := none }

def pool14 : Array CpInfo := pool [(1, u "java/lang/Cloneable"), (0, .class_ 1), (0, u "java/lang/Object"), (0, .class_ 3)] 3

/-- java/lang/Cloneable -/
def k14 : Class := { plain "java/lang/Cloneable" (some 0) with
  accessFlags := 1537
  interfaces := #[]
  cf := some (fileOf pool14 2 #[] #[] 1537 4 #[] #[])
  fields := #[]
  methods := #[]
  instanceTypes := #[]
  staticTypes := #[]
  resolved := Array.replicate 8 none
  statics := none }

/-- the primitive byte -/
def k15 : Class := { plain "byte" none with kind := .primitive 'B', accessFlags := 0x411 }
/-- [B -/
def k16 : Class := { plain "[B" (some 0) with kind := .array 15 .byte, interfaces := #[14, 2], accessFlags := 1041 }

/-- the primitive char -/
def k17 : Class := { plain "char" none with kind := .primitive 'C', accessFlags := 0x411 }
/-- [C -/
def k18 : Class := { plain "[C" (some 0) with kind := .array 17 .char, interfaces := #[14, 2], accessFlags := 1041 }

/-- the primitive int -/
def k19 : Class := { plain "int" none with kind := .primitive 'I', accessFlags := 0x411 }
/-- [I -/
def k20 : Class := { plain "[I" (some 0) with kind := .array 19 .int, interfaces := #[14, 2], accessFlags := 1041 }

def heap : Heap := #[{ cls := 7, slots := #[.long 0, .int 1, .null, .int 0, .null, .int 0, .int 0], vm := .statics 7 },
  { cls := 8, slots := #[.int 0, .int 8, .int 0, .int 1], vm := .statics 8 },
  { cls := 11, slots := #[.null, .null, .null], vm := .statics 11 }]
def classes : Array Class := #[k0, k1, k2, k3, k4, k5, k6, k7, k8, k9, k10, k11, k12, k13, k14, k15, k16, k17, k18, k19, k20]
def interned : List (Array UInt16 × Addr) := []
def slotsUsed : Nat := 14
def theMethod : MethodId := ⟨1, 5⟩
def args0 : Array Value := #[.int 5, .int 5, .int 5, .int 5, .int 5, .int 5]
def aboutOver (below : List Frame) : State where
  vm := { classes := classes, interned := interned.toArray }
  heap := heap
  slotsUsed := slotsUsed
  threads := #[{ frames := .invoking theMethod args0 :: below }]
def below0 : List Frame := [.native { method := ⟨0, 0⟩, args := #[] }]
def about1 : State := aboutOver below0
def p0 : Program := .bare "" "" ""
def e0 : Env := launch0.env 0 0 0
theorem w_frames : about1.frames = Frame.invoking theMethod args0 :: below0 := rfl
set_option maxRecDepth 65536 in
theorem w_args : argsFit about1.vm theMethod args0 = true := by decide +kernel
set_option maxRecDepth 65536 in
theorem w_heap : heapFits about1 = true := by decide +kernel
set_option maxRecDepth 65536 in
theorem w_runnable : about1.curStatus? = some .runnable := by decide +kernel
set_option maxRecDepth 65536 in
theorem w_alone : about1.alone = true := by decide +kernel
set_option maxRecDepth 65536 in
theorem w_named : about1.methodNamed? x = some theMethod := by decide +kernel
set_option maxRecDepth 65536 in
theorem w_hears : about1.hears theMethod below0 = true := by decide +kernel
set_option maxRecDepth 65536 in
theorem w_ripe : about1.ripe theMethod args0 below0 = true := by decide +kernel
theorem w_running : about1.status = .running := rfl
set_option maxRecDepth 65536 in
theorem w_room : about1.hasRoom e0.platform room_1 = true :=
  launch0.hasRoom_least _ room_1 (by decide +kernel) (by decide +kernel) (by decide +kernel) (by decide +kernel) (by decide +kernel) (by decide +kernel)
theorem allAtoms_all (ts : List Jvm.Cond) (a : Array Jvm.Value) (st : Jvm.State) : (allAtoms ts).before a st = ts.all (fun c => c.before a st) := by
  induction ts with
  | nil => rfl
  | cons c t ih =>
    show (Jvm.Cond.and c (allAtoms t)).before a st = _
    rw [Jvm.Cond.before_and, ih, List.all_cons]
def words1 : List Jvm.Cond := Jvm.Cond.code x code maxLocals ret :: tables_1
/-- a 'code' word, met by the world's own term for the bytes: nothing is compared byte by byte -/
theorem code_word {y : MethodName} {bytes : ByteArray} {mx : Nat} {rt : Option FieldType} {a : Array Value} {s : State} {m : MethodId} {meth : Method} {c : Code} (h1 : s.methodNamed? y = some m) (h2 : s.vm.method? m = some meth) (h3 : meth.code = some c) (h4 : c.code = bytes)
    (h5 : (c.maxLocals == mx && c.exceptionTable.isEmpty && decide (c.maxStack ≤ mostOperands) && decide (meth.sig.returnType = rt) && !meth.locks && decide (parseMethodDescriptor y.desc = some meth.sig)) = true) : (Jvm.Cond.code y bytes mx rt).before a s = true := by
  simp only [Bool.and_eq_true, beq_iff_eq, Bool.not_eq_true', decide_eq_true_eq] at h5
  obtain ⟨⟨⟨⟨⟨g1, g2⟩, g3⟩, g4⟩, g5⟩, g6⟩ := h5
  simp [Cond.before, Cond.holds, Cond.value, h1, h2, h3, h4, g1, g2, g3, g4, g5, g6]
def isCode : Jvm.Cond → Bool
  | .code _ _ _ _ => true
  | _ => false
theorem all_split {L : List Jvm.Cond} {P : Jvm.Cond → Bool} (h1 : L.all (fun c => isCode c || P c) = true) (h2 : ∀ c ∈ L.filter isCode, P c = true) : L.all P = true := by
  refine List.all_eq_true.mpr fun c hc => ?_
  have h := List.all_eq_true.mp h1 c hc
  rcases Bool.eq_false_or_eq_true (isCode c) with hi | hi
  · exact h2 c (List.mem_filter.mpr ⟨hc, hi⟩)
  · simpa [hi] using h
set_option maxRecDepth 65536 in
theorem w_c0 : (Jvm.Cond.code x code maxLocals ret).before args0 about1 = true := code_word (m := ⟨1, 5⟩) (meth := k1m5) (c := k1c5) (by decide +kernel) rfl rfl rfl (by decide +kernel)
set_option maxRecDepth 65536 in
theorem w_c1 : (Jvm.Cond.code ({ cls := "com/example/tabane/tabane/url/PercentEscapesByteAtPinLaw", name := "draw", desc := "(I)C" } : Jvm.MethodName) method_2_code (1 : Nat) (Option.some Jvm.ClassFile.FieldType.char)).before args0 about1 = true := code_word (m := ⟨1, 1⟩) (meth := k1m1) (c := k1c1) (by decide +kernel) rfl rfl rfl (by decide +kernel)
set_option maxRecDepth 65536 in
theorem w_c2 : (Jvm.Cond.code ({ cls := "com/example/tabane/tabane/url/PercentEscapesByteAtPinLaw", name := "make", desc := "(ICCCC)Ljava/lang/String;" } : Jvm.MethodName) method_5_code (5 : Nat) (Option.some (Jvm.ClassFile.FieldType.object "java/lang/String"))).before args0 about1 = true := code_word (m := ⟨1, 4⟩) (meth := k1m4) (c := k1c4) (by decide +kernel) rfl rfl rfl (by decide +kernel)
set_option maxRecDepth 65536 in
theorem w_c3 : (Jvm.Cond.code ({ cls := "java/lang/String", name := "<init>", desc := "([C)V" } : Jvm.MethodName) jdk_42_method_3_code (2 : Nat) (Option.none : Option Jvm.ClassFile.FieldType)).before args0 about1 = true := code_word (m := ⟨7, 1⟩) (meth := k7m1) (c := k7c1) (by decide +kernel) rfl rfl rfl (by decide +kernel)
set_option maxRecDepth 65536 in
theorem w_c4 : (Jvm.Cond.code ({ cls := "java/lang/String", name := "<init>", desc := "([CIILjava/lang/Void;)V" } : Jvm.MethodName) jdk_42_method_149_code (6 : Nat) (Option.none : Option Jvm.ClassFile.FieldType)).before args0 about1 = true := code_word (m := ⟨7, 6⟩) (meth := k7m6) (c := k7c6) (by decide +kernel) rfl rfl rfl (by decide +kernel)
set_option maxRecDepth 65536 in
theorem w_c5 : (Jvm.Cond.code ({ cls := "java/lang/Object", name := "<init>", desc := "()V" } : Jvm.MethodName) object_method_1_code (1 : Nat) (Option.none : Option Jvm.ClassFile.FieldType)).before args0 about1 = true := code_word (m := ⟨0, 0⟩) (meth := k0m0) (c := k0c0) (by decide +kernel) rfl rfl rfl (by decide +kernel)
set_option maxRecDepth 65536 in
theorem w_c6 : (Jvm.Cond.code ({ cls := "java/lang/StringUTF16", name := "compress", desc := "([CII)[B" } : Jvm.MethodName) jdk_52_method_16_code (6 : Nat) (Option.some (Jvm.ClassFile.FieldType.array Jvm.ClassFile.FieldType.byte))).before args0 about1 = true := code_word (m := ⟨8, 8⟩) (meth := k8m8) (c := k8c8) (by decide +kernel) rfl rfl rfl (by decide +kernel)
set_option maxRecDepth 65536 in
theorem w_c7 : (Jvm.Cond.code ({ cls := "java/lang/StringUTF16", name := "compress", desc := "([CI[BII)I" } : Jvm.MethodName) jdk_52_method_21_code (7 : Nat) (Option.some Jvm.ClassFile.FieldType.int)).before args0 about1 = true := code_word (m := ⟨8, 9⟩) (meth := k8m9) (c := k8c9) (by decide +kernel) rfl rfl rfl (by decide +kernel)
set_option maxRecDepth 65536 in
theorem w_c8 : (Jvm.Cond.code ({ cls := "java/lang/StringUTF16", name := "coderFromArrayLen", desc := "([BI)B" } : Jvm.MethodName) jdk_52_method_15_code (2 : Nat) (Option.some Jvm.ClassFile.FieldType.byte)).before args0 about1 = true := code_word (m := ⟨8, 7⟩) (meth := k8m7) (c := k8c7) (by decide +kernel) rfl rfl rfl (by decide +kernel)
set_option maxRecDepth 65536 in
theorem w_c9 : (Jvm.Cond.code ({ cls := "com/example/tabane/tabane/url/PercentEscapes", name := "byteAt", desc := "(Ljava/lang/String;I)I" } : Jvm.MethodName) prog_43_method_2_code (4 : Nat) (Option.some Jvm.ClassFile.FieldType.int)).before args0 about1 = true := code_word (m := ⟨9, 1⟩) (meth := k9m1) (c := k9c1) (by decide +kernel) rfl rfl rfl (by decide +kernel)
set_option maxRecDepth 65536 in
theorem w_c10 : (Jvm.Cond.code ({ cls := "java/lang/String", name := "length", desc := "()I" } : Jvm.MethodName) jdk_42_method_54_code (1 : Nat) (Option.some Jvm.ClassFile.FieldType.int)).before args0 about1 = true := code_word (m := ⟨7, 2⟩) (meth := k7m2) (c := k7c2) (by decide +kernel) rfl rfl rfl (by decide +kernel)
set_option maxRecDepth 65536 in
theorem w_c11 : (Jvm.Cond.code ({ cls := "java/lang/String", name := "coder", desc := "()B" } : Jvm.MethodName) jdk_42_method_152_code (1 : Nat) (Option.some Jvm.ClassFile.FieldType.byte)).before args0 about1 = true := code_word (m := ⟨7, 7⟩) (meth := k7m7) (c := k7c7) (by decide +kernel) rfl rfl rfl (by decide +kernel)
set_option maxRecDepth 65536 in
theorem w_c12 : (Jvm.Cond.code ({ cls := "java/lang/String", name := "charAt", desc := "(I)C" } : Jvm.MethodName) jdk_42_method_56_code (2 : Nat) (Option.some Jvm.ClassFile.FieldType.char)).before args0 about1 = true := code_word (m := ⟨7, 3⟩) (meth := k7m3) (c := k7c3) (by decide +kernel) rfl rfl rfl (by decide +kernel)
set_option maxRecDepth 65536 in
theorem w_c13 : (Jvm.Cond.code ({ cls := "java/lang/String", name := "isLatin1", desc := "()Z" } : Jvm.MethodName) jdk_42_method_154_code (1 : Nat) (Option.some Jvm.ClassFile.FieldType.boolean)).before args0 about1 = true := code_word (m := ⟨7, 8⟩) (meth := k7m8) (c := k7c8) (by decide +kernel) rfl rfl rfl (by decide +kernel)
set_option maxRecDepth 65536 in
theorem w_c14 : (Jvm.Cond.code ({ cls := "java/lang/StringLatin1", name := "charAt", desc := "([BI)C" } : Jvm.MethodName) jdk_43_method_2_code (2 : Nat) (Option.some Jvm.ClassFile.FieldType.char)).before args0 about1 = true := code_word (m := ⟨10, 1⟩) (meth := k10m1) (c := k10c1) (by decide +kernel) rfl rfl rfl (by decide +kernel)
set_option maxRecDepth 65536 in
theorem w_c15 : (Jvm.Cond.code ({ cls := "java/lang/String", name := "checkIndex", desc := "(II)V" } : Jvm.MethodName) jdk_42_method_155_code (2 : Nat) (Option.none : Option Jvm.ClassFile.FieldType)).before args0 about1 = true := code_word (m := ⟨7, 9⟩) (meth := k7m9) (c := k7c9) (by decide +kernel) rfl rfl rfl (by decide +kernel)
set_option maxRecDepth 65536 in
theorem w_c16 : (Jvm.Cond.code ({ cls := "jdk/internal/util/Preconditions", name := "checkIndex", desc := "(IILjava/util/function/BiFunction;)I" } : Jvm.MethodName) jdk_41_method_11_code (3 : Nat) (Option.some Jvm.ClassFile.FieldType.int)).before args0 about1 = true := code_word (m := ⟨11, 1⟩) (meth := k11m1) (c := k11c1) (by decide +kernel) rfl rfl rfl (by decide +kernel)
set_option maxRecDepth 65536 in
theorem w_c17 : (Jvm.Cond.code ({ cls := "java/lang/StringUTF16", name := "toBytes", desc := "([CII)[B" } : Jvm.MethodName) jdk_52_method_14_code (5 : Nat) (Option.some (Jvm.ClassFile.FieldType.array Jvm.ClassFile.FieldType.byte))).before args0 about1 = true := code_word (m := ⟨8, 6⟩) (meth := k8m6) (c := k8c6) (by decide +kernel) rfl rfl rfl (by decide +kernel)
set_option maxRecDepth 65536 in
theorem w_c18 : (Jvm.Cond.code ({ cls := "java/lang/StringUTF16", name := "newBytesFor", desc := "(I)[B" } : Jvm.MethodName) jdk_52_method_2_code (1 : Nat) (Option.some (Jvm.ClassFile.FieldType.array Jvm.ClassFile.FieldType.byte))).before args0 about1 = true := code_word (m := ⟨8, 1⟩) (meth := k8m1) (c := k8c1) (by decide +kernel) rfl rfl rfl (by decide +kernel)
set_option maxRecDepth 65536 in
theorem w_c19 : (Jvm.Cond.code ({ cls := "java/lang/StringUTF16", name := "newBytesLength", desc := "(I)I" } : Jvm.MethodName) jdk_52_method_3_code (1 : Nat) (Option.some Jvm.ClassFile.FieldType.int)).before args0 about1 = true := code_word (m := ⟨8, 2⟩) (meth := k8m2) (c := k8c2) (by decide +kernel) rfl rfl rfl (by decide +kernel)
set_option maxRecDepth 65536 in
theorem w_c20 : (Jvm.Cond.code ({ cls := "java/lang/StringUTF16", name := "putChar", desc := "([BII)V" } : Jvm.MethodName) jdk_52_method_4_code (3 : Nat) (Option.none : Option Jvm.ClassFile.FieldType)).before args0 about1 = true := code_word (m := ⟨8, 3⟩) (meth := k8m3) (c := k8c3) (by decide +kernel) rfl rfl rfl (by decide +kernel)
set_option maxRecDepth 65536 in
theorem w_c21 : (Jvm.Cond.code ({ cls := "java/lang/StringUTF16", name := "getChar", desc := "([BI)C" } : Jvm.MethodName) jdk_52_method_5_code (2 : Nat) (Option.some Jvm.ClassFile.FieldType.char)).before args0 about1 = true := code_word (m := ⟨8, 4⟩) (meth := k8m4) (c := k8c4) (by decide +kernel) rfl rfl rfl (by decide +kernel)
set_option maxRecDepth 65536 in
theorem w_c22 : (Jvm.Cond.code ({ cls := "com/example/tabane/tabane/url/PercentEscapesByteAtPinLaw", name := "pick", desc := "(ICCCC)C" } : Jvm.MethodName) method_4_code (5 : Nat) (Option.some Jvm.ClassFile.FieldType.char)).before args0 about1 = true := code_word (m := ⟨1, 3⟩) (meth := k1m3) (c := k1c3) (by decide +kernel) rfl rfl rfl (by decide +kernel)
set_option maxRecDepth 65536 in
theorem w_c23 : (Jvm.Cond.code ({ cls := "com/example/tabane/tabane/url/PercentEscapesByteAtPinLaw", name := "hex", desc := "(C)I" } : Jvm.MethodName) method_3_code (1 : Nat) (Option.some Jvm.ClassFile.FieldType.int)).before args0 about1 = true := code_word (m := ⟨1, 2⟩) (meth := k1m2) (c := k1c2) (by decide +kernel) rfl rfl rfl (by decide +kernel)
set_option maxRecDepth 65536 in
theorem w_c24 : (Jvm.Cond.code ({ cls := "com/example/tabane/tabane/url/PercentEscapes", name := "hexValue", desc := "(C)I" } : Jvm.MethodName) prog_43_method_6_code (2 : Nat) (Option.some Jvm.ClassFile.FieldType.int)).before args0 about1 = true := code_word (m := ⟨9, 2⟩) (meth := k9m2) (c := k9c2) (by decide +kernel) rfl rfl rfl (by decide +kernel)
set_option maxRecDepth 65536 in
theorem w_c25 : (Jvm.Cond.code ({ cls := "java/lang/String", name := "indexOf", desc := "(I)I" } : Jvm.MethodName) jdk_42_method_79_code (2 : Nat) (Option.some Jvm.ClassFile.FieldType.int)).before args0 about1 = true := code_word (m := ⟨7, 4⟩) (meth := k7m4) (c := k7c4) (by decide +kernel) rfl rfl rfl (by decide +kernel)
set_option maxRecDepth 65536 in
theorem w_c26 : (Jvm.Cond.code ({ cls := "java/lang/String", name := "indexOf", desc := "(II)I" } : Jvm.MethodName) jdk_42_method_80_code (3 : Nat) (Option.some Jvm.ClassFile.FieldType.int)).before args0 about1 = true := code_word (m := ⟨7, 5⟩) (meth := k7m5) (c := k7c5) (by decide +kernel) rfl rfl rfl (by decide +kernel)
set_option maxRecDepth 65536 in
theorem w_c27 : (Jvm.Cond.code ({ cls := "java/lang/StringLatin1", name := "indexOf", desc := "([BIII)I" } : Jvm.MethodName) jdk_43_method_22_code (4 : Nat) (Option.some Jvm.ClassFile.FieldType.int)).before args0 about1 = true := code_word (m := ⟨10, 3⟩) (meth := k10m3) (c := k10c3) (by decide +kernel) rfl rfl rfl (by decide +kernel)
set_option maxRecDepth 65536 in
theorem w_c28 : (Jvm.Cond.code ({ cls := "java/lang/StringLatin1", name := "canEncode", desc := "(I)Z" } : Jvm.MethodName) jdk_43_method_4_code (1 : Nat) (Option.some Jvm.ClassFile.FieldType.boolean)).before args0 about1 = true := code_word (m := ⟨10, 2⟩) (meth := k10m2) (c := k10c2) (by decide +kernel) rfl rfl rfl (by decide +kernel)
set_option maxRecDepth 65536 in
theorem w_c29 : (Jvm.Cond.code ({ cls := "java/lang/Math", name := "max", desc := "(II)I" } : Jvm.MethodName) jdk_29_method_65_code (2 : Nat) (Option.some Jvm.ClassFile.FieldType.int)).before args0 about1 = true := code_word (m := ⟨12, 1⟩) (meth := k12m1) (c := k12c1) (by decide +kernel) rfl rfl rfl (by decide +kernel)
set_option maxRecDepth 65536 in
theorem w_c30 : (Jvm.Cond.code ({ cls := "java/lang/Math", name := "min", desc := "(II)I" } : Jvm.MethodName) jdk_29_method_69_code (2 : Nat) (Option.some Jvm.ClassFile.FieldType.int)).before args0 about1 = true := code_word (m := ⟨12, 2⟩) (meth := k12m2) (c := k12c2) (by decide +kernel) rfl rfl rfl (by decide +kernel)
set_option maxRecDepth 65536 in
theorem w_c31 : (Jvm.Cond.code ({ cls := "java/lang/StringLatin1", name := "indexOfChar", desc := "([BIII)I" } : Jvm.MethodName) jdk_43_method_23_code (6 : Nat) (Option.some Jvm.ClassFile.FieldType.int)).before args0 about1 = true := code_word (m := ⟨10, 4⟩) (meth := k10m4) (c := k10c4) (by decide +kernel) rfl rfl rfl (by decide +kernel)
set_option maxRecDepth 65536 in
theorem w_c32 : (Jvm.Cond.code ({ cls := "java/lang/StringUTF16", name := "charAt", desc := "([BI)C" } : Jvm.MethodName) jdk_52_method_83_code (2 : Nat) (Option.some Jvm.ClassFile.FieldType.char)).before args0 about1 = true := code_word (m := ⟨8, 10⟩) (meth := k8m10) (c := k8c10) (by decide +kernel) rfl rfl rfl (by decide +kernel)
set_option maxRecDepth 65536 in
theorem w_c33 : (Jvm.Cond.code ({ cls := "java/lang/StringUTF16", name := "checkIndex", desc := "(I[B)V" } : Jvm.MethodName) jdk_52_method_91_code (2 : Nat) (Option.none : Option Jvm.ClassFile.FieldType)).before args0 about1 = true := code_word (m := ⟨8, 11⟩) (meth := k8m11) (c := k8c11) (by decide +kernel) rfl rfl rfl (by decide +kernel)
set_option maxRecDepth 65536 in
theorem w_c34 : (Jvm.Cond.code ({ cls := "java/lang/StringUTF16", name := "length", desc := "([B)I" } : Jvm.MethodName) jdk_52_method_6_code (1 : Nat) (Option.some Jvm.ClassFile.FieldType.int)).before args0 about1 = true := code_word (m := ⟨8, 5⟩) (meth := k8m5) (c := k8c5) (by decide +kernel) rfl rfl rfl (by decide +kernel)
def codes1 : List Jvm.Cond := [Jvm.Cond.code x code maxLocals ret, Jvm.Cond.code ({ cls := "com/example/tabane/tabane/url/PercentEscapesByteAtPinLaw", name := "draw", desc := "(I)C" } : Jvm.MethodName) method_2_code (1 : Nat) (Option.some Jvm.ClassFile.FieldType.char), Jvm.Cond.code ({ cls := "com/example/tabane/tabane/url/PercentEscapesByteAtPinLaw", name := "make", desc := "(ICCCC)Ljava/lang/String;" } : Jvm.MethodName) method_5_code (5 : Nat) (Option.some (Jvm.ClassFile.FieldType.object "java/lang/String")), Jvm.Cond.code ({ cls := "java/lang/String", name := "<init>", desc := "([C)V" } : Jvm.MethodName) jdk_42_method_3_code (2 : Nat) (Option.none : Option Jvm.ClassFile.FieldType), Jvm.Cond.code ({ cls := "java/lang/String", name := "<init>", desc := "([CIILjava/lang/Void;)V" } : Jvm.MethodName) jdk_42_method_149_code (6 : Nat) (Option.none : Option Jvm.ClassFile.FieldType), Jvm.Cond.code ({ cls := "java/lang/Object", name := "<init>", desc := "()V" } : Jvm.MethodName) object_method_1_code (1 : Nat) (Option.none : Option Jvm.ClassFile.FieldType), Jvm.Cond.code ({ cls := "java/lang/StringUTF16", name := "compress", desc := "([CII)[B" } : Jvm.MethodName) jdk_52_method_16_code (6 : Nat) (Option.some (Jvm.ClassFile.FieldType.array Jvm.ClassFile.FieldType.byte)), Jvm.Cond.code ({ cls := "java/lang/StringUTF16", name := "compress", desc := "([CI[BII)I" } : Jvm.MethodName) jdk_52_method_21_code (7 : Nat) (Option.some Jvm.ClassFile.FieldType.int), Jvm.Cond.code ({ cls := "java/lang/StringUTF16", name := "coderFromArrayLen", desc := "([BI)B" } : Jvm.MethodName) jdk_52_method_15_code (2 : Nat) (Option.some Jvm.ClassFile.FieldType.byte), Jvm.Cond.code ({ cls := "com/example/tabane/tabane/url/PercentEscapes", name := "byteAt", desc := "(Ljava/lang/String;I)I" } : Jvm.MethodName) prog_43_method_2_code (4 : Nat) (Option.some Jvm.ClassFile.FieldType.int), Jvm.Cond.code ({ cls := "java/lang/String", name := "length", desc := "()I" } : Jvm.MethodName) jdk_42_method_54_code (1 : Nat) (Option.some Jvm.ClassFile.FieldType.int), Jvm.Cond.code ({ cls := "java/lang/String", name := "coder", desc := "()B" } : Jvm.MethodName) jdk_42_method_152_code (1 : Nat) (Option.some Jvm.ClassFile.FieldType.byte), Jvm.Cond.code ({ cls := "java/lang/String", name := "charAt", desc := "(I)C" } : Jvm.MethodName) jdk_42_method_56_code (2 : Nat) (Option.some Jvm.ClassFile.FieldType.char), Jvm.Cond.code ({ cls := "java/lang/String", name := "isLatin1", desc := "()Z" } : Jvm.MethodName) jdk_42_method_154_code (1 : Nat) (Option.some Jvm.ClassFile.FieldType.boolean), Jvm.Cond.code ({ cls := "java/lang/StringLatin1", name := "charAt", desc := "([BI)C" } : Jvm.MethodName) jdk_43_method_2_code (2 : Nat) (Option.some Jvm.ClassFile.FieldType.char), Jvm.Cond.code ({ cls := "java/lang/String", name := "checkIndex", desc := "(II)V" } : Jvm.MethodName) jdk_42_method_155_code (2 : Nat) (Option.none : Option Jvm.ClassFile.FieldType), Jvm.Cond.code ({ cls := "jdk/internal/util/Preconditions", name := "checkIndex", desc := "(IILjava/util/function/BiFunction;)I" } : Jvm.MethodName) jdk_41_method_11_code (3 : Nat) (Option.some Jvm.ClassFile.FieldType.int), Jvm.Cond.code ({ cls := "java/lang/StringUTF16", name := "toBytes", desc := "([CII)[B" } : Jvm.MethodName) jdk_52_method_14_code (5 : Nat) (Option.some (Jvm.ClassFile.FieldType.array Jvm.ClassFile.FieldType.byte)), Jvm.Cond.code ({ cls := "java/lang/StringUTF16", name := "newBytesFor", desc := "(I)[B" } : Jvm.MethodName) jdk_52_method_2_code (1 : Nat) (Option.some (Jvm.ClassFile.FieldType.array Jvm.ClassFile.FieldType.byte)), Jvm.Cond.code ({ cls := "java/lang/StringUTF16", name := "newBytesLength", desc := "(I)I" } : Jvm.MethodName) jdk_52_method_3_code (1 : Nat) (Option.some Jvm.ClassFile.FieldType.int), Jvm.Cond.code ({ cls := "java/lang/StringUTF16", name := "putChar", desc := "([BII)V" } : Jvm.MethodName) jdk_52_method_4_code (3 : Nat) (Option.none : Option Jvm.ClassFile.FieldType), Jvm.Cond.code ({ cls := "java/lang/StringUTF16", name := "getChar", desc := "([BI)C" } : Jvm.MethodName) jdk_52_method_5_code (2 : Nat) (Option.some Jvm.ClassFile.FieldType.char), Jvm.Cond.code ({ cls := "com/example/tabane/tabane/url/PercentEscapesByteAtPinLaw", name := "pick", desc := "(ICCCC)C" } : Jvm.MethodName) method_4_code (5 : Nat) (Option.some Jvm.ClassFile.FieldType.char), Jvm.Cond.code ({ cls := "com/example/tabane/tabane/url/PercentEscapesByteAtPinLaw", name := "hex", desc := "(C)I" } : Jvm.MethodName) method_3_code (1 : Nat) (Option.some Jvm.ClassFile.FieldType.int), Jvm.Cond.code ({ cls := "com/example/tabane/tabane/url/PercentEscapes", name := "hexValue", desc := "(C)I" } : Jvm.MethodName) prog_43_method_6_code (2 : Nat) (Option.some Jvm.ClassFile.FieldType.int), Jvm.Cond.code ({ cls := "java/lang/String", name := "indexOf", desc := "(I)I" } : Jvm.MethodName) jdk_42_method_79_code (2 : Nat) (Option.some Jvm.ClassFile.FieldType.int), Jvm.Cond.code ({ cls := "java/lang/String", name := "indexOf", desc := "(II)I" } : Jvm.MethodName) jdk_42_method_80_code (3 : Nat) (Option.some Jvm.ClassFile.FieldType.int), Jvm.Cond.code ({ cls := "java/lang/StringLatin1", name := "indexOf", desc := "([BIII)I" } : Jvm.MethodName) jdk_43_method_22_code (4 : Nat) (Option.some Jvm.ClassFile.FieldType.int), Jvm.Cond.code ({ cls := "java/lang/StringLatin1", name := "canEncode", desc := "(I)Z" } : Jvm.MethodName) jdk_43_method_4_code (1 : Nat) (Option.some Jvm.ClassFile.FieldType.boolean), Jvm.Cond.code ({ cls := "java/lang/Math", name := "max", desc := "(II)I" } : Jvm.MethodName) jdk_29_method_65_code (2 : Nat) (Option.some Jvm.ClassFile.FieldType.int), Jvm.Cond.code ({ cls := "java/lang/Math", name := "min", desc := "(II)I" } : Jvm.MethodName) jdk_29_method_69_code (2 : Nat) (Option.some Jvm.ClassFile.FieldType.int), Jvm.Cond.code ({ cls := "java/lang/StringLatin1", name := "indexOfChar", desc := "([BIII)I" } : Jvm.MethodName) jdk_43_method_23_code (6 : Nat) (Option.some Jvm.ClassFile.FieldType.int), Jvm.Cond.code ({ cls := "java/lang/StringUTF16", name := "charAt", desc := "([BI)C" } : Jvm.MethodName) jdk_52_method_83_code (2 : Nat) (Option.some Jvm.ClassFile.FieldType.char), Jvm.Cond.code ({ cls := "java/lang/StringUTF16", name := "checkIndex", desc := "(I[B)V" } : Jvm.MethodName) jdk_52_method_91_code (2 : Nat) (Option.none : Option Jvm.ClassFile.FieldType), Jvm.Cond.code ({ cls := "java/lang/StringUTF16", name := "length", desc := "([B)I" } : Jvm.MethodName) jdk_52_method_6_code (1 : Nat) (Option.some Jvm.ClassFile.FieldType.int)]
set_option maxRecDepth 65536 in
theorem codes_eq : words1.filter isCode = codes1 := rfl
theorem w_codes : ∀ c ∈ words1.filter isCode, c.before args0 about1 = true := by
  rw [codes_eq]
  intro c hc
  simp only [codes1, List.mem_cons, List.not_mem_nil, or_false] at hc
  rcases hc with rfl | rfl | rfl | rfl | rfl | rfl | rfl | rfl | rfl | rfl | rfl | rfl | rfl | rfl | rfl | rfl | rfl | rfl | rfl | rfl | rfl | rfl | rfl | rfl | rfl | rfl | rfl | rfl | rfl | rfl | rfl | rfl | rfl | rfl | rfl
  · exact w_c0
  · exact w_c1
  · exact w_c2
  · exact w_c3
  · exact w_c4
  · exact w_c5
  · exact w_c6
  · exact w_c7
  · exact w_c8
  · exact w_c9
  · exact w_c10
  · exact w_c11
  · exact w_c12
  · exact w_c13
  · exact w_c14
  · exact w_c15
  · exact w_c16
  · exact w_c17
  · exact w_c18
  · exact w_c19
  · exact w_c20
  · exact w_c21
  · exact w_c22
  · exact w_c23
  · exact w_c24
  · exact w_c25
  · exact w_c26
  · exact w_c27
  · exact w_c28
  · exact w_c29
  · exact w_c30
  · exact w_c31
  · exact w_c32
  · exact w_c33
  · exact w_c34
set_option maxRecDepth 65536 in
theorem w_t1 : (words1.take 24).all (fun c => isCode c || c.before args0 about1) = true := by decide +kernel
set_option maxRecDepth 65536 in
theorem w_t2 : ((words1.drop 24).take 24).all (fun c => isCode c || c.before args0 about1) = true := by decide +kernel
set_option maxRecDepth 65536 in
theorem w_t3 : (((words1.drop 24).drop 24).take 24).all (fun c => isCode c || c.before args0 about1) = true := by decide +kernel
set_option maxRecDepth 65536 in
theorem w_t4 : ((((words1.drop 24).drop 24).drop 24).take 24).all (fun c => isCode c || c.before args0 about1) = true := by decide +kernel
set_option maxRecDepth 65536 in
theorem w_t5 : (((((words1.drop 24).drop 24).drop 24).drop 24).take 24).all (fun c => isCode c || c.before args0 about1) = true := by decide +kernel
set_option maxRecDepth 65536 in
theorem w_t6 : ((((((words1.drop 24).drop 24).drop 24).drop 24).drop 24).take 24).all (fun c => isCode c || c.before args0 about1) = true := by decide +kernel
set_option maxRecDepth 65536 in
theorem w_t7 : ((((((words1.drop 24).drop 24).drop 24).drop 24).drop 24).drop 24).all (fun c => isCode c || c.before args0 about1) = true := by decide +kernel
theorem w_tables : (allAtoms (Jvm.Cond.code x code maxLocals ret :: tables_1)).before args0 about1 = true := by
  rw [allAtoms_all]
  show words1.all (fun c => c.before args0 about1) = true
  refine all_split ?_ w_codes
  rw [← List.take_append_drop 24 words1, List.all_append, w_t1, ← List.take_append_drop 24 (words1.drop 24), List.all_append, w_t2, ← List.take_append_drop 24 ((words1.drop 24).drop 24), List.all_append, w_t3, ← List.take_append_drop 24 (((words1.drop 24).drop 24).drop 24), List.all_append, w_t4, ← List.take_append_drop 24 ((((words1.drop 24).drop 24).drop 24).drop 24), List.all_append, w_t5, ← List.take_append_drop 24 (((((words1.drop 24).drop 24).drop 24).drop 24).drop 24), List.all_append, w_t6, w_t7]
  rfl
set_option maxRecDepth 65536 in
theorem w_rest : rest_1_c.before args0 about1 = true := by decide +kernel
set_option maxRecDepth 65536 in
theorem w_case : (Jvm.Cond.and given_1 narrow_1).before args0 about1 = true := by decide +kernel
set_option maxRecDepth 65536 in
theorem w_consts : constsHeld consts_1 about1 := Jvm.Lit.constsHeldB_iff.mp (by decide +kernel)
theorem w_applies : (headSpec (Jvm.Cond.code x code maxLocals ret :: tables_1) room_1).applies x e0.platform about1 = true :=
  (Spec.applies_iff w_frames).mpr ⟨w_running, w_runnable, w_alone, w_named, w_hears, w_ripe, w_room, w_tables⟩
theorem atStart : AtStart classFile x code maxLocals ret World_1 tables_1 room_1 Calls_1 rest_1 Pre_1 launch0 p0 e0 about1 theMethod args0 below0 :=
  ⟨lists_1, trivial, launch0.admits_env _ _ _, launch0.least_env, fairChoices_fair.cas, fairChoices_fair.clock, w_frames, w_args, w_heap, w_applies, ⟨w_consts, trivial⟩, w_rest, w_case⟩
end start1
theorem witness_1 : WitnessClaimed_1 := ⟨start1.p0, start1.e0, start1.about1, start1.theMethod, start1.args0, start1.below0, start1.atStart⟩
end Jvm.Pilot.@@N@@
