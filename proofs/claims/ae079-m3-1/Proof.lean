import JvmDerived
import JvmDerived.Pilot.@@N@@Statement
import JvmDerived.Pilot.@@N@@Code
set_option linter.unusedVariables false
set_option linter.unusedSimpArgs false
/-! OWN FRAMEWORK, part 1: a walk as one predicate 'Go' (the machine's state hidden), contracts 'Met'. -/
namespace Jvm.Pilot.@@N@@
namespace Own
open Jvm Jvm.ClassFile Sem Op Lib Jvm.Free Jvm.Stand Jvm.LawKit Jvm.RoadKit
/-- what one run of a body fixes: program, env, start, method id, arguments, frames below, method, code -/
abbrev Cx := Program × Env × State × MethodId × Array Value × List Frame × Method × Code
abbrev QT := Option Value → Heap → List Addr → Prop
/-- the words of the sheet, of the start Z -/
def Wd (Z : State) (a0 : Array Value) : Prop := (∀ d ∈ tables_1, d.before a0 Z = true) ∧ EW Z a0 consts_1 ∧ (∀ a ∈ Bundle.stringAtoms, a.before a0 Z = true) ∧ (∃ cz : Int32, Sta Z Z.heap "java/lang/String" "COMPACT_STRINGS" "Z" (.int cz) ∧ ¬ cz = 0) ∧ (∃ fm : Value, Sta Z Z.heap "jdk/internal/util/Preconditions" "SIOOBE_FORMATTER" "Ljava/util/function/BiFunction;" fm ∧ fm.isRef = true) ∧ (∀ d ∈ jdkStatics_1, d.before a0 Z = true)
/-- made since the law began, and no cell of a booked literal -/
def Mine (Z : State) (vm : Vm) (h : Heap) (x : Addr) : Prop := Z.heap.size ≤ x ∧ x < h.size ∧ Safe Z consts_1 vm h x
def St (l : Launch) (Z : State) (K : Cx) (own mn : String) (b : ByteArray) (ml : Nat) (rt : Option FieldType) (R : Room) (T : State) (h : Heap) (F : List Addr) (c s : Nat) : Prop :=
  ∃ (vm : Vm) (k : Nat) (locs : List Loc), Stand K.1 l K.2.1 R (K.2.2.1.setVm vm) K.2.2.2.1 K.2.2.2.2.1 K.2.2.2.2.2.1 K.2.2.2.2.2.2.1 K.2.2.2.2.2.2.2 T locs c s ∧ T.heap = h ∧
    K.2.2.1.Since vm k ∧ k ≤ h.size ∧ Z.Warmed39 vm ∧ vm.findClass own = some K.2.2.2.1.cls ∧ Fr Z.heap.size locs ∧ CHr Z consts_1 K.2.2.1.vm K.2.2.1.heap vm h ∧ (∀ x ∈ F, Mine Z vm h x) ∧ Old Z Z.heap.size h ∧
    K.1.tables.exec = Jvm.exec ∧ K.2.2.2.2.2.2.2.code = b ∧ K.2.2.2.2.2.2.2.maxLocals = ml ∧ K.2.2.2.2.2.2.1.sig.returnType = rt ∧ K.2.2.2.2.2.2.1.name = mn ∧ K.2.2.2.2.2.2.1.locks = false
def End (Z : State) (s : State) (R : Room) (Q : QT) (o : Outcome) (U : State) : Prop :=
  ∃ v L G, o = .returned v ∧ Q v U.heap G ∧ Fr Z.heap.size L ∧ (∀ x ∈ G, Mine Z U.vm U.heap x) ∧ CHr Z consts_1 s.vm s.heap U.vm U.heap ∧ Old Z Z.heap.size U.heap ∧ ReturnedEndW s o U L R.cells R.slots
def Go (l : Launch) (Z : State) (K : Cx) (own mn : String) (b : ByteArray) (ml : Nat) (rt : Option FieldType) (R : Room) (Q : QT) (h : Heap) (F : List Addr) (c s : Nat) (pc : Nat) (L : Array Slot) (S : List Value) : Prop :=
  ∀ T, St l Z K own mn b ml rt R T h F c s → ∃ s₂ o, Steps K.1.tables K.2.1 K.2.2.2.2.2.1 (T.setTop (mkF K.2.2.2.1 pc L S)) s₂ ∧ s₂.status = .running ∧ Ended s₂ K.2.2.2.2.2.1 o ∧ End Z K.2.2.1 R Q o s₂
/-- a body's contract -/
def Met (l : Launch) (Z : State) (y : MethodName) (b : ByteArray) (ml : Nat) (rt : Option FieldType) (R : Room) (h0 : Heap) (F : List Addr) (as : Array Value) (Q : QT) : Prop :=
  MetFree l y (head1 [Cond.code y b ml rt] R) (fun a U => a = as ∧ Z.Warmed39 U.vm ∧ U.heap = h0 ∧ CHv Z consts_1 U.vm h0 ∧ (∀ x ∈ F, Mine Z U.vm h0 x) ∧ Old Z Z.heap.size h0) (fun _ _ _ _ _ => True) (fun _ U o U' => End Z U R Q o U')
section G
variable {l : Launch} {Z : State} {a0 : Array Value} {K : Cx} {own mn : String} {b : ByteArray} {ml : Nat} {rt : Option FieldType} {R : Room} {Q : QT} {h h' : Heap} {F : List Addr} {c s pc q : Nat} {L L' : Array Slot} {S S' : List Value}
theorem Met.mk {y : MethodName} {as : Array Value} (hp : plainFor y = true) (he : ∀ m, entryFrame m as ml = mkF m 0 L []) (w : ∀ K, Go l Z K y.cls y.name b ml rt R Q h F 0 0 0 L []) : Met l Z y b ml rt R h F as Q := by
  refine MetFree.of_bodySF hp hisR ?_
  intro p e s m args below meth c s₁ Bd hml hP hK
  obtain ⟨rfl, hZ, hh, hC, hF, hO⟩ := hP
  have hst : s₁.heap = h := by rw [← hh, Bd.state]; rfl
  have X0 : Stand p l e R s m args below meth c s₁ [] 0 0 := Stand.of_body Bd
  obtain ⟨s₂, o, h1, h2, h3, h4⟩ := w (p, e, s, m, args, below, meth, c) s₁ ⟨s.vm, 0, [], X0, hst, ⟨State.Warmed39.refl _, (State.WarmedH.refl s).no_new_pair _⟩, Nat.zero_le _, hZ, findClass_of_methodNamed Bd.named, Fr.nil _, by
    show CHr Z consts_1 s.vm s.heap s.vm h
    rw [hh]; exact CHr.refl hC, hF, hO, Bd.exec, Bd.bytes, hml, Bd.returns, (name_of_methodNamed Bd.named Bd.method).1, Bd.notSynchronized⟩
  exact ⟨s₂, o, by rw [he]; exact h1, h2, h3, h4⟩
/-- the law's own contract, over the sheet's words -/
def MetL (l : Launch) (Z : State) (y : MethodName) (b : ByteArray) (ml : Nat) (rt : Option FieldType) (R : Room) (h0 : Heap) (F : List Addr) (as : Array Value) (Q : QT) : Prop :=
  MetFree l y (head1 (Cond.code y b ml rt :: tables_1) R) (fun a U => a = as ∧ Z.Warmed39 U.vm ∧ U.heap = h0 ∧ CHv Z consts_1 U.vm h0 ∧ (∀ x ∈ F, Mine Z U.vm h0 x) ∧ Old Z Z.heap.size h0) (fun _ _ _ _ _ => True) (fun _ U o U' => End Z U R Q o U')
theorem MetL.mk {y : MethodName} {as : Array Value} (hp : plainFor y = true) (he : ∀ m, entryFrame m as ml = mkF m 0 L []) (w : ∀ K, Go l Z K y.cls y.name b ml rt R Q h F 0 0 0 L []) : MetL l Z y b ml rt R h F as Q := by
  refine MetFree.of_bodySF hp hisR ?_
  intro p e s m args below meth c s₁ Bd hml hP hK
  obtain ⟨rfl, hZ, hh, hC, hF, hO⟩ := hP
  have hst : s₁.heap = h := by rw [← hh, Bd.state]; rfl
  have X0 : Stand p l e R s m args below meth c s₁ [] 0 0 := Stand.of_body Bd
  obtain ⟨s₂, o, h1, h2, h3, h4⟩ := w (p, e, s, m, args, below, meth, c) s₁ ⟨s.vm, 0, [], X0, hst, ⟨State.Warmed39.refl _, (State.WarmedH.refl s).no_new_pair _⟩, Nat.zero_le _, hZ, findClass_of_methodNamed Bd.named, Fr.nil _, by
    show CHr Z consts_1 s.vm s.heap s.vm h
    rw [hh]; exact CHr.refl hC, hF, hO, Bd.exec, Bd.bytes, hml, Bd.returns, (name_of_methodNamed Bd.named Bd.method).1, Bd.notSynchronized⟩
  exact ⟨s₂, o, by rw [he]; exact h1, h2, h3, h4⟩
theorem go_of (st : ∀ T, St l Z K own mn b ml rt R T h F c s → ∀ t, Steps K.1.tables K.2.1 K.2.2.2.2.2.1 (T.setTop (mkF K.2.2.2.1 q L' S')) t → Steps K.1.tables K.2.1 K.2.2.2.2.2.1 (T.setTop (mkF K.2.2.2.1 pc L S)) t)
    (n : Go l Z K own mn b ml rt R Q h F c s q L' S') : Go l Z K own mn b ml rt R Q h F c s pc L S := fun T X => by
  obtain ⟨s₂, o, a, r⟩ := n T X
  exact ⟨s₂, o, st T X _ a, r⟩
/-- the facts at hand may be fewer; the counts higher -/
theorem go_less {F' : List Addr} {c' s' : Nat} (hF : ∀ x ∈ F', x ∈ F) (hc : c ≤ c') (hs : s ≤ s') (n : Go l Z K own mn b ml rt R Q h F' c' s' pc L S) : Go l Z K own mn b ml rt R Q h F c s pc L S := fun T X => by
  obtain ⟨vm, k, locs, Y, r1, r2, r3, r4, r5, r6, r7, r8, r9⟩ := X
  exact n T ⟨vm, k, locs, Y.mono hc hs, r1, r2, r3, r4, r5, r6, r7, fun x hx => r8 x (hF x hx), r9⟩
/-- an object of a class of its own, made since the law began, may be written -/
theorem go_claim {x : Addr} {C : String} (E : Exa Z h x C) (hC : C ≠ "java/lang/String" ∧ C ≠ "[B") (hx : Z.heap.size ≤ x) (n : Go l Z K own mn b ml rt R Q h (x :: F) c s pc L S) : Go l Z K own mn b ml rt R Q h F c s pc L S := fun T X => by
  obtain ⟨vm, k, locs, Y, r1, r2, r3, r4, r5, r6, r7, r8, r9⟩ := X
  exact n T ⟨vm, k, locs, Y, r1, r2, r3, r4, r5, r6, r7, allS ⟨hx, E.lt, Safe.exa r4.alike E hC.1 hC.2⟩ r8, r9⟩
theorem go_claimA {x : Addr} {k : ClassId} {ty : FieldType} {z : Int32} {vs : List Value} {dv : Value} (E : Arv Z h x k ty z vs dv) (hC : ty ≠ .byte) (hx : Z.heap.size ≤ x) (n : Go l Z K own mn b ml rt R Q h (x :: F) c s pc L S) : Go l Z K own mn b ml rt R Q h F c s pc L S := fun T X => by
  obtain ⟨vm, k, locs, Y, r1, r2, r3, r4, r5, r6, r7, r8, r9⟩ := X
  obtain ⟨cl, A, -⟩ := id E
  exact n T ⟨vm, k, locs, Y, r1, r2, r3, r4, r5, r6, r7, allS ⟨hx, E.lt, Safe.arr r4.alike A hC⟩ r8, r9⟩
/-- what is mine lies in the heap and above the start -/
theorem go_mine (n : (∀ x ∈ F, Z.heap.size ≤ x ∧ x < h.size) → Old Z Z.heap.size h → Go l Z K own mn b ml rt R Q h F c s pc L S) : Go l Z K own mn b ml rt R Q h F c s pc L S := fun T X => by
  obtain ⟨vm, k, locs, Y, r1, r2, r3, r4, r5, r6, r7, r8, r9⟩ := id X
  exact n (fun x hx => ⟨(r8 x hx).1, (r8 x hx).2.1⟩) r9.1 T X
/-! ### the plain steps -/
theorem go_aloadN {k : Fin 4} {v : Value} (hd : decode b pc = .ok (.aload_n k, 1)) (hl : L[k.val]? = some (.val v)) (hv : v.isRef = true) (hq : pc + 1 = q) (n : Go l Z K own mn b ml rt R Q h F c s q L (v :: S)) : Go l Z K own mn b ml rt R Q h F c s pc L S := by
  subst hq; exact go_of (fun T X t st => by obtain ⟨vm, k, locs, Y, r1, r2, r3, r4, r5, r6, r7, r8, r9, hx, hb', r⟩ := X; exact XS.aloadN Y.here hx rfl (hb hb' hd) hl hv st) n
theorem go_aload {k : Nat} {v : Value} (hd : decode b pc = .ok (.aload k, 2)) (hl : L[k]? = some (.val v)) (hv : v.isRef = true) (hq : pc + 2 = q) (n : Go l Z K own mn b ml rt R Q h F c s q L (v :: S)) : Go l Z K own mn b ml rt R Q h F c s pc L S := by
  subst hq; exact go_of (fun T X t st => by obtain ⟨vm, k, locs, Y, r1, r2, r3, r4, r5, r6, r7, r8, r9, hx, hb', r⟩ := X; exact XS.aload Y.here hx rfl (hb hb' hd) hl hv st) n
theorem go_iloadN {k : Fin 4} {v : Int32} (hd : decode b pc = .ok (.iload_n k, 1)) (hl : L[k.val]? = some (.val (.int v))) (hq : pc + 1 = q) (n : Go l Z K own mn b ml rt R Q h F c s q L (.int v :: S)) : Go l Z K own mn b ml rt R Q h F c s pc L S := by
  subst hq; exact go_of (fun T X t st => by obtain ⟨vm, k, locs, Y, r1, r2, r3, r4, r5, r6, r7, r8, r9, hx, hb', r⟩ := X; exact XS.iloadN Y.here hx rfl (hb hb' hd) hl st) n
theorem go_iload {k : Nat} {v : Int32} (hd : decode b pc = .ok (.iload k, 2)) (hl : L[k]? = some (.val (.int v))) (hq : pc + 2 = q) (n : Go l Z K own mn b ml rt R Q h F c s q L (.int v :: S)) : Go l Z K own mn b ml rt R Q h F c s pc L S := by
  subst hq; exact go_of (fun T X t st => by obtain ⟨vm, k, locs, Y, r1, r2, r3, r4, r5, r6, r7, r8, r9, hx, hb', r⟩ := X; exact XS.iload Y.here hx rfl (hb hb' hd) hl st) n
theorem go_lloadN {k : Fin 4} {v : Int64} (hd : decode b pc = .ok (.lload_n k, 1)) (hl : L[k.val]? = some (.val (.long v))) (hq : pc + 1 = q) (n : Go l Z K own mn b ml rt R Q h F c s q L (.long v :: S)) : Go l Z K own mn b ml rt R Q h F c s pc L S := by
  subst hq; exact go_of (fun T X t st => by obtain ⟨vm, k, locs, Y, r1, r2, r3, r4, r5, r6, r7, r8, r9, hx, hb', r⟩ := X; exact XS.lloadN Y.here hx rfl (hb hb' hd) hl st) n
theorem go_lload {k : Nat} {v : Int64} (hd : decode b pc = .ok (.lload k, 2)) (hl : L[k]? = some (.val (.long v))) (hq : pc + 2 = q) (n : Go l Z K own mn b ml rt R Q h F c s q L (.long v :: S)) : Go l Z K own mn b ml rt R Q h F c s pc L S := by
  subst hq; exact go_of (fun T X t st => by obtain ⟨vm, k, locs, Y, r1, r2, r3, r4, r5, r6, r7, r8, r9, hx, hb', r⟩ := X; exact XS.lload Y.here hx rfl (hb hb' hd) hl st) n
theorem go_iconst {i : Int} {x : Int32} (hd : decode b pc = .ok (.iconst i, 1)) (hv : Int32.ofInt i = x) (hq : pc + 1 = q) (n : Go l Z K own mn b ml rt R Q h F c s q L (.int x :: S)) : Go l Z K own mn b ml rt R Q h F c s pc L S := by
  subst hq hv; exact go_of (fun T X t st => by obtain ⟨vm, k, locs, Y, r1, r2, r3, r4, r5, r6, r7, r8, r9, hx, hb', r⟩ := X; exact XS.iconst Y.here hx rfl (hb hb' hd) st) n
theorem go_bipush {i : Int} {x : Int32} (hd : decode b pc = .ok (.bipush i, 2)) (hv : (Int8.ofInt i).toInt32 = x) (hq : pc + 2 = q) (n : Go l Z K own mn b ml rt R Q h F c s q L (.int x :: S)) : Go l Z K own mn b ml rt R Q h F c s pc L S := by
  subst hq hv; exact go_of (fun T X t st => by obtain ⟨vm, k, locs, Y, r1, r2, r3, r4, r5, r6, r7, r8, r9, hx, hb', r⟩ := X; exact XS.bipush Y.here hx rfl (hb hb' hd) st) n
theorem go_sipush {i : Int} {x : Int32} (hd : decode b pc = .ok (.sipush i, 3)) (hv : (Int16.ofInt i).toInt32 = x) (hq : pc + 3 = q) (n : Go l Z K own mn b ml rt R Q h F c s q L (.int x :: S)) : Go l Z K own mn b ml rt R Q h F c s pc L S := by
  subst hq hv; exact go_of (fun T X t st => by obtain ⟨vm, k, locs, Y, r1, r2, r3, r4, r5, r6, r7, r8, r9, hx, hb', r⟩ := X; exact XS.sipush Y.here hx rfl (hb hb' hd) st) n
theorem go_lconst {k : Fin 2} {x : Int64} (hd : decode b pc = .ok (.lconst k, 1)) (hv : Int64.ofNat k = x) (hq : pc + 1 = q) (n : Go l Z K own mn b ml rt R Q h F c s q L (.long x :: S)) : Go l Z K own mn b ml rt R Q h F c s pc L S := by
  subst hq hv; exact go_of (fun T X t st => by obtain ⟨vm, k, locs, Y, r1, r2, r3, r4, r5, r6, r7, r8, r9, hx, hb', r⟩ := X; exact XS.lconst Y.here hx rfl (hb hb' hd) st) n
theorem go_null (hd : decode b pc = .ok (.aconst_null, 1)) (hq : pc + 1 = q) (n : Go l Z K own mn b ml rt R Q h F c s q L (.null :: S)) : Go l Z K own mn b ml rt R Q h F c s pc L S := by
  subst hq; exact go_of (fun T X t st => by obtain ⟨vm, k, locs, Y, r1, r2, r3, r4, r5, r6, r7, r8, r9, hx, hb', r⟩ := X; exact XS.aconstNull Y.here hx rfl (hb hb' hd) st) n
theorem go_iadd {x : Int32} {y : Int32} {r : Int32} (hd : decode b pc = .ok (.iadd, 1)) (hr : x + y = r) (hq : pc + 1 = q) (n : Go l Z K own mn b ml rt R Q h F c s q L (.int r :: S)) : Go l Z K own mn b ml rt R Q h F c s pc L (.int y :: .int x :: S) := by
  subst hq hr; exact go_of (fun T X t st => by obtain ⟨vm, k, locs, Y, r1, r2, r3, r4, r5, r6, r7, r8, r9, hx, hb', rr⟩ := X; exact XS.iadd Y.here hx rfl (hb hb' hd) rfl st) n
theorem go_isub {x : Int32} {y : Int32} {r : Int32} (hd : decode b pc = .ok (.isub, 1)) (hr : x - y = r) (hq : pc + 1 = q) (n : Go l Z K own mn b ml rt R Q h F c s q L (.int r :: S)) : Go l Z K own mn b ml rt R Q h F c s pc L (.int y :: .int x :: S) := by
  subst hq hr; exact go_of (fun T X t st => by obtain ⟨vm, k, locs, Y, r1, r2, r3, r4, r5, r6, r7, r8, r9, hx, hb', rr⟩ := X; exact XS.isub Y.here hx rfl (hb hb' hd) rfl st) n
theorem go_iand {x : Int32} {y : Int32} {r : Int32} (hd : decode b pc = .ok (.iand, 1)) (hr : x &&& y = r) (hq : pc + 1 = q) (n : Go l Z K own mn b ml rt R Q h F c s q L (.int r :: S)) : Go l Z K own mn b ml rt R Q h F c s pc L (.int y :: .int x :: S) := by
  subst hq hr; exact go_of (fun T X t st => by obtain ⟨vm, k, locs, Y, r1, r2, r3, r4, r5, r6, r7, r8, r9, hx, hb', rr⟩ := X; exact XS.iand Y.here hx rfl (hb hb' hd) rfl st) n
theorem go_imul {x : Int32} {y : Int32} {r : Int32} (hd : decode b pc = .ok (.imul, 1)) (hr : x * y = r) (hq : pc + 1 = q) (n : Go l Z K own mn b ml rt R Q h F c s q L (.int r :: S)) : Go l Z K own mn b ml rt R Q h F c s pc L (.int y :: .int x :: S) := by
  subst hq hr; exact go_of (fun T X t st => by obtain ⟨vm, k, locs, Y, r1, r2, r3, r4, r5, r6, r7, r8, r9, hx, hb', rr⟩ := X; exact XS.imul Y.here hx rfl (hb hb' hd) rfl st) n
theorem go_ixor {x : Int32} {y : Int32} {r : Int32} (hd : decode b pc = .ok (.ixor, 1)) (hr : x ^^^ y = r) (hq : pc + 1 = q) (n : Go l Z K own mn b ml rt R Q h F c s q L (.int r :: S)) : Go l Z K own mn b ml rt R Q h F c s pc L (.int y :: .int x :: S) := by
  subst hq hr; exact go_of (fun T X t st => by obtain ⟨vm, k, locs, Y, r1, r2, r3, r4, r5, r6, r7, r8, r9, hx, hb', rr⟩ := X; exact XT.ixor Y.here hx rfl (hb hb' hd) rfl st) n
theorem go_ior {x : Int32} {y : Int32} {r : Int32} (hd : decode b pc = .ok (.ior, 1)) (hr : x ||| y = r) (hq : pc + 1 = q) (n : Go l Z K own mn b ml rt R Q h F c s q L (.int r :: S)) : Go l Z K own mn b ml rt R Q h F c s pc L (.int y :: .int x :: S) := by
  subst hq hr; exact go_of (fun T X t st => by obtain ⟨vm, k, locs, Y, r1, r2, r3, r4, r5, r6, r7, r8, r9, hx, hb', rr⟩ := X; exact XT.ior Y.here hx rfl (hb hb' hd) rfl st) n
theorem go_ishl {x : Int32} {y : Int32} {r : Int32} (hd : decode b pc = .ok (.ishl, 1)) (hr : x <<< (y &&& 31) = r) (hq : pc + 1 = q) (n : Go l Z K own mn b ml rt R Q h F c s q L (.int r :: S)) : Go l Z K own mn b ml rt R Q h F c s pc L (.int y :: .int x :: S) := by
  subst hq hr; exact go_of (fun T X t st => by obtain ⟨vm, k, locs, Y, r1, r2, r3, r4, r5, r6, r7, r8, r9, hx, hb', rr⟩ := X; exact XT.ishl Y.here hx rfl (hb hb' hd) rfl st) n
theorem go_ishr {x : Int32} {y : Int32} {r : Int32} (hd : decode b pc = .ok (.ishr, 1)) (hr : x >>> (y &&& 31) = r) (hq : pc + 1 = q) (n : Go l Z K own mn b ml rt R Q h F c s q L (.int r :: S)) : Go l Z K own mn b ml rt R Q h F c s pc L (.int y :: .int x :: S) := by
  subst hq hr; exact go_of (fun T X t st => by obtain ⟨vm, k, locs, Y, r1, r2, r3, r4, r5, r6, r7, r8, r9, hx, hb', rr⟩ := X; exact XT.ishr Y.here hx rfl (hb hb' hd) rfl st) n
theorem go_iushr {x : Int32} {y : Int32} {r : Int32} (hd : decode b pc = .ok (.iushr, 1)) (hr : XT.ushr x y = r) (hq : pc + 1 = q) (n : Go l Z K own mn b ml rt R Q h F c s q L (.int r :: S)) : Go l Z K own mn b ml rt R Q h F c s pc L (.int y :: .int x :: S) := by
  subst hq hr; exact go_of (fun T X t st => by obtain ⟨vm, k, locs, Y, r1, r2, r3, r4, r5, r6, r7, r8, r9, hx, hb', rr⟩ := X; exact XT.iushr Y.here hx rfl (hb hb' hd) rfl st) n
theorem go_idiv {x : Int32} {y : Int32} {r : Int32} (hd : decode b pc = .ok (.idiv, 1)) (hy : y ≠ 0) (hr : x / y = r) (hq : pc + 1 = q) (n : Go l Z K own mn b ml rt R Q h F c s q L (.int r :: S)) : Go l Z K own mn b ml rt R Q h F c s pc L (.int y :: .int x :: S) := by
  subst hq hr; exact go_of (fun T X t st => by obtain ⟨vm, k, locs, Y, r1, r2, r3, r4, r5, r6, r7, r8, r9, hx, hb', rr⟩ := X; exact XS.idiv Y.here hx rfl (hb hb' hd) rfl hy st) n
theorem go_irem0 {x : Int32} {y : Int32} {r : Int32} (hd : decode b pc = .ok (.irem, 1)) (hy : y ≠ 0) (hr : x - (x / y) * y = r) (hq : pc + 1 = q) (n : Go l Z K own mn b ml rt R Q h F c s q L (.int r :: S)) : Go l Z K own mn b ml rt R Q h F c s pc L (.int y :: .int x :: S) := by
  subst hq hr; exact go_of (fun T X t st => by obtain ⟨vm, k, locs, Y, r1, r2, r3, r4, r5, r6, r7, r8, r9, hx, hb', rr⟩ := X; exact XS.irem Y.here hx rfl (hb hb' hd) rfl hy st) n
theorem go_ladd {x : Int64} {y : Int64} {r : Int64} (hd : decode b pc = .ok (.ladd, 1)) (hr : x + y = r) (hq : pc + 1 = q) (n : Go l Z K own mn b ml rt R Q h F c s q L (.long r :: S)) : Go l Z K own mn b ml rt R Q h F c s pc L (.long y :: .long x :: S) := by
  subst hq hr; exact go_of (fun T X t st => by obtain ⟨vm, k, locs, Y, r1, r2, r3, r4, r5, r6, r7, r8, r9, hx, hb', rr⟩ := X; exact XT.ladd Y.here hx rfl (hb hb' hd) rfl st) n
theorem go_lsub {x : Int64} {y : Int64} {r : Int64} (hd : decode b pc = .ok (.lsub, 1)) (hr : x - y = r) (hq : pc + 1 = q) (n : Go l Z K own mn b ml rt R Q h F c s q L (.long r :: S)) : Go l Z K own mn b ml rt R Q h F c s pc L (.long y :: .long x :: S) := by
  subst hq hr; exact go_of (fun T X t st => by obtain ⟨vm, k, locs, Y, r1, r2, r3, r4, r5, r6, r7, r8, r9, hx, hb', rr⟩ := X; exact XT.lsub Y.here hx rfl (hb hb' hd) rfl st) n
theorem go_lmul {x : Int64} {y : Int64} {r : Int64} (hd : decode b pc = .ok (.lmul, 1)) (hr : x * y = r) (hq : pc + 1 = q) (n : Go l Z K own mn b ml rt R Q h F c s q L (.long r :: S)) : Go l Z K own mn b ml rt R Q h F c s pc L (.long y :: .long x :: S) := by
  subst hq hr; exact go_of (fun T X t st => by obtain ⟨vm, k, locs, Y, r1, r2, r3, r4, r5, r6, r7, r8, r9, hx, hb', rr⟩ := X; exact XT.lmul Y.here hx rfl (hb hb' hd) rfl st) n
theorem go_land {x : Int64} {y : Int64} {r : Int64} (hd : decode b pc = .ok (.land, 1)) (hr : x &&& y = r) (hq : pc + 1 = q) (n : Go l Z K own mn b ml rt R Q h F c s q L (.long r :: S)) : Go l Z K own mn b ml rt R Q h F c s pc L (.long y :: .long x :: S) := by
  subst hq hr; exact go_of (fun T X t st => by obtain ⟨vm, k, locs, Y, r1, r2, r3, r4, r5, r6, r7, r8, r9, hx, hb', rr⟩ := X; exact XT.land Y.here hx rfl (hb hb' hd) rfl st) n
theorem go_lor {x : Int64} {y : Int64} {r : Int64} (hd : decode b pc = .ok (.lor, 1)) (hr : x ||| y = r) (hq : pc + 1 = q) (n : Go l Z K own mn b ml rt R Q h F c s q L (.long r :: S)) : Go l Z K own mn b ml rt R Q h F c s pc L (.long y :: .long x :: S) := by
  subst hq hr; exact go_of (fun T X t st => by obtain ⟨vm, k, locs, Y, r1, r2, r3, r4, r5, r6, r7, r8, r9, hx, hb', rr⟩ := X; exact XT.lor Y.here hx rfl (hb hb' hd) rfl st) n
theorem go_lxor {x : Int64} {y : Int64} {r : Int64} (hd : decode b pc = .ok (.lxor, 1)) (hr : x ^^^ y = r) (hq : pc + 1 = q) (n : Go l Z K own mn b ml rt R Q h F c s q L (.long r :: S)) : Go l Z K own mn b ml rt R Q h F c s pc L (.long y :: .long x :: S) := by
  subst hq hr; exact go_of (fun T X t st => by obtain ⟨vm, k, locs, Y, r1, r2, r3, r4, r5, r6, r7, r8, r9, hx, hb', rr⟩ := X; exact XT.lxor Y.here hx rfl (hb hb' hd) rfl st) n
theorem go_ldiv {x : Int64} {y : Int64} {r : Int64} (hd : decode b pc = .ok (.ldiv, 1)) (hy : y ≠ 0) (hr : x / y = r) (hq : pc + 1 = q) (n : Go l Z K own mn b ml rt R Q h F c s q L (.long r :: S)) : Go l Z K own mn b ml rt R Q h F c s pc L (.long y :: .long x :: S) := by
  subst hq hr; exact go_of (fun T X t st => by obtain ⟨vm, k, locs, Y, r1, r2, r3, r4, r5, r6, r7, r8, r9, hx, hb', rr⟩ := X; exact XT.ldiv Y.here hx rfl (hb hb' hd) rfl hy st) n
theorem go_lrem0 {x : Int64} {y : Int64} {r : Int64} (hd : decode b pc = .ok (.lrem, 1)) (hy : y ≠ 0) (hr : x - (x / y) * y = r) (hq : pc + 1 = q) (n : Go l Z K own mn b ml rt R Q h F c s q L (.long r :: S)) : Go l Z K own mn b ml rt R Q h F c s pc L (.long y :: .long x :: S) := by
  subst hq hr; exact go_of (fun T X t st => by obtain ⟨vm, k, locs, Y, r1, r2, r3, r4, r5, r6, r7, r8, r9, hx, hb', rr⟩ := X; exact XT.lrem Y.here hx rfl (hb hb' hd) rfl hy st) n
theorem go_lcmp {x : Int64} {y : Int64} {r : Int32} (hd : decode b pc = .ok (.lcmp, 1)) (hr : XT.cmpL x y = r) (hq : pc + 1 = q) (n : Go l Z K own mn b ml rt R Q h F c s q L (.int r :: S)) : Go l Z K own mn b ml rt R Q h F c s pc L (.long y :: .long x :: S) := by
  subst hq hr; exact go_of (fun T X t st => by obtain ⟨vm, k, locs, Y, r1, r2, r3, r4, r5, r6, r7, r8, r9, hx, hb', rr⟩ := X; exact XT.lcmp Y.here hx rfl (hb hb' hd) rfl st) n
theorem go_lshl {x : Int64} {y : Int32} {r : Int64} (hd : decode b pc = .ok (.lshl, 1)) (hr : x <<< (y.toInt64 &&& 63) = r) (hq : pc + 1 = q) (n : Go l Z K own mn b ml rt R Q h F c s q L (.long r :: S)) : Go l Z K own mn b ml rt R Q h F c s pc L (.int y :: .long x :: S) := by
  subst hq hr; exact go_of (fun T X t st => by obtain ⟨vm, k, locs, Y, r1, r2, r3, r4, r5, r6, r7, r8, r9, hx, hb', rr⟩ := X; exact XT.lshl Y.here hx rfl (hb hb' hd) rfl st) n
theorem go_lshr {x : Int64} {y : Int32} {r : Int64} (hd : decode b pc = .ok (.lshr, 1)) (hr : x >>> (y.toInt64 &&& 63) = r) (hq : pc + 1 = q) (n : Go l Z K own mn b ml rt R Q h F c s q L (.long r :: S)) : Go l Z K own mn b ml rt R Q h F c s pc L (.int y :: .long x :: S) := by
  subst hq hr; exact go_of (fun T X t st => by obtain ⟨vm, k, locs, Y, r1, r2, r3, r4, r5, r6, r7, r8, r9, hx, hb', rr⟩ := X; exact XT.lshr Y.here hx rfl (hb hb' hd) rfl st) n
theorem go_lushr {x : Int64} {y : Int32} {r : Int64} (hd : decode b pc = .ok (.lushr, 1)) (hr : XT.ushrL x y = r) (hq : pc + 1 = q) (n : Go l Z K own mn b ml rt R Q h F c s q L (.long r :: S)) : Go l Z K own mn b ml rt R Q h F c s pc L (.int y :: .long x :: S) := by
  subst hq hr; exact go_of (fun T X t st => by obtain ⟨vm, k, locs, Y, r1, r2, r3, r4, r5, r6, r7, r8, r9, hx, hb', rr⟩ := X; exact XT.lushr Y.here hx rfl (hb hb' hd) rfl st) n
theorem go_ineg {x : Int32} {r : Int32} (hd : decode b pc = .ok (.ineg, 1)) (hr : -x = r) (hq : pc + 1 = q) (n : Go l Z K own mn b ml rt R Q h F c s q L (.int r :: S)) : Go l Z K own mn b ml rt R Q h F c s pc L (.int x :: S) := by
  subst hq hr; exact go_of (fun T X t st => by obtain ⟨vm, k, locs, Y, r1, r2, r3, r4, r5, r6, r7, r8, r9, hx, hb', rr⟩ := X; exact XS.ineg Y.here hx rfl (hb hb' hd) rfl st) n
theorem go_lneg {x : Int64} {r : Int64} (hd : decode b pc = .ok (.lneg, 1)) (hr : -x = r) (hq : pc + 1 = q) (n : Go l Z K own mn b ml rt R Q h F c s q L (.long r :: S)) : Go l Z K own mn b ml rt R Q h F c s pc L (.long x :: S) := by
  subst hq hr; exact go_of (fun T X t st => by obtain ⟨vm, k, locs, Y, r1, r2, r3, r4, r5, r6, r7, r8, r9, hx, hb', rr⟩ := X; exact XT.lneg Y.here hx rfl (hb hb' hd) rfl st) n
theorem go_i2l {x : Int32} {r : Int64} (hd : decode b pc = .ok (.i2l, 1)) (hr : x.toInt64 = r) (hq : pc + 1 = q) (n : Go l Z K own mn b ml rt R Q h F c s q L (.long r :: S)) : Go l Z K own mn b ml rt R Q h F c s pc L (.int x :: S) := by
  subst hq hr; exact go_of (fun T X t st => by obtain ⟨vm, k, locs, Y, r1, r2, r3, r4, r5, r6, r7, r8, r9, hx, hb', rr⟩ := X; exact XT.i2l Y.here hx rfl (hb hb' hd) rfl st) n
theorem go_l2i {x : Int64} {r : Int32} (hd : decode b pc = .ok (.l2i, 1)) (hr : x.toInt32 = r) (hq : pc + 1 = q) (n : Go l Z K own mn b ml rt R Q h F c s q L (.int r :: S)) : Go l Z K own mn b ml rt R Q h F c s pc L (.long x :: S) := by
  subst hq hr; exact go_of (fun T X t st => by obtain ⟨vm, k, locs, Y, r1, r2, r3, r4, r5, r6, r7, r8, r9, hx, hb', rr⟩ := X; exact XT.l2i Y.here hx rfl (hb hb' hd) rfl st) n
theorem go_i2b {x : Int32} {r : Int32} (hd : decode b pc = .ok (.i2b, 1)) (hr : x.toInt8.toInt32 = r) (hq : pc + 1 = q) (n : Go l Z K own mn b ml rt R Q h F c s q L (.int r :: S)) : Go l Z K own mn b ml rt R Q h F c s pc L (.int x :: S) := by
  subst hq hr; exact go_of (fun T X t st => by obtain ⟨vm, k, locs, Y, r1, r2, r3, r4, r5, r6, r7, r8, r9, hx, hb', rr⟩ := X; exact XT.i2b Y.here hx rfl (hb hb' hd) rfl st) n
theorem go_i2c {x : Int32} {r : Int32} (hd : decode b pc = .ok (.i2c, 1)) (hr : x.toUInt32.toUInt16.toUInt32.toInt32 = r) (hq : pc + 1 = q) (n : Go l Z K own mn b ml rt R Q h F c s q L (.int r :: S)) : Go l Z K own mn b ml rt R Q h F c s pc L (.int x :: S) := by
  subst hq hr; exact go_of (fun T X t st => by obtain ⟨vm, k, locs, Y, r1, r2, r3, r4, r5, r6, r7, r8, r9, hx, hb', rr⟩ := X; exact XT.i2c Y.here hx rfl (hb hb' hd) rfl st) n
theorem go_i2s {x : Int32} {r : Int32} (hd : decode b pc = .ok (.i2s, 1)) (hr : x.toInt16.toInt32 = r) (hq : pc + 1 = q) (n : Go l Z K own mn b ml rt R Q h F c s q L (.int r :: S)) : Go l Z K own mn b ml rt R Q h F c s pc L (.int x :: S) := by
  subst hq hr; exact go_of (fun T X t st => by obtain ⟨vm, k, locs, Y, r1, r2, r3, r4, r5, r6, r7, r8, r9, hx, hb', rr⟩ := X; exact XT.i2s Y.here hx rfl (hb hb' hd) rfl st) n
theorem go_istoreN {k : Fin 4} {x : Int32} (hd : decode b pc = .ok (.istore_n k, 1)) (hl : storeLocals L k.val (.int x) = some L') (hq : pc + 1 = q) (n : Go l Z K own mn b ml rt R Q h F c s q L' S) : Go l Z K own mn b ml rt R Q h F c s pc L (.int x :: S) := by
  subst hq; exact go_of (fun T X t st => by obtain ⟨vm, k, locs, Y, r1, r2, r3, r4, r5, r6, r7, r8, r9, hx, hb', rr⟩ := X; exact XS.istoreN Y.here hx rfl (hb hb' hd) rfl hl st) n
theorem go_istore {k : Nat} {x : Int32} (hd : decode b pc = .ok (.istore k, 2)) (hl : storeLocals L k (.int x) = some L') (hq : pc + 2 = q) (n : Go l Z K own mn b ml rt R Q h F c s q L' S) : Go l Z K own mn b ml rt R Q h F c s pc L (.int x :: S) := by
  subst hq; exact go_of (fun T X t st => by obtain ⟨vm, k, locs, Y, r1, r2, r3, r4, r5, r6, r7, r8, r9, hx, hb', rr⟩ := X; exact XS.istore Y.here hx rfl (hb hb' hd) rfl hl st) n
theorem go_lstoreN {k : Fin 4} {x : Int64} (hd : decode b pc = .ok (.lstore_n k, 1)) (hl : storeLocals L k.val (.long x) = some L') (hq : pc + 1 = q) (n : Go l Z K own mn b ml rt R Q h F c s q L' S) : Go l Z K own mn b ml rt R Q h F c s pc L (.long x :: S) := by
  subst hq; exact go_of (fun T X t st => by obtain ⟨vm, k, locs, Y, r1, r2, r3, r4, r5, r6, r7, r8, r9, hx, hb', rr⟩ := X; exact XT.lstoreN Y.here hx rfl (hb hb' hd) rfl hl st) n
theorem go_lstore {k : Nat} {x : Int64} (hd : decode b pc = .ok (.lstore k, 2)) (hl : storeLocals L k (.long x) = some L') (hq : pc + 2 = q) (n : Go l Z K own mn b ml rt R Q h F c s q L' S) : Go l Z K own mn b ml rt R Q h F c s pc L (.long x :: S) := by
  subst hq; exact go_of (fun T X t st => by obtain ⟨vm, k, locs, Y, r1, r2, r3, r4, r5, r6, r7, r8, r9, hx, hb', rr⟩ := X; exact XT.lstore Y.here hx rfl (hb hb' hd) rfl hl st) n
theorem go_astoreN {k : Fin 4} {x : Value} (hd : decode b pc = .ok (.astore_n k, 1)) (hv : x.isRef = true) (hl : storeLocals L k.val (x) = some L') (hq : pc + 1 = q) (n : Go l Z K own mn b ml rt R Q h F c s q L' S) : Go l Z K own mn b ml rt R Q h F c s pc L (x :: S) := by
  subst hq; exact go_of (fun T X t st => by obtain ⟨vm, k, locs, Y, r1, r2, r3, r4, r5, r6, r7, r8, r9, hx, hb', rr⟩ := X; exact XS.astoreN Y.here hx rfl (hb hb' hd) rfl hv hl st) n
theorem go_astore {k : Nat} {x : Value} (hd : decode b pc = .ok (.astore k, 2)) (hv : x.isRef = true) (hl : storeLocals L k (x) = some L') (hq : pc + 2 = q) (n : Go l Z K own mn b ml rt R Q h F c s q L' S) : Go l Z K own mn b ml rt R Q h F c s pc L (x :: S) := by
  subst hq; exact go_of (fun T X t st => by obtain ⟨vm, k, locs, Y, r1, r2, r3, r4, r5, r6, r7, r8, r9, hx, hb', rr⟩ := X; exact XS.astore Y.here hx rfl (hb hb' hd) rfl hv hl st) n
theorem go_iinc {k : Nat} {i : Int} {x y : Int32} (hd : decode b pc = .ok (.iinc k i, 3)) (hl : L[k]? = some (.val (.int x))) (hy : x + Int32.ofInt i = y) (hl' : storeLocals L k (.int y) = some L') (hq : pc + 3 = q) (n : Go l Z K own mn b ml rt R Q h F c s q L' S) : Go l Z K own mn b ml rt R Q h F c s pc L S := by
  subst hq hy; exact go_of (fun T X t st => by obtain ⟨vm, k, locs, Y, r1, r2, r3, r4, r5, r6, r7, r8, r9, hx, hb', rr⟩ := X; exact XS.iinc Y.here hx rfl (hb hb' hd) hl hl' st) n
theorem go_dup {x : Value} (hd : decode b pc = .ok (.dup, 1)) (hc : x.category = 1) (hq : pc + 1 = q) (n : Go l Z K own mn b ml rt R Q h F c s q L (x :: x :: S)) : Go l Z K own mn b ml rt R Q h F c s pc L (x :: S) := by
  subst hq; exact go_of (fun T X t st => by obtain ⟨vm, k, locs, Y, r1, r2, r3, r4, r5, r6, r7, r8, r9, hx, hb', rr⟩ := X; exact XS.dup Y.here hx rfl (hb hb' hd) rfl hc st) n
theorem go_pop {x : Value} (hd : decode b pc = .ok (.pop, 1)) (hc : x.category = 1) (hq : pc + 1 = q) (n : Go l Z K own mn b ml rt R Q h F c s q L S) : Go l Z K own mn b ml rt R Q h F c s pc L (x :: S) := by
  subst hq; exact go_of (fun T X t st => by obtain ⟨vm, k, locs, Y, r1, r2, r3, r4, r5, r6, r7, r8, r9, hx, hb', rr⟩ := X; exact XT.pop Y.here hx rfl (hb hb' hd) rfl hc st) n
theorem go_dupX1 {x y : Value} (hd : decode b pc = .ok (.dup_x1, 1)) (hc : x.category = 1) (hc' : y.category = 1) (hq : pc + 1 = q) (n : Go l Z K own mn b ml rt R Q h F c s q L (x :: y :: x :: S)) : Go l Z K own mn b ml rt R Q h F c s pc L (x :: y :: S) := by
  subst hq; exact go_of (fun T X t st => by obtain ⟨vm, k, locs, Y, r1, r2, r3, r4, r5, r6, r7, r8, r9, hx, hb', rr⟩ := X; exact XT.dupX1 Y.here hx rfl (hb hb' hd) rfl hc hc' st) n
theorem go_dup2 {x y : Value} (hd : decode b pc = .ok (.dup2, 1)) (hc : x.category = 1) (hc' : y.category = 1) (hq : pc + 1 = q) (n : Go l Z K own mn b ml rt R Q h F c s q L (x :: y :: x :: y :: S)) : Go l Z K own mn b ml rt R Q h F c s pc L (x :: y :: S) := by
  subst hq; exact go_of (fun T X t st => by obtain ⟨vm, k, locs, Y, r1, r2, r3, r4, r5, r6, r7, r8, r9, hx, hb', rr⟩ := X; exact XT.dup2 Y.here hx rfl (hb hb' hd) rfl hc hc' st) n
theorem go_goto {o : Int} (hd : decode b pc = .ok (.goto o, 3)) (ho : 0 ≤ (pc : Int) + o) (hp : ((pc : Int) + o).toNat = q) (n : Go l Z K own mn b ml rt R Q h F c s q L S) : Go l Z K own mn b ml rt R Q h F c s pc L S := by
  exact go_of (fun T X t st => by obtain ⟨vm, k, locs, Y, r1, r2, r3, r4, r5, r6, r7, r8, r9, hx, hb', rr⟩ := X; exact XS.goto Y.here hx rfl rfl (hb hb' hd) ho hp st) n
/-- the condition as a plain proposition: taken, not taken -/
abbrev cY : ClassFile.Cond → Int32 → Int32 → Prop
  | .eq, x, y => x = y
  | .ne, x, y => ¬ x = y
  | .lt, x, y => x < y
  | .ge, x, y => ¬ x < y
  | .gt, x, y => y < x
  | .le, x, y => ¬ y < x
abbrev cN : ClassFile.Cond → Int32 → Int32 → Prop
  | .eq, x, y => ¬ x = y
  | .ne, x, y => x = y
  | .lt, x, y => ¬ x < y
  | .ge, x, y => x < y
  | .gt, x, y => ¬ y < x
  | .le, x, y => y < x
theorem cY_holds {cd : ClassFile.Cond} {x y : Int32} (h : cY cd x y) : if_icmp.holds cd x y = true := by
  cases cd with
  | eq => exact (teq h).1
  | ne => exact (feq h).2
  | lt => exact (tlt h).1
  | ge => exact (flt h).2.1
  | gt => exact (tlt h).2.2.1
  | le => exact (flt h).2.2.2
theorem cN_holds {cd : ClassFile.Cond} {x y : Int32} (h : cN cd x y) : if_icmp.holds cd x y = false := by
  cases cd with
  | eq => exact (feq h).1
  | ne => exact (teq h).2
  | lt => exact (flt h).1
  | ge => exact (tlt h).2.1
  | gt => exact (flt h).2.2.1
  | le => exact (tlt h).2.2.2
theorem go_ifY {cd : ClassFile.Cond} {x : Int32} {o : Int} (hd : decode b pc = .ok (.ifCond cd o, 3)) (hc : cY cd x 0) (ho : 0 ≤ (pc : Int) + o) (hp : ((pc : Int) + o).toNat = q) (n : Go l Z K own mn b ml rt R Q h F c s q L S) : Go l Z K own mn b ml rt R Q h F c s pc L (.int x :: S) := by
  exact go_of (fun T X t st => by obtain ⟨vm, k, locs, Y, r1, r2, r3, r4, r5, r6, r7, r8, r9, hx, hb', rr⟩ := X; exact XS.ifYes Y.here hx rfl rfl (hb hb' hd) rfl ((if0 _ _).trans (cY_holds hc)) ho hp st) n
theorem go_ifN {cd : ClassFile.Cond} {x : Int32} {o : Int} (hd : decode b pc = .ok (.ifCond cd o, 3)) (hc : cN cd x 0) (hq : pc + 3 = q) (n : Go l Z K own mn b ml rt R Q h F c s q L S) : Go l Z K own mn b ml rt R Q h F c s pc L (.int x :: S) := by
  subst hq; exact go_of (fun T X t st => by obtain ⟨vm, k, locs, Y, r1, r2, r3, r4, r5, r6, r7, r8, r9, hx, hb', rr⟩ := X; exact XS.ifNo Y.here hx rfl (hb hb' hd) rfl ((if0 _ _).trans (cN_holds hc)) st) n
theorem go_icY {cd : ClassFile.Cond} {x y : Int32} {o : Int} (hd : decode b pc = .ok (.if_icmp cd o, 3)) (hc : cY cd x y) (ho : 0 ≤ (pc : Int) + o) (hp : ((pc : Int) + o).toNat = q) (n : Go l Z K own mn b ml rt R Q h F c s q L S) : Go l Z K own mn b ml rt R Q h F c s pc L (.int y :: .int x :: S) := by
  exact go_of (fun T X t st => by obtain ⟨vm, k, locs, Y, r1, r2, r3, r4, r5, r6, r7, r8, r9, hx, hb', rr⟩ := X; exact XS.icmpYes Y.here hx rfl rfl (hb hb' hd) rfl (cY_holds hc) ho hp st) n
theorem go_icN {cd : ClassFile.Cond} {x y : Int32} {o : Int} (hd : decode b pc = .ok (.if_icmp cd o, 3)) (hc : cN cd x y) (hq : pc + 3 = q) (n : Go l Z K own mn b ml rt R Q h F c s q L S) : Go l Z K own mn b ml rt R Q h F c s pc L (.int y :: .int x :: S) := by
  subst hq; exact go_of (fun T X t st => by obtain ⟨vm, k, locs, Y, r1, r2, r3, r4, r5, r6, r7, r8, r9, hx, hb', rr⟩ := X; exact XS.icmpNo Y.here hx rfl (hb hb' hd) rfl (cN_holds hc) st) n
theorem go_nullY {o : Int} (hd : decode b pc = .ok (.ifnull o, 3)) (ho : 0 ≤ (pc : Int) + o) (hp : ((pc : Int) + o).toNat = q) (n : Go l Z K own mn b ml rt R Q h F c s q L S) : Go l Z K own mn b ml rt R Q h F c s pc L (.null :: S) := by
  exact go_of (fun T X t st => by obtain ⟨vm, k, locs, Y, r1, r2, r3, r4, r5, r6, r7, r8, r9, hx, hb', rr⟩ := X; exact XS.ifnullYes Y.here hx rfl rfl (hb hb' hd) rfl ho hp st) n
theorem go_nullN {a : Addr} {o : Int} (hd : decode b pc = .ok (.ifnull o, 3)) (hq : pc + 3 = q) (n : Go l Z K own mn b ml rt R Q h F c s q L S) : Go l Z K own mn b ml rt R Q h F c s pc L (.ref a :: S) := by
  subst hq; exact go_of (fun T X t st => by obtain ⟨vm, k, locs, Y, r1, r2, r3, r4, r5, r6, r7, r8, r9, hx, hb', rr⟩ := X; exact XS.ifnullNo Y.here hx rfl (hb hb' hd) rfl st) n
theorem go_nnY {a : Addr} {o : Int} (hd : decode b pc = .ok (.ifnonnull o, 3)) (ho : 0 ≤ (pc : Int) + o) (hp : ((pc : Int) + o).toNat = q) (n : Go l Z K own mn b ml rt R Q h F c s q L S) : Go l Z K own mn b ml rt R Q h F c s pc L (.ref a :: S) := by
  exact go_of (fun T X t st => by obtain ⟨vm, k, locs, Y, r1, r2, r3, r4, r5, r6, r7, r8, r9, hx, hb', rr⟩ := X; exact XT.ifnonnullYes Y.here hx rfl rfl (hb hb' hd) rfl ho hp st) n
theorem go_nnN {o : Int} (hd : decode b pc = .ok (.ifnonnull o, 3)) (hq : pc + 3 = q) (n : Go l Z K own mn b ml rt R Q h F c s q L S) : Go l Z K own mn b ml rt R Q h F c s pc L (.null :: S) := by
  subst hq; exact go_of (fun T X t st => by obtain ⟨vm, k, locs, Y, r1, r2, r3, r4, r5, r6, r7, r8, r9, hx, hb', rr⟩ := X; exact XT.ifnonnullNo Y.here hx rfl (hb hb' hd) rfl st) n
theorem go_acY {cd : ClassFile.ACond} {x y : Value} {o : Int} (hd : decode b pc = .ok (.if_acmp cd o, 3)) (h1 : x.isRef = true) (h2 : y.isRef = true) (hc : XT.acmp cd x y = true) (ho : 0 ≤ (pc : Int) + o) (hp : ((pc : Int) + o).toNat = q) (n : Go l Z K own mn b ml rt R Q h F c s q L S) : Go l Z K own mn b ml rt R Q h F c s pc L (y :: x :: S) := by
  exact go_of (fun T X t st => by obtain ⟨vm, k, locs, Y, r1, r2, r3, r4, r5, r6, r7, r8, r9, hx, hb', rr⟩ := X; exact XT.acmpYes Y.here hx rfl rfl (hb hb' hd) rfl h1 h2 hc ho hp st) n
theorem go_acN {cd : ClassFile.ACond} {x y : Value} {o : Int} (hd : decode b pc = .ok (.if_acmp cd o, 3)) (h1 : x.isRef = true) (h2 : y.isRef = true) (hc : XT.acmp cd x y = false) (hq : pc + 3 = q) (n : Go l Z K own mn b ml rt R Q h F c s q L S) : Go l Z K own mn b ml rt R Q h F c s pc L (y :: x :: S) := by
  subst hq; exact go_of (fun T X t st => by obtain ⟨vm, k, locs, Y, r1, r2, r3, r4, r5, r6, r7, r8, r9, hx, hb', rr⟩ := X; exact XT.acmpNo Y.here hx rfl (hb hb' hd) rfl h1 h2 hc st) n
theorem go_irem {x y r : Int32} (hd : decode b pc = .ok (.irem, 1)) (hy : y ≠ 0) (hr : x % y = r) (hq : pc + 1 = q) (n : Go l Z K own mn b ml rt R Q h F c s q L (.int r :: S)) : Go l Z K own mn b ml rt R Q h F c s pc L (.int y :: .int x :: S) := by
  subst hq hr; exact go_of (fun T X t st => by obtain ⟨vm, k, locs, Y, r1, r2, r3, r4, r5, r6, r7, r8, r9, hx, hb', r⟩ := X; exact iremM Y hx rfl (hb hb' hd) rfl hy st) n
theorem go_lrem {x y r : Int64} (hd : decode b pc = .ok (.lrem, 1)) (hy : y ≠ 0) (hr : x % y = r) (hq : pc + 1 = q) (n : Go l Z K own mn b ml rt R Q h F c s q L (.long r :: S)) : Go l Z K own mn b ml rt R Q h F c s pc L (.long y :: .long x :: S) := go_lrem0 hd hy ((lrem_mod x y).trans hr) hq n
end G
end Own
end Jvm.Pilot.@@N@@
/-! OWN FRAMEWORK, part 2: steps that touch the heap, returns, calls. -/
namespace Jvm.Pilot.@@N@@
namespace Own
open Jvm Jvm.ClassFile Sem Op Lib Jvm.Free Jvm.Stand Jvm.LawKit Jvm.RoadKit
section G
variable {l : Launch} {Z : State} {a0 : Array Value} {K : Cx} {own mn : String} {b : ByteArray} {ml : Nat} {rt : Option FieldType} {R : Room} {Q : QT} {h h' : Heap} {F : List Addr} {c s pc q c' s' : Nat} {L L' : Array Slot} {S S' : List Value}
theorem go_getfield {index : Nat} {R0 O n d : String} {a : Addr} {v : Value} (w : (Cond.fieldLink own index R0 n d).before a0 Z = true) (via : Via Z R0 O n d) (Fv : Fld Z h a O n d v) (hd : decode b pc = .ok (.getfield index, 3)) (hq : pc + 3 = q)
    (nx : Go l Z K own mn b ml rt R Q h F c s q L (v :: S)) : Go l Z K own mn b ml rt R Q h F c s pc L (.ref a :: S) := fun T X => by
  subst hq
  obtain ⟨vm, k, locs, Y, eT, hS, hk, hZ, hown, N, C, M, O, hx, hb', r⟩ := X
  obtain ⟨T', Y', e', st⟩ := getF Y hx hZ hown (host := "") (Or.inl w) via eT Fv (g := mkF K.2.2.2.1 pc L (.ref a :: S)) rfl rfl (hb hb' hd)
  obtain ⟨s₂, o, x, r'⟩ := nx T' ⟨vm, k, locs, Y', e', hS, hk, hZ, hown, N, C, M, O, hx, hb', r⟩
  exact ⟨s₂, o, st _ x, r'⟩
theorem go_getstatic {index : Nat} {R0 O n d : String} {v : Value} (w : (Cond.fieldLink own index R0 n d).before a0 Z = true) (via : Via Z R0 O n d) (Fv : Sta Z Z.heap O n d v) (hd : decode b pc = .ok (.getstatic index, 3)) (hq : pc + 3 = q)
    (nx : Go l Z K own mn b ml rt R Q h F c s q L (v :: S)) : Go l Z K own mn b ml rt R Q h F c s pc L S := fun T X => by
  subst hq
  obtain ⟨vm, k, locs, Y, eT, hS, hk, hZ, hown, N, C, M, O, hx, hb', r⟩ := X
  obtain ⟨T', Y', e', st⟩ := getS2 Y hx hZ hown (host := "") (Or.inl w) via eT (Fv.ext O.2) (g := mkF K.2.2.2.1 pc L S) rfl (hb hb' hd)
  obtain ⟨s₂, o, x, r'⟩ := nx T' ⟨vm, k, locs, Y', e', hS, hk, hZ, hown, N, C, M, O, hx, hb', r⟩
  exact ⟨s₂, o, st _ x, r'⟩
theorem St.wrote {vm : Vm} {k sl : Nat} {locs : List Loc} {T' : State} {a : Addr} {v : Value} (W : Wr h h' a sl v) (ha : a ∈ F) (Y : Stand K.1 l K.2.1 R (K.2.2.1.setVm vm) K.2.2.2.1 K.2.2.2.2.1 K.2.2.2.2.2.1 K.2.2.2.2.2.2.1 K.2.2.2.2.2.2.2 T' (locs ++ [⟨a, sl⟩]) c s) (e' : T'.heap = h')
    (hS : K.2.2.1.Since vm k) (hk : k ≤ h.size) (hZ : Z.Warmed39 vm) (hown : vm.findClass own = some K.2.2.2.1.cls) (N : Fr Z.heap.size locs) (C : CHr Z consts_1 K.2.2.1.vm K.2.2.1.heap vm h) (M : ∀ x ∈ F, Mine Z vm h x) (O : Old Z Z.heap.size h)
    (r : K.1.tables.exec = Jvm.exec ∧ K.2.2.2.2.2.2.2.code = b ∧ K.2.2.2.2.2.2.2.maxLocals = ml ∧ K.2.2.2.2.2.2.1.sig.returnType = rt ∧ K.2.2.2.2.2.2.1.name = mn ∧ K.2.2.2.2.2.2.1.locks = false) : St l Z K own mn b ml rt R T' h' F c s :=
  ⟨vm, k, _, Y, e', hS, by rw [W.size]; exact hk, hZ, hown, Fr.snoc Y N (M a ha).1, C.trans (CHr.wr W (M a ha).2.2 C.1), fun x hx => ⟨(M x hx).1, by rw [W.size]; exact (M x hx).2.1, Safe.wr W (M a ha).2.2 C.1 (M x hx).2.2⟩, O.wr W (M a ha).1, r⟩
theorem go_putfield {index kk : Nat} {R0 O n d C : String} {ty : FieldType} {a : Addr} {v old : Value} (w : (Cond.fieldLink own index R0 n d).before a0 Z = true) (via : Via Z R0 O n d) (Fv : Fld Z h a O n d old) (E : Exa Z h a C)
    (Ly : (Cond.lays C O n d).before a0 Z = true ∨ ((Cond.laysFinal C O n d).before a0 Z = true ∧ own = O ∧ mn = "<init>")) (wi : (Cond.instantiable C kk).before a0 Z = true) (hty : parseFieldDescriptor d = some ty) (hn : narrow ty v = v) (hf : fits ty v = true) (ha : a ∈ F)
    (hd : decode b pc = .ok (.putfield index, 3)) (hq : pc + 3 = q) (nx : ∀ h', Wr h h' a (RoadKit.slotOf Z O n d) v → Go l Z K own mn b ml rt R Q h' F c s q L S) : Go l Z K own mn b ml rt R Q h F c s pc L (v :: .ref a :: S) := fun T X => by
  subst hq
  obtain ⟨vm, k, locs, Y, eT, hS, hk, hZ, hown, N, C, M, O, hx, hb', r1, r2, r3, r4⟩ := X
  obtain ⟨T', h', Y', e', W, st⟩ := putF Y hx hZ hown (host := "") (Or.inl w) via eT Fv E (Ly.imp id fun z => ⟨z.1, z.2.1, r3.trans z.2.2⟩) wi hty hn hf (g := mkF K.2.2.2.1 pc L (v :: .ref a :: S)) rfl rfl (hb hb' hd)
  obtain ⟨s₂, o, x, r'⟩ := nx h' W T' (St.wrote W ha Y' e' hS hk hZ hown N C M O ⟨hx, hb', r1, r2, r3, r4⟩)
  exact ⟨s₂, o, st _ x, r'⟩
theorem St.grew {vm : Vm} {k : Nat} {locs : List Loc} {T' : State} (E : Ext h h') {F' : List Addr} (hF : ∀ x ∈ F', x ∈ F ∨ (h.size ≤ x ∧ x < h'.size)) (Y : Stand K.1 l K.2.1 R (K.2.2.1.setVm vm) K.2.2.2.1 K.2.2.2.2.1 K.2.2.2.2.2.1 K.2.2.2.2.2.2.1 K.2.2.2.2.2.2.2 T' locs c s) (e' : T'.heap = h')
    (hS : K.2.2.1.Since vm k) (hk : k ≤ h.size) (hZ : Z.Warmed39 vm) (hown : vm.findClass own = some K.2.2.2.1.cls) (N : Fr Z.heap.size locs) (C : CHr Z consts_1 K.2.2.1.vm K.2.2.1.heap vm h) (M : ∀ x ∈ F, Mine Z vm h x) (O : Old Z Z.heap.size h)
    (r : K.1.tables.exec = Jvm.exec ∧ K.2.2.2.2.2.2.2.code = b ∧ K.2.2.2.2.2.2.2.maxLocals = ml ∧ K.2.2.2.2.2.2.1.sig.returnType = rt ∧ K.2.2.2.2.2.2.1.name = mn ∧ K.2.2.2.2.2.2.1.locks = false) : St l Z K own mn b ml rt R T' h' F' c s :=
  ⟨vm, k, _, Y, e', hS, Nat.le_trans hk E.1, hZ, hown, N, C.trans (CHr.ext E C.1), fun x hx => by
    rcases hF x hx with q | ⟨q1, q2⟩
    · exact ⟨(M x q).1, Nat.lt_of_lt_of_le (M x q).2.1 E.1, Safe.ext E C.1 (M x q).2.2⟩
    · exact ⟨Nat.le_trans O.2.1 q1, q2, Safe.ext E C.1 (Safe.new q1)⟩, O.ext E, r⟩
theorem go_new {index n : Nat} {C : String} (w : (Cond.classLink own index C).before a0 Z = true) (wi : (Cond.instantiable C n).before a0 Z = true) (wz : (Cond.initialized C).before a0 Z = true) (hd : decode b pc = .ok (.new index, 3)) (hq : pc + 3 = q) (hc : c + 1 = c') (hs : s + n = s') (hc' : c' ≤ R.cells) (hs' : s' ≤ R.slots)
    (nx : ∀ h' a, a = h.size → Ext h h' → Exa Z h' a C → (∀ {O nm d : String} {ty : FieldType}, Laid Z a0 C O nm d → parseFieldDescriptor d = some ty → Fld Z h' a O nm d (defaultValue ty)) → Go l Z K own mn b ml rt R Q h' (a :: F) c' s' q L (.ref a :: S)) : Go l Z K own mn b ml rt R Q h F c s pc L S := fun T X => by
  subst hq hc hs
  obtain ⟨vm, k, locs, Y, eT, hS, hk, hZ, hown, N, C, M, O, r⟩ := X
  obtain ⟨T', h', Y', e', E, A, D, -, st⟩ := newO Y r.1 hZ hown w wi wz eT (g := mkF K.2.2.2.1 pc L S) rfl (hb r.2.1 hd) hc' hs'
  obtain ⟨s₂, o, x, r'⟩ := nx h' _ rfl E A D T' (St.grew E (fun x hx => by rcases List.mem_cons.mp hx with rfl | hx; exact Or.inr ⟨Nat.le_refl _, A.lt⟩; exact Or.inl hx) Y' e' hS hk hZ hown N C M O r)
  exact ⟨s₂, o, st _ x, r'⟩
/-- 'new', and the fresh cell as the exception laws want it -/
theorem go_newU {index n : Nat} {C : String} (w : (Cond.classLink own index C).before a0 Z = true) (wi : (Cond.instantiable C n).before a0 Z = true) (wz : (Cond.initialized C).before a0 Z = true) (hd : decode b pc = .ok (.new index, 3)) (hq : pc + 3 = q) (hc : c + 1 = c') (hs : s + n = s') (hc' : c' ≤ R.cells) (hs' : s' ≤ R.slots)
    (nx : ∀ h' a, a = h.size → Ext h h' → Exa Z h' a C → Unt h' a → (∀ {O nm d : String} {ty : FieldType}, Laid Z a0 C O nm d → parseFieldDescriptor d = some ty → Fld Z h' a O nm d (defaultValue ty)) → Go l Z K own mn b ml rt R Q h' (a :: F) c' s' q L (.ref a :: S)) : Go l Z K own mn b ml rt R Q h F c s pc L S := fun T X => by
  subst hq hc hs
  obtain ⟨vm, k, locs, Y, eT, hS, hk, hZ, hown, N, C, M, O, r⟩ := X
  obtain ⟨T', h', Y', e', E, A, D, U, st⟩ := newO Y r.1 hZ hown w wi wz eT (g := mkF K.2.2.2.1 pc L S) rfl (hb r.2.1 hd) hc' hs'
  obtain ⟨s₂, o, x, r'⟩ := nx h' _ rfl E A U D T' (St.grew E (fun x hx => by rcases List.mem_cons.mp hx with rfl | hx; exact Or.inr ⟨Nat.le_refl _, A.lt⟩; exact Or.inl hx) Y' e' hS hk hZ hown N C M O r)
  exact ⟨s₂, o, st _ x, r'⟩
theorem go_newarray {aty : ArrayType} {z : Int32} {cap n : Nat} {ad : String} {ty : FieldType} {dv : Value} (hty : newarray.typeOf aty = ty) (hdv : defaultValue ty = dv) (hzn : z.toNatClampNeg = n) (w : (Cond.arrayClass ty).before a0 Z = true) (hd : decode b pc = .ok (.newarray aty, 2)) (hz : ¬ z < 0) (hcap : n ≤ cap) (hbig : cap * 8 ≤ 536870912) (had : "[" ++ ty.toString = ad) (hq : pc + 2 = q) (hc : c + 1 = c') (hs : s + cap = s') (hc' : c' ≤ R.cells) (hs' : s' ≤ R.slots)
    (nx : ∀ h' a k, a = h.size → Ext h h' → Arv Z h' a k ty z (List.replicate n dv) dv → Exa Z h' a ad → Go l Z K own mn b ml rt R Q h' (a :: F) c' s' q L (.ref a :: S)) : Go l Z K own mn b ml rt R Q h F c s pc L (.int z :: S) := fun T X => by
  subst hq hc hs hty hdv hzn
  obtain ⟨vm, k, locs, Y, eT, hS, hk, hZ, hown, N, C, M, O, r⟩ := X
  obtain ⟨T', h', cA, Y', e', E, A, Ex, st⟩ := newPE Y r.1 hZ w eT (g := mkF K.2.2.2.1 pc L (.int z :: S)) rfl (hb r.2.1 hd) rfl hz hcap hbig hc' hs' had
  have V := (Arv.new A hz).pad (vs' := List.replicate z.toNatClampNeg (defaultValue (newarray.typeOf aty))) (fun i => by
    have := pad_rep [] (defaultValue (newarray.typeOf aty)) z.toNatClampNeg i
    simpa using this)
  obtain ⟨s₂, o, x, r'⟩ := nx h' _ _ rfl E V Ex T' (St.grew E (fun x hx => by rcases List.mem_cons.mp hx with rfl | hx; exact Or.inr ⟨Nat.le_refl _, A.lt⟩; exact Or.inl hx) Y' e' hS hk hZ hown N C M O r)
  exact ⟨s₂, o, st _ x, r'⟩
theorem go_anewarray {index : Nat} {C : String} {z : Int32} {cap : Nat} {ad : String} (w : (Cond.classLink own index C).before a0 Z = true) (w2 : (Cond.arrayOver (.object C)).before a0 Z = true) (hd : decode b pc = .ok (.anewarray index, 3)) (hz : ¬ z < 0) (hcap : z.toNatClampNeg ≤ cap) (hbig : cap * 8 ≤ 536870912) (had : "[" ++ (FieldType.object C).toString = ad) (hq : pc + 3 = q) (hc : c + 1 = c') (hs : s + cap = s') (hc' : c' ≤ R.cells) (hs' : s' ≤ R.slots)
    (nx : ∀ h' a k, a = h.size → Ext h h' → Arv Z h' a k (.object C) z (List.replicate z.toNatClampNeg .null) .null → Exa Z h' a ad → Ovr Z k C → Go l Z K own mn b ml rt R Q h' (a :: F) c' s' q L (.ref a :: S)) : Go l Z K own mn b ml rt R Q h F c s pc L (.int z :: S) := fun T X => by
  subst hq hc hs
  obtain ⟨vm, k, locs, Y, eT, hS, hk, hZ, hown, N, C, M, O, r⟩ := X
  obtain ⟨T', h', cA, Y', e', E, A, Ex, Ov, st⟩ := newRE Y r.1 hZ hown w w2 eT (g := mkF K.2.2.2.1 pc L (.int z :: S)) rfl (hb r.2.1 hd) rfl hz hcap hbig hc' hs' had
  have V0 : Arv Z h' h.size cA (.object _) z [] .null := Arv.new A hz
  have V := V0.pad (vs' := List.replicate z.toNatClampNeg .null) (fun i => by
    have := pad_rep [] .null z.toNatClampNeg i
    simpa using this)
  obtain ⟨s₂, o, x, r'⟩ := nx h' _ _ rfl E V Ex Ov T' (St.grew E (fun x hx => by rcases List.mem_cons.mp hx with rfl | hx; exact Or.inr ⟨Nat.le_refl _, A.lt⟩; exact Or.inl hx) Y' e' hS hk hZ hown N C M O r)
  exact ⟨s₂, o, st _ x, r'⟩
theorem fits_nar_byte (x : Int32) : fits .byte (.int (nar .byte x)) = true := Jvm.Free.SBG.fits_of_int8 _
theorem go_castore {a : Addr} {k : ClassId} {z j x y : Int32} {vs : List Value} {dv : Value} {i : Nat} (A : Arv Z h a k .char z vs dv) (hj : ¬ j < 0 ∧ j < z) (hi : j.toNatClampNeg = i) (hl : i < vs.length) (ha : a ∈ F) (hy : nar .char x = y) (hd : decode b pc = .ok (.castore, 1)) (hq : pc + 1 = q)
    (nx : ∀ h', Keep h h' [a] → h'.size = h.size → Arv Z h' a k .char z (vs.set i (.int y)) dv → Go l Z K own mn b ml rt R Q h' F c s q L S) : Go l Z K own mn b ml rt R Q h F c s pc L (.int x :: .int j :: .ref a :: S) := fun T X => by
  subst hq hy
  obtain ⟨vm, k, locs, Y, eT, hS, hk, hZ, hown, N, C, M, O, r⟩ := X
  obtain ⟨cl, Ar, q1, q2, q3, q4, q5⟩ := A
  have hin := inb_of q2 hj
  obtain ⟨T', h', Y', e', W, st⟩ := stC Y r.1 hZ eT Ar hin (g := mkF K.2.2.2.1 pc L (.int x :: .int j :: .ref a :: S)) rfl rfl (hb r.2.1 hd)
  obtain ⟨s₂, o, x, r'⟩ := nx h' (Keep.of_wr W) W.size (Arv.set Ar q1 q2 q3 q4 q5 (fits_nar_char x) W i hi hl) T' (St.wrote W ha Y' e' hS hk hZ hown N C M O r)
  exact ⟨s₂, o, st _ x, r'⟩
theorem go_bastore {a : Addr} {k : ClassId} {z j x y : Int32} {vs : List Value} {dv : Value} {i : Nat} (A : Arv Z h a k .byte z vs dv) (hj : ¬ j < 0 ∧ j < z) (hi : j.toNatClampNeg = i) (hl : i < vs.length) (ha : a ∈ F) (hy : nar .byte x = y) (hd : decode b pc = .ok (.bastore, 1)) (hq : pc + 1 = q)
    (nx : ∀ h', Keep h h' [a] → h'.size = h.size → Arv Z h' a k .byte z (vs.set i (.int y)) dv → Go l Z K own mn b ml rt R Q h' F c s q L S) : Go l Z K own mn b ml rt R Q h F c s pc L (.int x :: .int j :: .ref a :: S) := fun T X => by
  subst hq hy
  obtain ⟨vm, k, locs, Y, eT, hS, hk, hZ, hown, N, C, M, O, r⟩ := X
  obtain ⟨cl, Ar, q1, q2, q3, q4, q5⟩ := A
  have hin := inb_of q2 hj
  obtain ⟨T', h', Y', e', W, st⟩ := stB Y r.1 hZ eT Ar hin (g := mkF K.2.2.2.1 pc L (.int x :: .int j :: .ref a :: S)) rfl rfl (hb r.2.1 hd)
  obtain ⟨s₂, o, x, r'⟩ := nx h' (Keep.of_wr W) W.size (Arv.set Ar q1 q2 q3 q4 q5 (fits_nar_byte x) W i hi hl) T' (St.wrote W ha Y' e' hS hk hZ hown N C M O r)
  exact ⟨s₂, o, st _ x, r'⟩
theorem go_lastore {a : Addr} {k : ClassId} {z j : Int32} {x : Int64} {vs : List Value} {dv : Value} {i : Nat} (A : Arv Z h a k .long z vs dv) (hj : ¬ j < 0 ∧ j < z) (hi : j.toNatClampNeg = i) (hl : i < vs.length) (ha : a ∈ F) (hd : decode b pc = .ok (.lastore, 1)) (hq : pc + 1 = q)
    (nx : ∀ h', Keep h h' [a] → h'.size = h.size → Arv Z h' a k .long z (vs.set i (.long x)) dv → Go l Z K own mn b ml rt R Q h' F c s q L S) : Go l Z K own mn b ml rt R Q h F c s pc L (.long x :: .int j :: .ref a :: S) := fun T X => by
  subst hq
  obtain ⟨vm, k, locs, Y, eT, hS, hk, hZ, hown, N, C, M, O, r⟩ := X
  obtain ⟨cl, Ar, q1, q2, q3, q4, q5⟩ := A
  have hin := inb_of q2 hj
  obtain ⟨T', h', Y', e', W, st⟩ := stJ Y r.1 hZ eT Ar hin (g := mkF K.2.2.2.1 pc L (.long x :: .int j :: .ref a :: S)) rfl rfl (hb r.2.1 hd)
  obtain ⟨s₂, o, x, r'⟩ := nx h' (Keep.of_wr W) W.size (Arv.set Ar q1 q2 q3 q4 q5 rfl W i hi hl) T' (St.wrote W ha Y' e' hS hk hZ hown N C M O r)
  exact ⟨s₂, o, st _ x, r'⟩
theorem go_arraylength {a : Addr} {k : ClassId} {ty : FieldType} {z : Int32} {vs : List Value} {dv : Value} (A : Arv Z h a k ty z vs dv) (hd : decode b pc = .ok (.arraylength, 1)) (hq : pc + 1 = q)
    (nx : Go l Z K own mn b ml rt R Q h F c s q L (.int z :: S)) : Go l Z K own mn b ml rt R Q h F c s pc L (.ref a :: S) := by
  subst hq
  exact go_of (fun T X t st => by
    obtain ⟨vm, k, locs, Y, eT, hS, hk, hZ, hown, N, C, M, O, r⟩ := X
    obtain ⟨cl, Ar, q1, q2, q3, q4, q5⟩ := A
    refine Y.arraylength r.1 (by rw [eT]; exact Ar.1) (State.isArrayOf_alike hZ.alike Ar.2.1) (g := mkF K.2.2.2.1 pc L (.ref a :: S)) rfl rfl (hb r.2.1 hd) _ ?_
    rw [len_of q2 q3]; exact st) nx
theorem go_caload {a : Addr} {k : ClassId} {z j : Int32} {vs : List Value} {dv v : Value} (A : Arv Z h a k .char z vs dv) (hj : ¬ j < 0 ∧ j < z) (hv : vs.getD j.toNatClampNeg dv = v) (hd : decode b pc = .ok (.caload, 1)) (hq : pc + 1 = q)
    (nx : Go l Z K own mn b ml rt R Q h F c s q L (v :: S)) : Go l Z K own mn b ml rt R Q h F c s pc L (.int j :: .ref a :: S) := by
  subst hq
  exact go_of (fun T X t st => by
    obtain ⟨vm, k, locs, Y, eT, hS, hk, hZ, hown, N, C, M, O, r⟩ := X
    obtain ⟨cl, Ar, q1, q2, q3, q4, q5⟩ := A
    exact Y.caload r.1 (by rw [eT]; exact Ar.1) (State.isArrayOf_alike hZ.alike Ar.2.1) Ar.2.2 (inb_of q2 hj) (q4.at (inb_of q2 hj) hv) (g := mkF K.2.2.2.1 pc L (.int j :: .ref a :: S)) rfl rfl (hb r.2.1 hd) _ st) nx
theorem go_baload {a : Addr} {k : ClassId} {z j : Int32} {vs : List Value} {dv v : Value} (A : Arv Z h a k .byte z vs dv) (hj : ¬ j < 0 ∧ j < z) (hv : vs.getD j.toNatClampNeg dv = v) (hd : decode b pc = .ok (.baload, 1)) (hq : pc + 1 = q)
    (nx : Go l Z K own mn b ml rt R Q h F c s q L (v :: S)) : Go l Z K own mn b ml rt R Q h F c s pc L (.int j :: .ref a :: S) := by
  subst hq
  exact go_of (fun T X t st => by
    obtain ⟨vm, k, locs, Y, eT, hS, hk, hZ, hown, N, C, M, O, r⟩ := X
    obtain ⟨cl, Ar, q1, q2, q3, q4, q5⟩ := A
    exact Y.baloadBytes r.1 (by rw [eT]; exact Ar.1) (State.isArrayOf_alike hZ.alike Ar.2.1) Ar.2.2 (inb_of q2 hj) (q4.at (inb_of q2 hj) hv) (g := mkF K.2.2.2.1 pc L (.int j :: .ref a :: S)) rfl rfl (hb r.2.1 hd) _ st) nx
theorem go_laload {a : Addr} {k : ClassId} {z j : Int32} {vs : List Value} {dv v : Value} (A : Arv Z h a k .long z vs dv) (hj : ¬ j < 0 ∧ j < z) (hv : vs.getD j.toNatClampNeg dv = v) (hd : decode b pc = .ok (.laload, 1)) (hq : pc + 1 = q)
    (nx : Go l Z K own mn b ml rt R Q h F c s q L (v :: S)) : Go l Z K own mn b ml rt R Q h F c s pc L (.int j :: .ref a :: S) := by
  subst hq
  exact go_of (fun T X t st => by
    obtain ⟨vm, k, locs, Y, eT, hS, hk, hZ, hown, N, C, M, O, r⟩ := X
    obtain ⟨cl, Ar, q1, q2, q3, q4, q5⟩ := A
    exact Y.laload r.1 (by rw [eT]; exact Ar.1) (State.isArrayOf_alike hZ.alike Ar.2.1) Ar.2.2 (inb_of q2 hj) (q4.at (inb_of q2 hj) hv) (g := mkF K.2.2.2.1 pc L (.int j :: .ref a :: S)) rfl rfl (hb r.2.1 hd) _ st) nx
theorem go_aaload {a : Addr} {k : ClassId} {ty : FieldType} {z j : Int32} {vs : List Value} {dv v : Value} (A : Arv Z h a k ty z vs dv) (hty : ty.isReference = true) (hj : ¬ j < 0 ∧ j < z) (hv : vs.getD j.toNatClampNeg dv = v) (hd : decode b pc = .ok (.aaload, 1)) (hq : pc + 1 = q)
    (nx : Go l Z K own mn b ml rt R Q h F c s q L (v :: S)) : Go l Z K own mn b ml rt R Q h F c s pc L (.int j :: .ref a :: S) := by
  subst hq
  exact go_of (fun T X t st => by
    obtain ⟨vm, k, locs, Y, eT, hS, hk, hZ, hown, N, C, M, O, r⟩ := X
    obtain ⟨cl, Ar, q1, q2, q3, q4, q5⟩ := A
    exact Y.aaload r.1 (by rw [eT]; exact Ar.1) (State.isArrayOf_alike hZ.alike Ar.2.1) hty Ar.2.2 (inb_of q2 hj) (q4.at (inb_of q2 hj) hv) (g := mkF K.2.2.2.1 pc L (.int j :: .ref a :: S)) rfl rfl (hb r.2.1 hd) _ st) nx
theorem go_checkcast {index : Nat} {C : String} {a : Addr} (w : (Cond.classLink own index C).before a0 Z = true) (I : Ins Z h a C true) (hd : decode b pc = .ok (.checkcast index, 3)) (hq : pc + 3 = q)
    (nx : Go l Z K own mn b ml rt R Q h F c s q L (.ref a :: S)) : Go l Z K own mn b ml rt R Q h F c s pc L (.ref a :: S) := fun T X => by
  subst hq
  obtain ⟨vm, k, locs, Y, eT, hS, hk, hZ, hown, N, C, M, O, r⟩ := X
  obtain ⟨T', Y', e', st⟩ := castY Y r.1 hZ hown w eT I (g := mkF K.2.2.2.1 pc L (.ref a :: S)) rfl rfl (hb r.2.1 hd)
  obtain ⟨s₂, o, x, r'⟩ := nx T' ⟨vm, k, locs, Y', e', hS, hk, hZ, hown, N, C, M, O, r⟩
  exact ⟨s₂, o, st _ x, r'⟩
theorem go_instY {index : Nat} {C : String} {a : Addr} (w : (Cond.classLink own index C).before a0 Z = true) (I : Ins Z h a C true) (hd : decode b pc = .ok (.instanceof index, 3)) (hq : pc + 3 = q)
    (nx : Go l Z K own mn b ml rt R Q h F c s q L (.int 1 :: S)) : Go l Z K own mn b ml rt R Q h F c s pc L (.ref a :: S) := fun T X => by
  subst hq
  obtain ⟨vm, k, locs, Y, eT, hS, hk, hZ, hown, N, C, M, O, r⟩ := X
  obtain ⟨T', Y', e', st⟩ := instY Y r.1 hZ hown w eT I (g := mkF K.2.2.2.1 pc L (.ref a :: S)) rfl rfl (hb r.2.1 hd)
  obtain ⟨s₂, o, x, r'⟩ := nx T' ⟨vm, k, locs, Y', e', hS, hk, hZ, hown, N, C, M, O, r⟩
  exact ⟨s₂, o, st _ x, r'⟩
theorem go_instNo {index : Nat} {C D : String} {a : Addr} (w : (Cond.classLink own index D).before a0 Z = true) (E : Exa Z h a C) (Fn : ∃ c t, Z.vm.findClass C = some c ∧ Z.vm.findClass D = some t ∧ Z.vm.assignable c t = false) (hd : decode b pc = .ok (.instanceof index, 3)) (hq : pc + 3 = q)
    (nx : Go l Z K own mn b ml rt R Q h F c s q L (.int 0 :: S)) : Go l Z K own mn b ml rt R Q h F c s pc L (.ref a :: S) := fun T X => by
  subst hq
  obtain ⟨vm, k, locs, Y, eT, hS, hk, hZ, hown, N, C, M, O, r⟩ := X
  obtain ⟨T', Y', e', st⟩ := instNo Y r.1 hZ hown w eT E Fn (g := mkF K.2.2.2.1 pc L (.ref a :: S)) rfl rfl (hb r.2.1 hd)
  obtain ⟨s₂, o, x, r'⟩ := nx T' ⟨vm, k, locs, Y', e', hS, hk, hZ, hown, N, C, M, O, r⟩
  exact ⟨s₂, o, st _ x, r'⟩
theorem go_ldcInt {index : Nat} {v : Int32} (w : (Cond.constant own index v).before a0 Z = true) (hd : decode b pc = .ok (.ldc index, 2)) (hq : pc + 2 = q) (nx : Go l Z K own mn b ml rt R Q h F c s q L (.int v :: S)) : Go l Z K own mn b ml rt R Q h F c s pc L S := by
  subst hq
  exact go_of (fun T X t st => by
    obtain ⟨vm, k, locs, Y, eT, hS, hk, hZ, hown, N, C, M, O, r⟩ := X
    exact Y.ldcInt r.1 hown (mvT (s := K.2.2.1.setVm vm) hZ w) (g := mkF K.2.2.2.1 pc L S) rfl (hb r.2.1 hd) _ st) nx
theorem go_ldc2 {index : Nat} {v : Int64} (w : (Cond.constantLong own index v).before a0 Z = true) (hd : decode b pc = .ok (.ldc2_w index, 3)) (hq : pc + 3 = q) (nx : Go l Z K own mn b ml rt R Q h F c s q L (.long v :: S)) : Go l Z K own mn b ml rt R Q h F c s pc L S := by
  subst hq
  exact go_of (fun T X t st => by
    obtain ⟨vm, k, locs, Y, eT, hS, hk, hZ, hown, N, C, M, O, r⟩ := X
    exact Y.ldc2Long r.1 hown (mvT (s := K.2.2.1.setVm vm) hZ w) (g := mkF K.2.2.2.1 pc L S) rfl (hb r.2.1 hd) _ st) nx
/-- ldc of a String constant, read -/
theorem go_ldcS (H : Wd Z a0) {index : Nat} {text : String} (w : (Cond.stringLink own index text).before a0 Z = true) (hm : (own, index) ∈ consts_1) {vs : List Value} {z : Int32} (ht : (∀ c ∈ text.toList, c.toNat < 256) ∧ text.toList.map (fun c => Value.int (Jvm.Lit.byteI c.toNat.toUInt16)) = vs) (hz : ¬ z < 0) (hl : z.toNatClampNeg = vs.length)
    (hd : decode b pc = .ok (.ldc index, 2)) {n : Nat} (hn : 4 * text.toList.length ≤ n) (hbig : n ≤ 536870912) (hq : pc + 2 = q) (hc : c + 2 = c') (hs : s + (n + 4) = s') (hc' : c' ≤ R.cells) (hs' : s' ≤ R.slots)
    (nx : ∀ h' a bb k, Ext h h' → Exa Z h' a "java/lang/String" → Fld Z h' a "java/lang/String" "coder" "B" (.int 0) → Fld Z h' a "java/lang/String" "value" "[B" (.ref bb) → Arv Z h' bb k .byte z vs (.int 0) → (∀ x ∈ F, x ≠ a ∧ x ≠ bb) → Go l Z K own mn b ml rt R Q h' F c' s' q L (.ref a :: S)) : Go l Z K own mn b ml rt R Q h F c s pc L S := fun T X => by
  subst hq hc hs
  obtain ⟨vm, k, locs, Y, eT, hS, hk, hZ, hown, N, C, M, O, r⟩ := X
  obtain ⟨a, T', h', k1, bb, kc, Y', e', E, hS', hk', hZ', hown', A, Fc, Fv, V, -, -, C', -, Sf, st⟩ := ldcCH Y r.1 hZ hown w H.2.2.1 eT hS hk H.2.1 hm C.1 ht hz hl (g := mkF K.2.2.2.1 pc L S) rfl (hb r.2.1 hd) hn hbig hc' hs'
  have M' : ∀ x ∈ F, Mine Z T'.vm h' x := fun x hx => ⟨(M x hx).1, Nat.lt_of_lt_of_le (M x hx).2.1 E.1, C'.safe (M x hx).2.1 (M x hx).2.2⟩
  obtain ⟨s₂, o, x, r'⟩ := nx h' a bb kc E A Fc Fv V (fun x hx => Sf x (M' x hx).2.2) T' ⟨T'.vm, k1, locs, Y', e', hS', hk', hZ', hown', N, C.trans C', M', O.ext E, r⟩
  exact ⟨s₂, o, st _ x, r'⟩
theorem go_initO {index : Nat} {a : Addr} (w1 : (Cond.methodLink own index Lib.objectInit).before a0 Z = true) (w2 : (Cond.instanceMethod Lib.objectInit).before a0 Z = true) (w3 : (Cond.code Lib.objectInit ⟨#[0xb1]⟩ 1 none).before a0 Z = true) (hL : L.size = ml) (hd : decode b pc = .ok (.invokespecial index, 3)) (hq : pc + 3 = q) (hf : 1 ≤ R.frames) (hlo : (S.map fun v => v.category).sum + 12 ≤ R.locals)
    (nx : Go l Z K own mn b ml rt R Q h F c s q L S) : Go l Z K own mn b ml rt R Q h F c s pc L (.ref a :: S) := fun T X => by
  subst hq
  obtain ⟨vm, k, locs, Y, eT, hS, hk, hZ, hown, N, C, M, O, r⟩ := X
  obtain ⟨T', Y', e', st⟩ := initO Y r.1 hZ hown w1 w2 w3 eT (g := mkF K.2.2.2.1 pc L (.ref a :: S)) rfl (by rw [r.2.2.1]; exact hL) rfl (hb r.2.1 hd) hf (W := (S.map fun v => v.category).sum) (by show 2 * 0 + _ ≤ _; omega) hlo
  obtain ⟨s₂, o, x, r'⟩ := nx T' ⟨vm, k, locs, Y', e', hS, hk, hZ, hown, N, C, M, O, r⟩
  exact ⟨s₂, o, st _ x, r'⟩
/-! ### returns -/
theorem St.end_ (H : Wd Z a0) {T : State} (X : St l Z K own mn b ml rt R T h F c s) {G : List Addr} {v : Option Value} (hq : Q v h G) (hG : ∀ x ∈ G, x ∈ F) (hc : c ≤ R.cells) (hs : s ≤ R.slots) (hv : rt = none → v = none) :
    ∃ fs, (∀ (f : JFrame) (acts : List Action), f.method = K.2.2.2.1 → f.locked = none → f.entered = [] → (doReturn K.2.1 (T.setTop f) acts v).1 = T.setFrames fs) ∧ (T.setFrames fs).status = .running ∧ Ended (T.setFrames fs) K.2.2.2.2.2.1 (.returned v) ∧ End Z K.2.2.1 R Q (.returned v) (T.setFrames fs) := by
  obtain ⟨vm, k, locs, Y, eT, hS, hk, hZ, hown, N, C, M, O, hx, hb', r1, r2, r3, r4⟩ := X
  obtain ⟨fs, h1, h2, h3, h4⟩ := Y.leaveW hS (by rw [eT]; exact hk) (v := v) (fun e => hv (r2.symm.trans e)) r4
  have A := CHv.at Y hZ H.2.1 C.1
  refine ⟨fs, h1, h2, h3, v, locs, G, rfl, by show Q v T.heap G; rw [eT]; exact hq, N, fun x hx => ?_, by show CHr Z consts_1 _ _ T.vm T.heap; rw [eT]; exact C.trans A, by show Old Z _ T.heap; rw [eT]; exact O, h4.1, h4.2.1, h4.2.2.1, h4.2.2.2.mono hc hs⟩
  have m := M x (hG x hx)
  exact ⟨m.1, by show x < T.heap.size; rw [eT]; exact m.2.1, by show Safe Z consts_1 T.vm T.heap x; rw [eT]; exact A.safe m.2.1 m.2.2⟩
theorem go_return (H : Wd Z a0) {G : List Addr} (hr : rt = none) (hd : decode b pc = .ok (.return_, 1)) (hc : c ≤ R.cells) (hs : s ≤ R.slots) (hG : ∀ x ∈ G, x ∈ F) (hq : Q none h G) : Go l Z K own mn b ml rt R Q h F c s pc L [] := fun T X => by
  obtain ⟨fs, h1, h2, h3, h4⟩ := X.end_ H hq hG hc hs (fun _ => rfl)
  obtain ⟨vm, k, locs, Y, eT, hS, hk, hZ, hown, N, C, M, O, hx, hb', r1, r2, r3, r4⟩ := X
  exact ⟨_, _, Y.returnOut hx (r2.trans hr) (hb hb' hd) h1, h2, h3, h4⟩
theorem go_areturn (H : Wd Z a0) {G : List Addr} {w : Value} {t : FieldType} (hr : rt = some t) (ht : t.isReference = true) (hw : w.isRef = true) (hd : decode b pc = .ok (.areturn, 1)) (hc : c ≤ R.cells) (hs : s ≤ R.slots) (hG : ∀ x ∈ G, x ∈ F) (hq : Q (some w) h G) : Go l Z K own mn b ml rt R Q h F c s pc L (w :: S) := fun T X => by
  obtain ⟨fs, h1, h2, h3, h4⟩ := X.end_ H hq hG hc hs (fun e => by rw [hr] at e; cases e)
  obtain ⟨vm, k, locs, Y, eT, hS, hk, hZ, hown, N, C, M, O, hx, hb', r1, r2, r3, r4⟩ := X
  have hn : narrow t w = w := by cases t <;> cases w <;> simp_all [narrow, Value.isRef, FieldType.isReference]
  exact ⟨_, _, retOut Y hx (r2.trans hr) hn (Or.inr (Or.inr (Or.inr (Or.inr ⟨rfl, ht, hw⟩)))) (hb hb' hd) h1, h2, h3, h4⟩
theorem go_ireturn (H : Wd Z a0) {G : List Addr} {x : Int32} {t : FieldType} (hr : rt = some t) (ht : t = .int ∨ t = .boolean ∨ t = .byte ∨ t = .char ∨ t = .short) (hn : narrow t (.int x) = .int x) (hd : decode b pc = .ok (.ireturn, 1)) (hc : c ≤ R.cells) (hs : s ≤ R.slots) (hG : ∀ x ∈ G, x ∈ F) (hq : Q (some (.int x)) h G) : Go l Z K own mn b ml rt R Q h F c s pc L (.int x :: S) := fun T X => by
  obtain ⟨fs, h1, h2, h3, h4⟩ := X.end_ H hq hG hc hs (fun e => by rw [hr] at e; cases e)
  obtain ⟨vm, k, locs, Y, eT, hS, hk, hZ, hown, N, C, M, O, hx, hb', r1, r2, r3, r4⟩ := X
  exact ⟨_, _, retOut Y hx (r2.trans hr) hn (Or.inl ⟨rfl, ht, x, rfl⟩) (hb hb' hd) h1, h2, h3, h4⟩
theorem go_lreturn (H : Wd Z a0) {G : List Addr} {x : Int64} (hr : rt = some .long) (hd : decode b pc = .ok (.lreturn, 1)) (hc : c ≤ R.cells) (hs : s ≤ R.slots) (hG : ∀ x ∈ G, x ∈ F) (hq : Q (some (.long x)) h G) : Go l Z K own mn b ml rt R Q h F c s pc L (.long x :: S) := fun T X => by
  obtain ⟨fs, h1, h2, h3, h4⟩ := X.end_ H hq hG hc hs (fun e => by rw [hr] at e; cases e)
  obtain ⟨vm, k, locs, Y, eT, hS, hk, hZ, hown, N, C, M, O, hx, hb', r1, r2, r3, r4⟩ := X
  exact ⟨_, _, retOut Y hx (r2.trans hr) rfl (Or.inr (Or.inl ⟨rfl, rfl, x, rfl⟩)) (hb hb' hd) h1, h2, h3, h4⟩
/-! ### calls -/
/-- what a callee leaves, as the caller's law sees it -/
def Left (Z : State) (vm0 : Vm) (h : Heap) (R' : Room) (Q' : QT) (A : Pt) (v : Option Value) (B : Pt) : Prop :=
  ∃ L G, Q' v B.U.heap G ∧ Fr Z.heap.size L ∧ (∀ x ∈ G, Mine Z B.U.vm B.U.heap x) ∧ CHr Z consts_1 vm0 h B.U.vm B.U.heap ∧ Old Z Z.heap.size B.U.heap ∧ B.locs = A.locs ++ L ∧ B.cells = A.cells + R'.cells ∧ B.slots = A.slots + R'.slots
theorem Met.back {y : MethodName} {b' : ByteArray} {ml' : Nat} {rt' : Option FieldType} {R' : Room} {F' : List Addr} {as : Array Value} {Q' : QT} {len W : Nat} {vm0 : Vm} {p : Program} {e : Env} {below : List Frame} {s : State} {args : Array Value} (H : Wd Z a0) (M : Met l Z y b' ml' rt' R' h F' as Q') (hZ : Z.Warmed39 vm0)
    (wc : (Cond.code y b' ml' rt').before a0 Z = true) (wz : (Cond.initialized y.cls).before a0 Z = true) (hf : R'.frames + 1 ≤ R.frames) (hl : W + (ml' + 11) + R'.locals ≤ R.locals) (C : CHv Z consts_1 vm0 h) (hM : ∀ x ∈ F', Mine Z vm0 h x) (hO : Old Z Z.heap.size h) :
    BackS l R p e below (s.setVm vm0) args y len W (fun A a => a = as ∧ A.U.heap = h ∧ A.cells + R'.cells ≤ R.cells ∧ A.slots + R'.slots ≤ R.slots) (fun A _ v B => Left Z vm0 h R' Q' A v B) :=
  BackS.of_freeW (bytes := b') (maxL := ml') (ret := rt') (E := fun _ first o t L k n => k = R'.cells ∧ n = R'.slots ∧ ∃ v G, o = .returned v ∧ Q' v t.heap G ∧ Fr Z.heap.size L ∧ (∀ x ∈ G, Mine Z t.vm t.heap x) ∧ CHr Z consts_1 first.vm first.heap t.vm t.heap ∧ Old Z Z.heap.size t.heap) M hf hl
    (fun m meth c A a Y hp => have hU : Z.Warmed39 A.U.vm := wtrans (s := s.setVm vm0) hZ Y.warmed
      ⟨by show (Cond.and _ .tt).before a A.U = true; rw [Cond.before_and, mv hU wc]; rfl, mv hU wc, mv hU wz, hp.2.2.1, hp.2.2.2⟩)
    (fun m meth c A a g mk Y hp => ⟨hp.1, wtrans (s := s.setVm vm0) hZ Y.warmed, hp.2.1, (CHv.at Y hZ H.2.1 C).1, fun x hx => ⟨(hM x hx).1, (hM x hx).2.1, (CHv.at Y hZ H.2.1 C).safe (hM x hx).2.1 (hM x hx).2.2⟩, hO⟩) (fun _ _ _ _ _ _ _ _ _ => trivial)
    (fun _ _ _ _ ⟨v, L, G, h1, h2, h3, h4, h5, h6, h7⟩ => ⟨L, _, _, h7, rfl, rfl, v, G, h1, h2, h3, h4, h5, h6⟩)
    (fun m meth c A a g mk v t L k n Y hp _ _ ⟨e1, e2, v', G, e3, e4, e5, e6, e7, e8⟩ => by
      cases e3; subst e1 e2
      refine ⟨L, G, e4, e5, e6, (CHv.at Y hZ H.2.1 C).trans ?_, e8, rfl, rfl, rfl⟩
      rw [← hp.2.1]; exact e7)
/-- behind a call -/
theorem St.came {vm : Vm} {k : Nat} {locs : List Loc} {T : State} {R' : Room} {Q' : QT} {v : Option Value} {vm₁ : Vm} {B : Pt} (Y : Stand K.1 l K.2.1 R (K.2.2.1.setVm vm) K.2.2.2.1 K.2.2.2.2.1 K.2.2.2.2.2.1 K.2.2.2.2.2.2.1 K.2.2.2.2.2.2.2 T locs c s) (eT : T.heap = h) (hS : K.2.2.1.Since vm k) (hk : k ≤ h.size)
    (hZ : Z.Warmed39 vm) (hown : vm.findClass own = some K.2.2.2.1.cls) (N : Fr Z.heap.size locs) (C : CHr Z consts_1 K.2.2.1.vm K.2.2.1.heap vm h) (M : ∀ x ∈ F, Mine Z vm h x)
    (r : K.1.tables.exec = Jvm.exec ∧ K.2.2.2.2.2.2.2.code = b ∧ K.2.2.2.2.2.2.2.maxLocals = ml ∧ K.2.2.2.2.2.2.1.sig.returnType = rt ∧ K.2.2.2.2.2.2.1.name = mn ∧ K.2.2.2.2.2.2.1.locks = false)
    (Y' : Stand K.1 l K.2.1 R ((K.2.2.1.setVm vm).setVm B.U.vm) K.2.2.2.1 K.2.2.2.2.1 K.2.2.2.2.2.1 K.2.2.2.2.2.2.1 K.2.2.2.2.2.2.2 B.U B.locs B.cells B.slots) (hS' : (K.2.2.1.setVm vm).Since B.U.vm B.U.heap.size) (hg : T.heap.size ≤ B.U.heap.size) (P : Left Z vm h R' Q' ⟨T.setVm vm₁, locs, c, s⟩ v B) :
    ∃ G, Q' v B.U.heap G ∧ (∀ F2, (∀ x ∈ F2, x ∈ G ∨ x ∈ F) → St l Z K own mn b ml rt R B.U B.U.heap F2 (c + R'.cells) (s + R'.slots)) := by
  obtain ⟨Lc, G, q1, q2, q3, q4, q5, q6, q7, q8⟩ := P
  have hkT : k ≤ T.heap.size := by rw [eT]; exact hk
  obtain ⟨w1, w2, w3, w4⟩ := rebS hS hkT Y' hS' hg hZ hown
  try dsimp only at q6 q7 q8
  rw [q6, q7, q8] at w1
  exact ⟨G, q1, fun F2 hF => ⟨B.U.vm, _, _, w1, rfl, w2, Nat.le_refl _, w3, w4, N.app q2, C.trans q4, fun x hx => by
    rcases hF x hx with z | z
    · exact q3 x z
    · have m := M x z
      exact ⟨m.1, Nat.lt_of_lt_of_le m.2.1 (by rw [← eT]; exact hg), q4.safe m.2.1 m.2.2⟩, q5, r⟩⟩
theorem decl_of {y : MethodName} {b' : ByteArray} {ml' : Nat} {rt' : Option FieldType} (w1 : (Cond.instanceMethod y).before a0 Z = true) (w2 : (Cond.code y b' ml' rt').before a0 Z = true) : (Cond.declares y).before a0 Z = true := by
  obtain ⟨mk, methM, hn, hm, hst, -⟩ := Cond.instanceMethod_spec w1
  obtain ⟨m2, cM, q1, -, -, -, -, -, -, hsig⟩ := Cond.code_spec hn w2
  cases hm.symm.trans q1
  simp [Cond.before, Cond.holds, Cond.value, hn, hm, hst, hsig]
theorem nf_mate {y w : MethodName} {C : String} (hc : w.cls = y.cls) (hs : (Cond.selects C w w).before a0 Z = true) : ∀ s : State, Z.Warmed39 s.vm → NotFace s y := fun s hZ r0 h0 => by
  obtain ⟨c, r, m, q1, q2, q3, q4, mk, q5, q6⟩ := Cond.selects_spec (mvT (s := s) (args := #[]) hZ hs)
  have e1 := findClass_of_methodNamed q3
  have e2 := findClass_of_methodNamed h0
  rw [hc] at e1
  have e3 : m.cls = r0.cls := Option.some.inj (e1.symm.trans e2)
  exact ⟨mk, by rw [← e3]; exact q5, q6⟩
theorem same_of {y w : MethodName} {C : String} (hc : w.cls = y.cls) (hs : (Cond.selects C w w).before a0 Z = true) (hd : (Cond.declares y).before a0 Z = true) (hy : y.cls ≠ "java/lang/invoke/MethodHandle" ∧ y.cls ≠ "java/lang/invoke/VarHandle") : (Cond.sameMethod y.cls y.cls y.name y.desc).before a0 Z = true := by
  obtain ⟨r0, r, hn, hrm, -, -⟩ := Cond.declares_spec hd
  obtain ⟨k, hk, hi⟩ := nf_mate hc hs Z (State.Warmed39.refl Z) r0 hn
  have hf := State.methodFound?_of_named hn hy
  have hcn := findClass_of_methodNamed hn
  have hn' : Z.methodNamed? ⟨y.cls, y.name, y.desc⟩ = some r0 := hn
  simp [Cond.before, Cond.holds, Cond.value, hcn, hf, hn', hk, hi]
section Calls
variable {index : Nat} {y : MethodName} {b' : ByteArray} {ml' : Nat} {rt' : Option FieldType} {R' : Room} {F' : List Addr} {as : Array Value} {Q' : QT} {argsL : List Value}
theorem go_static (H : Wd Z a0) (w1 : (Cond.methodLink own index y).before a0 Z = true) (w2 : (Cond.static y).before a0 Z = true) (w3 : (Cond.initialized y.cls).before a0 Z = true) (w4 : (Cond.code y b' ml' rt').before a0 Z = true) (hy : y.cls ≠ "java/lang/invoke/MethodHandle" ∧ y.cls ≠ "java/lang/invoke/VarHandle") (M' : Met l Z y b' ml' rt' R' h F' as Q')
    (ha : argsL.toArray = as) (hst : S' = argsL.reverse ++ S) (hlen : ∀ sig, parseMethodDescriptor y.desc = some sig → argsL.length = sig.parameters.length) (hF : ∀ x ∈ F', x ∈ F) (hL : L.size = ml) (hfr : R'.frames + 1 ≤ R.frames) (hlo : (S.map fun v => v.category).sum + (ml' + 11) + R'.locals ≤ R.locals) (hc : c + R'.cells = c') (hs : s + R'.slots = s') (hc' : c' ≤ R.cells) (hs' : s' ≤ R.slots)
    (hd : decode b pc = .ok (.invokestatic index, 3)) (hq : pc + 3 = q) (nx : ∀ v h' G, h.size ≤ h'.size → Q' v h' G → ∃ F2, (∀ x ∈ F2, x ∈ G ∨ x ∈ F) ∧ Go l Z K own mn b ml rt R Q h' F2 c' s' q L (v.toList ++ S)) : Go l Z K own mn b ml rt R Q h F c s pc L S' := fun T X => by
  subst hq hc hs hst ha
  obtain ⟨vm, k, locs, Y, eT, hS, hk, hZ, hown, N, C, M, O, r⟩ := X
  obtain ⟨v, vm₁, B, -, Y', hS', hg, P, st⟩ := callSS Y r.1 hown (mvT (s := K.2.2.1.setVm vm) hZ w1) (mvT (s := K.2.2.1.setVm vm) hZ w2) (mvT (s := K.2.2.1.setVm vm) hZ w3) (mvT (s := K.2.2.1.setVm vm) hZ w4) hy (W := (S.map fun v => v.category).sum) (M'.back H hZ w4 w3 hfr hlo C.1 (fun x hx => M x (hF x hx)) O) (g := mkF K.2.2.2.1 pc L (argsL.reverse ++ S)) rfl (by rw [r.2.2.1]; exact hL) (argsL := argsL) (rest := S) hlen rfl (by show 2 * 0 + _ ≤ _; omega) (hb r.2.1 hd) (fun _ _ => ⟨rfl, eT, hc', hs'⟩)
  obtain ⟨G, q1, q2⟩ := St.came Y eT hS hk hZ hown N C M r Y' hS' hg P
  obtain ⟨F2, f1, f2⟩ := nx v B.U.heap G (by rw [← eT]; exact hg) q1
  obtain ⟨s₂, o, x, r'⟩ := f2 B.U (q2 F2 f1)
  exact ⟨s₂, o, st.trans x, r'⟩
theorem go_special (H : Wd Z a0) {a : Addr} (hy1 : y.name = "<init>") (w1 : (Cond.methodLink own index y).before a0 Z = true) (w2 : (Cond.instanceMethod y).before a0 Z = true) (w3 : (Cond.initialized y.cls).before a0 Z = true) (w4 : (Cond.code y b' ml' none).before a0 Z = true) (hy : y.cls ≠ "java/lang/invoke/MethodHandle" ∧ y.cls ≠ "java/lang/invoke/VarHandle") (M' : Met l Z y b' ml' none R' h F' as Q')
    (ha : (.ref a :: argsL).toArray = as) (hst : S' = argsL.reverse ++ .ref a :: S) (hlen : ∀ sig, parseMethodDescriptor y.desc = some sig → argsL.length = sig.parameters.length) (hF : ∀ x ∈ F', x ∈ F) (hL : L.size = ml) (hfr : R'.frames + 1 ≤ R.frames) (hlo : (S.map fun v => v.category).sum + (ml' + 11) + R'.locals ≤ R.locals) (hc : c + R'.cells = c') (hs : s + R'.slots = s') (hc' : c' ≤ R.cells) (hs' : s' ≤ R.slots)
    (hd : decode b pc = .ok (.invokespecial index, 3)) (hq : pc + 3 = q) (nx : ∀ v h' G, h.size ≤ h'.size → Q' v h' G → ∃ F2, (∀ x ∈ F2, x ∈ G ∨ x ∈ F) ∧ Go l Z K own mn b ml rt R Q h' F2 c' s' q L (v.toList ++ S)) : Go l Z K own mn b ml rt R Q h F c s pc L S' := fun T X => by
  subst hq hc hs hst ha
  obtain ⟨vm, k, locs, Y, eT, hS, hk, hZ, hown, N, C, M, O, r⟩ := X
  obtain ⟨v, vm₁, B, -, Y', hS', hg, P, st⟩ := Y.specialBackS r.1 hy1 hown (mvT (s := K.2.2.1.setVm vm) hZ w1) (mvT (s := K.2.2.1.setVm vm) hZ w2) (mvT (s := K.2.2.1.setVm vm) hZ w4) hy (W := (S.map fun v => v.category).sum) (M'.back H hZ w4 w3 hfr hlo C.1 (fun x hx => M x (hF x hx)) O) (g := mkF K.2.2.2.1 pc L (argsL.reverse ++ .ref a :: S)) rfl (by rw [r.2.2.1]; exact hL) (Steps.refl _) (argsL := argsL) (rest := S) hlen rfl (by show 2 * 0 + _ ≤ _; omega) (hb r.2.1 hd) (fun _ _ => ⟨rfl, eT, hc', hs'⟩)
  obtain ⟨G, q1, q2⟩ := St.came Y eT hS hk hZ hown N C M r Y' hS' hg P
  obtain ⟨F2, f1, f2⟩ := nx v B.U.heap G (by rw [← eT]; exact hg) q1
  obtain ⟨s₂, o, x, r'⟩ := f2 B.U (q2 F2 f1)
  exact ⟨s₂, o, st.trans x, r'⟩
/-- invokevirtual of y on an object exactly of class C: the body is z's -/
theorem go_virtual (H : Wd Z a0) {a : Addr} {C : String} {z : MethodName} (w1 : (Cond.methodLink own index y).before a0 Z = true) (w2 : (Cond.declares y).before a0 Z = true) (wnf : ∀ s : State, Z.Warmed39 s.vm → NotFace s y) (w3 : (Cond.selects C y z).before a0 Z = true) (w4 : (Cond.instanceMethod z).before a0 Z = true) (w5 : (Cond.initialized z.cls).before a0 Z = true) (w6 : (Cond.code z b' ml' rt').before a0 Z = true)
    (hy : y.cls ≠ "java/lang/invoke/MethodHandle" ∧ y.cls ≠ "java/lang/invoke/VarHandle") (E : Exa Z h a C) (M' : Met l Z z b' ml' rt' R' h F' as Q')
    (ha : (.ref a :: argsL).toArray = as) (hst : S' = argsL.reverse ++ .ref a :: S) (hlen : ∀ sig, parseMethodDescriptor y.desc = some sig → argsL.length = sig.parameters.length) (hF : ∀ x ∈ F', x ∈ F) (hL : L.size = ml) (hfr : R'.frames + 1 ≤ R.frames) (hlo : (S.map fun v => v.category).sum + (ml' + 11) + R'.locals ≤ R.locals) (hc : c + R'.cells = c') (hs : s + R'.slots = s') (hc' : c' ≤ R.cells) (hs' : s' ≤ R.slots)
    (hd : decode b pc = .ok (.invokevirtual index, 3)) (hq : pc + 3 = q) (nx : ∀ v h' G, h.size ≤ h'.size → Q' v h' G → ∃ F2, (∀ x ∈ F2, x ∈ G ∨ x ∈ F) ∧ Go l Z K own mn b ml rt R Q h' F2 c' s' q L (v.toList ++ S)) : Go l Z K own mn b ml rt R Q h F c s pc L S' := fun T X => by
  subst hq hc hs hst ha
  obtain ⟨vm, k, locs, Y, eT, hS, hk, hZ, hown, N, C, M, O, r⟩ := X
  obtain ⟨cB, kB, g1, g2, g3⟩ := isOf (s := K.2.2.1.setVm vm) hZ eT E
  obtain ⟨v, vm₁, B, -, Y', hS', hg, P, st⟩ := Y.virtualBackS r.1 hown (mvT (s := K.2.2.1.setVm vm) hZ w1) (mvT (s := K.2.2.1.setVm vm) hZ w2) (wnf (K.2.2.1.setVm vm) hZ) (mvT (s := K.2.2.1.setVm vm) hZ w3) (mvT (s := K.2.2.1.setVm vm) hZ w4) hy (W := (S.map fun v => v.category).sum) (M'.back H hZ w6 w5 hfr hlo C.1 (fun x hx => M x (hF x hx)) O) g1 g3 (g := mkF K.2.2.2.1 pc L (argsL.reverse ++ .ref a :: S)) rfl (by rw [r.2.2.1]; exact hL) (Steps.refl _) (argsL := argsL) (rest := S) hlen rfl (by show 2 * 0 + _ ≤ _; omega) (hb r.2.1 hd) (fun _ _ => ⟨rfl, eT, hc', hs'⟩)
  obtain ⟨G, q1, q2⟩ := St.came Y eT hS hk hZ hown N C M r Y' hS' hg P
  obtain ⟨F2, f1, f2⟩ := nx v B.U.heap G (by rw [← eT]; exact hg) q1
  obtain ⟨s₂, o, x, r'⟩ := f2 B.U (q2 F2 f1)
  exact ⟨s₂, o, st.trans x, r'⟩
theorem go_interface (H : Wd Z a0) {a : Addr} {C : String} {z : MethodName} {count : Nat} (w1 : (Cond.methodLink own index y).before a0 Z = true) (w2 : (Cond.declares y).before a0 Z = true) (w3 : ∀ (s : State) (args : Array Value), Z.Warmed39 s.vm → (Cond.interfaceMethod y.cls y.cls y.name y.desc).before args s = true) (w4 : (Cond.selects C y z).before a0 Z = true) (w5 : (Cond.instanceMethod z).before a0 Z = true) (w6 : (Cond.publicMethod z).before a0 Z = true) (w7 : (Cond.unhidden C y.name y.desc).before a0 Z = true) (w8 : (Cond.castable C y.cls).before a0 Z = true) (w9 : (Cond.initialized z.cls).before a0 Z = true) (w10 : (Cond.code z b' ml' rt').before a0 Z = true)
    (hy : y.cls ≠ "java/lang/invoke/MethodHandle" ∧ y.cls ≠ "java/lang/invoke/VarHandle") (E : Exa Z h a C) (M' : Met l Z z b' ml' rt' R' h F' as Q')
    (ha : (.ref a :: argsL).toArray = as) (hst : S' = argsL.reverse ++ .ref a :: S) (hlen : ∀ sig, parseMethodDescriptor y.desc = some sig → argsL.length = sig.parameters.length) (hF : ∀ x ∈ F', x ∈ F) (hL : L.size = ml) (hfr : R'.frames + 1 ≤ R.frames) (hlo : (S.map fun v => v.category).sum + (ml' + 11) + R'.locals ≤ R.locals) (hc : c + R'.cells = c') (hs : s + R'.slots = s') (hc' : c' ≤ R.cells) (hs' : s' ≤ R.slots)
    (hd : decode b pc = .ok (.invokeinterface index count, 5)) (hq : pc + 5 = q) (nx : ∀ v h' G, h.size ≤ h'.size → Q' v h' G → ∃ F2, (∀ x ∈ F2, x ∈ G ∨ x ∈ F) ∧ Go l Z K own mn b ml rt R Q h' F2 c' s' q L (v.toList ++ S)) : Go l Z K own mn b ml rt R Q h F c s pc L S' := fun T X => by
  subst hq hc hs hst ha
  obtain ⟨vm, k, locs, Y, eT, hS, hk, hZ, hown, N, C, M, O, r⟩ := X
  obtain ⟨cB, kB, g1, g2, g3⟩ := isOf (s := K.2.2.1.setVm vm) hZ eT E
  obtain ⟨v, vm₁, B, -, Y', hS', hg, P, st⟩ := Y.interfaceBackS r.1 hown (mvT (s := K.2.2.1.setVm vm) hZ w1) (mvT (s := K.2.2.1.setVm vm) hZ w2) (w3 (K.2.2.1.setVm vm) _ hZ) (mvT (s := K.2.2.1.setVm vm) hZ w4) (mvT (s := K.2.2.1.setVm vm) hZ w5) (mvT (s := K.2.2.1.setVm vm) hZ w6) (mvT (s := K.2.2.1.setVm vm) hZ w7) (mvT (s := K.2.2.1.setVm vm) hZ w8) hy (W := (S.map fun v => v.category).sum) (M'.back H hZ w10 w9 hfr hlo C.1 (fun x hx => M x (hF x hx)) O) g1 g2 g3 (g := mkF K.2.2.2.1 pc L (argsL.reverse ++ .ref a :: S)) rfl (by rw [r.2.2.1]; exact hL) (Steps.refl _) (argsL := argsL) (rest := S) hlen rfl (by show 2 * 0 + _ ≤ _; omega) (hb r.2.1 hd) (fun _ _ => ⟨rfl, eT, hc', hs'⟩)
  obtain ⟨G, q1, q2⟩ := St.came Y eT hS hk hZ hown N C M r Y' hS' hg P
  obtain ⟨F2, f1, f2⟩ := nx v B.U.heap G (by rw [← eT]; exact hg) q1
  obtain ⟨s₂, o, x, r'⟩ := f2 B.U (q2 F2 f1)
  exact ⟨s₂, o, st.trans x, r'⟩
/-- invokespecial of the superclass's own method -/
theorem go_super (H : Wd Z a0) {a : Addr} {C : String} (w1 : (Cond.methodLink own index y).before a0 Z = true) (w2 : (Cond.sameMethod y.cls y.cls y.name y.desc).before a0 Z = true) (w3 : (Cond.instanceMethod y).before a0 Z = true) (w4 : (Cond.superclass own y.cls).before a0 Z = true) (w5 : (Cond.initialized y.cls).before a0 Z = true) (w6 : (Cond.code y b' ml' rt').before a0 Z = true) (hni : y.name ≠ "<init>") (E : Exa Z h a C) (M' : Met l Z y b' ml' rt' R' h F' as Q')
    (ha : (.ref a :: argsL).toArray = as) (hst : S' = argsL.reverse ++ .ref a :: S) (hlen : ∀ sig, parseMethodDescriptor y.desc = some sig → argsL.length = sig.parameters.length) (hF : ∀ x ∈ F', x ∈ F) (hL : L.size = ml) (hfr : R'.frames + 1 ≤ R.frames) (hlo : (S.map fun v => v.category).sum + (ml' + 11) + R'.locals ≤ R.locals) (hc : c + R'.cells = c') (hs : s + R'.slots = s') (hc' : c' ≤ R.cells) (hs' : s' ≤ R.slots)
    (hd : decode b pc = .ok (.invokespecial index, 3)) (hq : pc + 3 = q) (nx : ∀ v h' G, h.size ≤ h'.size → Q' v h' G → ∃ F2, (∀ x ∈ F2, x ∈ G ∨ x ∈ F) ∧ Go l Z K own mn b ml rt R Q h' F2 c' s' q L (v.toList ++ S)) : Go l Z K own mn b ml rt R Q h F c s pc L S' := fun T X => by
  subst hq hc hs hst ha
  obtain ⟨vm, k, locs, Y, eT, hS, hk, hZ, hown, N, C, M, O, r⟩ := X
  obtain ⟨v, vm₁, B, -, Y', hS', hg, P, st⟩ := superBackS Y r.1 (show Z.Warmed39 (K.2.2.1.setVm vm).vm from hZ) hown w1 w2 w3 w4 hni (W := (S.map fun v => v.category).sum) (M'.back H hZ w6 w5 hfr hlo C.1 (fun x hx => M x (hF x hx)) O) eT (Ins.self E) (g := mkF K.2.2.2.1 pc L (argsL.reverse ++ .ref a :: S)) rfl (by rw [r.2.2.1]; exact hL) w6 (argsL := argsL) (rest := S) hlen rfl (by show 2 * 0 + _ ≤ _; omega) (hb r.2.1 hd) (fun _ _ => ⟨rfl, eT, hc', hs'⟩)
  obtain ⟨G, q1, q2⟩ := St.came Y eT hS hk hZ hown N C M r Y' hS' hg P
  obtain ⟨F2, f1, f2⟩ := nx v B.U.heap G (by rw [← eT]; exact hg) q1
  obtain ⟨s₂, o, x, r'⟩ := f2 B.U (q2 F2 f1)
  exact ⟨s₂, o, st.trans x, r'⟩
/-- System.arraycopy of bytes -/
theorem go_arraycopy {a d : Addr} {ka kd : ClassId} {ty : FieldType} {z z' sp dp nn : Int32} {vs vd us : List Value} {dv dd : Value} (w1 : (Cond.methodLink own index Jvm.Stand.acN).before a0 Z = true) (w2 : (Cond.native Jvm.Stand.acN).before a0 Z = true) (w3 : (Cond.static Jvm.Stand.acN).before a0 Z = true) (w4 : (Cond.initialized "java/lang/System").before a0 Z = true)
    (A : Arv Z h a ka ty z vs dv) (B : Arv Z h d kd ty z' vd dd) (hty : refKind ty = false) (h1 : ¬ sp < 0) (h2 : ¬ dp < 0) (h3 : ¬ nn < 0) (h4 : sp.toNatClampNeg + nn.toNatClampNeg ≤ z.toNatClampNeg) (h5 : dp.toNatClampNeg + nn.toNatClampNeg ≤ z'.toNatClampNeg) (hus : us = (List.range nn.toNatClampNeg).map fun i => vs.getD (sp.toNatClampNeg + i) dv) (hl : dp.toNatClampNeg + nn.toNatClampNeg ≤ vd.length) (ha : d ∈ F)
    (hL : L.size = ml) (hfr : 1 ≤ R.frames) (hlo : (S.map fun v => v.category).sum + (nativeFrameWords "java/lang/System" "arraycopy" 5 + 11) ≤ R.locals) (hd : decode b pc = .ok (.invokestatic index, 3)) (hq : pc + 3 = q)
    (nx : ∀ h', Keep h h' [d] → Arv Z h' d kd ty z' (vd.take dp.toNatClampNeg ++ us ++ vd.drop (dp.toNatClampNeg + nn.toNatClampNeg)) dd → Go l Z K own mn b ml rt R Q h' F c s q L S) : Go l Z K own mn b ml rt R Q h F c s pc L (.int nn :: .int dp :: .ref d :: .int sp :: .ref a :: S) := fun T X => by
  subst hq
  obtain ⟨vm, k, locs, Y, eT, hS, hk, hZ, hown, N, C, M, O, r⟩ := X
  obtain ⟨T', h', L', Y', e', N', Kp, V, st⟩ := cpA Y r.1 (show Z.Warmed39 (K.2.2.1.setVm vm).vm from hZ) hown w1 w2 w3 w4 eT A B (Or.inl ⟨rfl, hty⟩) h1 h2 h3 h4 h5 hus hl N (M d ha).1 (g := mkF K.2.2.2.1 pc L (.int nn :: .int dp :: .ref d :: .int sp :: .ref a :: S)) rfl (by rw [r.2.2.1]; exact hL) (rest := S) rfl (hb r.2.1 hd) hfr (W := (S.map fun v => v.category).sum) (by show 2 * 0 + _ ≤ _; omega) hlo
  have hsf : ∀ x ∈ [d], Safe Z consts_1 vm h x := fun x hx => by cases List.mem_singleton.mp hx; exact (M d ha).2.2
  obtain ⟨s₂, o, x, r'⟩ := nx h' Kp V T' ⟨vm, k, L', Y', e', hS, Nat.le_trans hk Kp.1, hZ, hown, N', C.trans (CHr.keep Kp hsf C.1), fun x hx => ⟨(M x hx).1, Nat.lt_of_lt_of_le (M x hx).2.1 Kp.1, Safe.keep Kp hsf C.1 (M x hx).2.2⟩, O.keep Kp (fun x hx => by cases List.mem_singleton.mp hx; exact (M d ha).1), r⟩
  exact ⟨s₂, o, st _ x, r'⟩
theorem nf_self {C : String} (w3 : (Cond.selects C y y).before a0 Z = true) : ∀ s : State, Z.Warmed39 s.vm → NotFace s y := fun s hZ => notFace_of_selects (args := #[]) (mvT hZ w3)
/-- the plain end of a call: nothing more to write -/
theorem nx_ {v : Option Value} {G : List Addr} (n : Go l Z K own mn b ml rt R Q h F c s pc L S) : ∃ F2, (∀ x ∈ F2, x ∈ G ∨ x ∈ F) ∧ Go l Z K own mn b ml rt R Q h F2 c s pc L S := ⟨F, fun _ q => Or.inr q, n⟩
end Calls
end G
end Own
end Jvm.Pilot.@@N@@
/-! OWN FRAMEWORK, part 3: Strings of Latin-1 chars. -/
namespace Jvm.Pilot.@@N@@
namespace Own
open Jvm Jvm.ClassFile Sem Op Lib Jvm.Free Jvm.Stand Jvm.LawKit Jvm.RoadKit
abbrev ST : String := "java/lang/String"
abbrev bts (cs : List Int32) : List Value := cs.map fun c => .int c.toInt8.toInt32
abbrev ints (cs : List Int32) : List Value := cs.map fun c => .int c
def Lat (cs : List Int32) : Prop := cs.length ≤ 4096 ∧ ∀ c ∈ cs, ¬ c < 0 ∧ ¬ 255 < c
/-- the String at a spells cs; its cells are none of F -/
def Str (Z : State) (h : Heap) (F : List Addr) (a : Addr) (cs : List Int32) : Prop :=
  Exa Z h a ST ∧ Fld Z h a ST "coder" "B" (.int 0) ∧ a ∉ F ∧ Lat cs ∧ ∃ bb k, bb ∉ F ∧ Fld Z h a ST "value" "[B" (.ref bb) ∧ Arv Z h bb k .byte (Int32.ofNat cs.length) (bts cs) (.int 0)
theorem toInt_ofNat {n : Nat} (h : n < 2147483648) : (Int32.ofNat n).toInt = n := by
  rw [Int32.toInt_ofNat_of_lt (by simpa using h)]
theorem cl_ofNat {n : Nat} (h : n < 2147483648) : (Int32.ofNat n).toNatClampNeg = n := by
  simp only [Int32.toNatClampNeg, toInt_ofNat h]; omega
theorem nn_ofNat {n : Nat} (h : n < 2147483648) : ¬ Int32.ofNat n < 0 := by
  rw [Int32.lt_iff_toInt_lt, toInt_ofNat h, show (0 : Int32).toInt = 0 from rfl]; omega
theorem lt_ofNat {i n : Nat} (hi : i < 2147483648) (hn : n < 2147483648) : Int32.ofNat i < Int32.ofNat n ↔ i < n := by
  rw [Int32.lt_iff_toInt_lt, toInt_ofNat hi, toInt_ofNat hn]; omega
theorem eq_ofNat {i n : Nat} (hi : i < 2147483648) (hn : n < 2147483648) : Int32.ofNat i = Int32.ofNat n ↔ i = n := by
  rw [← Int32.toInt_inj, toInt_ofNat hi, toInt_ofNat hn]; omega
theorem add1_ofNat {i : Nat} : Int32.ofNat i + Int32.ofInt 1 = Int32.ofNat (i + 1) := by
  rw [Int32.ofNat_add]; rfl
section
variable {Z : State} {h h' : Heap} {F F' : List Addr} {a : Addr} {cs : List Int32} {ws : List Addr}
theorem Str.exa (S : Str Z h F a cs) : Exa Z h a ST := S.1
theorem Str.lat (S : Str Z h F a cs) : Lat cs := S.2.2.2.1
theorem Str.lt (S : Str Z h F a cs) : a < h.size := S.1.lt
theorem Str.keep (S : Str Z h F a cs) (K : Keep h h' ws) (hw : ∀ x ∈ ws, x ∈ F ∨ h.size ≤ x) : Str Z h' F a cs := by
  obtain ⟨E, C, ha, hl, bb, k, hb, V, A⟩ := S
  have na : a ∉ ws := fun q => (hw a q).elim ha fun z => absurd E.lt (Nat.not_lt.mpr z)
  have nb : bb ∉ ws := fun q => (hw bb q).elim hb fun z => absurd A.lt (Nat.not_lt.mpr z)
  exact ⟨E.keep K, C.keep K na, ha, hl, bb, k, hb, V.keep K na, A.keep K nb⟩
theorem Str.keep0 (S : Str Z h F a cs) (K : Keep h h' []) : Str Z h' F a cs := S.keep K (fun _ q => nomatch q)
theorem Str.ext (S : Str Z h F a cs) (E : Ext h h') : Str Z h' F a cs := S.keep0 ((Keep.refl h []).ext E)
theorem Str.grow (S : Str Z h F a cs) (hF : ∀ x ∈ F', x ∈ F ∨ h.size ≤ x) : Str Z h F' a cs := by
  obtain ⟨E, C, ha, hl, bb, k, hb, V, A⟩ := S
  exact ⟨E, C, fun q => (hF a q).elim ha fun z => absurd E.lt (Nat.not_lt.mpr z), hl, bb, k, fun q => (hF bb q).elim hb fun z => absurd A.lt (Nat.not_lt.mpr z), V, A⟩
theorem Str.less (S : Str Z h F a cs) (hF : ∀ x ∈ F', x ∈ F) : Str Z h F' a cs := S.grow fun x q => Or.inl (hF x q)
theorem Str.nil (S : Str Z h F a cs) : Str Z h [] a cs := S.less (fun _ q => nomatch q)
theorem Str.ins (S : Str Z h F a cs) : Ins Z h a ST true := Ins.self S.1
end
theorem kless {h h' : Heap} {ws ws' : List Addr} (K : Keep h h' ws) (q : ∀ x ∈ ws, x ∈ ws') : Keep h h' ws' := ⟨K.1, fun x c e n => K.2.1 x c e fun m => n (q x m), K.2.2⟩
theorem kfresh {h h1 h2 : Heap} {a : Addr} (K : Keep h h1 []) (K' : Keep h1 h2 [a]) (q : h.size ≤ a) : Keep h h2 [] := K.trans K' fun x e => by cases List.mem_singleton.mp e; exact Or.inr q
theorem nref {t : FieldType} {v : Value} (ht : t.isReference = true) (hv : v.isRef = true) : narrow t v = v := by cases t <;> cases v <;> simp_all [narrow, Value.isRef, FieldType.isReference]
theorem fref {t : FieldType} {v : Value} (ht : t.isReference = true) (hv : v.isRef = true) : fits t v = true := by cases t <;> cases v <;> simp_all [fits, Value.isRef, FieldType.isReference]
theorem shr0 (z : Int32) : z >>> ((0 : Int32) &&& 31) = z := by
  rw [← Int32.toInt_inj, c_ishr z 0 0 rfl]; simp
theorem nar_char {x : Int32} (h0 : ¬ x < 0) (h1 : ¬ 255 < x) : nar .char x = x := by
  have h := c_i2c x
  rw [Int32.lt_iff_toInt_lt] at h0 h1
  have e0 : (0 : Int32).toInt = 0 := rfl
  have e1 : (255 : Int32).toInt = 255 := rfl
  rw [← Int32.toInt_inj]
  show x.toUInt32.toUInt16.toUInt32.toInt32.toInt = _
  omega
theorem msk (x : Int32) : ¬ (x &&& 255) < 0 ∧ ¬ 255 < (x &&& 255) := by
  have h := c_and x 255 (by decide)
  rw [Int32.lt_iff_toInt_lt, Int32.lt_iff_toInt_lt]
  have e0 : (0 : Int32).toInt = 0 := rfl
  have e1 : (255 : Int32).toInt = 255 := rfl
  omega
theorem i2c_msk (x : Int32) : (x &&& 255).toUInt32.toUInt16.toUInt32.toInt32 = x &&& 255 := nar_char (msk x).1 (msk x).2
theorem b_inj {x y : Int32} (hx : ¬ x < 0 ∧ ¬ 255 < x) (hy : ¬ y < 0 ∧ ¬ 255 < y) (h : x.toInt8.toInt32 = y.toInt8.toInt32) : x = y := by
  have h1 := c_i2b x; have h2 := c_i2b y
  rw [h] at h1
  rw [Int32.lt_iff_toInt_lt, Int32.lt_iff_toInt_lt] at hx hy
  have e0 : (0 : Int32).toInt = 0 := rfl
  have e1 : (255 : Int32).toInt = 255 := rfl
  rw [← Int32.toInt_inj]; omega
theorem b_and {x : Int32} (hx : ¬ x < 0 ∧ ¬ 255 < x) : x.toInt8.toInt32 &&& 255 = x := by
  have h1 := c_i2b x
  have h2 := c_mask (x.toInt8.toInt32) 255 8 (by decide) (by decide)
  rw [Int32.lt_iff_toInt_lt, Int32.lt_iff_toInt_lt] at hx
  have e0 : (0 : Int32).toInt = 0 := rfl
  have e1 : (255 : Int32).toInt = 255 := rfl
  rw [← Int32.toInt_inj, h2]; omega
theorem bts_at {cs : List Int32} {i : Nat} (hi : i < cs.length) : (bts cs).getD i (.int 0) = .int (cs[i].toInt8.toInt32) := by simp [bts, hi]
theorem Str.same {Z : State} {h : Heap} {F F' : List Addr} {a : Addr} {cs ds : List Int32} (S : Str Z h F a cs) (S2 : Str Z h F' a ds) : cs = ds := by
  obtain ⟨E, C, ha, hl, bb, k, hb, V, A⟩ := S
  obtain ⟨E2, C2, ha2, hl2, bb2, k2, hb2, V2, A2⟩ := S2
  obtain rfl : bb = bb2 := by
    by_cases e : bb = bb2
    · exact e
    · exact absurd rfl (V.ne V2 (by simpa using e))
  obtain ⟨c1, r1, q1, s1, n1, H1, G1⟩ := A
  obtain ⟨c2, r2, q2, s2, n2, H2, G2⟩ := A2
  obtain rfl : c1 = c2 := Option.some.inj (r1.1.symm.trans r2.1)
  have l1 := hl.1; have l2 := hl2.1
  rw [cl_ofNat (by omega)] at s1 s2
  have hlen : cs.length = ds.length := s1.symm.trans s2
  refine List.ext_getElem hlen fun i h1 h2 => ?_
  have e1 := H1 i (by omega)
  have e2 := H2 i (by omega)
  rw [bts_at h1] at e1; rw [bts_at h2] at e2
  have e3 := e1.symm.trans e2
  simp only [Option.some.injEq, Value.int.injEq] at e3
  exact b_inj (hl.2 _ (List.getElem_mem h1)) (hl2.2 _ (List.getElem_mem h2)) e3
section G
variable {l : Launch} {Z : State} {a0 : Array Value} {K : Cx} {own mn : String} {b : ByteArray} {ml : Nat} {rt : Option FieldType} {R : Room} {Q : QT} {h h' : Heap} {F : List Addr} {c s pc q c' s' : Nat} {L L' : Array Slot} {S S' : List Value}
theorem go_istoreO {k : Nat} {x : Int32} {o : Slot} (hd : decode b pc = .ok (.istore k, 2)) (hold : L[k]? = some o) (ho : One o) (hL : L.setIfInBounds k (.val (.int x)) = L') (hq : pc + 2 = q) (n : Go l Z K own mn b ml rt R Q h F c s q L' S) : Go l Z K own mn b ml rt R Q h F c s pc L (.int x :: S) := by
  subst hq hL; exact go_of (fun T X t st => by obtain ⟨vm, k, locs, Y, r1, r2, r3, r4, r5, r6, r7, r8, r9, hx, hb', rr⟩ := X; exact XS.istoreS Y.here hx rfl (hb hb' hd) rfl hold ho st) n
theorem go_istoreNO {k : Fin 4} {x : Int32} {o : Slot} (hd : decode b pc = .ok (.istore_n k, 1)) (hold : L[k.val]? = some o) (ho : One o) (hL : L.setIfInBounds k.val (.val (.int x)) = L') (hq : pc + 1 = q) (n : Go l Z K own mn b ml rt R Q h F c s q L' S) : Go l Z K own mn b ml rt R Q h F c s pc L (.int x :: S) := by
  subst hq hL; exact go_of (fun T X t st => by obtain ⟨vm, k, locs, Y, r1, r2, r3, r4, r5, r6, r7, r8, r9, hx, hb', rr⟩ := X; exact XS.istoreNS Y.here hx rfl (hb hb' hd) rfl hold ho st) n
/-- ldc of a Latin-1 constant -/
theorem go_lit (H : Wd Z a0) {index : Nat} {text : String} {cs : List Int32} {n : Nat} (w : (Cond.stringLink own index text).before a0 Z = true) (hm : (own, index) ∈ consts_1) (ht1 : ∀ c ∈ text.toList, c.toNat < 256) (ht2 : text.toList.map (fun c => Value.int (Jvm.Lit.byteI c.toNat.toUInt16)) = bts cs) (h1 : cs.length ≤ 4096) (h2 : ∀ c ∈ cs, ¬ c < 0 ∧ ¬ 255 < c)
    (hd : decode b pc = .ok (.ldc index, 2)) (hn : 4 * text.toList.length ≤ n) (hbig : n ≤ 536870912) (hq : pc + 2 = q) (hc : c + 2 = c') (hs : s + (n + 4) = s') (hc' : c' ≤ R.cells) (hs' : s' ≤ R.slots)
    (nx : ∀ h' a, Ext h h' → Str Z h' F a cs → Go l Z K own mn b ml rt R Q h' F c' s' q L (.ref a :: S)) : Go l Z K own mn b ml rt R Q h F c s pc L S :=
  go_ldcS H w hm ⟨ht1, ht2⟩ (nn_ofNat (n := cs.length) (by omega)) (by rw [cl_ofNat (by omega)]; simp) hd hn hbig hq hc hs hc' hs' fun h' a bb k E A Fc Fv V ne => nx h' a E ⟨A, Fc, fun q => (ne a q).1 rfl, ⟨h1, h2⟩, bb, k, fun q => (ne bb q).2 rfl, Fv, V⟩
end G
end Own
end Jvm.Pilot.@@N@@
/-! OWN FRAMEWORK, part 4: StringBuilder. -/
namespace Jvm.Pilot.@@N@@
namespace Own
open Jvm Jvm.ClassFile Sem Op Lib Jvm.Free Jvm.Stand Jvm.LawKit Jvm.RoadKit
abbrev SBN : String := "java/lang/StringBuilder"
abbrev ABN : String := "java/lang/AbstractStringBuilder"
abbrev zs (n : Nat) : List Value := List.replicate n (.int 0)
/-- the builder x, whose array is v (cap bytes), spells cs -/
def SBd (Z : State) (h : Heap) (x v : Addr) (cap : Nat) (cs : List Int32) : Prop :=
  Exa Z h x SBN ∧ Fld Z h x ABN "value" "[B" (.ref v) ∧ Fld Z h x ABN "coder" "B" (.int 0) ∧ Fld Z h x ABN "count" "I" (.int (Int32.ofNat cs.length)) ∧ Lat cs ∧ cs.length ≤ cap ∧ cap ≤ 4096 ∧ ∃ k, Arv Z h v k .byte (Int32.ofNat cap) (bts cs ++ zs (cap - cs.length)) (.int 0)
section
variable {Z : State} {h h' : Heap} {x v : Addr} {cap : Nat} {cs ds : List Int32} {ws : List Addr}
theorem SBd.keep (S : SBd Z h x v cap cs) (K : Keep h h' ws) (nx : x ∉ ws) (nv : v ∉ ws) : SBd Z h' x v cap cs := by
  obtain ⟨E, V, C, N, L, l1, l2, k, A⟩ := S
  exact ⟨E.keep K, V.keep K nx, C.keep K nx, N.keep K nx, L, l1, l2, k, A.keep K nv⟩
theorem SBd.keep0 (S : SBd Z h x v cap cs) (K : Keep h h' []) : SBd Z h' x v cap cs := S.keep K nin0 nin0
theorem SBd.ext (S : SBd Z h x v cap cs) (E : Ext h h') : SBd Z h' x v cap cs := S.keep0 ((Keep.refl h []).ext E)
theorem SBd.exa (S : SBd Z h x v cap cs) : Exa Z h x SBN := S.1
theorem SBd.lat (S : SBd Z h x v cap cs) : Lat cs := S.2.2.2.2.1
theorem SBd.le (S : SBd Z h x v cap cs) : cs.length ≤ cap := S.2.2.2.2.2.1
theorem bts_len (cs : List Int32) : (bts cs).length = cs.length := by simp [bts]
theorem us_eq (ds : List Int32) : (List.range ds.length).map (fun i => (bts ds).getD i (.int 0)) = bts ds := by
  refine List.ext_getElem (by simp [bts]) fun i h1 h2 => ?_
  simp only [bts_len] at h2
  simp [bts, h2]
theorem cat_eq {n : Nat} (h1 : cs.length + ds.length ≤ n) : (bts cs ++ zs (n - cs.length)).take cs.length ++ bts ds ++ (bts cs ++ zs (n - cs.length)).drop (cs.length + ds.length) = bts (cs ++ ds) ++ zs (n - (cs ++ ds).length) := by
  have e1 : (bts cs ++ zs (n - cs.length)).take cs.length = bts cs := by
    rw [List.take_append_of_le_length (by rw [bts_len]; exact Nat.le_refl _), List.take_of_length_le (by rw [bts_len]; exact Nat.le_refl _)]
  have e2 : (bts cs ++ zs (n - cs.length)).drop (cs.length + ds.length) = zs (n - (cs ++ ds).length) := by
    rw [List.drop_append, List.drop_of_length_le (by rw [bts_len]; omega), List.nil_append, bts_len, List.drop_replicate, List.length_append]
    congr 1; omega
  rw [e1, e2]
  simp [bts]
theorem Lat.app (h1 : Lat cs) (h2 : Lat ds) (h : cs.length + ds.length ≤ 4096) : Lat (cs ++ ds) := ⟨by simpa using h, fun c hc => (List.mem_append.mp hc).elim (h1.2 c) (h2.2 c)⟩
theorem add_ofNat (i j : Nat) : Int32.ofNat i + Int32.ofNat j = Int32.ofNat (i + j) := (Int32.ofNat_add i j).symm
theorem shl0 (z : Int32) : z <<< ((0 : Int32) &&& 31) = z := by
  rw [show (0 : Int32) &&& 31 = 0 from by decide]; exact Int32.shiftLeft_zero
theorem sub_ofNat {i j : Nat} (hi : i < 2147483648) (hj : j < 2147483648) : (Int32.ofNat i - Int32.ofNat j).toInt = (i : Int) - j := by
  have h := c_isub (Int32.ofNat i) (Int32.ofNat j)
  rw [toInt_ofNat hi, toInt_ofNat hj] at h
  have h3 := (Int32.ofNat i - Int32.ofNat j).le_toInt; have h4 := (Int32.ofNat i - Int32.ofNat j).toInt_lt
  omega
theorem subNat {i j : Nat} (hj : j ≤ i) (hi : i < 2147483648) : Int32.ofNat i - Int32.ofNat j = Int32.ofNat (i - j) := by
  rw [← Int32.toInt_inj, sub_ofNat hi (by omega), toInt_ofNat (by omega)]; omega
theorem not_pos_sub {i j : Nat} (h : i ≤ j) (hj : j < 2147483648) : ¬ (0 : Int32) < Int32.ofNat i - Int32.ofNat j := by
  rw [Int32.lt_iff_toInt_lt, sub_ofNat (by omega) hj, show (0 : Int32).toInt = 0 from rfl]; omega
end
end Own
end Jvm.Pilot.@@N@@
namespace Jvm.Pilot.@@N@@
namespace Own
open Jvm Jvm.ClassFile Sem Op Lib Jvm.Free Jvm.Stand Jvm.LawKit Jvm.RoadKit
theorem us_pre (cs : List Int32) (t : List Value) : (List.range cs.length).map (fun i => (bts cs ++ t).getD i (.int 0)) = bts cs := by
  refine List.ext_getElem (by simp [bts]) fun i h1 h2 => ?_
  simp only [bts_len] at h2
  simp [bts, h2, List.getElem?_append]
abbrev RHN : String := "com/example/tabane/tabane/http/RequestHead"
def hx (v : Int32) : Int32 := if v < 10 then 48 + v else 65 + (v - 10)
def hexl : List Value := [0, 1, 2, 3, 4, 5, 6, 7, 8, 9, 10, 11, 12, 13, 14, 15].map fun k => .int (hx k)
def esc3 (c : Int32) : List Int32 := [37, hx (c >>> ((4 : Int32) &&& 31)), hx (c &&& 15)]
def esc (c : Int32) : List Int32 := if c < 128 then [c] else esc3 c
def Hexs (Z : State) : Prop := ∃ (ha : Addr) (k : ClassId), Sta Z Z.heap RHN "HEX_DIGITS" "[C" (.ref ha) ∧ Arv Z Z.heap ha k .char 16 hexl (.int 0)
theorem of16 {j : Int32} (h0 : ¬ j < 0) (h1 : j < 16) : j = 0 ∨ j = 1 ∨ j = 2 ∨ j = 3 ∨ j = 4 ∨ j = 5 ∨ j = 6 ∨ j = 7 ∨ j = 8 ∨ j = 9 ∨ j = 10 ∨ j = 11 ∨ j = 12 ∨ j = 13 ∨ j = 14 ∨ j = 15 := by
  rw [Int32.lt_iff_toInt_lt] at h0 h1
  have e : ∀ k : Int32, j = k ↔ j.toInt = k.toInt := fun k => Int32.toInt_inj.symm
  simp only [e]
  simp only [show (0 : Int32).toInt = 0 from rfl, show (1 : Int32).toInt = 1 from rfl, show (2 : Int32).toInt = 2 from rfl, show (3 : Int32).toInt = 3 from rfl, show (4 : Int32).toInt = 4 from rfl, show (5 : Int32).toInt = 5 from rfl, show (6 : Int32).toInt = 6 from rfl, show (7 : Int32).toInt = 7 from rfl, show (8 : Int32).toInt = 8 from rfl, show (9 : Int32).toInt = 9 from rfl, show (10 : Int32).toInt = 10 from rfl, show (11 : Int32).toInt = 11 from rfl, show (12 : Int32).toInt = 12 from rfl, show (13 : Int32).toInt = 13 from rfl, show (14 : Int32).toInt = 14 from rfl, show (15 : Int32).toInt = 15 from rfl, show (16 : Int32).toInt = 16 from rfl] at h0 h1 ⊢
  omega
theorem hex_at {j : Int32} (h0 : ¬ j < 0) (h1 : j < 16) : hexl.getD j.toNatClampNeg (.int 0) = .int (hx j) ∧ ¬ hx j < 0 ∧ ¬ 255 < hx j := by
  rcases of16 h0 h1 with rfl | rfl | rfl | rfl | rfl | rfl | rfl | rfl | rfl | rfl | rfl | rfl | rfl | rfl | rfl | rfl <;> exact ⟨rfl, by decide, by decide⟩
theorem hex_lo {j : Int32} (h0 : ¬ j < 0) (h1 : j < 16) (q : j < 10) : (48 + j).toUInt32.toUInt16.toUInt32.toInt32 = hx j := by
  rcases of16 h0 h1 with rfl | rfl | rfl | rfl | rfl | rfl | rfl | rfl | rfl | rfl | rfl | rfl | rfl | rfl | rfl | rfl <;> first | rfl | exact absurd q (by decide)
theorem hex_hi {j : Int32} (h0 : ¬ j < 0) (h1 : j < 16) (q : ¬ j < 10) : (65 + (j - 10)).toUInt32.toUInt16.toUInt32.toInt32 = hx j := by
  rcases of16 h0 h1 with rfl | rfl | rfl | rfl | rfl | rfl | rfl | rfl | rfl | rfl | rfl | rfl | rfl | rfl | rfl | rfl <;> first | rfl | exact absurd (by decide) q
theorem nib_hi {c : Int32} (hc : ¬ c < 0 ∧ ¬ 255 < c) : ¬ c >>> ((4 : Int32) &&& 31) < 0 ∧ c >>> ((4 : Int32) &&& 31) < 16 := by
  have h := c_ishr c 4 4 rfl
  rw [Int32.lt_iff_toInt_lt, Int32.lt_iff_toInt_lt] at hc ⊢
  rw [h]
  have e0 : (0 : Int32).toInt = 0 := rfl
  have e1 : (255 : Int32).toInt = 255 := rfl
  have e2 : (16 : Int32).toInt = 16 := rfl
  omega
theorem nib_lo (c : Int32) : ¬ (c &&& 15) < 0 ∧ (c &&& 15) < 16 := by
  have h := c_and c 15 (by decide)
  rw [Int32.lt_iff_toInt_lt, Int32.lt_iff_toInt_lt]
  have e0 : (0 : Int32).toInt = 0 := rfl
  have e1 : (15 : Int32).toInt = 15 := rfl
  have e2 : (16 : Int32).toInt = 16 := rfl
  omega
theorem esc_len (c : Int32) : (esc c).length ≤ 3 := by unfold esc esc3; split <;> simp
theorem escs_len : ∀ cs : List Int32, (cs.flatMap esc).length ≤ 3 * cs.length
  | [] => by simp
  | c :: r => by have h1 := esc_len c; have h2 := escs_len r; simp only [List.flatMap_cons, List.length_append, List.length_cons]; omega
theorem take_esc {cs : List Int32} {i : Nat} (hi : i < cs.length) : (cs.take (i + 1)).flatMap esc = (cs.take i).flatMap esc ++ esc cs[i] := by
  rw [List.take_succ_eq_append_getElem hi]; simp only [List.flatMap_append, List.flatMap_cons, List.flatMap_nil, List.append_nil]
theorem put_eq {cs : List Int32} {c : Int32} {n : Nat} (h : cs.length + 1 ≤ n) : (bts cs ++ zs (n - cs.length)).set cs.length (.int c.toInt8.toInt32) = bts (cs ++ [c]) ++ zs (n - (cs ++ [c]).length) := by
  have hl : (bts cs).length = cs.length := bts_len cs
  rw [List.set_append_right _ _ (by omega), hl, Nat.sub_self]
  obtain ⟨m, hm⟩ : ∃ m, n - cs.length = m + 1 := ⟨n - cs.length - 1, by omega⟩
  rw [hm, show n - (cs ++ [c]).length = m by simp; omega]
  simp [zs, List.replicate_succ, bts]
theorem rem5 (x : Int32) : (x &&& 2147483647) % 5 = 0 ∨ (x &&& 2147483647) % 5 = 1 ∨ (x &&& 2147483647) % 5 = 2 ∨ (x &&& 2147483647) % 5 = 3 ∨ (x &&& 2147483647) % 5 = 4 := by
  have h := c_and x 2147483647 (by decide)
  have g := (c_irem (x &&& 2147483647) 5 5 rfl).1 h.1
  have e : ∀ k : Int32, (x &&& 2147483647) % 5 = k ↔ ((x &&& 2147483647) % 5).toInt = k.toInt := fun k => Int32.toInt_inj.symm
  rw [e, e, e, e, e, g]
  have e0 : (0 : Int32).toInt = 0 := rfl
  have e1 : (1 : Int32).toInt = 1 := rfl
  have e2 : (2 : Int32).toInt = 2 := rfl
  have e3 : (3 : Int32).toInt = 3 := rfl
  have e4 : (4 : Int32).toInt = 4 := rfl
  omega
theorem addL (p q : List Int32) : Int32.ofNat p.length + Int32.ofNat q.length = Int32.ofNat (p ++ q).length := by rw [List.length_append, Int32.ofNat_add]
theorem Str.assoc {Z : State} {h : Heap} {F : List Addr} {r : Addr} {p q t : List Int32} (S : Str Z h F r (p ++ (q ++ t))) : Str Z h F r ((p ++ q) ++ t) := by rw [List.append_assoc]; exact S
theorem atV {pre es post : List Int32} {v : Int32} {i : Nat} (h : es[i]? = some v) : (pre ++ (es ++ post))[pre.length + i]? = some v := by
  have hi : i < es.length := (List.getElem?_eq_some_iff.mp h).1
  rw [List.getElem?_append_right (by omega), show pre.length + i - pre.length = i by omega, List.getElem?_append_left hi]; exact h
theorem i64_inj {x y : Int32} (h : x.toInt64 = y.toInt64) : x = y := by
  rw [← Int32.toInt_inj, ← Int32.toInt_toInt64, h, Int32.toInt_toInt64]
theorem or_v {args : Array Value} {s : State} {idx : List Nat} {p q : Jvm.Cond} (h : (Jvm.Cond.or p q).value args s none s idx = some true) : p.value args s none s idx = some true ∨ q.value args s none s idx = some true := by
  simp only [Jvm.Cond.value] at h
  cases hp : p.value args s none s idx with
  | none => simp [hp] at h
  | some b => cases b <;> simp [hp] at h ⊢; exact h
theorem hex_start {args : Array Value} {s : State} {T : Term} (hT : ∀ idx, T.eval args s none idx s = T.eval args s none [] s) (hf : Fit s) (n1 : (Jvm.Cond.arrayOf T .char).value args s none s [] = some true) (n2 : (Jvm.Cond.eq (Jvm.Term.length T) (Jvm.Term.int 16)).value args s none s [] = some true)
    (n3 : (Jvm.Cond.all T (Jvm.Cond.or (Jvm.Cond.le (Jvm.Term.int (10 : Int32)) (Jvm.Term.index (0 : Nat))) (Jvm.Cond.eq (Jvm.Term.op1 Jvm.Unary.i2l (Jvm.Term.elem T (Jvm.Term.index (0 : Nat)))) (Jvm.Term.op2 Jvm.Binary.ladd (Jvm.Term.op1 Jvm.Unary.i2l (Jvm.Term.index (0 : Nat))) (Jvm.Term.long (48 : Int64)))))).value args s none s [] = some true)
    (n4 : (Jvm.Cond.all T (Jvm.Cond.or (Jvm.Cond.lt (Jvm.Term.index (0 : Nat)) (Jvm.Term.int (10 : Int32))) (Jvm.Cond.eq (Jvm.Term.op1 Jvm.Unary.i2l (Jvm.Term.elem T (Jvm.Term.index (0 : Nat)))) (Jvm.Term.op2 Jvm.Binary.ladd (Jvm.Term.op1 Jvm.Unary.i2l (Jvm.Term.index (0 : Nat))) (Jvm.Term.long (55 : Int64)))))).value args s none s [] = some true) : ∃ (ha : Addr) (k : ClassId), T.eval args s none [] s = some (.ref ha) ∧ Arv s s.heap ha k .char 16 hexl (.int 0) := by
  cases ev : T.eval args s none [] s with
  | none => simp [Jvm.Cond.value, Term.eval, ev] at n2
  | some v =>
    cases v with
    | ref a =>
      obtain ⟨cl, A⟩ := Arr.start ev n1
      have hat : s.arrayAt? a = some cl := A.fin (State.Warmed39.refl s).alike
      have q2 : cl.slots.size < 2 ^ 31 ∧ cl.slots.size.toInt32 = 16 := by
        by_cases q : cl.slots.size < 2 ^ 31
        · refine ⟨q, ?_⟩
          have q' : cl.slots.size < 2147483648 := q
          simpa [Jvm.Cond.value, Term.eval, ev, hat, q'] using n2
        · have q' : ¬ cl.slots.size < 2147483648 := q
          simp [Jvm.Cond.value, Term.eval, ev, hat, q'] at n2
      have hsz : cl.slots.size = 16 := by
        have h1 := q2.2; have h2 := q2.1
        have h3 : cl.slots.size.toInt32.toInt = (16 : Int32).toInt := by rw [h1]
        rw [len_toInt h2] at h3
        have : (16 : Int32).toInt = 16 := rfl
        omega
      have a3 := Cond.all_elim ev hat n3
      have a4 := Cond.all_elim ev hat n4
      have el : ∀ (i : Nat) (m : Int64), i < 16 → ¬ Nat.toInt32 i < 0 → (Nat.toInt32 i).toNatClampNeg = i → (Jvm.Cond.eq (Jvm.Term.op1 Jvm.Unary.i2l (Jvm.Term.elem T (Jvm.Term.index (0 : Nat)))) (Jvm.Term.op2 Jvm.Binary.ladd (Jvm.Term.op1 Jvm.Unary.i2l (Jvm.Term.index (0 : Nat))) (Jvm.Term.long m))).value args s none s [i] = some true → ∃ w : Int32, cl.slots[i]? = some (.int w) ∧ w.toInt64 = (Nat.toInt32 i).toInt64 + m := by
        intro i m hi h0 hc h
        have hge : cl.slots[i]? = some cl.slots[i] := Array.getElem?_eq_getElem (by omega)
        simp only [Jvm.Cond.value, Term.eval, hT, ev, hat] at h
        simp [h0, hc, hge] at h
        cases hv : cl.slots[i] with
        | int w => refine ⟨w, by rw [hge, hv], ?_⟩; simpa [hat, hge, hv, Jvm.Unary.apply, Jvm.Binary.apply] using h
        | _ => simp [hat, hge, hv, Jvm.Unary.apply] at h
      have key : ∀ i : Nat, i < 16 → ∀ w : Int32, ¬ Nat.toInt32 i < 0 → (Nat.toInt32 i).toNatClampNeg = i → (Nat.toInt32 i < 10 → (Nat.toInt32 i).toInt64 + 48 = w.toInt64) → (¬ Nat.toInt32 i < 10 → (Nat.toInt32 i).toInt64 + 55 = w.toInt64) → cl.slots[i]? = some (.int w) := by
        intro i hi w h0 hc e3 e4
        by_cases q : Nat.toInt32 i < 10
        · rcases or_v (a3 i (by omega)) with h | h
          · exfalso; simp [Jvm.Cond.value, Term.eval] at h; exact absurd q (Int32.not_lt.mpr h)
          · obtain ⟨u, h1, h2⟩ := el i 48 hi h0 hc h
            rw [h1, i64_inj (h2.trans (e3 q))]
        · rcases or_v (a4 i (by omega)) with h | h
          · exfalso; simp [Jvm.Cond.value, Term.eval] at h; exact q h
          · obtain ⟨u, h1, h2⟩ := el i 55 hi h0 hc h
            rw [h1, i64_inj (h2.trans (e4 q))]
      refine ⟨a, cl.cls, rfl, Arv.start hf A q2.1 q2.2 (by decide) rfl ?_⟩
      exact ⟨key 0 (by decide) _ (by decide) rfl (fun _ => by decide) (fun q => absurd (by decide) q), key 1 (by decide) _ (by decide) rfl (fun _ => by decide) (fun q => absurd (by decide) q), key 2 (by decide) _ (by decide) rfl (fun _ => by decide) (fun q => absurd (by decide) q), key 3 (by decide) _ (by decide) rfl (fun _ => by decide) (fun q => absurd (by decide) q), key 4 (by decide) _ (by decide) rfl (fun _ => by decide) (fun q => absurd (by decide) q), key 5 (by decide) _ (by decide) rfl (fun _ => by decide) (fun q => absurd (by decide) q), key 6 (by decide) _ (by decide) rfl (fun _ => by decide) (fun q => absurd (by decide) q), key 7 (by decide) _ (by decide) rfl (fun _ => by decide) (fun q => absurd (by decide) q), key 8 (by decide) _ (by decide) rfl (fun _ => by decide) (fun q => absurd (by decide) q), key 9 (by decide) _ (by decide) rfl (fun _ => by decide) (fun q => absurd (by decide) q), key 10 (by decide) _ (by decide) rfl (fun q => absurd q (by decide)) (fun _ => by decide), key 11 (by decide) _ (by decide) rfl (fun q => absurd q (by decide)) (fun _ => by decide), key 12 (by decide) _ (by decide) rfl (fun q => absurd q (by decide)) (fun _ => by decide), key 13 (by decide) _ (by decide) rfl (fun q => absurd q (by decide)) (fun _ => by decide), key 14 (by decide) _ (by decide) rfl (fun q => absurd q (by decide)) (fun _ => by decide), key 15 (by decide) _ (by decide) rfl (fun q => absurd q (by decide)) (fun _ => by decide), trivial⟩
    | _ => simp [Jvm.Cond.value, Term.eval, ev] at n2
theorem w_0 {Z : State} {a0 : Array Value} (H : Wd Z a0) : ((Jvm.Cond.constant "com/example/tabane/tabane/http/RequestHeadQueryFormPinLaw" (7 : Nat) (2147483647 : Int32)) : Jvm.Cond).before a0 Z = true := H.1 _ (List.mem_of_getElem? (i := 0) rfl)
theorem w_1 {Z : State} {a0 : Array Value} (H : Wd Z a0) : ((Jvm.Cond.arrayClass Jvm.ClassFile.FieldType.char) : Jvm.Cond).before a0 Z = true := H.1 _ (List.mem_of_getElem? (i := 1) rfl)
theorem w_2 {Z : State} {a0 : Array Value} (H : Wd Z a0) : ((Jvm.Cond.classLink "com/example/tabane/tabane/http/RequestHeadQueryFormPinLaw" (8 : Nat) "java/lang/String") : Jvm.Cond).before a0 Z = true := H.1 _ (List.mem_of_getElem? (i := 2) rfl)
theorem w_3 {Z : State} {a0 : Array Value} (H : Wd Z a0) : ((Jvm.Cond.instantiable "java/lang/String" (4 : Nat)) : Jvm.Cond).before a0 Z = true := H.1 _ (List.mem_of_getElem? (i := 3) rfl)
theorem w_4 {Z : State} {a0 : Array Value} (H : Wd Z a0) : ((Jvm.Cond.initialized "java/lang/String") : Jvm.Cond).before a0 Z = true := H.1 _ (List.mem_of_getElem? (i := 4) rfl)
theorem w_5 {Z : State} {a0 : Array Value} (H : Wd Z a0) : ((Jvm.Cond.methodLink "com/example/tabane/tabane/http/RequestHeadQueryFormPinLaw" (10 : Nat) ({ cls := "java/lang/String", name := "<init>", desc := "([C)V" } : Jvm.MethodName)) : Jvm.Cond).before a0 Z = true := H.1 _ (List.mem_of_getElem? (i := 5) rfl)
theorem w_6 {Z : State} {a0 : Array Value} (H : Wd Z a0) : ((Jvm.Cond.instanceMethod ({ cls := "java/lang/String", name := "<init>", desc := "([C)V" } : Jvm.MethodName)) : Jvm.Cond).before a0 Z = true := H.1 _ (List.mem_of_getElem? (i := 6) rfl)
theorem w_7 {Z : State} {a0 : Array Value} (H : Wd Z a0) : ((Jvm.Cond.code ({ cls := "java/lang/String", name := "<init>", desc := "([C)V" } : Jvm.MethodName) jdk_42_method_3_code (2 : Nat) (Option.none : Option Jvm.ClassFile.FieldType)) : Jvm.Cond).before a0 Z = true := H.1 _ (List.mem_of_getElem? (i := 7) rfl)
theorem w_8 {Z : State} {a0 : Array Value} (H : Wd Z a0) : ((Jvm.Cond.methodLink "java/lang/String" (27 : Nat) ({ cls := "java/lang/String", name := "<init>", desc := "([CIILjava/lang/Void;)V" } : Jvm.MethodName)) : Jvm.Cond).before a0 Z = true := H.1 _ (List.mem_of_getElem? (i := 8) rfl)
theorem w_9 {Z : State} {a0 : Array Value} (H : Wd Z a0) : ((Jvm.Cond.instanceMethod ({ cls := "java/lang/String", name := "<init>", desc := "([CIILjava/lang/Void;)V" } : Jvm.MethodName)) : Jvm.Cond).before a0 Z = true := H.1 _ (List.mem_of_getElem? (i := 9) rfl)
theorem w_11 {Z : State} {a0 : Array Value} (H : Wd Z a0) : ((Jvm.Cond.code ({ cls := "java/lang/String", name := "<init>", desc := "([CIILjava/lang/Void;)V" } : Jvm.MethodName) jdk_42_method_149_code (6 : Nat) (Option.none : Option Jvm.ClassFile.FieldType)) : Jvm.Cond).before a0 Z = true := H.1 _ (List.mem_of_getElem? (i := 11) rfl)
theorem w_12 {Z : State} {a0 : Array Value} (H : Wd Z a0) : ((Jvm.Cond.methodLink "java/lang/String" (1 : Nat) ({ cls := "java/lang/Object", name := "<init>", desc := "()V" } : Jvm.MethodName)) : Jvm.Cond).before a0 Z = true := H.1 _ (List.mem_of_getElem? (i := 12) rfl)
theorem w_13 {Z : State} {a0 : Array Value} (H : Wd Z a0) : ((Jvm.Cond.instanceMethod ({ cls := "java/lang/Object", name := "<init>", desc := "()V" } : Jvm.MethodName)) : Jvm.Cond).before a0 Z = true := H.1 _ (List.mem_of_getElem? (i := 13) rfl)
theorem w_14 {Z : State} {a0 : Array Value} (H : Wd Z a0) : ((Jvm.Cond.code ({ cls := "java/lang/Object", name := "<init>", desc := "()V" } : Jvm.MethodName) object_method_1_code (1 : Nat) (Option.none : Option Jvm.ClassFile.FieldType)) : Jvm.Cond).before a0 Z = true := H.1 _ (List.mem_of_getElem? (i := 14) rfl)
theorem w_15 {Z : State} {a0 : Array Value} (H : Wd Z a0) : ((Jvm.Cond.stringLink "java/lang/String" (7 : Nat) "") : Jvm.Cond).before a0 Z = true := H.1 _ (List.mem_of_getElem? (i := 15) rfl)
theorem w_16 {Z : State} {a0 : Array Value} (H : Wd Z a0) : ((Jvm.Cond.arrayClass Jvm.ClassFile.FieldType.byte) : Jvm.Cond).before a0 Z = true := H.1 _ (List.mem_of_getElem? (i := 16) rfl)
theorem w_17 {Z : State} {a0 : Array Value} (H : Wd Z a0) : ((Jvm.Cond.laysFinal "java/lang/String" "java/lang/String" "value" "[B") : Jvm.Cond).before a0 Z = true := H.1 _ (List.mem_of_getElem? (i := 17) rfl)
theorem w_18 {Z : State} {a0 : Array Value} (H : Wd Z a0) : ((Jvm.Cond.laysFinal "java/lang/String" "java/lang/String" "coder" "B") : Jvm.Cond).before a0 Z = true := H.1 _ (List.mem_of_getElem? (i := 18) rfl)
theorem w_19 {Z : State} {a0 : Array Value} (H : Wd Z a0) : ((Jvm.Cond.soleField "java/lang/String" "value") : Jvm.Cond).before a0 Z = true := H.1 _ (List.mem_of_getElem? (i := 19) rfl)
theorem w_20 {Z : State} {a0 : Array Value} (H : Wd Z a0) : ((Jvm.Cond.soleField "java/lang/String" "coder") : Jvm.Cond).before a0 Z = true := H.1 _ (List.mem_of_getElem? (i := 20) rfl)
theorem w_21 {Z : State} {a0 : Array Value} (H : Wd Z a0) : ((Jvm.Cond.fieldLink "java/lang/String" (9 : Nat) "java/lang/String" "value" "[B") : Jvm.Cond).before a0 Z = true := H.1 _ (List.mem_of_getElem? (i := 21) rfl)
theorem w_22 {Z : State} {a0 : Array Value} (H : Wd Z a0) : ((Jvm.Cond.fieldLink "java/lang/String" (15 : Nat) "java/lang/String" "coder" "B") : Jvm.Cond).before a0 Z = true := H.1 _ (List.mem_of_getElem? (i := 22) rfl)
theorem w_23 {Z : State} {a0 : Array Value} (H : Wd Z a0) : ((Jvm.Cond.methodLink "com/example/tabane/tabane/http/RequestHeadQueryFormPinLaw" (13 : Nat) ({ cls := "com/example/tabane/tabane/http/RequestHead", name := "queryForm", desc := "(Ljava/lang/String;)Ljava/lang/String;" } : Jvm.MethodName)) : Jvm.Cond).before a0 Z = true := H.1 _ (List.mem_of_getElem? (i := 23) rfl)
theorem w_24 {Z : State} {a0 : Array Value} (H : Wd Z a0) : ((Jvm.Cond.static ({ cls := "com/example/tabane/tabane/http/RequestHead", name := "queryForm", desc := "(Ljava/lang/String;)Ljava/lang/String;" } : Jvm.MethodName)) : Jvm.Cond).before a0 Z = true := H.1 _ (List.mem_of_getElem? (i := 24) rfl)
theorem w_25 {Z : State} {a0 : Array Value} (H : Wd Z a0) : ((Jvm.Cond.initialized "com/example/tabane/tabane/http/RequestHead") : Jvm.Cond).before a0 Z = true := H.1 _ (List.mem_of_getElem? (i := 25) rfl)
theorem w_26 {Z : State} {a0 : Array Value} (H : Wd Z a0) : ((Jvm.Cond.code ({ cls := "com/example/tabane/tabane/http/RequestHead", name := "queryForm", desc := "(Ljava/lang/String;)Ljava/lang/String;" } : Jvm.MethodName) prog_24_method_10_code (4 : Nat) (Option.some (Jvm.ClassFile.FieldType.object "java/lang/String"))) : Jvm.Cond).before a0 Z = true := H.1 _ (List.mem_of_getElem? (i := 26) rfl)
theorem w_27 {Z : State} {a0 : Array Value} (H : Wd Z a0) : ((Jvm.Cond.classLink "com/example/tabane/tabane/http/RequestHead" (344 : Nat) "java/lang/StringBuilder") : Jvm.Cond).before a0 Z = true := H.1 _ (List.mem_of_getElem? (i := 27) rfl)
theorem w_28 {Z : State} {a0 : Array Value} (H : Wd Z a0) : ((Jvm.Cond.instantiable "java/lang/StringBuilder" (4 : Nat)) : Jvm.Cond).before a0 Z = true := H.1 _ (List.mem_of_getElem? (i := 28) rfl)
theorem w_29 {Z : State} {a0 : Array Value} (H : Wd Z a0) : ((Jvm.Cond.initialized "java/lang/StringBuilder") : Jvm.Cond).before a0 Z = true := H.1 _ (List.mem_of_getElem? (i := 29) rfl)
theorem w_30 {Z : State} {a0 : Array Value} (H : Wd Z a0) : ((Jvm.Cond.methodLink "com/example/tabane/tabane/http/RequestHead" (308 : Nat) ({ cls := "java/lang/String", name := "length", desc := "()I" } : Jvm.MethodName)) : Jvm.Cond).before a0 Z = true := H.1 _ (List.mem_of_getElem? (i := 30) rfl)
theorem w_31 {Z : State} {a0 : Array Value} (H : Wd Z a0) : ((Jvm.Cond.declares ({ cls := "java/lang/String", name := "length", desc := "()I" } : Jvm.MethodName)) : Jvm.Cond).before a0 Z = true := H.1 _ (List.mem_of_getElem? (i := 31) rfl)
theorem w_32 {Z : State} {a0 : Array Value} (H : Wd Z a0) : ((Jvm.Cond.instanceMethod ({ cls := "java/lang/String", name := "length", desc := "()I" } : Jvm.MethodName)) : Jvm.Cond).before a0 Z = true := H.1 _ (List.mem_of_getElem? (i := 32) rfl)
theorem w_33 {Z : State} {a0 : Array Value} (H : Wd Z a0) : ((Jvm.Cond.selects "java/lang/String" ({ cls := "java/lang/String", name := "length", desc := "()I" } : Jvm.MethodName) ({ cls := "java/lang/String", name := "length", desc := "()I" } : Jvm.MethodName)) : Jvm.Cond).before a0 Z = true := H.1 _ (List.mem_of_getElem? (i := 33) rfl)
theorem w_34 {Z : State} {a0 : Array Value} (H : Wd Z a0) : ((Jvm.Cond.code ({ cls := "java/lang/String", name := "length", desc := "()I" } : Jvm.MethodName) jdk_42_method_54_code (1 : Nat) (Option.some Jvm.ClassFile.FieldType.int)) : Jvm.Cond).before a0 Z = true := H.1 _ (List.mem_of_getElem? (i := 34) rfl)
theorem w_35 {Z : State} {a0 : Array Value} (H : Wd Z a0) : ((Jvm.Cond.methodLink "java/lang/String" (335 : Nat) ({ cls := "java/lang/String", name := "coder", desc := "()B" } : Jvm.MethodName)) : Jvm.Cond).before a0 Z = true := H.1 _ (List.mem_of_getElem? (i := 35) rfl)
theorem w_36 {Z : State} {a0 : Array Value} (H : Wd Z a0) : ((Jvm.Cond.declares ({ cls := "java/lang/String", name := "coder", desc := "()B" } : Jvm.MethodName)) : Jvm.Cond).before a0 Z = true := H.1 _ (List.mem_of_getElem? (i := 36) rfl)
theorem w_37 {Z : State} {a0 : Array Value} (H : Wd Z a0) : ((Jvm.Cond.instanceMethod ({ cls := "java/lang/String", name := "coder", desc := "()B" } : Jvm.MethodName)) : Jvm.Cond).before a0 Z = true := H.1 _ (List.mem_of_getElem? (i := 37) rfl)
theorem w_38 {Z : State} {a0 : Array Value} (H : Wd Z a0) : ((Jvm.Cond.selects "java/lang/String" ({ cls := "java/lang/String", name := "coder", desc := "()B" } : Jvm.MethodName) ({ cls := "java/lang/String", name := "coder", desc := "()B" } : Jvm.MethodName)) : Jvm.Cond).before a0 Z = true := H.1 _ (List.mem_of_getElem? (i := 38) rfl)
theorem w_39 {Z : State} {a0 : Array Value} (H : Wd Z a0) : ((Jvm.Cond.code ({ cls := "java/lang/String", name := "coder", desc := "()B" } : Jvm.MethodName) jdk_42_method_152_code (1 : Nat) (Option.some Jvm.ClassFile.FieldType.byte)) : Jvm.Cond).before a0 Z = true := H.1 _ (List.mem_of_getElem? (i := 39) rfl)
theorem w_40 {Z : State} {a0 : Array Value} (H : Wd Z a0) : ((Jvm.Cond.fieldLink "java/lang/String" (38 : Nat) "java/lang/String" "COMPACT_STRINGS" "Z") : Jvm.Cond).before a0 Z = true := H.1 _ (List.mem_of_getElem? (i := 40) rfl)
theorem w_41 {Z : State} {a0 : Array Value} (H : Wd Z a0) : ((Jvm.Cond.methodLink "com/example/tabane/tabane/http/RequestHead" (346 : Nat) ({ cls := "java/lang/StringBuilder", name := "<init>", desc := "(I)V" } : Jvm.MethodName)) : Jvm.Cond).before a0 Z = true := H.1 _ (List.mem_of_getElem? (i := 41) rfl)
theorem w_42 {Z : State} {a0 : Array Value} (H : Wd Z a0) : ((Jvm.Cond.instanceMethod ({ cls := "java/lang/StringBuilder", name := "<init>", desc := "(I)V" } : Jvm.MethodName)) : Jvm.Cond).before a0 Z = true := H.1 _ (List.mem_of_getElem? (i := 42) rfl)
theorem w_43 {Z : State} {a0 : Array Value} (H : Wd Z a0) : ((Jvm.Cond.code ({ cls := "java/lang/StringBuilder", name := "<init>", desc := "(I)V" } : Jvm.MethodName) jdk_67_method_2_code (2 : Nat) (Option.none : Option Jvm.ClassFile.FieldType)) : Jvm.Cond).before a0 Z = true := H.1 _ (List.mem_of_getElem? (i := 43) rfl)
theorem w_44 {Z : State} {a0 : Array Value} (H : Wd Z a0) : ((Jvm.Cond.methodLink "java/lang/StringBuilder" (1 : Nat) ({ cls := "java/lang/AbstractStringBuilder", name := "<init>", desc := "(I)V" } : Jvm.MethodName)) : Jvm.Cond).before a0 Z = true := H.1 _ (List.mem_of_getElem? (i := 44) rfl)
theorem w_45 {Z : State} {a0 : Array Value} (H : Wd Z a0) : ((Jvm.Cond.instanceMethod ({ cls := "java/lang/AbstractStringBuilder", name := "<init>", desc := "(I)V" } : Jvm.MethodName)) : Jvm.Cond).before a0 Z = true := H.1 _ (List.mem_of_getElem? (i := 45) rfl)
theorem w_48 {Z : State} {a0 : Array Value} (H : Wd Z a0) : ((Jvm.Cond.initialized "java/lang/AbstractStringBuilder") : Jvm.Cond).before a0 Z = true := H.1 _ (List.mem_of_getElem? (i := 48) rfl)
theorem w_49 {Z : State} {a0 : Array Value} (H : Wd Z a0) : ((Jvm.Cond.code ({ cls := "java/lang/AbstractStringBuilder", name := "<init>", desc := "(I)V" } : Jvm.MethodName) jdk_68_method_2_code (2 : Nat) (Option.none : Option Jvm.ClassFile.FieldType)) : Jvm.Cond).before a0 Z = true := H.1 _ (List.mem_of_getElem? (i := 49) rfl)
theorem w_50 {Z : State} {a0 : Array Value} (H : Wd Z a0) : ((Jvm.Cond.methodLink "java/lang/AbstractStringBuilder" (3 : Nat) ({ cls := "java/lang/Object", name := "<init>", desc := "()V" } : Jvm.MethodName)) : Jvm.Cond).before a0 Z = true := H.1 _ (List.mem_of_getElem? (i := 50) rfl)
theorem w_51 {Z : State} {a0 : Array Value} (H : Wd Z a0) : ((Jvm.Cond.fieldLink "java/lang/AbstractStringBuilder" (18 : Nat) "java/lang/String" "COMPACT_STRINGS" "Z") : Jvm.Cond).before a0 Z = true := H.1 _ (List.mem_of_getElem? (i := 51) rfl)
theorem w_52 {Z : State} {a0 : Array Value} (H : Wd Z a0) : ((Jvm.Cond.fieldLink "java/lang/AbstractStringBuilder" (15 : Nat) "java/lang/AbstractStringBuilder" "value" "[B") : Jvm.Cond).before a0 Z = true := H.1 _ (List.mem_of_getElem? (i := 52) rfl)
theorem w_53 {Z : State} {a0 : Array Value} (H : Wd Z a0) : ((Jvm.Cond.lays "java/lang/StringBuilder" "java/lang/AbstractStringBuilder" "value" "[B") : Jvm.Cond).before a0 Z = true := H.1 _ (List.mem_of_getElem? (i := 53) rfl)
theorem w_54 {Z : State} {a0 : Array Value} (H : Wd Z a0) : ((Jvm.Cond.fieldLink "java/lang/AbstractStringBuilder" (22 : Nat) "java/lang/AbstractStringBuilder" "coder" "B") : Jvm.Cond).before a0 Z = true := H.1 _ (List.mem_of_getElem? (i := 54) rfl)
theorem w_55 {Z : State} {a0 : Array Value} (H : Wd Z a0) : ((Jvm.Cond.lays "java/lang/StringBuilder" "java/lang/AbstractStringBuilder" "coder" "B") : Jvm.Cond).before a0 Z = true := H.1 _ (List.mem_of_getElem? (i := 55) rfl)
theorem w_56 {Z : State} {a0 : Array Value} (H : Wd Z a0) : ((Jvm.Cond.methodLink "com/example/tabane/tabane/http/RequestHead" (387 : Nat) ({ cls := "java/lang/StringBuilder", name := "toString", desc := "()Ljava/lang/String;" } : Jvm.MethodName)) : Jvm.Cond).before a0 Z = true := H.1 _ (List.mem_of_getElem? (i := 56) rfl)
theorem w_57 {Z : State} {a0 : Array Value} (H : Wd Z a0) : ((Jvm.Cond.declares ({ cls := "java/lang/StringBuilder", name := "toString", desc := "()Ljava/lang/String;" } : Jvm.MethodName)) : Jvm.Cond).before a0 Z = true := H.1 _ (List.mem_of_getElem? (i := 57) rfl)
theorem w_58 {Z : State} {a0 : Array Value} (H : Wd Z a0) : ((Jvm.Cond.instanceMethod ({ cls := "java/lang/StringBuilder", name := "toString", desc := "()Ljava/lang/String;" } : Jvm.MethodName)) : Jvm.Cond).before a0 Z = true := H.1 _ (List.mem_of_getElem? (i := 58) rfl)
theorem w_59 {Z : State} {a0 : Array Value} (H : Wd Z a0) : ((Jvm.Cond.selects "java/lang/StringBuilder" ({ cls := "java/lang/StringBuilder", name := "toString", desc := "()Ljava/lang/String;" } : Jvm.MethodName) ({ cls := "java/lang/StringBuilder", name := "toString", desc := "()Ljava/lang/String;" } : Jvm.MethodName)) : Jvm.Cond).before a0 Z = true := H.1 _ (List.mem_of_getElem? (i := 59) rfl)
theorem w_60 {Z : State} {a0 : Array Value} (H : Wd Z a0) : ((Jvm.Cond.code ({ cls := "java/lang/StringBuilder", name := "toString", desc := "()Ljava/lang/String;" } : Jvm.MethodName) jdk_67_method_42_code (1 : Nat) (Option.some (Jvm.ClassFile.FieldType.object "java/lang/String"))) : Jvm.Cond).before a0 Z = true := H.1 _ (List.mem_of_getElem? (i := 60) rfl)
theorem w_61 {Z : State} {a0 : Array Value} (H : Wd Z a0) : ((Jvm.Cond.classLink "java/lang/StringBuilder" (18 : Nat) "java/lang/String") : Jvm.Cond).before a0 Z = true := H.1 _ (List.mem_of_getElem? (i := 61) rfl)
theorem w_62 {Z : State} {a0 : Array Value} (H : Wd Z a0) : ((Jvm.Cond.methodLink "java/lang/StringBuilder" (137 : Nat) ({ cls := "java/lang/String", name := "<init>", desc := "(Ljava/lang/StringBuilder;)V" } : Jvm.MethodName)) : Jvm.Cond).before a0 Z = true := H.1 _ (List.mem_of_getElem? (i := 62) rfl)
theorem w_63 {Z : State} {a0 : Array Value} (H : Wd Z a0) : ((Jvm.Cond.instanceMethod ({ cls := "java/lang/String", name := "<init>", desc := "(Ljava/lang/StringBuilder;)V" } : Jvm.MethodName)) : Jvm.Cond).before a0 Z = true := H.1 _ (List.mem_of_getElem? (i := 63) rfl)
theorem w_64 {Z : State} {a0 : Array Value} (H : Wd Z a0) : ((Jvm.Cond.code ({ cls := "java/lang/String", name := "<init>", desc := "(Ljava/lang/StringBuilder;)V" } : Jvm.MethodName) jdk_42_method_53_code (2 : Nat) (Option.none : Option Jvm.ClassFile.FieldType)) : Jvm.Cond).before a0 Z = true := H.1 _ (List.mem_of_getElem? (i := 64) rfl)
theorem w_65 {Z : State} {a0 : Array Value} (H : Wd Z a0) : ((Jvm.Cond.methodLink "java/lang/String" (489 : Nat) ({ cls := "java/lang/String", name := "<init>", desc := "(Ljava/lang/AbstractStringBuilder;Ljava/lang/Void;)V" } : Jvm.MethodName)) : Jvm.Cond).before a0 Z = true := H.1 _ (List.mem_of_getElem? (i := 65) rfl)
theorem w_66 {Z : State} {a0 : Array Value} (H : Wd Z a0) : ((Jvm.Cond.instanceMethod ({ cls := "java/lang/String", name := "<init>", desc := "(Ljava/lang/AbstractStringBuilder;Ljava/lang/Void;)V" } : Jvm.MethodName)) : Jvm.Cond).before a0 Z = true := H.1 _ (List.mem_of_getElem? (i := 66) rfl)
theorem w_67 {Z : State} {a0 : Array Value} (H : Wd Z a0) : ((Jvm.Cond.code ({ cls := "java/lang/String", name := "<init>", desc := "(Ljava/lang/AbstractStringBuilder;Ljava/lang/Void;)V" } : Jvm.MethodName) jdk_42_method_150_code (5 : Nat) (Option.none : Option Jvm.ClassFile.FieldType)) : Jvm.Cond).before a0 Z = true := H.1 _ (List.mem_of_getElem? (i := 67) rfl)
theorem w_68 {Z : State} {a0 : Array Value} (H : Wd Z a0) : ((Jvm.Cond.methodLink "java/lang/String" (552 : Nat) ({ cls := "java/lang/AbstractStringBuilder", name := "getValue", desc := "()[B" } : Jvm.MethodName)) : Jvm.Cond).before a0 Z = true := H.1 _ (List.mem_of_getElem? (i := 68) rfl)
theorem w_69 {Z : State} {a0 : Array Value} (H : Wd Z a0) : ((Jvm.Cond.declares ({ cls := "java/lang/AbstractStringBuilder", name := "getValue", desc := "()[B" } : Jvm.MethodName)) : Jvm.Cond).before a0 Z = true := H.1 _ (List.mem_of_getElem? (i := 69) rfl)
theorem w_70 {Z : State} {a0 : Array Value} (H : Wd Z a0) : ((Jvm.Cond.instanceMethod ({ cls := "java/lang/AbstractStringBuilder", name := "getValue", desc := "()[B" } : Jvm.MethodName)) : Jvm.Cond).before a0 Z = true := H.1 _ (List.mem_of_getElem? (i := 70) rfl)
theorem w_71 {Z : State} {a0 : Array Value} (H : Wd Z a0) : ((Jvm.Cond.selects "java/lang/StringBuilder" ({ cls := "java/lang/AbstractStringBuilder", name := "getValue", desc := "()[B" } : Jvm.MethodName) ({ cls := "java/lang/AbstractStringBuilder", name := "getValue", desc := "()[B" } : Jvm.MethodName)) : Jvm.Cond).before a0 Z = true := H.1 _ (List.mem_of_getElem? (i := 71) rfl)
theorem w_72 {Z : State} {a0 : Array Value} (H : Wd Z a0) : ((Jvm.Cond.code ({ cls := "java/lang/AbstractStringBuilder", name := "getValue", desc := "()[B" } : Jvm.MethodName) jdk_68_method_64_code (1 : Nat) (Option.some (Jvm.ClassFile.FieldType.array Jvm.ClassFile.FieldType.byte))) : Jvm.Cond).before a0 Z = true := H.1 _ (List.mem_of_getElem? (i := 72) rfl)
theorem w_73 {Z : State} {a0 : Array Value} (H : Wd Z a0) : ((Jvm.Cond.methodLink "java/lang/String" (549 : Nat) ({ cls := "java/lang/AbstractStringBuilder", name := "length", desc := "()I" } : Jvm.MethodName)) : Jvm.Cond).before a0 Z = true := H.1 _ (List.mem_of_getElem? (i := 73) rfl)
theorem w_74 {Z : State} {a0 : Array Value} (H : Wd Z a0) : ((Jvm.Cond.declares ({ cls := "java/lang/AbstractStringBuilder", name := "length", desc := "()I" } : Jvm.MethodName)) : Jvm.Cond).before a0 Z = true := H.1 _ (List.mem_of_getElem? (i := 74) rfl)
theorem w_75 {Z : State} {a0 : Array Value} (H : Wd Z a0) : ((Jvm.Cond.instanceMethod ({ cls := "java/lang/AbstractStringBuilder", name := "length", desc := "()I" } : Jvm.MethodName)) : Jvm.Cond).before a0 Z = true := H.1 _ (List.mem_of_getElem? (i := 75) rfl)
theorem w_76 {Z : State} {a0 : Array Value} (H : Wd Z a0) : ((Jvm.Cond.selects "java/lang/StringBuilder" ({ cls := "java/lang/AbstractStringBuilder", name := "length", desc := "()I" } : Jvm.MethodName) ({ cls := "java/lang/StringBuilder", name := "length", desc := "()I" } : Jvm.MethodName)) : Jvm.Cond).before a0 Z = true := H.1 _ (List.mem_of_getElem? (i := 76) rfl)
theorem w_77 {Z : State} {a0 : Array Value} (H : Wd Z a0) : ((Jvm.Cond.instanceMethod ({ cls := "java/lang/StringBuilder", name := "length", desc := "()I" } : Jvm.MethodName)) : Jvm.Cond).before a0 Z = true := H.1 _ (List.mem_of_getElem? (i := 77) rfl)
theorem w_78 {Z : State} {a0 : Array Value} (H : Wd Z a0) : ((Jvm.Cond.code ({ cls := "java/lang/StringBuilder", name := "length", desc := "()I" } : Jvm.MethodName) jdk_67_method_93_code (1 : Nat) (Option.some Jvm.ClassFile.FieldType.int)) : Jvm.Cond).before a0 Z = true := H.1 _ (List.mem_of_getElem? (i := 78) rfl)
theorem w_79 {Z : State} {a0 : Array Value} (H : Wd Z a0) : ((Jvm.Cond.methodLink "java/lang/StringBuilder" (343 : Nat) ({ cls := "java/lang/AbstractStringBuilder", name := "length", desc := "()I" } : Jvm.MethodName)) : Jvm.Cond).before a0 Z = true := H.1 _ (List.mem_of_getElem? (i := 79) rfl)
theorem w_80 {Z : State} {a0 : Array Value} (H : Wd Z a0) : ((Jvm.Cond.superclass "java/lang/StringBuilder" "java/lang/AbstractStringBuilder") : Jvm.Cond).before a0 Z = true := H.1 _ (List.mem_of_getElem? (i := 80) rfl)
theorem w_81 {Z : State} {a0 : Array Value} (H : Wd Z a0) : ((Jvm.Cond.code ({ cls := "java/lang/AbstractStringBuilder", name := "length", desc := "()I" } : Jvm.MethodName) jdk_68_method_6_code (1 : Nat) (Option.some Jvm.ClassFile.FieldType.int)) : Jvm.Cond).before a0 Z = true := H.1 _ (List.mem_of_getElem? (i := 81) rfl)
theorem w_82 {Z : State} {a0 : Array Value} (H : Wd Z a0) : ((Jvm.Cond.fieldLink "java/lang/AbstractStringBuilder" (79 : Nat) "java/lang/AbstractStringBuilder" "count" "I") : Jvm.Cond).before a0 Z = true := H.1 _ (List.mem_of_getElem? (i := 82) rfl)
theorem w_83 {Z : State} {a0 : Array Value} (H : Wd Z a0) : ((Jvm.Cond.lays "java/lang/StringBuilder" "java/lang/AbstractStringBuilder" "count" "I") : Jvm.Cond).before a0 Z = true := H.1 _ (List.mem_of_getElem? (i := 83) rfl)
theorem w_84 {Z : State} {a0 : Array Value} (H : Wd Z a0) : ((Jvm.Cond.methodLink "java/lang/String" (1047 : Nat) ({ cls := "java/lang/AbstractStringBuilder", name := "isLatin1", desc := "()Z" } : Jvm.MethodName)) : Jvm.Cond).before a0 Z = true := H.1 _ (List.mem_of_getElem? (i := 84) rfl)
theorem w_85 {Z : State} {a0 : Array Value} (H : Wd Z a0) : ((Jvm.Cond.declares ({ cls := "java/lang/AbstractStringBuilder", name := "isLatin1", desc := "()Z" } : Jvm.MethodName)) : Jvm.Cond).before a0 Z = true := H.1 _ (List.mem_of_getElem? (i := 85) rfl)
theorem w_86 {Z : State} {a0 : Array Value} (H : Wd Z a0) : ((Jvm.Cond.instanceMethod ({ cls := "java/lang/AbstractStringBuilder", name := "isLatin1", desc := "()Z" } : Jvm.MethodName)) : Jvm.Cond).before a0 Z = true := H.1 _ (List.mem_of_getElem? (i := 86) rfl)
theorem w_87 {Z : State} {a0 : Array Value} (H : Wd Z a0) : ((Jvm.Cond.selects "java/lang/StringBuilder" ({ cls := "java/lang/AbstractStringBuilder", name := "isLatin1", desc := "()Z" } : Jvm.MethodName) ({ cls := "java/lang/AbstractStringBuilder", name := "isLatin1", desc := "()Z" } : Jvm.MethodName)) : Jvm.Cond).before a0 Z = true := H.1 _ (List.mem_of_getElem? (i := 87) rfl)
theorem w_88 {Z : State} {a0 : Array Value} (H : Wd Z a0) : ((Jvm.Cond.code ({ cls := "java/lang/AbstractStringBuilder", name := "isLatin1", desc := "()Z" } : Jvm.MethodName) jdk_68_method_68_code (1 : Nat) (Option.some Jvm.ClassFile.FieldType.boolean)) : Jvm.Cond).before a0 Z = true := H.1 _ (List.mem_of_getElem? (i := 88) rfl)
theorem w_89 {Z : State} {a0 : Array Value} (H : Wd Z a0) : ((Jvm.Cond.methodLink "java/lang/String" (54 : Nat) ({ cls := "java/util/Arrays", name := "copyOfRange", desc := "([BII)[B" } : Jvm.MethodName)) : Jvm.Cond).before a0 Z = true := H.1 _ (List.mem_of_getElem? (i := 89) rfl)
theorem w_90 {Z : State} {a0 : Array Value} (H : Wd Z a0) : ((Jvm.Cond.static ({ cls := "java/util/Arrays", name := "copyOfRange", desc := "([BII)[B" } : Jvm.MethodName)) : Jvm.Cond).before a0 Z = true := H.1 _ (List.mem_of_getElem? (i := 90) rfl)
theorem w_91 {Z : State} {a0 : Array Value} (H : Wd Z a0) : ((Jvm.Cond.initialized "java/util/Arrays") : Jvm.Cond).before a0 Z = true := H.1 _ (List.mem_of_getElem? (i := 91) rfl)
theorem w_92 {Z : State} {a0 : Array Value} (H : Wd Z a0) : ((Jvm.Cond.code ({ cls := "java/util/Arrays", name := "copyOfRange", desc := "([BII)[B" } : Jvm.MethodName) jdk_65_method_132_code (3 : Nat) (Option.some (Jvm.ClassFile.FieldType.array Jvm.ClassFile.FieldType.byte))) : Jvm.Cond).before a0 Z = true := H.1 _ (List.mem_of_getElem? (i := 92) rfl)
theorem w_93 {Z : State} {a0 : Array Value} (H : Wd Z a0) : ((Jvm.Cond.methodLink "java/util/Arrays" (339 : Nat) ({ cls := "java/util/Arrays", name := "copyOfRangeByte", desc := "([BII)[B" } : Jvm.MethodName)) : Jvm.Cond).before a0 Z = true := H.1 _ (List.mem_of_getElem? (i := 93) rfl)
theorem w_94 {Z : State} {a0 : Array Value} (H : Wd Z a0) : ((Jvm.Cond.static ({ cls := "java/util/Arrays", name := "copyOfRangeByte", desc := "([BII)[B" } : Jvm.MethodName)) : Jvm.Cond).before a0 Z = true := H.1 _ (List.mem_of_getElem? (i := 94) rfl)
theorem w_95 {Z : State} {a0 : Array Value} (H : Wd Z a0) : ((Jvm.Cond.code ({ cls := "java/util/Arrays", name := "copyOfRangeByte", desc := "([BII)[B" } : Jvm.MethodName) jdk_65_method_133_code (5 : Nat) (Option.some (Jvm.ClassFile.FieldType.array Jvm.ClassFile.FieldType.byte))) : Jvm.Cond).before a0 Z = true := H.1 _ (List.mem_of_getElem? (i := 95) rfl)
theorem w_96 {Z : State} {a0 : Array Value} (H : Wd Z a0) : ((Jvm.Cond.methodLink "java/util/Arrays" (343 : Nat) ({ cls := "java/util/Arrays", name := "checkLength", desc := "(II)V" } : Jvm.MethodName)) : Jvm.Cond).before a0 Z = true := H.1 _ (List.mem_of_getElem? (i := 96) rfl)
theorem w_97 {Z : State} {a0 : Array Value} (H : Wd Z a0) : ((Jvm.Cond.static ({ cls := "java/util/Arrays", name := "checkLength", desc := "(II)V" } : Jvm.MethodName)) : Jvm.Cond).before a0 Z = true := H.1 _ (List.mem_of_getElem? (i := 97) rfl)
theorem w_98 {Z : State} {a0 : Array Value} (H : Wd Z a0) : ((Jvm.Cond.code ({ cls := "java/util/Arrays", name := "checkLength", desc := "(II)V" } : Jvm.MethodName) jdk_65_method_131_code (2 : Nat) (Option.none : Option Jvm.ClassFile.FieldType)) : Jvm.Cond).before a0 Z = true := H.1 _ (List.mem_of_getElem? (i := 98) rfl)
theorem w_99 {Z : State} {a0 : Array Value} (H : Wd Z a0) : ((Jvm.Cond.methodLink "java/util/Arrays" (304 : Nat) ({ cls := "java/lang/Math", name := "min", desc := "(II)I" } : Jvm.MethodName)) : Jvm.Cond).before a0 Z = true := H.1 _ (List.mem_of_getElem? (i := 99) rfl)
theorem w_100 {Z : State} {a0 : Array Value} (H : Wd Z a0) : ((Jvm.Cond.static ({ cls := "java/lang/Math", name := "min", desc := "(II)I" } : Jvm.MethodName)) : Jvm.Cond).before a0 Z = true := H.1 _ (List.mem_of_getElem? (i := 100) rfl)
theorem w_101 {Z : State} {a0 : Array Value} (H : Wd Z a0) : ((Jvm.Cond.initialized "java/lang/Math") : Jvm.Cond).before a0 Z = true := H.1 _ (List.mem_of_getElem? (i := 101) rfl)
theorem w_102 {Z : State} {a0 : Array Value} (H : Wd Z a0) : ((Jvm.Cond.code ({ cls := "java/lang/Math", name := "min", desc := "(II)I" } : Jvm.MethodName) jdk_29_method_69_code (2 : Nat) (Option.some Jvm.ClassFile.FieldType.int)) : Jvm.Cond).before a0 Z = true := H.1 _ (List.mem_of_getElem? (i := 102) rfl)
theorem w_103 {Z : State} {a0 : Array Value} (H : Wd Z a0) : ((Jvm.Cond.methodLink "java/util/Arrays" (150 : Nat) ({ cls := "java/lang/System", name := "arraycopy", desc := "(Ljava/lang/Object;ILjava/lang/Object;II)V" } : Jvm.MethodName)) : Jvm.Cond).before a0 Z = true := H.1 _ (List.mem_of_getElem? (i := 103) rfl)
theorem w_104 {Z : State} {a0 : Array Value} (H : Wd Z a0) : ((Jvm.Cond.static ({ cls := "java/lang/System", name := "arraycopy", desc := "(Ljava/lang/Object;ILjava/lang/Object;II)V" } : Jvm.MethodName)) : Jvm.Cond).before a0 Z = true := H.1 _ (List.mem_of_getElem? (i := 104) rfl)
theorem w_105 {Z : State} {a0 : Array Value} (H : Wd Z a0) : ((Jvm.Cond.initialized "java/lang/System") : Jvm.Cond).before a0 Z = true := H.1 _ (List.mem_of_getElem? (i := 105) rfl)
theorem w_106 {Z : State} {a0 : Array Value} (H : Wd Z a0) : ((Jvm.Cond.native ({ cls := "java/lang/System", name := "arraycopy", desc := "(Ljava/lang/Object;ILjava/lang/Object;II)V" } : Jvm.MethodName)) : Jvm.Cond).before a0 Z = true := H.1 _ (List.mem_of_getElem? (i := 106) rfl)
theorem w_107 {Z : State} {a0 : Array Value} (H : Wd Z a0) : ((Jvm.Cond.methodLink "com/example/tabane/tabane/http/RequestHeadQueryFormPinLaw" (25 : Nat) ({ cls := "java/lang/String", name := "length", desc := "()I" } : Jvm.MethodName)) : Jvm.Cond).before a0 Z = true := H.1 _ (List.mem_of_getElem? (i := 107) rfl)
theorem w_108 {Z : State} {a0 : Array Value} (H : Wd Z a0) : ((Jvm.Cond.methodLink "java/lang/String" (177 : Nat) ({ cls := "java/lang/StringUTF16", name := "compress", desc := "([CII)[B" } : Jvm.MethodName)) : Jvm.Cond).before a0 Z = true := H.1 _ (List.mem_of_getElem? (i := 108) rfl)
theorem w_109 {Z : State} {a0 : Array Value} (H : Wd Z a0) : ((Jvm.Cond.static ({ cls := "java/lang/StringUTF16", name := "compress", desc := "([CII)[B" } : Jvm.MethodName)) : Jvm.Cond).before a0 Z = true := H.1 _ (List.mem_of_getElem? (i := 109) rfl)
theorem w_110 {Z : State} {a0 : Array Value} (H : Wd Z a0) : ((Jvm.Cond.initialized "java/lang/StringUTF16") : Jvm.Cond).before a0 Z = true := H.1 _ (List.mem_of_getElem? (i := 110) rfl)
theorem w_111 {Z : State} {a0 : Array Value} (H : Wd Z a0) : ((Jvm.Cond.code ({ cls := "java/lang/StringUTF16", name := "compress", desc := "([CII)[B" } : Jvm.MethodName) jdk_52_method_16_code (6 : Nat) (Option.some (Jvm.ClassFile.FieldType.array Jvm.ClassFile.FieldType.byte))) : Jvm.Cond).before a0 Z = true := H.1 _ (List.mem_of_getElem? (i := 111) rfl)
theorem w_112 {Z : State} {a0 : Array Value} (H : Wd Z a0) : ((Jvm.Cond.methodLink "java/lang/StringUTF16" (115 : Nat) ({ cls := "java/lang/StringUTF16", name := "compress", desc := "([CI[BII)I" } : Jvm.MethodName)) : Jvm.Cond).before a0 Z = true := H.1 _ (List.mem_of_getElem? (i := 112) rfl)
theorem w_113 {Z : State} {a0 : Array Value} (H : Wd Z a0) : ((Jvm.Cond.static ({ cls := "java/lang/StringUTF16", name := "compress", desc := "([CI[BII)I" } : Jvm.MethodName)) : Jvm.Cond).before a0 Z = true := H.1 _ (List.mem_of_getElem? (i := 113) rfl)
theorem w_114 {Z : State} {a0 : Array Value} (H : Wd Z a0) : ((Jvm.Cond.code ({ cls := "java/lang/StringUTF16", name := "compress", desc := "([CI[BII)I" } : Jvm.MethodName) jdk_52_method_21_code (7 : Nat) (Option.some Jvm.ClassFile.FieldType.int)) : Jvm.Cond).before a0 Z = true := H.1 _ (List.mem_of_getElem? (i := 114) rfl)
theorem w_115 {Z : State} {a0 : Array Value} (H : Wd Z a0) : ((Jvm.Cond.methodLink "java/lang/String" (47 : Nat) ({ cls := "java/lang/StringUTF16", name := "coderFromArrayLen", desc := "([BI)B" } : Jvm.MethodName)) : Jvm.Cond).before a0 Z = true := H.1 _ (List.mem_of_getElem? (i := 115) rfl)
theorem w_116 {Z : State} {a0 : Array Value} (H : Wd Z a0) : ((Jvm.Cond.static ({ cls := "java/lang/StringUTF16", name := "coderFromArrayLen", desc := "([BI)B" } : Jvm.MethodName)) : Jvm.Cond).before a0 Z = true := H.1 _ (List.mem_of_getElem? (i := 116) rfl)
theorem w_117 {Z : State} {a0 : Array Value} (H : Wd Z a0) : ((Jvm.Cond.code ({ cls := "java/lang/StringUTF16", name := "coderFromArrayLen", desc := "([BI)B" } : Jvm.MethodName) jdk_52_method_15_code (2 : Nat) (Option.some Jvm.ClassFile.FieldType.byte)) : Jvm.Cond).before a0 Z = true := H.1 _ (List.mem_of_getElem? (i := 117) rfl)
theorem w_118 {Z : State} {a0 : Array Value} (H : Wd Z a0) : ((Jvm.Cond.methodLink "com/example/tabane/tabane/http/RequestHead" (349 : Nat) ({ cls := "java/lang/String", name := "charAt", desc := "(I)C" } : Jvm.MethodName)) : Jvm.Cond).before a0 Z = true := H.1 _ (List.mem_of_getElem? (i := 118) rfl)
theorem w_119 {Z : State} {a0 : Array Value} (H : Wd Z a0) : ((Jvm.Cond.declares ({ cls := "java/lang/String", name := "charAt", desc := "(I)C" } : Jvm.MethodName)) : Jvm.Cond).before a0 Z = true := H.1 _ (List.mem_of_getElem? (i := 119) rfl)
theorem w_120 {Z : State} {a0 : Array Value} (H : Wd Z a0) : ((Jvm.Cond.instanceMethod ({ cls := "java/lang/String", name := "charAt", desc := "(I)C" } : Jvm.MethodName)) : Jvm.Cond).before a0 Z = true := H.1 _ (List.mem_of_getElem? (i := 120) rfl)
theorem w_121 {Z : State} {a0 : Array Value} (H : Wd Z a0) : ((Jvm.Cond.selects "java/lang/String" ({ cls := "java/lang/String", name := "charAt", desc := "(I)C" } : Jvm.MethodName) ({ cls := "java/lang/String", name := "charAt", desc := "(I)C" } : Jvm.MethodName)) : Jvm.Cond).before a0 Z = true := H.1 _ (List.mem_of_getElem? (i := 121) rfl)
theorem w_122 {Z : State} {a0 : Array Value} (H : Wd Z a0) : ((Jvm.Cond.code ({ cls := "java/lang/String", name := "charAt", desc := "(I)C" } : Jvm.MethodName) jdk_42_method_56_code (2 : Nat) (Option.some Jvm.ClassFile.FieldType.char)) : Jvm.Cond).before a0 Z = true := H.1 _ (List.mem_of_getElem? (i := 122) rfl)
theorem w_123 {Z : State} {a0 : Array Value} (H : Wd Z a0) : ((Jvm.Cond.methodLink "java/lang/String" (492 : Nat) ({ cls := "java/lang/String", name := "isLatin1", desc := "()Z" } : Jvm.MethodName)) : Jvm.Cond).before a0 Z = true := H.1 _ (List.mem_of_getElem? (i := 123) rfl)
theorem w_124 {Z : State} {a0 : Array Value} (H : Wd Z a0) : ((Jvm.Cond.declares ({ cls := "java/lang/String", name := "isLatin1", desc := "()Z" } : Jvm.MethodName)) : Jvm.Cond).before a0 Z = true := H.1 _ (List.mem_of_getElem? (i := 124) rfl)
theorem w_125 {Z : State} {a0 : Array Value} (H : Wd Z a0) : ((Jvm.Cond.instanceMethod ({ cls := "java/lang/String", name := "isLatin1", desc := "()Z" } : Jvm.MethodName)) : Jvm.Cond).before a0 Z = true := H.1 _ (List.mem_of_getElem? (i := 125) rfl)
theorem w_126 {Z : State} {a0 : Array Value} (H : Wd Z a0) : ((Jvm.Cond.selects "java/lang/String" ({ cls := "java/lang/String", name := "isLatin1", desc := "()Z" } : Jvm.MethodName) ({ cls := "java/lang/String", name := "isLatin1", desc := "()Z" } : Jvm.MethodName)) : Jvm.Cond).before a0 Z = true := H.1 _ (List.mem_of_getElem? (i := 126) rfl)
theorem w_127 {Z : State} {a0 : Array Value} (H : Wd Z a0) : ((Jvm.Cond.code ({ cls := "java/lang/String", name := "isLatin1", desc := "()Z" } : Jvm.MethodName) jdk_42_method_154_code (1 : Nat) (Option.some Jvm.ClassFile.FieldType.boolean)) : Jvm.Cond).before a0 Z = true := H.1 _ (List.mem_of_getElem? (i := 127) rfl)
theorem w_128 {Z : State} {a0 : Array Value} (H : Wd Z a0) : ((Jvm.Cond.methodLink "java/lang/String" (495 : Nat) ({ cls := "java/lang/StringLatin1", name := "charAt", desc := "([BI)C" } : Jvm.MethodName)) : Jvm.Cond).before a0 Z = true := H.1 _ (List.mem_of_getElem? (i := 128) rfl)
theorem w_129 {Z : State} {a0 : Array Value} (H : Wd Z a0) : ((Jvm.Cond.static ({ cls := "java/lang/StringLatin1", name := "charAt", desc := "([BI)C" } : Jvm.MethodName)) : Jvm.Cond).before a0 Z = true := H.1 _ (List.mem_of_getElem? (i := 129) rfl)
theorem w_130 {Z : State} {a0 : Array Value} (H : Wd Z a0) : ((Jvm.Cond.initialized "java/lang/StringLatin1") : Jvm.Cond).before a0 Z = true := H.1 _ (List.mem_of_getElem? (i := 130) rfl)
theorem w_131 {Z : State} {a0 : Array Value} (H : Wd Z a0) : ((Jvm.Cond.code ({ cls := "java/lang/StringLatin1", name := "charAt", desc := "([BI)C" } : Jvm.MethodName) jdk_43_method_2_code (2 : Nat) (Option.some Jvm.ClassFile.FieldType.char)) : Jvm.Cond).before a0 Z = true := H.1 _ (List.mem_of_getElem? (i := 131) rfl)
theorem w_132 {Z : State} {a0 : Array Value} (H : Wd Z a0) : ((Jvm.Cond.methodLink "java/lang/StringLatin1" (9 : Nat) ({ cls := "java/lang/String", name := "checkIndex", desc := "(II)V" } : Jvm.MethodName)) : Jvm.Cond).before a0 Z = true := H.1 _ (List.mem_of_getElem? (i := 132) rfl)
theorem w_133 {Z : State} {a0 : Array Value} (H : Wd Z a0) : ((Jvm.Cond.static ({ cls := "java/lang/String", name := "checkIndex", desc := "(II)V" } : Jvm.MethodName)) : Jvm.Cond).before a0 Z = true := H.1 _ (List.mem_of_getElem? (i := 133) rfl)
theorem w_134 {Z : State} {a0 : Array Value} (H : Wd Z a0) : ((Jvm.Cond.code ({ cls := "java/lang/String", name := "checkIndex", desc := "(II)V" } : Jvm.MethodName) jdk_42_method_155_code (2 : Nat) (Option.none : Option Jvm.ClassFile.FieldType)) : Jvm.Cond).before a0 Z = true := H.1 _ (List.mem_of_getElem? (i := 134) rfl)
theorem w_135 {Z : State} {a0 : Array Value} (H : Wd Z a0) : ((Jvm.Cond.fieldLink "java/lang/String" (1053 : Nat) "jdk/internal/util/Preconditions" "SIOOBE_FORMATTER" "Ljava/util/function/BiFunction;") : Jvm.Cond).before a0 Z = true := H.1 _ (List.mem_of_getElem? (i := 135) rfl)
theorem w_136 {Z : State} {a0 : Array Value} (H : Wd Z a0) : ((Jvm.Cond.initialized "jdk/internal/util/Preconditions") : Jvm.Cond).before a0 Z = true := H.1 _ (List.mem_of_getElem? (i := 136) rfl)
theorem w_137 {Z : State} {a0 : Array Value} (H : Wd Z a0) : ((Jvm.Cond.methodLink "java/lang/String" (1059 : Nat) ({ cls := "jdk/internal/util/Preconditions", name := "checkIndex", desc := "(IILjava/util/function/BiFunction;)I" } : Jvm.MethodName)) : Jvm.Cond).before a0 Z = true := H.1 _ (List.mem_of_getElem? (i := 137) rfl)
theorem w_138 {Z : State} {a0 : Array Value} (H : Wd Z a0) : ((Jvm.Cond.static ({ cls := "jdk/internal/util/Preconditions", name := "checkIndex", desc := "(IILjava/util/function/BiFunction;)I" } : Jvm.MethodName)) : Jvm.Cond).before a0 Z = true := H.1 _ (List.mem_of_getElem? (i := 138) rfl)
theorem w_139 {Z : State} {a0 : Array Value} (H : Wd Z a0) : ((Jvm.Cond.code ({ cls := "jdk/internal/util/Preconditions", name := "checkIndex", desc := "(IILjava/util/function/BiFunction;)I" } : Jvm.MethodName) jdk_41_method_11_code (3 : Nat) (Option.some Jvm.ClassFile.FieldType.int)) : Jvm.Cond).before a0 Z = true := H.1 _ (List.mem_of_getElem? (i := 139) rfl)
theorem w_140 {Z : State} {a0 : Array Value} (H : Wd Z a0) : ((Jvm.Cond.methodLink "com/example/tabane/tabane/http/RequestHead" (380 : Nat) ({ cls := "java/lang/StringBuilder", name := "append", desc := "(C)Ljava/lang/StringBuilder;" } : Jvm.MethodName)) : Jvm.Cond).before a0 Z = true := H.1 _ (List.mem_of_getElem? (i := 140) rfl)
theorem w_141 {Z : State} {a0 : Array Value} (H : Wd Z a0) : ((Jvm.Cond.declares ({ cls := "java/lang/StringBuilder", name := "append", desc := "(C)Ljava/lang/StringBuilder;" } : Jvm.MethodName)) : Jvm.Cond).before a0 Z = true := H.1 _ (List.mem_of_getElem? (i := 141) rfl)
theorem w_142 {Z : State} {a0 : Array Value} (H : Wd Z a0) : ((Jvm.Cond.instanceMethod ({ cls := "java/lang/StringBuilder", name := "append", desc := "(C)Ljava/lang/StringBuilder;" } : Jvm.MethodName)) : Jvm.Cond).before a0 Z = true := H.1 _ (List.mem_of_getElem? (i := 142) rfl)
theorem w_143 {Z : State} {a0 : Array Value} (H : Wd Z a0) : ((Jvm.Cond.selects "java/lang/StringBuilder" ({ cls := "java/lang/StringBuilder", name := "append", desc := "(C)Ljava/lang/StringBuilder;" } : Jvm.MethodName) ({ cls := "java/lang/StringBuilder", name := "append", desc := "(C)Ljava/lang/StringBuilder;" } : Jvm.MethodName)) : Jvm.Cond).before a0 Z = true := H.1 _ (List.mem_of_getElem? (i := 143) rfl)
theorem w_144 {Z : State} {a0 : Array Value} (H : Wd Z a0) : ((Jvm.Cond.code ({ cls := "java/lang/StringBuilder", name := "append", desc := "(C)Ljava/lang/StringBuilder;" } : Jvm.MethodName) jdk_67_method_14_code (2 : Nat) (Option.some (Jvm.ClassFile.FieldType.object "java/lang/StringBuilder"))) : Jvm.Cond).before a0 Z = true := H.1 _ (List.mem_of_getElem? (i := 144) rfl)
theorem w_145 {Z : State} {a0 : Array Value} (H : Wd Z a0) : ((Jvm.Cond.methodLink "java/lang/StringBuilder" (50 : Nat) ({ cls := "java/lang/AbstractStringBuilder", name := "append", desc := "(C)Ljava/lang/AbstractStringBuilder;" } : Jvm.MethodName)) : Jvm.Cond).before a0 Z = true := H.1 _ (List.mem_of_getElem? (i := 145) rfl)
theorem w_146 {Z : State} {a0 : Array Value} (H : Wd Z a0) : ((Jvm.Cond.instanceMethod ({ cls := "java/lang/AbstractStringBuilder", name := "append", desc := "(C)Ljava/lang/AbstractStringBuilder;" } : Jvm.MethodName)) : Jvm.Cond).before a0 Z = true := H.1 _ (List.mem_of_getElem? (i := 146) rfl)
theorem w_147 {Z : State} {a0 : Array Value} (H : Wd Z a0) : ((Jvm.Cond.declares ({ cls := "java/lang/AbstractStringBuilder", name := "append", desc := "(C)Ljava/lang/AbstractStringBuilder;" } : Jvm.MethodName)) : Jvm.Cond).before a0 Z = true := H.1 _ (List.mem_of_getElem? (i := 147) rfl)
theorem w_148 {Z : State} {a0 : Array Value} (H : Wd Z a0) : ((Jvm.Cond.code ({ cls := "java/lang/AbstractStringBuilder", name := "append", desc := "(C)Ljava/lang/AbstractStringBuilder;" } : Jvm.MethodName) jdk_68_method_31_code (2 : Nat) (Option.some (Jvm.ClassFile.FieldType.object "java/lang/AbstractStringBuilder"))) : Jvm.Cond).before a0 Z = true := H.1 _ (List.mem_of_getElem? (i := 148) rfl)
theorem w_149 {Z : State} {a0 : Array Value} (H : Wd Z a0) : ((Jvm.Cond.methodLink "java/lang/AbstractStringBuilder" (100 : Nat) ({ cls := "java/lang/AbstractStringBuilder", name := "ensureCapacityInternal", desc := "(I)V" } : Jvm.MethodName)) : Jvm.Cond).before a0 Z = true := H.1 _ (List.mem_of_getElem? (i := 149) rfl)
theorem w_150 {Z : State} {a0 : Array Value} (H : Wd Z a0) : ((Jvm.Cond.instanceMethod ({ cls := "java/lang/AbstractStringBuilder", name := "ensureCapacityInternal", desc := "(I)V" } : Jvm.MethodName)) : Jvm.Cond).before a0 Z = true := H.1 _ (List.mem_of_getElem? (i := 150) rfl)
theorem w_152 {Z : State} {a0 : Array Value} (H : Wd Z a0) : ((Jvm.Cond.selects "java/lang/StringBuilder" ({ cls := "java/lang/AbstractStringBuilder", name := "ensureCapacityInternal", desc := "(I)V" } : Jvm.MethodName) ({ cls := "java/lang/AbstractStringBuilder", name := "ensureCapacityInternal", desc := "(I)V" } : Jvm.MethodName)) : Jvm.Cond).before a0 Z = true := H.1 _ (List.mem_of_getElem? (i := 152) rfl)
theorem w_153 {Z : State} {a0 : Array Value} (H : Wd Z a0) : ((Jvm.Cond.code ({ cls := "java/lang/AbstractStringBuilder", name := "ensureCapacityInternal", desc := "(I)V" } : Jvm.MethodName) jdk_68_method_9_code (3 : Nat) (Option.none : Option Jvm.ClassFile.FieldType)) : Jvm.Cond).before a0 Z = true := H.1 _ (List.mem_of_getElem? (i := 153) rfl)
theorem w_154 {Z : State} {a0 : Array Value} (H : Wd Z a0) : ((Jvm.Cond.methodLink "java/lang/AbstractStringBuilder" (83 : Nat) ({ cls := "java/lang/AbstractStringBuilder", name := "isLatin1", desc := "()Z" } : Jvm.MethodName)) : Jvm.Cond).before a0 Z = true := H.1 _ (List.mem_of_getElem? (i := 154) rfl)
theorem w_155 {Z : State} {a0 : Array Value} (H : Wd Z a0) : ((Jvm.Cond.methodLink "java/lang/AbstractStringBuilder" (191 : Nat) ({ cls := "java/lang/StringLatin1", name := "canEncode", desc := "(C)Z" } : Jvm.MethodName)) : Jvm.Cond).before a0 Z = true := H.1 _ (List.mem_of_getElem? (i := 155) rfl)
theorem w_156 {Z : State} {a0 : Array Value} (H : Wd Z a0) : ((Jvm.Cond.static ({ cls := "java/lang/StringLatin1", name := "canEncode", desc := "(C)Z" } : Jvm.MethodName)) : Jvm.Cond).before a0 Z = true := H.1 _ (List.mem_of_getElem? (i := 156) rfl)
theorem w_157 {Z : State} {a0 : Array Value} (H : Wd Z a0) : ((Jvm.Cond.code ({ cls := "java/lang/StringLatin1", name := "canEncode", desc := "(C)Z" } : Jvm.MethodName) jdk_43_method_3_code (1 : Nat) (Option.some Jvm.ClassFile.FieldType.boolean)) : Jvm.Cond).before a0 Z = true := H.1 _ (List.mem_of_getElem? (i := 157) rfl)
theorem w_158 {Z : State} {a0 : Array Value} (H : Wd Z a0) : ((Jvm.Cond.methodLink "com/example/tabane/tabane/http/RequestHeadQueryFormPinLaw" (19 : Nat) ({ cls := "com/example/tabane/tabane/http/RequestHeadQueryFormPinLaw", name := "width", desc := "(C)I" } : Jvm.MethodName)) : Jvm.Cond).before a0 Z = true := H.1 _ (List.mem_of_getElem? (i := 158) rfl)
theorem w_159 {Z : State} {a0 : Array Value} (H : Wd Z a0) : ((Jvm.Cond.static ({ cls := "com/example/tabane/tabane/http/RequestHeadQueryFormPinLaw", name := "width", desc := "(C)I" } : Jvm.MethodName)) : Jvm.Cond).before a0 Z = true := H.1 _ (List.mem_of_getElem? (i := 159) rfl)
theorem w_160 {Z : State} {a0 : Array Value} (H : Wd Z a0) : ((Jvm.Cond.initialized "com/example/tabane/tabane/http/RequestHeadQueryFormPinLaw") : Jvm.Cond).before a0 Z = true := H.1 _ (List.mem_of_getElem? (i := 160) rfl)
theorem w_161 {Z : State} {a0 : Array Value} (H : Wd Z a0) : ((Jvm.Cond.code ({ cls := "com/example/tabane/tabane/http/RequestHeadQueryFormPinLaw", name := "width", desc := "(C)I" } : Jvm.MethodName) method_3_code (1 : Nat) (Option.some Jvm.ClassFile.FieldType.int)) : Jvm.Cond).before a0 Z = true := H.1 _ (List.mem_of_getElem? (i := 161) rfl)
theorem w_162 {Z : State} {a0 : Array Value} (H : Wd Z a0) : ((Jvm.Cond.methodLink "com/example/tabane/tabane/http/RequestHeadQueryFormPinLaw" (29 : Nat) ({ cls := "com/example/tabane/tabane/http/RequestHeadQueryFormPinLaw", name := "at", desc := "(Ljava/lang/String;IC)Z" } : Jvm.MethodName)) : Jvm.Cond).before a0 Z = true := H.1 _ (List.mem_of_getElem? (i := 162) rfl)
theorem w_163 {Z : State} {a0 : Array Value} (H : Wd Z a0) : ((Jvm.Cond.static ({ cls := "com/example/tabane/tabane/http/RequestHeadQueryFormPinLaw", name := "at", desc := "(Ljava/lang/String;IC)Z" } : Jvm.MethodName)) : Jvm.Cond).before a0 Z = true := H.1 _ (List.mem_of_getElem? (i := 163) rfl)
theorem w_164 {Z : State} {a0 : Array Value} (H : Wd Z a0) : ((Jvm.Cond.code ({ cls := "com/example/tabane/tabane/http/RequestHeadQueryFormPinLaw", name := "at", desc := "(Ljava/lang/String;IC)Z" } : Jvm.MethodName) method_5_code (3 : Nat) (Option.some Jvm.ClassFile.FieldType.boolean)) : Jvm.Cond).before a0 Z = true := H.1 _ (List.mem_of_getElem? (i := 164) rfl)
theorem w_165 {Z : State} {a0 : Array Value} (H : Wd Z a0) : ((Jvm.Cond.methodLink "com/example/tabane/tabane/http/RequestHeadQueryFormPinLaw" (33 : Nat) ({ cls := "java/lang/String", name := "charAt", desc := "(I)C" } : Jvm.MethodName)) : Jvm.Cond).before a0 Z = true := H.1 _ (List.mem_of_getElem? (i := 165) rfl)
theorem w_166 {Z : State} {a0 : Array Value} (H : Wd Z a0) : ((Jvm.Cond.methodLink "com/example/tabane/tabane/http/RequestHead" (383 : Nat) ({ cls := "com/example/tabane/tabane/http/RequestHead", name := "appendEscape", desc := "(Ljava/lang/StringBuilder;C)V" } : Jvm.MethodName)) : Jvm.Cond).before a0 Z = true := H.1 _ (List.mem_of_getElem? (i := 166) rfl)
theorem w_167 {Z : State} {a0 : Array Value} (H : Wd Z a0) : ((Jvm.Cond.static ({ cls := "com/example/tabane/tabane/http/RequestHead", name := "appendEscape", desc := "(Ljava/lang/StringBuilder;C)V" } : Jvm.MethodName)) : Jvm.Cond).before a0 Z = true := H.1 _ (List.mem_of_getElem? (i := 167) rfl)
theorem w_168 {Z : State} {a0 : Array Value} (H : Wd Z a0) : ((Jvm.Cond.code ({ cls := "com/example/tabane/tabane/http/RequestHead", name := "appendEscape", desc := "(Ljava/lang/StringBuilder;C)V" } : Jvm.MethodName) prog_24_method_11_code (2 : Nat) (Option.none : Option Jvm.ClassFile.FieldType)) : Jvm.Cond).before a0 Z = true := H.1 _ (List.mem_of_getElem? (i := 168) rfl)
theorem w_169 {Z : State} {a0 : Array Value} (H : Wd Z a0) : ((Jvm.Cond.fieldLink "com/example/tabane/tabane/http/RequestHead" (390 : Nat) "com/example/tabane/tabane/http/RequestHead" "HEX_DIGITS" "[C") : Jvm.Cond).before a0 Z = true := H.1 _ (List.mem_of_getElem? (i := 169) rfl)
theorem w_170 {Z : State} {a0 : Array Value} (H : Wd Z a0) : ((Jvm.Cond.laysStatic "com/example/tabane/tabane/http/RequestHead" "HEX_DIGITS" "[C") : Jvm.Cond).before a0 Z = true := H.1 _ (List.mem_of_getElem? (i := 170) rfl)
theorem w_171 {Z : State} {a0 : Array Value} (H : Wd Z a0) : ((Jvm.Cond.methodLink "com/example/tabane/tabane/http/RequestHeadQueryFormPinLaw" (37 : Nat) ({ cls := "com/example/tabane/tabane/http/RequestHeadQueryFormPinLaw", name := "hex", desc := "(I)C" } : Jvm.MethodName)) : Jvm.Cond).before a0 Z = true := H.1 _ (List.mem_of_getElem? (i := 171) rfl)
theorem w_172 {Z : State} {a0 : Array Value} (H : Wd Z a0) : ((Jvm.Cond.static ({ cls := "com/example/tabane/tabane/http/RequestHeadQueryFormPinLaw", name := "hex", desc := "(I)C" } : Jvm.MethodName)) : Jvm.Cond).before a0 Z = true := H.1 _ (List.mem_of_getElem? (i := 172) rfl)
theorem w_173 {Z : State} {a0 : Array Value} (H : Wd Z a0) : ((Jvm.Cond.code ({ cls := "com/example/tabane/tabane/http/RequestHeadQueryFormPinLaw", name := "hex", desc := "(I)C" } : Jvm.MethodName) method_4_code (1 : Nat) (Option.some Jvm.ClassFile.FieldType.char)) : Jvm.Cond).before a0 Z = true := H.1 _ (List.mem_of_getElem? (i := 173) rfl)
theorem d0_0 : decode jdk_42_method_3_code 0 = .ok (.aload_n 0, 1) := by decide +kernel
theorem d0_1 : decode jdk_42_method_3_code 1 = .ok (.aload_n 1, 1) := by decide +kernel
theorem d0_2 : decode jdk_42_method_3_code 2 = .ok (.iconst 0, 1) := by decide +kernel
theorem d0_3 : decode jdk_42_method_3_code 3 = .ok (.aload_n 1, 1) := by decide +kernel
theorem d0_4 : decode jdk_42_method_3_code 4 = .ok (.arraylength, 1) := by decide +kernel
theorem d0_5 : decode jdk_42_method_3_code 5 = .ok (.aconst_null, 1) := by decide +kernel
theorem d0_6 : decode jdk_42_method_3_code 6 = .ok (.invokespecial 27, 3) := by decide +kernel
theorem d0_9 : decode jdk_42_method_3_code 9 = .ok (.return_, 1) := by decide +kernel
theorem d1_0 : decode jdk_42_method_149_code 0 = .ok (.aload_n 0, 1) := by decide +kernel
theorem d1_1 : decode jdk_42_method_149_code 1 = .ok (.invokespecial 1, 3) := by decide +kernel
theorem d1_4 : decode jdk_42_method_149_code 4 = .ok (.iload_n 3, 1) := by decide +kernel
theorem d1_5 : decode jdk_42_method_149_code 5 = .ok (.ifCond .ne 22, 3) := by decide +kernel
theorem d1_8 : decode jdk_42_method_149_code 8 = .ok (.aload_n 0, 1) := by decide +kernel
theorem d1_9 : decode jdk_42_method_149_code 9 = .ok (.ldc 7, 2) := by decide +kernel
theorem d1_11 : decode jdk_42_method_149_code 11 = .ok (.getfield 9, 3) := by decide +kernel
theorem d1_14 : decode jdk_42_method_149_code 14 = .ok (.putfield 9, 3) := by decide +kernel
theorem d1_17 : decode jdk_42_method_149_code 17 = .ok (.aload_n 0, 1) := by decide +kernel
theorem d1_18 : decode jdk_42_method_149_code 18 = .ok (.ldc 7, 2) := by decide +kernel
theorem d1_20 : decode jdk_42_method_149_code 20 = .ok (.getfield 15, 3) := by decide +kernel
theorem d1_23 : decode jdk_42_method_149_code 23 = .ok (.putfield 15, 3) := by decide +kernel
theorem d1_26 : decode jdk_42_method_149_code 26 = .ok (.return_, 1) := by decide +kernel
theorem d1_27 : decode jdk_42_method_149_code 27 = .ok (.getstatic 38, 3) := by decide +kernel
theorem d1_30 : decode jdk_42_method_149_code 30 = .ok (.ifCond .eq 28, 3) := by decide +kernel
theorem d1_33 : decode jdk_42_method_149_code 33 = .ok (.aload_n 1, 1) := by decide +kernel
theorem d1_34 : decode jdk_42_method_149_code 34 = .ok (.iload_n 2, 1) := by decide +kernel
theorem d1_35 : decode jdk_42_method_149_code 35 = .ok (.iload_n 3, 1) := by decide +kernel
theorem d1_36 : decode jdk_42_method_149_code 36 = .ok (.invokestatic 177, 3) := by decide +kernel
theorem d1_39 : decode jdk_42_method_149_code 39 = .ok (.astore 5, 2) := by decide +kernel
theorem d1_41 : decode jdk_42_method_149_code 41 = .ok (.aload_n 0, 1) := by decide +kernel
theorem d1_42 : decode jdk_42_method_149_code 42 = .ok (.aload 5, 2) := by decide +kernel
theorem d1_44 : decode jdk_42_method_149_code 44 = .ok (.iload_n 3, 1) := by decide +kernel
theorem d1_45 : decode jdk_42_method_149_code 45 = .ok (.invokestatic 47, 3) := by decide +kernel
theorem d1_48 : decode jdk_42_method_149_code 48 = .ok (.putfield 15, 3) := by decide +kernel
theorem d1_51 : decode jdk_42_method_149_code 51 = .ok (.aload_n 0, 1) := by decide +kernel
theorem d1_52 : decode jdk_42_method_149_code 52 = .ok (.aload 5, 2) := by decide +kernel
theorem d1_54 : decode jdk_42_method_149_code 54 = .ok (.putfield 9, 3) := by decide +kernel
theorem d1_57 : decode jdk_42_method_149_code 57 = .ok (.return_, 1) := by decide +kernel
theorem d3_0 : decode prog_24_method_10_code 0 = .ok (.new 344, 3) := by decide +kernel
theorem d3_3 : decode prog_24_method_10_code 3 = .ok (.dup, 1) := by decide +kernel
theorem d3_4 : decode prog_24_method_10_code 4 = .ok (.aload_n 0, 1) := by decide +kernel
theorem d3_5 : decode prog_24_method_10_code 5 = .ok (.invokevirtual 308, 3) := by decide +kernel
theorem d3_8 : decode prog_24_method_10_code 8 = .ok (.bipush 16, 2) := by decide +kernel
theorem d3_10 : decode prog_24_method_10_code 10 = .ok (.iadd, 1) := by decide +kernel
theorem d3_11 : decode prog_24_method_10_code 11 = .ok (.invokespecial 346, 3) := by decide +kernel
theorem d3_14 : decode prog_24_method_10_code 14 = .ok (.astore_n 1, 1) := by decide +kernel
theorem d3_15 : decode prog_24_method_10_code 15 = .ok (.iconst 0, 1) := by decide +kernel
theorem d3_16 : decode prog_24_method_10_code 16 = .ok (.istore_n 2, 1) := by decide +kernel
theorem d3_17 : decode prog_24_method_10_code 17 = .ok (.iload_n 2, 1) := by decide +kernel
theorem d3_18 : decode prog_24_method_10_code 18 = .ok (.aload_n 0, 1) := by decide +kernel
theorem d3_19 : decode prog_24_method_10_code 19 = .ok (.invokevirtual 308, 3) := by decide +kernel
theorem d3_22 : decode prog_24_method_10_code 22 = .ok (.if_icmp .ge 36, 3) := by decide +kernel
theorem d3_25 : decode prog_24_method_10_code 25 = .ok (.aload_n 0, 1) := by decide +kernel
theorem d3_26 : decode prog_24_method_10_code 26 = .ok (.iload_n 2, 1) := by decide +kernel
theorem d3_27 : decode prog_24_method_10_code 27 = .ok (.invokevirtual 349, 3) := by decide +kernel
theorem d3_30 : decode prog_24_method_10_code 30 = .ok (.istore_n 3, 1) := by decide +kernel
theorem d3_31 : decode prog_24_method_10_code 31 = .ok (.iload_n 3, 1) := by decide +kernel
theorem d3_32 : decode prog_24_method_10_code 32 = .ok (.sipush 128, 3) := by decide +kernel
theorem d3_35 : decode prog_24_method_10_code 35 = .ok (.if_icmp .ge 12, 3) := by decide +kernel
theorem d3_38 : decode prog_24_method_10_code 38 = .ok (.aload_n 1, 1) := by decide +kernel
theorem d3_39 : decode prog_24_method_10_code 39 = .ok (.iload_n 3, 1) := by decide +kernel
theorem d3_40 : decode prog_24_method_10_code 40 = .ok (.invokevirtual 380, 3) := by decide +kernel
theorem d3_43 : decode prog_24_method_10_code 43 = .ok (.pop, 1) := by decide +kernel
theorem d3_44 : decode prog_24_method_10_code 44 = .ok (.goto 8, 3) := by decide +kernel
theorem d3_47 : decode prog_24_method_10_code 47 = .ok (.aload_n 1, 1) := by decide +kernel
theorem d3_48 : decode prog_24_method_10_code 48 = .ok (.iload_n 3, 1) := by decide +kernel
theorem d3_49 : decode prog_24_method_10_code 49 = .ok (.invokestatic 383, 3) := by decide +kernel
theorem d3_52 : decode prog_24_method_10_code 52 = .ok (.iinc 2 1, 3) := by decide +kernel
theorem d3_55 : decode prog_24_method_10_code 55 = .ok (.goto (-38), 3) := by decide +kernel
theorem d3_58 : decode prog_24_method_10_code 58 = .ok (.aload_n 1, 1) := by decide +kernel
theorem d3_59 : decode prog_24_method_10_code 59 = .ok (.invokevirtual 387, 3) := by decide +kernel
theorem d3_62 : decode prog_24_method_10_code 62 = .ok (.areturn, 1) := by decide +kernel
theorem d4_0 : decode jdk_42_method_54_code 0 = .ok (.aload_n 0, 1) := by decide +kernel
theorem d4_1 : decode jdk_42_method_54_code 1 = .ok (.getfield 9, 3) := by decide +kernel
theorem d4_4 : decode jdk_42_method_54_code 4 = .ok (.arraylength, 1) := by decide +kernel
theorem d4_5 : decode jdk_42_method_54_code 5 = .ok (.aload_n 0, 1) := by decide +kernel
theorem d4_6 : decode jdk_42_method_54_code 6 = .ok (.invokevirtual 335, 3) := by decide +kernel
theorem d4_9 : decode jdk_42_method_54_code 9 = .ok (.ishr, 1) := by decide +kernel
theorem d4_10 : decode jdk_42_method_54_code 10 = .ok (.ireturn, 1) := by decide +kernel
theorem d5_0 : decode jdk_42_method_152_code 0 = .ok (.getstatic 38, 3) := by decide +kernel
theorem d5_3 : decode jdk_42_method_152_code 3 = .ok (.ifCond .eq 10, 3) := by decide +kernel
theorem d5_6 : decode jdk_42_method_152_code 6 = .ok (.aload_n 0, 1) := by decide +kernel
theorem d5_7 : decode jdk_42_method_152_code 7 = .ok (.getfield 15, 3) := by decide +kernel
theorem d5_10 : decode jdk_42_method_152_code 10 = .ok (.goto 4, 3) := by decide +kernel
theorem d5_14 : decode jdk_42_method_152_code 14 = .ok (.ireturn, 1) := by decide +kernel
theorem d6_0 : decode jdk_67_method_2_code 0 = .ok (.aload_n 0, 1) := by decide +kernel
theorem d6_1 : decode jdk_67_method_2_code 1 = .ok (.iload_n 1, 1) := by decide +kernel
theorem d6_2 : decode jdk_67_method_2_code 2 = .ok (.invokespecial 1, 3) := by decide +kernel
theorem d6_5 : decode jdk_67_method_2_code 5 = .ok (.return_, 1) := by decide +kernel
theorem d7_0 : decode jdk_68_method_2_code 0 = .ok (.aload_n 0, 1) := by decide +kernel
theorem d7_1 : decode jdk_68_method_2_code 1 = .ok (.invokespecial 3, 3) := by decide +kernel
theorem d7_4 : decode jdk_68_method_2_code 4 = .ok (.getstatic 18, 3) := by decide +kernel
theorem d7_7 : decode jdk_68_method_2_code 7 = .ok (.ifCond .eq 18, 3) := by decide +kernel
theorem d7_10 : decode jdk_68_method_2_code 10 = .ok (.aload_n 0, 1) := by decide +kernel
theorem d7_11 : decode jdk_68_method_2_code 11 = .ok (.iload_n 1, 1) := by decide +kernel
theorem d7_12 : decode jdk_68_method_2_code 12 = .ok (.newarray .byte, 2) := by decide +kernel
theorem d7_14 : decode jdk_68_method_2_code 14 = .ok (.putfield 15, 3) := by decide +kernel
theorem d7_17 : decode jdk_68_method_2_code 17 = .ok (.aload_n 0, 1) := by decide +kernel
theorem d7_18 : decode jdk_68_method_2_code 18 = .ok (.iconst 0, 1) := by decide +kernel
theorem d7_19 : decode jdk_68_method_2_code 19 = .ok (.putfield 22, 3) := by decide +kernel
theorem d7_22 : decode jdk_68_method_2_code 22 = .ok (.goto 16, 3) := by decide +kernel
theorem d7_38 : decode jdk_68_method_2_code 38 = .ok (.return_, 1) := by decide +kernel
theorem d8_0 : decode jdk_67_method_42_code 0 = .ok (.new 18, 3) := by decide +kernel
theorem d8_3 : decode jdk_67_method_42_code 3 = .ok (.dup, 1) := by decide +kernel
theorem d8_4 : decode jdk_67_method_42_code 4 = .ok (.aload_n 0, 1) := by decide +kernel
theorem d8_5 : decode jdk_67_method_42_code 5 = .ok (.invokespecial 137, 3) := by decide +kernel
theorem d8_8 : decode jdk_67_method_42_code 8 = .ok (.areturn, 1) := by decide +kernel
theorem d9_0 : decode jdk_42_method_53_code 0 = .ok (.aload_n 0, 1) := by decide +kernel
theorem d9_1 : decode jdk_42_method_53_code 1 = .ok (.aload_n 1, 1) := by decide +kernel
theorem d9_2 : decode jdk_42_method_53_code 2 = .ok (.aconst_null, 1) := by decide +kernel
theorem d9_3 : decode jdk_42_method_53_code 3 = .ok (.invokespecial 489, 3) := by decide +kernel
theorem d9_6 : decode jdk_42_method_53_code 6 = .ok (.return_, 1) := by decide +kernel
theorem d10_0 : decode jdk_42_method_150_code 0 = .ok (.aload_n 0, 1) := by decide +kernel
theorem d10_1 : decode jdk_42_method_150_code 1 = .ok (.invokespecial 1, 3) := by decide +kernel
theorem d10_4 : decode jdk_42_method_150_code 4 = .ok (.aload_n 1, 1) := by decide +kernel
theorem d10_5 : decode jdk_42_method_150_code 5 = .ok (.invokevirtual 552, 3) := by decide +kernel
theorem d10_8 : decode jdk_42_method_150_code 8 = .ok (.astore_n 3, 1) := by decide +kernel
theorem d10_9 : decode jdk_42_method_150_code 9 = .ok (.aload_n 1, 1) := by decide +kernel
theorem d10_10 : decode jdk_42_method_150_code 10 = .ok (.invokevirtual 549, 3) := by decide +kernel
theorem d10_13 : decode jdk_42_method_150_code 13 = .ok (.istore 4, 2) := by decide +kernel
theorem d10_15 : decode jdk_42_method_150_code 15 = .ok (.aload_n 1, 1) := by decide +kernel
theorem d10_16 : decode jdk_42_method_150_code 16 = .ok (.invokevirtual 1047, 3) := by decide +kernel
theorem d10_19 : decode jdk_42_method_150_code 19 = .ok (.ifCond .eq 22, 3) := by decide +kernel
theorem d10_22 : decode jdk_42_method_150_code 22 = .ok (.aload_n 0, 1) := by decide +kernel
theorem d10_23 : decode jdk_42_method_150_code 23 = .ok (.iconst 0, 1) := by decide +kernel
theorem d10_24 : decode jdk_42_method_150_code 24 = .ok (.putfield 15, 3) := by decide +kernel
theorem d10_27 : decode jdk_42_method_150_code 27 = .ok (.aload_n 0, 1) := by decide +kernel
theorem d10_28 : decode jdk_42_method_150_code 28 = .ok (.aload_n 3, 1) := by decide +kernel
theorem d10_29 : decode jdk_42_method_150_code 29 = .ok (.iconst 0, 1) := by decide +kernel
theorem d10_30 : decode jdk_42_method_150_code 30 = .ok (.iload 4, 2) := by decide +kernel
theorem d10_32 : decode jdk_42_method_150_code 32 = .ok (.invokestatic 54, 3) := by decide +kernel
theorem d10_35 : decode jdk_42_method_150_code 35 = .ok (.putfield 9, 3) := by decide +kernel
theorem d10_38 : decode jdk_42_method_150_code 38 = .ok (.goto 59, 3) := by decide +kernel
theorem d10_97 : decode jdk_42_method_150_code 97 = .ok (.return_, 1) := by decide +kernel
theorem d11_0 : decode jdk_68_method_64_code 0 = .ok (.aload_n 0, 1) := by decide +kernel
theorem d11_1 : decode jdk_68_method_64_code 1 = .ok (.getfield 15, 3) := by decide +kernel
theorem d11_4 : decode jdk_68_method_64_code 4 = .ok (.areturn, 1) := by decide +kernel
theorem d12_0 : decode jdk_67_method_93_code 0 = .ok (.aload_n 0, 1) := by decide +kernel
theorem d12_1 : decode jdk_67_method_93_code 1 = .ok (.invokespecial 343, 3) := by decide +kernel
theorem d12_4 : decode jdk_67_method_93_code 4 = .ok (.ireturn, 1) := by decide +kernel
theorem d13_0 : decode jdk_68_method_6_code 0 = .ok (.aload_n 0, 1) := by decide +kernel
theorem d13_1 : decode jdk_68_method_6_code 1 = .ok (.getfield 79, 3) := by decide +kernel
theorem d13_4 : decode jdk_68_method_6_code 4 = .ok (.ireturn, 1) := by decide +kernel
theorem d14_0 : decode jdk_68_method_68_code 0 = .ok (.getstatic 18, 3) := by decide +kernel
theorem d14_3 : decode jdk_68_method_68_code 3 = .ok (.ifCond .eq 14, 3) := by decide +kernel
theorem d14_6 : decode jdk_68_method_68_code 6 = .ok (.aload_n 0, 1) := by decide +kernel
theorem d14_7 : decode jdk_68_method_68_code 7 = .ok (.getfield 22, 3) := by decide +kernel
theorem d14_10 : decode jdk_68_method_68_code 10 = .ok (.ifCond .ne 7, 3) := by decide +kernel
theorem d14_13 : decode jdk_68_method_68_code 13 = .ok (.iconst 1, 1) := by decide +kernel
theorem d14_14 : decode jdk_68_method_68_code 14 = .ok (.goto 4, 3) := by decide +kernel
theorem d14_18 : decode jdk_68_method_68_code 18 = .ok (.ireturn, 1) := by decide +kernel
theorem d15_0 : decode jdk_65_method_132_code 0 = .ok (.iload_n 1, 1) := by decide +kernel
theorem d15_1 : decode jdk_65_method_132_code 1 = .ok (.ifCond .ne 9, 3) := by decide +kernel
theorem d15_4 : decode jdk_65_method_132_code 4 = .ok (.iload_n 2, 1) := by decide +kernel
theorem d15_5 : decode jdk_65_method_132_code 5 = .ok (.aload_n 0, 1) := by decide +kernel
theorem d15_6 : decode jdk_65_method_132_code 6 = .ok (.arraylength, 1) := by decide +kernel
theorem d15_7 : decode jdk_65_method_132_code 7 = .ok (.if_icmp .eq 10, 3) := by decide +kernel
theorem d15_10 : decode jdk_65_method_132_code 10 = .ok (.aload_n 0, 1) := by decide +kernel
theorem d15_11 : decode jdk_65_method_132_code 11 = .ok (.iload_n 1, 1) := by decide +kernel
theorem d15_12 : decode jdk_65_method_132_code 12 = .ok (.iload_n 2, 1) := by decide +kernel
theorem d15_13 : decode jdk_65_method_132_code 13 = .ok (.invokestatic 339, 3) := by decide +kernel
theorem d15_16 : decode jdk_65_method_132_code 16 = .ok (.areturn, 1) := by decide +kernel
theorem d16_0 : decode jdk_65_method_133_code 0 = .ok (.iload_n 1, 1) := by decide +kernel
theorem d16_1 : decode jdk_65_method_133_code 1 = .ok (.iload_n 2, 1) := by decide +kernel
theorem d16_2 : decode jdk_65_method_133_code 2 = .ok (.invokestatic 343, 3) := by decide +kernel
theorem d16_5 : decode jdk_65_method_133_code 5 = .ok (.iload_n 2, 1) := by decide +kernel
theorem d16_6 : decode jdk_65_method_133_code 6 = .ok (.iload_n 1, 1) := by decide +kernel
theorem d16_7 : decode jdk_65_method_133_code 7 = .ok (.isub, 1) := by decide +kernel
theorem d16_8 : decode jdk_65_method_133_code 8 = .ok (.istore_n 3, 1) := by decide +kernel
theorem d16_9 : decode jdk_65_method_133_code 9 = .ok (.iload_n 3, 1) := by decide +kernel
theorem d16_10 : decode jdk_65_method_133_code 10 = .ok (.newarray .byte, 2) := by decide +kernel
theorem d16_12 : decode jdk_65_method_133_code 12 = .ok (.astore 4, 2) := by decide +kernel
theorem d16_14 : decode jdk_65_method_133_code 14 = .ok (.aload_n 0, 1) := by decide +kernel
theorem d16_15 : decode jdk_65_method_133_code 15 = .ok (.iload_n 1, 1) := by decide +kernel
theorem d16_16 : decode jdk_65_method_133_code 16 = .ok (.aload 4, 2) := by decide +kernel
theorem d16_18 : decode jdk_65_method_133_code 18 = .ok (.iconst 0, 1) := by decide +kernel
theorem d16_19 : decode jdk_65_method_133_code 19 = .ok (.aload_n 0, 1) := by decide +kernel
theorem d16_20 : decode jdk_65_method_133_code 20 = .ok (.arraylength, 1) := by decide +kernel
theorem d16_21 : decode jdk_65_method_133_code 21 = .ok (.iload_n 1, 1) := by decide +kernel
theorem d16_22 : decode jdk_65_method_133_code 22 = .ok (.isub, 1) := by decide +kernel
theorem d16_23 : decode jdk_65_method_133_code 23 = .ok (.iload_n 3, 1) := by decide +kernel
theorem d16_24 : decode jdk_65_method_133_code 24 = .ok (.invokestatic 304, 3) := by decide +kernel
theorem d16_27 : decode jdk_65_method_133_code 27 = .ok (.invokestatic 150, 3) := by decide +kernel
theorem d16_30 : decode jdk_65_method_133_code 30 = .ok (.aload 4, 2) := by decide +kernel
theorem d16_32 : decode jdk_65_method_133_code 32 = .ok (.areturn, 1) := by decide +kernel
theorem d17_0 : decode jdk_65_method_131_code 0 = .ok (.iload_n 1, 1) := by decide +kernel
theorem d17_1 : decode jdk_65_method_131_code 1 = .ok (.iload_n 0, 1) := by decide +kernel
theorem d17_2 : decode jdk_65_method_131_code 2 = .ok (.if_icmp .ge 35, 3) := by decide +kernel
theorem d17_37 : decode jdk_65_method_131_code 37 = .ok (.return_, 1) := by decide +kernel
theorem d18_0 : decode jdk_29_method_69_code 0 = .ok (.iload_n 0, 1) := by decide +kernel
theorem d18_1 : decode jdk_29_method_69_code 1 = .ok (.iload_n 1, 1) := by decide +kernel
theorem d18_2 : decode jdk_29_method_69_code 2 = .ok (.if_icmp .gt 7, 3) := by decide +kernel
theorem d18_5 : decode jdk_29_method_69_code 5 = .ok (.iload_n 0, 1) := by decide +kernel
theorem d18_6 : decode jdk_29_method_69_code 6 = .ok (.goto 4, 3) := by decide +kernel
theorem d18_9 : decode jdk_29_method_69_code 9 = .ok (.iload_n 1, 1) := by decide +kernel
theorem d18_10 : decode jdk_29_method_69_code 10 = .ok (.ireturn, 1) := by decide +kernel
theorem d19_0 : decode jdk_52_method_16_code 0 = .ok (.iload_n 2, 1) := by decide +kernel
theorem d19_1 : decode jdk_52_method_16_code 1 = .ok (.newarray .byte, 2) := by decide +kernel
theorem d19_3 : decode jdk_52_method_16_code 3 = .ok (.astore_n 3, 1) := by decide +kernel
theorem d19_4 : decode jdk_52_method_16_code 4 = .ok (.aload_n 0, 1) := by decide +kernel
theorem d19_5 : decode jdk_52_method_16_code 5 = .ok (.iload_n 1, 1) := by decide +kernel
theorem d19_6 : decode jdk_52_method_16_code 6 = .ok (.aload_n 3, 1) := by decide +kernel
theorem d19_7 : decode jdk_52_method_16_code 7 = .ok (.iconst 0, 1) := by decide +kernel
theorem d19_8 : decode jdk_52_method_16_code 8 = .ok (.iload_n 2, 1) := by decide +kernel
theorem d19_9 : decode jdk_52_method_16_code 9 = .ok (.invokestatic 115, 3) := by decide +kernel
theorem d19_12 : decode jdk_52_method_16_code 12 = .ok (.istore 4, 2) := by decide +kernel
theorem d19_14 : decode jdk_52_method_16_code 14 = .ok (.iload 4, 2) := by decide +kernel
theorem d19_16 : decode jdk_52_method_16_code 16 = .ok (.iload_n 2, 1) := by decide +kernel
theorem d19_17 : decode jdk_52_method_16_code 17 = .ok (.if_icmp .eq 40, 3) := by decide +kernel
theorem d19_57 : decode jdk_52_method_16_code 57 = .ok (.aload_n 3, 1) := by decide +kernel
theorem d19_58 : decode jdk_52_method_16_code 58 = .ok (.areturn, 1) := by decide +kernel
theorem d20_0 : decode jdk_52_method_21_code 0 = .ok (.iconst 0, 1) := by decide +kernel
theorem d20_1 : decode jdk_52_method_21_code 1 = .ok (.istore 5, 2) := by decide +kernel
theorem d20_3 : decode jdk_52_method_21_code 3 = .ok (.iload 5, 2) := by decide +kernel
theorem d20_5 : decode jdk_52_method_21_code 5 = .ok (.iload 4, 2) := by decide +kernel
theorem d20_7 : decode jdk_52_method_21_code 7 = .ok (.if_icmp .ge 37, 3) := by decide +kernel
theorem d20_10 : decode jdk_52_method_21_code 10 = .ok (.aload_n 0, 1) := by decide +kernel
theorem d20_11 : decode jdk_52_method_21_code 11 = .ok (.iload_n 1, 1) := by decide +kernel
theorem d20_12 : decode jdk_52_method_21_code 12 = .ok (.caload, 1) := by decide +kernel
theorem d20_13 : decode jdk_52_method_21_code 13 = .ok (.istore 6, 2) := by decide +kernel
theorem d20_15 : decode jdk_52_method_21_code 15 = .ok (.iload 6, 2) := by decide +kernel
theorem d20_17 : decode jdk_52_method_21_code 17 = .ok (.sipush 255, 3) := by decide +kernel
theorem d20_20 : decode jdk_52_method_21_code 20 = .ok (.if_icmp .le 6, 3) := by decide +kernel
theorem d20_26 : decode jdk_52_method_21_code 26 = .ok (.aload_n 2, 1) := by decide +kernel
theorem d20_27 : decode jdk_52_method_21_code 27 = .ok (.iload_n 3, 1) := by decide +kernel
theorem d20_28 : decode jdk_52_method_21_code 28 = .ok (.iload 6, 2) := by decide +kernel
theorem d20_30 : decode jdk_52_method_21_code 30 = .ok (.i2b, 1) := by decide +kernel
theorem d20_31 : decode jdk_52_method_21_code 31 = .ok (.bastore, 1) := by decide +kernel
theorem d20_32 : decode jdk_52_method_21_code 32 = .ok (.iinc 1 1, 3) := by decide +kernel
theorem d20_35 : decode jdk_52_method_21_code 35 = .ok (.iinc 3 1, 3) := by decide +kernel
theorem d20_38 : decode jdk_52_method_21_code 38 = .ok (.iinc 5 1, 3) := by decide +kernel
theorem d20_41 : decode jdk_52_method_21_code 41 = .ok (.goto (-38), 3) := by decide +kernel
theorem d20_44 : decode jdk_52_method_21_code 44 = .ok (.iload 4, 2) := by decide +kernel
theorem d20_46 : decode jdk_52_method_21_code 46 = .ok (.ireturn, 1) := by decide +kernel
theorem d21_0 : decode jdk_52_method_15_code 0 = .ok (.iload_n 1, 1) := by decide +kernel
theorem d21_1 : decode jdk_52_method_15_code 1 = .ok (.aload_n 0, 1) := by decide +kernel
theorem d21_2 : decode jdk_52_method_15_code 2 = .ok (.arraylength, 1) := by decide +kernel
theorem d21_3 : decode jdk_52_method_15_code 3 = .ok (.isub, 1) := by decide +kernel
theorem d21_4 : decode jdk_52_method_15_code 4 = .ok (.bipush 31, 2) := by decide +kernel
theorem d21_6 : decode jdk_52_method_15_code 6 = .ok (.iushr, 1) := by decide +kernel
theorem d21_7 : decode jdk_52_method_15_code 7 = .ok (.i2b, 1) := by decide +kernel
theorem d21_8 : decode jdk_52_method_15_code 8 = .ok (.ireturn, 1) := by decide +kernel
theorem d22_0 : decode jdk_42_method_56_code 0 = .ok (.aload_n 0, 1) := by decide +kernel
theorem d22_1 : decode jdk_42_method_56_code 1 = .ok (.invokevirtual 492, 3) := by decide +kernel
theorem d22_4 : decode jdk_42_method_56_code 4 = .ok (.ifCond .eq 12, 3) := by decide +kernel
theorem d22_7 : decode jdk_42_method_56_code 7 = .ok (.aload_n 0, 1) := by decide +kernel
theorem d22_8 : decode jdk_42_method_56_code 8 = .ok (.getfield 9, 3) := by decide +kernel
theorem d22_11 : decode jdk_42_method_56_code 11 = .ok (.iload_n 1, 1) := by decide +kernel
theorem d22_12 : decode jdk_42_method_56_code 12 = .ok (.invokestatic 495, 3) := by decide +kernel
theorem d22_15 : decode jdk_42_method_56_code 15 = .ok (.ireturn, 1) := by decide +kernel
theorem d23_0 : decode jdk_42_method_154_code 0 = .ok (.getstatic 38, 3) := by decide +kernel
theorem d23_3 : decode jdk_42_method_154_code 3 = .ok (.ifCond .eq 14, 3) := by decide +kernel
theorem d23_6 : decode jdk_42_method_154_code 6 = .ok (.aload_n 0, 1) := by decide +kernel
theorem d23_7 : decode jdk_42_method_154_code 7 = .ok (.getfield 15, 3) := by decide +kernel
theorem d23_10 : decode jdk_42_method_154_code 10 = .ok (.ifCond .ne 7, 3) := by decide +kernel
theorem d23_13 : decode jdk_42_method_154_code 13 = .ok (.iconst 1, 1) := by decide +kernel
theorem d23_14 : decode jdk_42_method_154_code 14 = .ok (.goto 4, 3) := by decide +kernel
theorem d23_18 : decode jdk_42_method_154_code 18 = .ok (.ireturn, 1) := by decide +kernel
theorem d24_0 : decode jdk_43_method_2_code 0 = .ok (.iload_n 1, 1) := by decide +kernel
theorem d24_1 : decode jdk_43_method_2_code 1 = .ok (.aload_n 0, 1) := by decide +kernel
theorem d24_2 : decode jdk_43_method_2_code 2 = .ok (.arraylength, 1) := by decide +kernel
theorem d24_3 : decode jdk_43_method_2_code 3 = .ok (.invokestatic 9, 3) := by decide +kernel
theorem d24_6 : decode jdk_43_method_2_code 6 = .ok (.aload_n 0, 1) := by decide +kernel
theorem d24_7 : decode jdk_43_method_2_code 7 = .ok (.iload_n 1, 1) := by decide +kernel
theorem d24_8 : decode jdk_43_method_2_code 8 = .ok (.baload, 1) := by decide +kernel
theorem d24_9 : decode jdk_43_method_2_code 9 = .ok (.sipush 255, 3) := by decide +kernel
theorem d24_12 : decode jdk_43_method_2_code 12 = .ok (.iand, 1) := by decide +kernel
theorem d24_13 : decode jdk_43_method_2_code 13 = .ok (.i2c, 1) := by decide +kernel
theorem d24_14 : decode jdk_43_method_2_code 14 = .ok (.ireturn, 1) := by decide +kernel
theorem d25_0 : decode jdk_42_method_155_code 0 = .ok (.iload_n 0, 1) := by decide +kernel
theorem d25_1 : decode jdk_42_method_155_code 1 = .ok (.iload_n 1, 1) := by decide +kernel
theorem d25_2 : decode jdk_42_method_155_code 2 = .ok (.getstatic 1053, 3) := by decide +kernel
theorem d25_5 : decode jdk_42_method_155_code 5 = .ok (.invokestatic 1059, 3) := by decide +kernel
theorem d25_8 : decode jdk_42_method_155_code 8 = .ok (.pop, 1) := by decide +kernel
theorem d25_9 : decode jdk_42_method_155_code 9 = .ok (.return_, 1) := by decide +kernel
theorem d26_0 : decode jdk_41_method_11_code 0 = .ok (.iload_n 0, 1) := by decide +kernel
theorem d26_1 : decode jdk_41_method_11_code 1 = .ok (.ifCond .lt 8, 3) := by decide +kernel
theorem d26_4 : decode jdk_41_method_11_code 4 = .ok (.iload_n 0, 1) := by decide +kernel
theorem d26_5 : decode jdk_41_method_11_code 5 = .ok (.iload_n 1, 1) := by decide +kernel
theorem d26_6 : decode jdk_41_method_11_code 6 = .ok (.if_icmp .lt 10, 3) := by decide +kernel
theorem d26_16 : decode jdk_41_method_11_code 16 = .ok (.iload_n 0, 1) := by decide +kernel
theorem d26_17 : decode jdk_41_method_11_code 17 = .ok (.ireturn, 1) := by decide +kernel
theorem d27_0 : decode jdk_67_method_14_code 0 = .ok (.aload_n 0, 1) := by decide +kernel
theorem d27_1 : decode jdk_67_method_14_code 1 = .ok (.iload_n 1, 1) := by decide +kernel
theorem d27_2 : decode jdk_67_method_14_code 2 = .ok (.invokespecial 50, 3) := by decide +kernel
theorem d27_5 : decode jdk_67_method_14_code 5 = .ok (.pop, 1) := by decide +kernel
theorem d27_6 : decode jdk_67_method_14_code 6 = .ok (.aload_n 0, 1) := by decide +kernel
theorem d27_7 : decode jdk_67_method_14_code 7 = .ok (.areturn, 1) := by decide +kernel
theorem d28_0 : decode jdk_68_method_31_code 0 = .ok (.aload_n 0, 1) := by decide +kernel
theorem d28_1 : decode jdk_68_method_31_code 1 = .ok (.aload_n 0, 1) := by decide +kernel
theorem d28_2 : decode jdk_68_method_31_code 2 = .ok (.getfield 79, 3) := by decide +kernel
theorem d28_5 : decode jdk_68_method_31_code 5 = .ok (.iconst 1, 1) := by decide +kernel
theorem d28_6 : decode jdk_68_method_31_code 6 = .ok (.iadd, 1) := by decide +kernel
theorem d28_7 : decode jdk_68_method_31_code 7 = .ok (.invokevirtual 100, 3) := by decide +kernel
theorem d28_10 : decode jdk_68_method_31_code 10 = .ok (.aload_n 0, 1) := by decide +kernel
theorem d28_11 : decode jdk_68_method_31_code 11 = .ok (.invokevirtual 83, 3) := by decide +kernel
theorem d28_14 : decode jdk_68_method_31_code 14 = .ok (.ifCond .eq 31, 3) := by decide +kernel
theorem d28_17 : decode jdk_68_method_31_code 17 = .ok (.iload_n 1, 1) := by decide +kernel
theorem d28_18 : decode jdk_68_method_31_code 18 = .ok (.invokestatic 191, 3) := by decide +kernel
theorem d28_21 : decode jdk_68_method_31_code 21 = .ok (.ifCond .eq 24, 3) := by decide +kernel
theorem d28_24 : decode jdk_68_method_31_code 24 = .ok (.aload_n 0, 1) := by decide +kernel
theorem d28_25 : decode jdk_68_method_31_code 25 = .ok (.getfield 15, 3) := by decide +kernel
theorem d28_28 : decode jdk_68_method_31_code 28 = .ok (.aload_n 0, 1) := by decide +kernel
theorem d28_29 : decode jdk_68_method_31_code 29 = .ok (.dup, 1) := by decide +kernel
theorem d28_30 : decode jdk_68_method_31_code 30 = .ok (.getfield 79, 3) := by decide +kernel
theorem d28_33 : decode jdk_68_method_31_code 33 = .ok (.dup_x1, 1) := by decide +kernel
theorem d28_34 : decode jdk_68_method_31_code 34 = .ok (.iconst 1, 1) := by decide +kernel
theorem d28_35 : decode jdk_68_method_31_code 35 = .ok (.iadd, 1) := by decide +kernel
theorem d28_36 : decode jdk_68_method_31_code 36 = .ok (.putfield 79, 3) := by decide +kernel
theorem d28_39 : decode jdk_68_method_31_code 39 = .ok (.iload_n 1, 1) := by decide +kernel
theorem d28_40 : decode jdk_68_method_31_code 40 = .ok (.i2b, 1) := by decide +kernel
theorem d28_41 : decode jdk_68_method_31_code 41 = .ok (.bastore, 1) := by decide +kernel
theorem d28_42 : decode jdk_68_method_31_code 42 = .ok (.goto 33, 3) := by decide +kernel
theorem d28_75 : decode jdk_68_method_31_code 75 = .ok (.aload_n 0, 1) := by decide +kernel
theorem d28_76 : decode jdk_68_method_31_code 76 = .ok (.areturn, 1) := by decide +kernel
theorem d29_0 : decode jdk_68_method_9_code 0 = .ok (.aload_n 0, 1) := by decide +kernel
theorem d29_1 : decode jdk_68_method_9_code 1 = .ok (.getfield 15, 3) := by decide +kernel
theorem d29_4 : decode jdk_68_method_9_code 4 = .ok (.arraylength, 1) := by decide +kernel
theorem d29_5 : decode jdk_68_method_9_code 5 = .ok (.aload_n 0, 1) := by decide +kernel
theorem d29_6 : decode jdk_68_method_9_code 6 = .ok (.getfield 22, 3) := by decide +kernel
theorem d29_9 : decode jdk_68_method_9_code 9 = .ok (.ishr, 1) := by decide +kernel
theorem d29_10 : decode jdk_68_method_9_code 10 = .ok (.istore_n 2, 1) := by decide +kernel
theorem d29_11 : decode jdk_68_method_9_code 11 = .ok (.iload_n 1, 1) := by decide +kernel
theorem d29_12 : decode jdk_68_method_9_code 12 = .ok (.iload_n 2, 1) := by decide +kernel
theorem d29_13 : decode jdk_68_method_9_code 13 = .ok (.isub, 1) := by decide +kernel
theorem d29_14 : decode jdk_68_method_9_code 14 = .ok (.ifCond .le 24, 3) := by decide +kernel
theorem d29_38 : decode jdk_68_method_9_code 38 = .ok (.return_, 1) := by decide +kernel
theorem d30_0 : decode jdk_43_method_3_code 0 = .ok (.iload_n 0, 1) := by decide +kernel
theorem d30_1 : decode jdk_43_method_3_code 1 = .ok (.sipush 255, 3) := by decide +kernel
theorem d30_4 : decode jdk_43_method_3_code 4 = .ok (.if_icmp .gt 7, 3) := by decide +kernel
theorem d30_7 : decode jdk_43_method_3_code 7 = .ok (.iconst 1, 1) := by decide +kernel
theorem d30_8 : decode jdk_43_method_3_code 8 = .ok (.goto 4, 3) := by decide +kernel
theorem d30_12 : decode jdk_43_method_3_code 12 = .ok (.ireturn, 1) := by decide +kernel
theorem d31_0 : decode method_3_code 0 = .ok (.iload_n 0, 1) := by decide +kernel
theorem d31_1 : decode method_3_code 1 = .ok (.sipush 128, 3) := by decide +kernel
theorem d31_4 : decode method_3_code 4 = .ok (.if_icmp .ge 7, 3) := by decide +kernel
theorem d31_7 : decode method_3_code 7 = .ok (.iconst 1, 1) := by decide +kernel
theorem d31_8 : decode method_3_code 8 = .ok (.goto 4, 3) := by decide +kernel
theorem d31_11 : decode method_3_code 11 = .ok (.iconst 3, 1) := by decide +kernel
theorem d31_12 : decode method_3_code 12 = .ok (.ireturn, 1) := by decide +kernel
theorem d32_0 : decode method_5_code 0 = .ok (.iload_n 2, 1) := by decide +kernel
theorem d32_1 : decode method_5_code 1 = .ok (.sipush 128, 3) := by decide +kernel
theorem d32_4 : decode method_5_code 4 = .ok (.if_icmp .ge 18, 3) := by decide +kernel
theorem d32_7 : decode method_5_code 7 = .ok (.aload_n 0, 1) := by decide +kernel
theorem d32_8 : decode method_5_code 8 = .ok (.iload_n 1, 1) := by decide +kernel
theorem d32_9 : decode method_5_code 9 = .ok (.invokevirtual 33, 3) := by decide +kernel
theorem d32_12 : decode method_5_code 12 = .ok (.iload_n 2, 1) := by decide +kernel
theorem d32_13 : decode method_5_code 13 = .ok (.if_icmp .ne 7, 3) := by decide +kernel
theorem d32_16 : decode method_5_code 16 = .ok (.iconst 1, 1) := by decide +kernel
theorem d32_17 : decode method_5_code 17 = .ok (.goto 4, 3) := by decide +kernel
theorem d32_21 : decode method_5_code 21 = .ok (.ireturn, 1) := by decide +kernel
theorem d32_22 : decode method_5_code 22 = .ok (.aload_n 0, 1) := by decide +kernel
theorem d32_23 : decode method_5_code 23 = .ok (.iload_n 1, 1) := by decide +kernel
theorem d32_24 : decode method_5_code 24 = .ok (.invokevirtual 33, 3) := by decide +kernel
theorem d32_27 : decode method_5_code 27 = .ok (.bipush 37, 2) := by decide +kernel
theorem d32_29 : decode method_5_code 29 = .ok (.if_icmp .ne 40, 3) := by decide +kernel
theorem d32_32 : decode method_5_code 32 = .ok (.aload_n 0, 1) := by decide +kernel
theorem d32_33 : decode method_5_code 33 = .ok (.iload_n 1, 1) := by decide +kernel
theorem d32_34 : decode method_5_code 34 = .ok (.iconst 1, 1) := by decide +kernel
theorem d32_35 : decode method_5_code 35 = .ok (.iadd, 1) := by decide +kernel
theorem d32_36 : decode method_5_code 36 = .ok (.invokevirtual 33, 3) := by decide +kernel
theorem d32_39 : decode method_5_code 39 = .ok (.iload_n 2, 1) := by decide +kernel
theorem d32_40 : decode method_5_code 40 = .ok (.iconst 4, 1) := by decide +kernel
theorem d32_41 : decode method_5_code 41 = .ok (.ishr, 1) := by decide +kernel
theorem d32_42 : decode method_5_code 42 = .ok (.invokestatic 37, 3) := by decide +kernel
theorem d32_45 : decode method_5_code 45 = .ok (.if_icmp .ne 24, 3) := by decide +kernel
theorem d32_48 : decode method_5_code 48 = .ok (.aload_n 0, 1) := by decide +kernel
theorem d32_49 : decode method_5_code 49 = .ok (.iload_n 1, 1) := by decide +kernel
theorem d32_50 : decode method_5_code 50 = .ok (.iconst 2, 1) := by decide +kernel
theorem d32_51 : decode method_5_code 51 = .ok (.iadd, 1) := by decide +kernel
theorem d32_52 : decode method_5_code 52 = .ok (.invokevirtual 33, 3) := by decide +kernel
theorem d32_55 : decode method_5_code 55 = .ok (.iload_n 2, 1) := by decide +kernel
theorem d32_56 : decode method_5_code 56 = .ok (.bipush 15, 2) := by decide +kernel
theorem d32_58 : decode method_5_code 58 = .ok (.iand, 1) := by decide +kernel
theorem d32_59 : decode method_5_code 59 = .ok (.invokestatic 37, 3) := by decide +kernel
theorem d32_62 : decode method_5_code 62 = .ok (.if_icmp .ne 7, 3) := by decide +kernel
theorem d32_65 : decode method_5_code 65 = .ok (.iconst 1, 1) := by decide +kernel
theorem d32_66 : decode method_5_code 66 = .ok (.goto 4, 3) := by decide +kernel
theorem d32_70 : decode method_5_code 70 = .ok (.ireturn, 1) := by decide +kernel
theorem d33_0 : decode prog_24_method_11_code 0 = .ok (.aload_n 0, 1) := by decide +kernel
theorem d33_1 : decode prog_24_method_11_code 1 = .ok (.bipush 37, 2) := by decide +kernel
theorem d33_3 : decode prog_24_method_11_code 3 = .ok (.invokevirtual 380, 3) := by decide +kernel
theorem d33_6 : decode prog_24_method_11_code 6 = .ok (.getstatic 390, 3) := by decide +kernel
theorem d33_9 : decode prog_24_method_11_code 9 = .ok (.iload_n 1, 1) := by decide +kernel
theorem d33_10 : decode prog_24_method_11_code 10 = .ok (.iconst 4, 1) := by decide +kernel
theorem d33_11 : decode prog_24_method_11_code 11 = .ok (.ishr, 1) := by decide +kernel
theorem d33_12 : decode prog_24_method_11_code 12 = .ok (.caload, 1) := by decide +kernel
theorem d33_13 : decode prog_24_method_11_code 13 = .ok (.invokevirtual 380, 3) := by decide +kernel
theorem d33_16 : decode prog_24_method_11_code 16 = .ok (.getstatic 390, 3) := by decide +kernel
theorem d33_19 : decode prog_24_method_11_code 19 = .ok (.iload_n 1, 1) := by decide +kernel
theorem d33_20 : decode prog_24_method_11_code 20 = .ok (.bipush 15, 2) := by decide +kernel
theorem d33_22 : decode prog_24_method_11_code 22 = .ok (.iand, 1) := by decide +kernel
theorem d33_23 : decode prog_24_method_11_code 23 = .ok (.caload, 1) := by decide +kernel
theorem d33_24 : decode prog_24_method_11_code 24 = .ok (.invokevirtual 380, 3) := by decide +kernel
theorem d33_27 : decode prog_24_method_11_code 27 = .ok (.pop, 1) := by decide +kernel
theorem d33_28 : decode prog_24_method_11_code 28 = .ok (.return_, 1) := by decide +kernel
theorem d34_0 : decode method_4_code 0 = .ok (.iload_n 0, 1) := by decide +kernel
theorem d34_1 : decode method_4_code 1 = .ok (.bipush 10, 2) := by decide +kernel
theorem d34_3 : decode method_4_code 3 = .ok (.if_icmp .ge 11, 3) := by decide +kernel
theorem d34_6 : decode method_4_code 6 = .ok (.bipush 48, 2) := by decide +kernel
theorem d34_8 : decode method_4_code 8 = .ok (.iload_n 0, 1) := by decide +kernel
theorem d34_9 : decode method_4_code 9 = .ok (.iadd, 1) := by decide +kernel
theorem d34_10 : decode method_4_code 10 = .ok (.i2c, 1) := by decide +kernel
theorem d34_11 : decode method_4_code 11 = .ok (.goto 11, 3) := by decide +kernel
theorem d34_14 : decode method_4_code 14 = .ok (.bipush 65, 2) := by decide +kernel
theorem d34_16 : decode method_4_code 16 = .ok (.iload_n 0, 1) := by decide +kernel
theorem d34_17 : decode method_4_code 17 = .ok (.bipush 10, 2) := by decide +kernel
theorem d34_19 : decode method_4_code 19 = .ok (.isub, 1) := by decide +kernel
theorem d34_20 : decode method_4_code 20 = .ok (.iadd, 1) := by decide +kernel
theorem d34_21 : decode method_4_code 21 = .ok (.i2c, 1) := by decide +kernel
theorem d34_22 : decode method_4_code 22 = .ok (.ireturn, 1) := by decide +kernel
theorem pd_0 : parseMethodDescriptor "()B" = some ⟨[], (some .byte)⟩ := by decide +kernel
theorem pd_1 : parseMethodDescriptor "([CI[BII)I" = some ⟨[(.array .char), .int, (.array .byte), .int, .int], (some .int)⟩ := by decide +kernel
theorem pd_2 : parseMethodDescriptor "([CII)[B" = some ⟨[(.array .char), .int, .int], (some (.array .byte))⟩ := by decide +kernel
theorem pd_3 : parseMethodDescriptor "([BI)B" = some ⟨[(.array .byte), .int], (some .byte)⟩ := by decide +kernel
theorem pd_4 : parseMethodDescriptor "([CIILjava/lang/Void;)V" = some ⟨[(.array .char), .int, .int, (.object "java/lang/Void")], none⟩ := by decide +kernel
theorem pd_5 : parseMethodDescriptor "(I)V" = some ⟨[.int], none⟩ := by decide +kernel
theorem pd_6 : parseMethodDescriptor "(II)V" = some ⟨[.int, .int], none⟩ := by decide +kernel
theorem pd_7 : parseMethodDescriptor "(II)I" = some ⟨[.int, .int], (some .int)⟩ := by decide +kernel
theorem pd_8 : parseMethodDescriptor "([BII)[B" = some ⟨[(.array .byte), .int, .int], (some (.array .byte))⟩ := by decide +kernel
theorem pd_9 : parseMethodDescriptor "()I" = some ⟨[], (some .int)⟩ := by decide +kernel
theorem pd_10 : parseMethodDescriptor "()[B" = some ⟨[], (some (.array .byte))⟩ := by decide +kernel
theorem pd_11 : parseMethodDescriptor "()Z" = some ⟨[], (some .boolean)⟩ := by decide +kernel
theorem pd_12 : parseMethodDescriptor "(Ljava/lang/AbstractStringBuilder;Ljava/lang/Void;)V" = some ⟨[(.object "java/lang/AbstractStringBuilder"), (.object "java/lang/Void")], none⟩ := by decide +kernel
theorem pd_13 : parseMethodDescriptor "(Ljava/lang/StringBuilder;)V" = some ⟨[(.object "java/lang/StringBuilder")], none⟩ := by decide +kernel
theorem pd_14 : parseMethodDescriptor "(IILjava/util/function/BiFunction;)I" = some ⟨[.int, .int, (.object "java/util/function/BiFunction")], (some .int)⟩ := by decide +kernel
theorem pd_15 : parseMethodDescriptor "([BI)C" = some ⟨[(.array .byte), .int], (some .char)⟩ := by decide +kernel
theorem pd_16 : parseMethodDescriptor "(C)Z" = some ⟨[.char], (some .boolean)⟩ := by decide +kernel
theorem pd_17 : parseMethodDescriptor "(C)Ljava/lang/AbstractStringBuilder;" = some ⟨[.char], (some (.object "java/lang/AbstractStringBuilder"))⟩ := by decide +kernel
theorem pd_18 : parseMethodDescriptor "(C)Ljava/lang/StringBuilder;" = some ⟨[.char], (some (.object "java/lang/StringBuilder"))⟩ := by decide +kernel
theorem pd_19 : parseMethodDescriptor "()Ljava/lang/String;" = some ⟨[], (some (.object "java/lang/String"))⟩ := by decide +kernel
theorem pd_20 : parseMethodDescriptor "(I)C" = some ⟨[.int], (some .char)⟩ := by decide +kernel
theorem pd_21 : parseMethodDescriptor "(Ljava/lang/StringBuilder;C)V" = some ⟨[(.object "java/lang/StringBuilder"), .char], none⟩ := by decide +kernel
theorem pd_22 : parseMethodDescriptor "([C)V" = some ⟨[(.array .char)], none⟩ := by decide +kernel
theorem pd_23 : parseMethodDescriptor "(Ljava/lang/String;)Ljava/lang/String;" = some ⟨[(.object "java/lang/String")], (some (.object "java/lang/String"))⟩ := by decide +kernel
theorem pd_24 : parseMethodDescriptor "(C)I" = some ⟨[.char], (some .int)⟩ := by decide +kernel
theorem pd_25 : parseMethodDescriptor "(Ljava/lang/String;IC)Z" = some ⟨[(.object "java/lang/String"), .int, .char], (some .boolean)⟩ := by decide +kernel
set_option maxRecDepth 65536 in
set_option maxHeartbeats 4000000 in
theorem rm_coder {l : Launch} {Z : State} {a0 : Array Value} (H : Wd Z a0) {h : Heap} {a : Addr} (C : Fld Z h a ST "coder" "B" (.int 0)) : Met l Z (⟨"java/lang/String", "coder", "()B"⟩ : MethodName) jdk_42_method_152_code 1 (some .byte) ({ frames := 0, cells := 0, slots := 0, locals := 0 } : Room) h [] #[.ref a] (fun v h' G => v = some (.int 0) ∧ h = h') := by
  refine Met.mk (L := #[.val (.ref a)]) (by decide +kernel) (fun m => by first | (simp [entryFrame, mkF, argsToLocals, Value.category]; done) | rfl) (fun K => ?_)
  show Go _ _ K "java/lang/String" "coder" _ _ _ _ _ _ _ _ _ 0 _ _
  obtain ⟨cz, Sz, nz⟩ := H.2.2.2.1
  refine go_getstatic (v := .int cz) (q := 3) (w_40 H) Via.refl Sz d5_0 rfl ?_
  refine go_ifN (q := 6) d5_3 nz rfl ?_
  refine go_aloadN (v := .ref a) (q := 7) d5_6 rfl rfl rfl ?_
  refine go_getfield (v := .int 0) (q := 10) (w_22 H) Via.refl C d5_7 rfl ?_
  refine go_goto (q := 14) d5_10 (by decide) (by decide) ?_
  exact go_ireturn H (G := []) (t := .byte) rfl (by decide) rfl d5_14 (by decide) (by decide) (fun _ q => nomatch q) ⟨rfl, rfl⟩
set_option maxRecDepth 65536 in
set_option maxHeartbeats 4000000 in
theorem rm_len {l : Launch} {Z : State} {a0 : Array Value} (H : Wd Z a0) {h : Heap} {F : List Addr} {a : Addr} {cs : List Int32} (S : Str Z h F a cs) : Met l Z (⟨"java/lang/String", "length", "()I"⟩ : MethodName) jdk_42_method_54_code 1 (some .int) ({ frames := 1, cells := 0, slots := 0, locals := 13 } : Room) h [] #[.ref a] (fun v h' G => v = some (.int (Int32.ofNat cs.length)) ∧ h = h') := by
  refine Met.mk (L := #[.val (.ref a)]) (by decide +kernel) (fun m => by first | (simp [entryFrame, mkF, argsToLocals, Value.category]; done) | rfl) (fun K => ?_)
  show Go _ _ K "java/lang/String" "length" _ _ _ _ _ _ _ _ _ 0 _ _
  obtain ⟨E, C, ha, hl, bb, k, hb, Vv, A⟩ := S
  refine go_aloadN (v := .ref a) (q := 1) d4_0 rfl rfl rfl ?_
  refine go_getfield (v := .ref bb) (q := 4) (w_21 H) Via.refl Vv d4_1 rfl ?_
  refine go_arraylength (z := Int32.ofNat cs.length) (q := 5) A d4_4 rfl ?_
  refine go_aloadN (v := .ref a) (q := 6) d4_5 rfl rfl rfl ?_
  refine go_virtual (c' := 0) (s' := 0) (q := 9) (S := [.int (Int32.ofNat cs.length)]) (argsL := []) H (C := "java/lang/String") (w_35 H) (w_36 H) (nf_self (w_38 H)) (w_38 H) (w_37 H) (w_4 H) (w_39 H) (by decide) E (rm_coder H C) rfl rfl (lenOf pd_0 rfl) (fun _ q => nomatch q) rfl (by decide) (Nat.le_of_ble_eq_true rfl) rfl rfl (by decide) (by decide) d4_6 rfl ?_
  rintro _ _ G - ⟨rfl, rfl⟩
  refine nx_ (v := none) ?_
  show Go _ _ _ _ _ _ _ _ _ _ _ _ _ _ 9 #[.val (.ref a)] [.int 0, .int (Int32.ofNat cs.length)]
  refine go_ishr (r := Int32.ofNat cs.length) (q := 10) d4_9 (shr0 _) rfl ?_
  exact go_ireturn H (G := []) (t := .int) rfl (by decide) rfl d4_10 (by decide) (by decide) (fun _ q => nomatch q) ⟨rfl, rfl⟩
theorem bts_set {cs : List Int32} {i : Nat} (hi : i < cs.length) : (bts (cs.take i) ++ List.replicate (cs.length - i) (Value.int 0)).set i (.int (cs[i].toInt8.toInt32)) = bts (cs.take (i + 1)) ++ List.replicate (cs.length - (i + 1)) (Value.int 0) := by
  have hl : (bts (cs.take i)).length = i := by simp; omega
  rw [List.set_append_right _ _ (by omega), hl, Nat.sub_self]
  obtain ⟨m, hm⟩ : ∃ m, cs.length - i = m + 1 := ⟨cs.length - i - 1, by omega⟩
  rw [hm, show cs.length - (i + 1) = m by omega, List.replicate_succ, List.set_cons_zero, List.take_succ_eq_append_getElem hi]
  simp only [bts, List.map_append, List.map_cons, List.map_nil, List.append_assoc, List.singleton_append]

set_option maxRecDepth 65536 in
set_option maxHeartbeats 4000000 in
theorem lp_cmp5 {l : Launch} {Z : State} {a0 : Array Value} (H : Wd Z a0) {K : Cx} {h : Heap} {ca ba : Addr} {kc kb : ClassId} {cs : List Int32} (A : Arv Z h ca kc .char (Int32.ofNat cs.length) (ints cs) (.int 0)) (hl : Lat cs) (hne : ca ≠ ba) : ∀ (n i : Nat) (x6 : Slot) (h1 : Heap), n + i = cs.length → One x6 → Keep h h1 [ba] → Arv Z h1 ba kb .byte (Int32.ofNat cs.length) (bts (cs.take i) ++ List.replicate (cs.length - i) (.int 0)) (.int 0) → Go l Z K "java/lang/StringUTF16" "compress" jdk_52_method_21_code 7 (some .int) ({ frames := 0, cells := 0, slots := 0, locals := 0 } : Room) (fun v h' G => v = some (.int (Int32.ofNat cs.length)) ∧ Keep h h' [ba] ∧ Arv Z h' ba kb .byte (Int32.ofNat cs.length) (bts cs) (.int 0)) h1 [ba] 0 0 3 #[.val (.ref ca), .val (.int (Int32.ofNat i)), .val (.ref ba), .val (.int (Int32.ofNat i)), .val (.int (Int32.ofNat cs.length)), .val (.int (Int32.ofNat i)), x6] []

  | 0, i, x6, h1, hn, h6, K1, V1 => by
    obtain rfl : i = cs.length := by omega
    refine go_iload (v := (Int32.ofNat cs.length)) (q := 5) d20_3 rfl rfl ?_
    refine go_iload (v := (Int32.ofNat cs.length)) (q := 7) d20_5 rfl rfl ?_
    refine go_icY (q := 44) d20_7 (show ¬ Int32.ofNat cs.length < Int32.ofNat cs.length from Int32.lt_irrefl) (by decide) (by decide) ?_
    refine go_iload (v := (Int32.ofNat cs.length)) (q := 46) d20_44 rfl rfl ?_
    have V1 : Arv Z h1 ba kb .byte (Int32.ofNat cs.length) (bts cs) (.int 0) := by simpa using V1
    exact go_ireturn H (G := []) (t := .int) rfl (by decide) rfl d20_46 (by decide) (by decide) (fun _ q => nomatch q) ⟨rfl, K1, V1⟩
  | n + 1, i, x6, h1, hn, h6, K1, V1 => by
    have hi : i < cs.length := by omega
    have hb := hl.1
    have hc := hl.2 cs[i] (List.getElem_mem hi)
    refine go_iload (v := (Int32.ofNat i)) (q := 5) d20_3 rfl rfl ?_
    refine go_iload (v := (Int32.ofNat cs.length)) (q := 7) d20_5 rfl rfl ?_
    refine go_icN (q := 10) d20_7 ((lt_ofNat (by omega) (by omega)).mpr hi) rfl ?_
    refine go_aloadN (v := .ref ca) (q := 11) d20_10 rfl rfl rfl ?_
    refine go_iloadN (v := (Int32.ofNat i)) (q := 12) d20_11 rfl rfl ?_
    refine go_caload (v := .int (cs[i])) (q := 13) (A.keep K1 (ninS hne nin0)) ⟨nn_ofNat (by omega), (lt_ofNat (by omega) (by omega)).mpr hi⟩ (by rw [cl_ofNat (by omega)]; simp [ints, hi]) d20_12 rfl ?_
    refine go_istoreO (L' := #[.val (.ref ca), .val (.int (Int32.ofNat i)), .val (.ref ba), .val (.int (Int32.ofNat i)), .val (.int (Int32.ofNat cs.length)), .val (.int (Int32.ofNat i)), .val (.int (cs[i]))]) (q := 15) d20_13 rfl h6 rfl rfl ?_
    refine go_iload (v := cs[i]) (q := 17) d20_15 rfl rfl ?_
    refine go_sipush (x := (255 : Int32)) (q := 20) d20_17 rfl rfl ?_
    refine go_icY (q := 26) d20_20 (show ¬ (255 : Int32) < cs[i] from hc.2) (by decide) (by decide) ?_
    refine go_aloadN (v := .ref ba) (q := 27) d20_26 rfl rfl rfl ?_
    refine go_iloadN (v := (Int32.ofNat i)) (q := 28) d20_27 rfl rfl ?_
    refine go_iload (v := cs[i]) (q := 30) d20_28 rfl rfl ?_
    refine go_i2b (r := (cs[i]).toInt8.toInt32) (q := 31) d20_30 rfl rfl ?_
    refine go_bastore (i := i) (y := cs[i].toInt8.toInt32) (q := 32) V1 ⟨nn_ofNat (by omega), (lt_ofNat (by omega) (by omega)).mpr hi⟩ (cl_ofNat (by omega)) (by simp; omega) (by simp) (show (cs[i].toInt8.toInt32).toInt8.toInt32 = cs[i].toInt8.toInt32 by simp) d20_31 rfl ?_
    intro h2 K2 z2 V2
    rw [bts_set hi] at V2
    refine go_iinc (x := (Int32.ofNat i)) (y := (Int32.ofNat (i + 1))) (L' := #[.val (.ref ca), .val (.int (Int32.ofNat (i + 1))), .val (.ref ba), .val (.int (Int32.ofNat i)), .val (.int (Int32.ofNat cs.length)), .val (.int (Int32.ofNat i)), .val (.int (cs[i]))]) (q := 35) d20_32 rfl add1_ofNat rfl rfl ?_
    refine go_iinc (x := (Int32.ofNat i)) (y := (Int32.ofNat (i + 1))) (L' := #[.val (.ref ca), .val (.int (Int32.ofNat (i + 1))), .val (.ref ba), .val (.int (Int32.ofNat (i + 1))), .val (.int (Int32.ofNat cs.length)), .val (.int (Int32.ofNat i)), .val (.int (cs[i]))]) (q := 38) d20_35 rfl add1_ofNat rfl rfl ?_
    refine go_iinc (x := (Int32.ofNat i)) (y := (Int32.ofNat (i + 1))) (L' := #[.val (.ref ca), .val (.int (Int32.ofNat (i + 1))), .val (.ref ba), .val (.int (Int32.ofNat (i + 1))), .val (.int (Int32.ofNat cs.length)), .val (.int (Int32.ofNat (i + 1))), .val (.int (cs[i]))]) (q := 41) d20_38 rfl add1_ofNat rfl rfl ?_
    refine go_goto (q := 3) d20_41 (by decide) (by decide) ?_
    exact lp_cmp5 H A hl hne n (i + 1) _ h2 (by omega) (One.val rfl) (K1.trans K2 (fun x q => Or.inl q)) V2
set_option maxRecDepth 65536 in
set_option maxHeartbeats 4000000 in
theorem rm_cmp5 {l : Launch} {Z : State} {a0 : Array Value} (H : Wd Z a0) {h : Heap} {ca ba : Addr} {kc kb : ClassId} {cs : List Int32} (A : Arv Z h ca kc .char (Int32.ofNat cs.length) (ints cs) (.int 0)) (V : Arv Z h ba kb .byte (Int32.ofNat cs.length) (List.replicate cs.length (.int 0)) (.int 0)) (hl : Lat cs) (hne : ca ≠ ba) : Met l Z (⟨"java/lang/StringUTF16", "compress", "([CI[BII)I"⟩ : MethodName) jdk_52_method_21_code 7 (some .int) ({ frames := 0, cells := 0, slots := 0, locals := 0 } : Room) h [ba] #[.ref ca, .int 0, .ref ba, .int 0, .int (Int32.ofNat cs.length)] (fun v h' G => v = some (.int (Int32.ofNat cs.length)) ∧ Keep h h' [ba] ∧ Arv Z h' ba kb .byte (Int32.ofNat cs.length) (bts cs) (.int 0)) := by
  refine Met.mk (L := #[.val (.ref ca), .val (.int 0), .val (.ref ba), .val (.int 0), .val (.int (Int32.ofNat cs.length)), .unset, .unset]) (by decide +kernel) (fun m => by first | (simp [entryFrame, mkF, argsToLocals, Value.category]; done) | rfl) (fun K => ?_)
  show Go _ _ K "java/lang/StringUTF16" "compress" _ _ _ _ _ _ _ _ _ 0 _ _
  refine go_iconst (x := (0 : Int32)) (q := 1) d20_0 rfl rfl ?_
  refine go_istore (L' := #[.val (.ref ca), .val (.int 0), .val (.ref ba), .val (.int 0), .val (.int (Int32.ofNat cs.length)), .val (.int (0 : Int32)), .unset]) (q := 3) d20_1 rfl rfl ?_
  exact lp_cmp5 H A hl hne cs.length 0 _ h (by omega) One.u (Keep.refl _ _) (by simpa using V)
set_option maxRecDepth 65536 in
set_option maxHeartbeats 4000000 in
theorem rm_cmp3 {l : Launch} {Z : State} {a0 : Array Value} (H : Wd Z a0) {h : Heap} {ca : Addr} {kc : ClassId} {cs : List Int32} (A : Arv Z h ca kc .char (Int32.ofNat cs.length) (ints cs) (.int 0)) (hl : Lat cs) (hn : cs.length ≤ 16) : Met l Z (⟨"java/lang/StringUTF16", "compress", "([CII)[B"⟩ : MethodName) jdk_52_method_16_code 6 (some (.array .byte)) ({ frames := 1, cells := 1, slots := 16, locals := 18 } : Room) h [] #[.ref ca, .int 0, .int (Int32.ofNat cs.length)] (fun v h' G => ∃ ba kb, v = some (.ref ba) ∧ h.size ≤ ba ∧ Keep h h' [] ∧ Arv Z h' ba kb .byte (Int32.ofNat cs.length) (bts cs) (.int 0)) := by
  refine Met.mk (L := #[.val (.ref ca), .val (.int 0), .val (.int (Int32.ofNat cs.length)), .unset, .unset, .unset]) (by decide +kernel) (fun m => by first | (simp [entryFrame, mkF, argsToLocals, Value.category]; done) | rfl) (fun K => ?_)
  show Go _ _ K "java/lang/StringUTF16" "compress" _ _ _ _ _ _ _ _ _ 0 _ _
  refine go_iloadN (v := (Int32.ofNat cs.length)) (q := 1) d19_0 rfl rfl ?_
  refine go_newarray (ty := .byte) (dv := .int 0) (n := cs.length) (cap := 16) (ad := "[B") (c' := 1) (s' := 16) (q := 3) rfl rfl (cl_ofNat (by have := hl.1; omega)) (w_16 H) d19_1 (nn_ofNat (by have := hl.1; omega)) hn (by decide) rfl rfl rfl rfl (by decide) (by decide) ?_
  intro h1 ba kb g1 E1 V1 X1
  refine go_astoreN (L' := #[.val (.ref ca), .val (.int 0), .val (.int (Int32.ofNat cs.length)), .val (.ref ba), .unset, .unset]) (q := 4) d19_3 rfl rfl rfl ?_
  refine go_aloadN (v := .ref ca) (q := 5) d19_4 rfl rfl rfl ?_
  refine go_iloadN (v := 0) (q := 6) d19_5 rfl rfl ?_
  refine go_aloadN (v := .ref ba) (q := 7) d19_6 rfl rfl rfl ?_
  refine go_iconst (x := (0 : Int32)) (q := 8) d19_7 rfl rfl ?_
  refine go_iloadN (v := (Int32.ofNat cs.length)) (q := 9) d19_8 rfl rfl ?_
  have ne : ca ≠ ba := fun q => absurd A.lt (by rw [q, g1]; exact Nat.lt_irrefl _)
  refine go_static (c' := 1) (s' := 16) (q := 12) (S := []) (argsL := [.ref ca, .int 0, .ref ba, .int (0 : Int32), .int (Int32.ofNat cs.length)]) H (w_112 H) (w_113 H) (w_110 H) (w_114 H) (by decide) (rm_cmp5 H (A.ext E1) V1 hl ne) rfl rfl (lenOf pd_1 rfl) (fun _ q => q) rfl (by decide) (Nat.le_of_ble_eq_true rfl) rfl rfl (by decide) (by decide) d19_9 rfl ?_
  rintro _ h2 G - ⟨rfl, K2, V2⟩
  refine nx_ (v := none) ?_
  show Go _ _ _ _ _ _ _ _ _ _ _ _ _ _ 12 #[.val (.ref ca), .val (.int 0), .val (.int (Int32.ofNat cs.length)), .val (.ref ba), .unset, .unset] [.int (Int32.ofNat cs.length)]
  refine go_istore (L' := #[.val (.ref ca), .val (.int 0), .val (.int (Int32.ofNat cs.length)), .val (.ref ba), .val (.int (Int32.ofNat cs.length)), .unset]) (q := 14) d19_12 rfl rfl ?_
  refine go_iload (v := (Int32.ofNat cs.length)) (q := 16) d19_14 rfl rfl ?_
  refine go_iloadN (v := (Int32.ofNat cs.length)) (q := 17) d19_16 rfl rfl ?_
  refine go_icY (q := 57) d19_17 rfl (by decide) (by decide) ?_
  refine go_aloadN (v := .ref ba) (q := 58) d19_57 rfl rfl rfl ?_
  exact go_areturn H (G := []) (t := (.array .byte)) rfl rfl rfl d19_58 (by decide) (by decide) (fun _ q => nomatch q) ⟨ba, kb, rfl, by rw [g1]; exact Nat.le_refl _, ((Keep.refl h []).ext E1).trans K2 (fun x q => by cases List.mem_singleton.mp q; exact Or.inr (by rw [g1]; exact Nat.le_refl _)), V2⟩
set_option maxRecDepth 65536 in
set_option maxHeartbeats 4000000 in
theorem rm_codL {l : Launch} {Z : State} {a0 : Array Value} (H : Wd Z a0) {h : Heap} {ba : Addr} {kb : ClassId} {z : Int32} {vs : List Value} {dv : Value} (A : Arv Z h ba kb .byte z vs dv) : Met l Z (⟨"java/lang/StringUTF16", "coderFromArrayLen", "([BI)B"⟩ : MethodName) jdk_52_method_15_code 2 (some .byte) ({ frames := 0, cells := 0, slots := 0, locals := 0 } : Room) h [] #[.ref ba, .int z] (fun v h' G => v = some (.int 0) ∧ h = h') := by
  refine Met.mk (L := #[.val (.ref ba), .val (.int z)]) (by decide +kernel) (fun m => by first | (simp [entryFrame, mkF, argsToLocals, Value.category]; done) | rfl) (fun K => ?_)
  show Go _ _ K "java/lang/StringUTF16" "coderFromArrayLen" _ _ _ _ _ _ _ _ _ 0 _ _
  refine go_iloadN (v := z) (q := 1) d21_0 rfl rfl ?_
  refine go_aloadN (v := .ref ba) (q := 2) d21_1 rfl rfl rfl ?_
  refine go_arraylength (z := z) (q := 3) A d21_2 rfl ?_
  refine go_isub (r := 0) (q := 4) d21_3 (Int32.sub_self _) rfl ?_
  refine go_bipush (x := (31 : Int32)) (q := 6) d21_4 rfl rfl ?_
  refine go_iushr (r := 0) (q := 7) d21_6 rfl rfl ?_
  refine go_i2b (r := 0) (q := 8) d21_7 rfl rfl ?_
  exact go_ireturn H (G := []) (t := .byte) rfl (by decide) rfl d21_8 (by decide) (by decide) (fun _ q => nomatch q) ⟨rfl, rfl⟩
set_option maxRecDepth 65536 in
set_option maxHeartbeats 4000000 in
theorem rm_new4 {l : Launch} {Z : State} {a0 : Array Value} (H : Wd Z a0) {h : Heap} {F : List Addr} {x ca : Addr} {kc : ClassId} {cs : List Int32} (E : Exa Z h x ST) (C : Fld Z h x ST "coder" "B" (.int 0)) (Vv : Fld Z h x ST "value" "[B" .null) (A : Arv Z h ca kc .char (Int32.ofNat cs.length) (ints cs) (.int 0)) (hl : Lat cs) (hn : cs.length ≤ 16) (hx : x ∉ F) : Met l Z (⟨"java/lang/String", "<init>", "([CIILjava/lang/Void;)V"⟩ : MethodName) jdk_42_method_149_code 6 none ({ frames := 2, cells := 4, slots := 16, locals := 35 } : Room) h (x :: F) #[.ref x, .ref ca, .int 0, .int (Int32.ofNat cs.length), .null] (fun v h' G => v = none ∧ Keep h h' [x] ∧ Str Z h' F x cs) := by
  refine Met.mk (L := #[.val (.ref x), .val (.ref ca), .val (.int 0), .val (.int (Int32.ofNat cs.length)), .val (.null), .unset]) (by decide +kernel) (fun m => by first | (simp [entryFrame, mkF, argsToLocals, Value.category]; done) | rfl) (fun K => ?_)
  show Go _ _ K "java/lang/String" "<init>" _ _ _ _ _ _ _ _ _ 0 _ _
  obtain ⟨cz, Sz, nz⟩ := H.2.2.2.1
  have sne : RoadKit.slotOf Z ST "value" "[B" ≠ RoadKit.slotOf Z ST "coder" "B" := slot_ne (C := ST) (Or.inr (w_17 H)) (Or.inr (w_18 H)) (by decide) (t := .array .byte) (t' := .byte) (by decide) (by decide)
  have wiS := (w_3 H)
  refine go_aloadN (v := .ref x) (q := 1) d1_0 rfl rfl rfl ?_
  refine go_initO (q := 4) (w_12 H) (w_13 H) (w_14 H) rfl d1_1 rfl (by decide) (Nat.le_of_ble_eq_true rfl) ?_
  refine go_iloadN (v := (Int32.ofNat cs.length)) (q := 5) d1_4 rfl rfl ?_
  refine go_mine fun hMine hOld => ?_
  by_cases h0 : cs.length = 0
  · obtain rfl : cs = [] := List.length_eq_zero_iff.mp h0
    refine go_ifN (q := 8) d1_5 rfl rfl ?_
    refine go_aloadN (v := .ref x) (q := 9) d1_8 rfl rfl rfl ?_
    refine go_lit (cs := []) (n := 0) (c' := 2) (s' := 4) (q := 11) H (w_15 H) (by decide) (by decide) (by decide) (by decide) (by decide) d1_9 (by decide) (by decide) rfl rfl rfl (by decide) (by decide) ?_
    intro h1 a1 E1 S1
    obtain ⟨X1, C1, n1, -, b1, k1, m1, V1, A1⟩ := S1
    refine go_getfield (v := .ref b1) (q := 14) (w_21 H) Via.refl V1 d1_11 rfl ?_
    have nxb : x ≠ b1 := fun q => m1 (by rw [← q]; simp)
    refine go_putfield (q := 17) (w_21 H) Via.refl (Vv.ext E1) (E.ext E1) (Or.inr ⟨(w_17 H), rfl, rfl⟩) (w_3 H) (ty := (.array .byte)) (by decide) rfl rfl (by simp) d1_14 rfl ?_
    intro h2 W2
    refine go_aloadN (v := .ref x) (q := 18) d1_17 rfl rfl rfl ?_
    refine go_lit (cs := []) (n := 0) (c' := 4) (s' := 8) (q := 20) H (w_15 H) (by decide) (by decide) (by decide) (by decide) (by decide) d1_18 (by decide) (by decide) rfl rfl rfl (by decide) (by decide) ?_
    intro h3 a3 E3 S3
    obtain ⟨X3, C3, n3, -, b3, k3, m3, V3, A3⟩ := S3
    refine go_getfield (v := .int 0) (q := 23) (w_22 H) Via.refl C3 d1_20 rfl ?_
    refine go_putfield (q := 26) (w_22 H) Via.refl (((C.ext E1).other W2 (Or.inr sne.symm)).ext E3) (((E.ext E1).wr W2).ext E3) (Or.inr ⟨(w_18 H), rfl, rfl⟩) (w_3 H) (ty := .byte) (by decide) rfl rfl (by simp) d1_23 rfl ?_
    intro h4 W4
    have Kp : Keep h h4 [x] := ((((Keep.refl h [x]).ext E1).wr W2 (Or.inl (by simp))).ext E3).wr W4 (Or.inl (by simp))
    have Ar : Arv Z h4 b1 k1 .byte (Int32.ofNat ([] : List Int32).length) (bts []) (.int 0) := ((A1.other W2 nxb.symm).ext E3).other W4 nxb.symm
    exact go_return H (G := []) rfl d1_26 (by decide) (by decide) (fun _ q => nomatch q) ⟨rfl, Kp, (((E.ext E1).wr W2).ext E3).wr W4, ((((C.ext E1).other W2 (Or.inr sne.symm)).ext E3).same W4), hx, hl, b1, k1, fun q => m1 (by simp [q]), ((((Vv.ext E1).same W2).ext E3).other W4 (Or.inr sne)), Ar⟩
  · refine go_ifY (q := 27) d1_5 (show ¬ _ = _ from fun q => h0 ((eq_ofNat (n := 0) (by have := hl.1; omega) (by decide)).mp q)) (by decide) (by decide) ?_
    refine go_getstatic (v := .int cz) (q := 30) (w_40 H) Via.refl Sz d1_27 rfl ?_
    refine go_ifN (q := 33) d1_30 nz rfl ?_
    refine go_aloadN (v := .ref ca) (q := 34) d1_33 rfl rfl rfl ?_
    refine go_iloadN (v := 0) (q := 35) d1_34 rfl rfl ?_
    refine go_iloadN (v := (Int32.ofNat cs.length)) (q := 36) d1_35 rfl rfl ?_
    refine go_static (c' := 1) (s' := 16) (q := 39) (S := []) (argsL := [.ref ca, .int 0, .int (Int32.ofNat cs.length)]) H (w_108 H) (w_109 H) (w_110 H) (w_111 H) (by decide) (rm_cmp3 H A hl hn) rfl rfl (lenOf pd_2 rfl) (fun _ q => nomatch q) rfl (by decide) (Nat.le_of_ble_eq_true rfl) rfl rfl (by decide) (by decide) d1_36 rfl ?_
    rintro _ h1 G - ⟨ba, kb, rfl, gb, K1, V1⟩
    refine nx_ (v := none) ?_
    show Go _ _ _ _ _ _ _ _ _ _ _ _ _ _ 39 #[.val (.ref x), .val (.ref ca), .val (.int 0), .val (.int (Int32.ofNat cs.length)), .val (.null), .unset] [.ref ba]
    refine go_astore (L' := #[.val (.ref x), .val (.ref ca), .val (.int 0), .val (.int (Int32.ofNat cs.length)), .val (.null), .val (.ref ba)]) (q := 41) d1_39 rfl rfl rfl ?_
    refine go_aloadN (v := .ref x) (q := 42) d1_41 rfl rfl rfl ?_
    refine go_aload (v := .ref ba) (q := 44) d1_42 rfl rfl rfl ?_
    refine go_iloadN (v := (Int32.ofNat cs.length)) (q := 45) d1_44 rfl rfl ?_
    refine go_static (c' := 1) (s' := 16) (q := 48) (S := [.ref x]) (argsL := [.ref ba, .int (Int32.ofNat cs.length)]) H (w_115 H) (w_116 H) (w_110 H) (w_117 H) (by decide) (rm_codL H V1) rfl rfl (lenOf pd_3 rfl) (fun _ q => nomatch q) rfl (by decide) (Nat.le_of_ble_eq_true rfl) rfl rfl (by decide) (by decide) d1_45 rfl ?_
    rintro _ _ G - ⟨rfl, rfl⟩
    refine nx_ (v := none) ?_
    show Go _ _ _ _ _ _ _ _ _ _ _ _ _ _ 48 #[.val (.ref x), .val (.ref ca), .val (.int 0), .val (.int (Int32.ofNat cs.length)), .val (.null), .val (.ref ba)] [.int 0, .ref x]
    refine go_putfield (q := 51) (w_22 H) Via.refl (C.keep K1 nin0) (E.keep K1) (Or.inr ⟨(w_18 H), rfl, rfl⟩) (w_3 H) (ty := .byte) (by decide) rfl rfl (by simp) d1_48 rfl ?_
    intro h2 W2
    have nxb : ba ≠ x := E.keep K1 |>.neArv V1 wiS |>.symm
    refine go_aloadN (v := .ref x) (q := 52) d1_51 rfl rfl rfl ?_
    refine go_aload (v := .ref ba) (q := 54) d1_52 rfl rfl rfl ?_
    refine go_putfield (q := 57) (w_21 H) Via.refl ((Vv.keep K1 nin0).other W2 (Or.inr sne)) ((E.keep K1).wr W2) (Or.inr ⟨(w_17 H), rfl, rfl⟩) (w_3 H) (ty := (.array .byte)) (by decide) rfl rfl (by simp) d1_54 rfl ?_
    intro h3 W3
    have Kp : Keep h h3 [x] := ((kless K1 (by simp)).wr W2 (Or.inl (by simp))).wr W3 (Or.inl (by simp))
    exact go_return H (G := []) rfl d1_57 (by decide) (by decide) (fun _ q => nomatch q) ⟨rfl, Kp, ((E.keep K1).wr W2).wr W3, (((C.keep K1 nin0).same W2).other W3 (Or.inr sne.symm)), hx, hl, ba, kb, fun q => absurd (hMine ba (by simp [q])).2 (Nat.not_lt.mpr gb), (((Vv.keep K1 nin0).other W2 (Or.inr sne)).same W3), ((V1.other W2 nxb).other W3 nxb)⟩
set_option maxRecDepth 65536 in
set_option maxHeartbeats 4000000 in
theorem rm_new1 {l : Launch} {Z : State} {a0 : Array Value} (H : Wd Z a0) {h : Heap} {F : List Addr} {x ca : Addr} {kc : ClassId} {cs : List Int32} (E : Exa Z h x ST) (C : Fld Z h x ST "coder" "B" (.int 0)) (Vv : Fld Z h x ST "value" "[B" .null) (A : Arv Z h ca kc .char (Int32.ofNat cs.length) (ints cs) (.int 0)) (hl : Lat cs) (hn : cs.length ≤ 16) (hx : x ∉ F) : Met l Z (⟨"java/lang/String", "<init>", "([C)V"⟩ : MethodName) jdk_42_method_3_code 2 none ({ frames := 3, cells := 4, slots := 16, locals := 52 } : Room) h (x :: F) #[.ref x, .ref ca] (fun v h' G => v = none ∧ Keep h h' [x] ∧ Str Z h' F x cs) := by
  refine Met.mk (L := #[.val (.ref x), .val (.ref ca)]) (by decide +kernel) (fun m => by first | (simp [entryFrame, mkF, argsToLocals, Value.category]; done) | rfl) (fun K => ?_)
  show Go _ _ K "java/lang/String" "<init>" _ _ _ _ _ _ _ _ _ 0 _ _
  refine go_aloadN (v := .ref x) (q := 1) d0_0 rfl rfl rfl ?_
  refine go_aloadN (v := .ref ca) (q := 2) d0_1 rfl rfl rfl ?_
  refine go_iconst (x := (0 : Int32)) (q := 3) d0_2 rfl rfl ?_
  refine go_aloadN (v := .ref ca) (q := 4) d0_3 rfl rfl rfl ?_
  refine go_arraylength (z := (Int32.ofNat cs.length)) (q := 5) A d0_4 rfl ?_
  refine go_null (q := 6) d0_5 rfl ?_
  refine go_special (c' := 4) (s' := 16) (q := 9) (S := []) (argsL := [.ref ca, .int (0 : Int32), .int (Int32.ofNat cs.length), .null]) H rfl (w_8 H) (w_9 H) (w_4 H) (w_11 H) (by decide) (rm_new4 H E C Vv A hl hn hx) rfl rfl (lenOf pd_4 rfl) (fun _ q => q) rfl (by decide) (Nat.le_of_ble_eq_true rfl) rfl rfl (by decide) (by decide) d0_6 rfl ?_
  rintro _ h1 G - ⟨rfl, K1, S1⟩
  refine nx_ (v := none) ?_
  show Go _ _ _ _ _ _ _ _ _ _ _ _ _ _ 9 #[.val (.ref x), .val (.ref ca)] []
  exact go_return H (G := []) rfl d0_9 (by decide) (by decide) (fun _ q => nomatch q) ⟨rfl, K1, S1⟩
set_option maxRecDepth 65536 in
set_option maxHeartbeats 4000000 in
theorem rm_canE {l : Launch} {Z : State} {a0 : Array Value} (H : Wd Z a0) {h : Heap} {c : Int32} (hc : ¬ 255 < c) : Met l Z (⟨"java/lang/StringLatin1", "canEncode", "(C)Z"⟩ : MethodName) jdk_43_method_3_code 1 (some .boolean) ({ frames := 0, cells := 0, slots := 0, locals := 0 } : Room) h [] #[.int c] (fun v h' G => v = some (.int 1) ∧ h = h') := by
  refine Met.mk (L := #[.val (.int c)]) (by decide +kernel) (fun m => by first | (simp [entryFrame, mkF, argsToLocals, Value.category]; done) | rfl) (fun K => ?_)
  show Go _ _ K "java/lang/StringLatin1" "canEncode" _ _ _ _ _ _ _ _ _ 0 _ _
  refine go_iloadN (v := c) (q := 1) d30_0 rfl rfl ?_
  refine go_sipush (x := (255 : Int32)) (q := 4) d30_1 rfl rfl ?_
  refine go_icN (q := 7) d30_4 (show ¬ (255 : Int32) < c from hc) rfl ?_
  refine go_iconst (x := (1 : Int32)) (q := 8) d30_7 rfl rfl ?_
  refine go_goto (q := 12) d30_8 (by decide) (by decide) ?_
  exact go_ireturn H (G := []) (t := .boolean) rfl (by decide) rfl d30_12 (by decide) (by decide) (fun _ q => nomatch q) ⟨rfl, rfl⟩
set_option maxRecDepth 65536 in
set_option maxHeartbeats 4000000 in
theorem rm_asbI {l : Launch} {Z : State} {a0 : Array Value} (H : Wd Z a0) {h : Heap} {x : Addr} {n : Nat} (E : Exa Z h x SBN) (Vv : Fld Z h x ABN "value" "[B" .null) (C : Fld Z h x ABN "coder" "B" (.int 0)) (N : Fld Z h x ABN "count" "I" (.int 0)) (hn : n ≤ 20) : Met l Z (⟨"java/lang/AbstractStringBuilder", "<init>", "(I)V"⟩ : MethodName) jdk_68_method_2_code 2 none ({ frames := 1, cells := 1, slots := 20, locals := 12 } : Room) h [x] #[.ref x, .int (Int32.ofNat n)] (fun u h' G => ∃ v, u = none ∧ G = [v] ∧ h.size ≤ v ∧ Keep h h' [x] ∧ SBd Z h' x v n []) := by
  refine Met.mk (L := #[.val (.ref x), .val (.int (Int32.ofNat n))]) (by decide +kernel) (fun m => by first | (simp [entryFrame, mkF, argsToLocals, Value.category]; done) | rfl) (fun K => ?_)
  show Go _ _ K "java/lang/AbstractStringBuilder" "<init>" _ _ _ _ _ _ _ _ _ 0 _ _
  obtain ⟨cz, Sz, nz⟩ := H.2.2.2.1
  have s1 : RoadKit.slotOf Z ABN "value" "[B" ≠ RoadKit.slotOf Z ABN "coder" "B" := slot_ne (C := SBN) (Or.inl (w_53 H)) (Or.inl (w_55 H)) (by decide) (t := .array .byte) (t' := .byte) (by decide) (by decide)
  have s2 : RoadKit.slotOf Z ABN "value" "[B" ≠ RoadKit.slotOf Z ABN "count" "I" := slot_ne (C := SBN) (Or.inl (w_53 H)) (Or.inl (w_83 H)) (by decide) (t := .array .byte) (t' := .int) (by decide) (by decide)
  have s3 : RoadKit.slotOf Z ABN "coder" "B" ≠ RoadKit.slotOf Z ABN "count" "I" := slot_ne (C := SBN) (Or.inl (w_55 H)) (Or.inl (w_83 H)) (by decide) (t := .byte) (t' := .int) (by decide) (by decide)
  refine go_aloadN (v := .ref x) (q := 1) d7_0 rfl rfl rfl ?_
  refine go_initO (q := 4) (w_50 H) (w_13 H) (w_14 H) rfl d7_1 rfl (by decide) (Nat.le_of_ble_eq_true rfl) ?_
  refine go_getstatic (v := .int cz) (q := 7) (w_51 H) Via.refl Sz d7_4 rfl ?_
  refine go_ifN (q := 10) d7_7 nz rfl ?_
  refine go_aloadN (v := .ref x) (q := 11) d7_10 rfl rfl rfl ?_
  refine go_iloadN (v := (Int32.ofNat n)) (q := 12) d7_11 rfl rfl ?_
  refine go_newarray (ty := .byte) (dv := .int 0) (n := n) (cap := 20) (ad := "[B") (c' := 1) (s' := 20) (q := 14) rfl rfl (cl_ofNat (by omega)) (w_16 H) d7_12 (nn_ofNat (by omega)) hn (by decide) rfl rfl rfl rfl (by decide) (by decide) ?_
  intro h1 v k g1 E1 V1 X1
  have nxv : v ≠ x := ((E.ext E1).neArv V1 (w_28 H)).symm
  refine go_putfield (q := 17) (w_52 H) Via.refl (Vv.ext E1) (E.ext E1) (Or.inl (w_53 H)) (w_28 H) (ty := (.array .byte)) (by decide) rfl rfl (by simp) d7_14 rfl ?_
  intro h2 W2
  refine go_aloadN (v := .ref x) (q := 18) d7_17 rfl rfl rfl ?_
  refine go_iconst (x := (0 : Int32)) (q := 19) d7_18 rfl rfl ?_
  refine go_putfield (q := 22) (w_54 H) Via.refl ((C.ext E1).other W2 (Or.inr s1.symm)) ((E.ext E1).wr W2) (Or.inl (w_55 H)) (w_28 H) (ty := .byte) (by decide) rfl rfl (by simp) d7_19 rfl ?_
  intro h3 W3
  refine go_goto (q := 38) d7_22 (by decide) (by decide) ?_
  have Kp : Keep h h3 [x] := (((Keep.refl h [x]).ext E1).wr W2 (Or.inl (by simp))).wr W3 (Or.inl (by simp))
  have Ar : Arv Z h3 v k .byte (Int32.ofNat n) (bts [] ++ zs (n - ([] : List Int32).length)) (.int 0) := (V1.other W2 nxv).other W3 nxv
  exact go_return H (G := [v]) rfl d7_38 (by decide) (by decide) (by simp) ⟨v, rfl, rfl, by rw [g1]; exact Nat.le_refl _, Kp, ((E.ext E1).wr W2).wr W3, (((Vv.ext E1).same W2).other W3 (Or.inr s1)), (((C.ext E1).other W2 (Or.inr s1.symm)).same W3), (((N.ext E1).other W2 (Or.inr s2.symm)).other W3 (Or.inr s3.symm)), ⟨by decide, by intro c hc; cases hc⟩, Nat.zero_le _, by omega, k, Ar⟩
set_option maxRecDepth 65536 in
set_option maxHeartbeats 4000000 in
theorem rm_sbII {l : Launch} {Z : State} {a0 : Array Value} (H : Wd Z a0) {h : Heap} {x : Addr} {n : Nat} (E : Exa Z h x SBN) (Vv : Fld Z h x ABN "value" "[B" .null) (C : Fld Z h x ABN "coder" "B" (.int 0)) (N : Fld Z h x ABN "count" "I" (.int 0)) (hn : n ≤ 20) : Met l Z (⟨"java/lang/StringBuilder", "<init>", "(I)V"⟩ : MethodName) jdk_67_method_2_code 2 none ({ frames := 2, cells := 1, slots := 20, locals := 25 } : Room) h [x] #[.ref x, .int (Int32.ofNat n)] (fun u h' G => ∃ v, u = none ∧ G = [v] ∧ h.size ≤ v ∧ Keep h h' [x] ∧ SBd Z h' x v n []) := by
  refine Met.mk (L := #[.val (.ref x), .val (.int (Int32.ofNat n))]) (by decide +kernel) (fun m => by first | (simp [entryFrame, mkF, argsToLocals, Value.category]; done) | rfl) (fun K => ?_)
  show Go _ _ K "java/lang/StringBuilder" "<init>" _ _ _ _ _ _ _ _ _ 0 _ _
  refine go_aloadN (v := .ref x) (q := 1) d6_0 rfl rfl rfl ?_
  refine go_iloadN (v := (Int32.ofNat n)) (q := 2) d6_1 rfl rfl ?_
  refine go_special (c' := 1) (s' := 20) (q := 5) (S := []) (argsL := [.int (Int32.ofNat n)]) H rfl (w_44 H) (w_45 H) (w_48 H) (w_49 H) (by decide) (rm_asbI H E Vv C N hn) rfl rfl (lenOf pd_5 rfl) (fun _ q => q) rfl (by decide) (Nat.le_of_ble_eq_true rfl) rfl rfl (by decide) (by decide) d6_2 rfl ?_
  rintro _ h1 G - ⟨v, rfl, rfl, gv, K1, S1⟩
  refine ⟨[v], fun _ q => Or.inl q, ?_⟩
  show Go _ _ _ _ _ _ _ _ _ _ _ _ _ _ 5 #[.val (.ref x), .val (.int (Int32.ofNat n))] []
  exact go_return H (G := [v]) rfl d6_5 (by decide) (by decide) (fun _ q => q) ⟨v, rfl, rfl, gv, K1, S1⟩
set_option maxRecDepth 65536 in
set_option maxHeartbeats 4000000 in
theorem rm_ens {l : Launch} {Z : State} {a0 : Array Value} (H : Wd Z a0) {h : Heap} {x v : Addr} {cap n : Nat} {cs : List Int32} (S : SBd Z h x v cap cs) (hn : n ≤ cap) : Met l Z (⟨"java/lang/AbstractStringBuilder", "ensureCapacityInternal", "(I)V"⟩ : MethodName) jdk_68_method_9_code 3 none ({ frames := 0, cells := 0, slots := 0, locals := 0 } : Room) h [] #[.ref x, .int (Int32.ofNat n)] (fun u h' G => u = none ∧ h = h') := by
  refine Met.mk (L := #[.val (.ref x), .val (.int (Int32.ofNat n)), .unset]) (by decide +kernel) (fun m => by first | (simp [entryFrame, mkF, argsToLocals, Value.category]; done) | rfl) (fun K => ?_)
  show Go _ _ K "java/lang/AbstractStringBuilder" "ensureCapacityInternal" _ _ _ _ _ _ _ _ _ 0 _ _
  obtain ⟨E, Vv, C, N, hl, l1, l2, k, A⟩ := S
  refine go_aloadN (v := .ref x) (q := 1) d29_0 rfl rfl rfl ?_
  refine go_getfield (v := .ref v) (q := 4) (w_52 H) Via.refl Vv d29_1 rfl ?_
  refine go_arraylength (z := (Int32.ofNat cap)) (q := 5) A d29_4 rfl ?_
  refine go_aloadN (v := .ref x) (q := 6) d29_5 rfl rfl rfl ?_
  refine go_getfield (v := .int 0) (q := 9) (w_54 H) Via.refl C d29_6 rfl ?_
  refine go_ishr (r := (Int32.ofNat cap)) (q := 10) d29_9 (shr0 _) rfl ?_
  refine go_istoreN (L' := #[.val (.ref x), .val (.int (Int32.ofNat n)), .val (.int (Int32.ofNat cap))]) (q := 11) d29_10 rfl rfl ?_
  refine go_iloadN (v := (Int32.ofNat n)) (q := 12) d29_11 rfl rfl ?_
  refine go_iloadN (v := (Int32.ofNat cap)) (q := 13) d29_12 rfl rfl ?_
  refine go_isub (r := (Int32.ofNat n) - (Int32.ofNat cap)) (q := 14) d29_13 rfl rfl ?_
  refine go_ifY (q := 38) d29_14 (not_pos_sub hn (by omega)) (by decide) (by decide) ?_
  exact go_return H (G := []) rfl d29_38 (by decide) (by decide) (fun _ q => nomatch q) ⟨rfl, rfl⟩
set_option maxRecDepth 65536 in
set_option maxHeartbeats 4000000 in
theorem rm_min {l : Launch} {Z : State} {a0 : Array Value} (H : Wd Z a0) {h : Heap} {i j : Int32}  : Met l Z (⟨"java/lang/Math", "min", "(II)I"⟩ : MethodName) jdk_29_method_69_code 2 (some .int) ({ frames := 0, cells := 0, slots := 0, locals := 0 } : Room) h [] #[.int i, .int j] (fun u h' G => u = some (.int (if j < i then j else i)) ∧ h = h') := by
  refine Met.mk (L := #[.val (.int i), .val (.int j)]) (by decide +kernel) (fun m => by first | (simp [entryFrame, mkF, argsToLocals, Value.category]; done) | rfl) (fun K => ?_)
  show Go _ _ K "java/lang/Math" "min" _ _ _ _ _ _ _ _ _ 0 _ _
  refine go_iloadN (v := i) (q := 1) d18_0 rfl rfl ?_
  refine go_iloadN (v := j) (q := 2) d18_1 rfl rfl ?_
  by_cases q : j < i
  · refine go_icY (q := 9) d18_2 q (by decide) (by decide) ?_
    refine go_iloadN (v := j) (q := 10) d18_9 rfl rfl ?_
    exact go_ireturn H (G := []) (t := .int) rfl (by decide) rfl d18_10 (by decide) (by decide) (fun _ q => nomatch q) ⟨by rw [if_pos q], rfl⟩
  · refine go_icN (q := 5) d18_2 q rfl ?_
    refine go_iloadN (v := i) (q := 6) d18_5 rfl rfl ?_
    refine go_goto (q := 10) d18_6 (by decide) (by decide) ?_
    exact go_ireturn H (G := []) (t := .int) rfl (by decide) rfl d18_10 (by decide) (by decide) (fun _ q => nomatch q) ⟨by rw [if_neg q], rfl⟩
set_option maxRecDepth 65536 in
set_option maxHeartbeats 4000000 in
theorem rm_ckL {l : Launch} {Z : State} {a0 : Array Value} (H : Wd Z a0) {h : Heap} {i j : Int32} (hij : ¬ j < i) : Met l Z (⟨"java/util/Arrays", "checkLength", "(II)V"⟩ : MethodName) jdk_65_method_131_code 2 none ({ frames := 0, cells := 0, slots := 0, locals := 0 } : Room) h [] #[.int i, .int j] (fun u h' G => u = none ∧ h = h') := by
  refine Met.mk (L := #[.val (.int i), .val (.int j)]) (by decide +kernel) (fun m => by first | (simp [entryFrame, mkF, argsToLocals, Value.category]; done) | rfl) (fun K => ?_)
  show Go _ _ K "java/util/Arrays" "checkLength" _ _ _ _ _ _ _ _ _ 0 _ _
  refine go_iloadN (v := j) (q := 1) d17_0 rfl rfl ?_
  refine go_iloadN (v := i) (q := 2) d17_1 rfl rfl ?_
  refine go_icY (q := 37) d17_2 hij (by decide) (by decide) ?_
  exact go_return H (G := []) rfl d17_37 (by decide) (by decide) (fun _ q => nomatch q) ⟨rfl, rfl⟩
set_option maxRecDepth 65536 in
set_option maxHeartbeats 4000000 in
theorem rm_cRB {l : Launch} {Z : State} {a0 : Array Value} (H : Wd Z a0) {h : Heap} {v : Addr} {k : ClassId} {n : Nat} {cs : List Int32} (A : Arv Z h v k .byte (Int32.ofNat n) (bts cs ++ zs (n - cs.length)) (.int 0)) (hb : cs.length ≤ n) (hn : n ≤ 4096) (hc : cs.length ≤ 16) : Met l Z (⟨"java/util/Arrays", "copyOfRangeByte", "([BII)[B"⟩ : MethodName) jdk_65_method_133_code 5 (some (.array .byte)) ({ frames := 1, cells := 1, slots := 16, locals := 40 } : Room) h [] #[.ref v, .int 0, .int (Int32.ofNat cs.length)] (fun u h' G => ∃ ba kb, u = some (.ref ba) ∧ h.size ≤ ba ∧ Keep h h' [] ∧ Arv Z h' ba kb .byte (Int32.ofNat cs.length) (bts cs) (.int 0)) := by
  refine Met.mk (L := #[.val (.ref v), .val (.int 0), .val (.int (Int32.ofNat cs.length)), .unset, .unset]) (by decide +kernel) (fun m => by first | (simp [entryFrame, mkF, argsToLocals, Value.category]; done) | rfl) (fun K => ?_)
  show Go _ _ K "java/util/Arrays" "copyOfRangeByte" _ _ _ _ _ _ _ _ _ 0 _ _
  have Ka : Keep h h [] := Keep.refl _ _
  refine go_iloadN (v := 0) (q := 1) d16_0 rfl rfl ?_
  refine go_iloadN (v := (Int32.ofNat cs.length)) (q := 2) d16_1 rfl rfl ?_
  refine go_static (c' := 0) (s' := 0) (q := 5) (S := []) (argsL := [.int 0, .int (Int32.ofNat cs.length)]) H (w_96 H) (w_97 H) (w_91 H) (w_98 H) (by decide) (rm_ckL H (nn_ofNat (by omega))) rfl rfl (lenOf pd_6 rfl) (fun _ q => nomatch q) rfl (by decide) (Nat.le_of_ble_eq_true rfl) rfl rfl (by decide) (by decide) d16_2 rfl ?_
  rintro _ _ G - ⟨rfl, rfl⟩
  refine nx_ (v := none) ?_
  show Go _ _ _ _ _ _ _ _ _ _ _ _ _ _ 5 #[.val (.ref v), .val (.int 0), .val (.int (Int32.ofNat cs.length)), .unset, .unset] []
  refine go_iloadN (v := (Int32.ofNat cs.length)) (q := 6) d16_5 rfl rfl ?_
  refine go_iloadN (v := 0) (q := 7) d16_6 rfl rfl ?_
  refine go_isub (r := (Int32.ofNat cs.length)) (q := 8) d16_7 (Int32.sub_zero _) rfl ?_
  refine go_istoreN (L' := #[.val (.ref v), .val (.int 0), .val (.int (Int32.ofNat cs.length)), .val (.int (Int32.ofNat cs.length)), .unset]) (q := 9) d16_8 rfl rfl ?_
  refine go_iloadN (v := (Int32.ofNat cs.length)) (q := 10) d16_9 rfl rfl ?_
  refine go_newarray (ty := .byte) (dv := .int 0) (n := cs.length) (cap := 16) (ad := "[B") (c' := 1) (s' := 16) (q := 12) rfl rfl (cl_ofNat (by omega)) (w_16 H) d16_10 (nn_ofNat (by omega)) hc (by decide) rfl rfl rfl rfl (by decide) (by decide) ?_
  intro h1 ba kb g1 E1 V1 X1
  have f_Ka_ba : h.size ≤ ba := by rw [g1]; exact Ka.1
  have Ka : Keep h h1 [] := Ka.ext E1
  refine go_astore (L' := #[.val (.ref v), .val (.int 0), .val (.int (Int32.ofNat cs.length)), .val (.int (Int32.ofNat cs.length)), .val (.ref ba)]) (q := 14) d16_12 rfl rfl rfl ?_
  refine go_aloadN (v := .ref v) (q := 15) d16_14 rfl rfl rfl ?_
  refine go_iloadN (v := 0) (q := 16) d16_15 rfl rfl ?_
  refine go_aload (v := .ref ba) (q := 18) d16_16 rfl rfl rfl ?_
  refine go_iconst (x := (0 : Int32)) (q := 19) d16_18 rfl rfl ?_
  refine go_aloadN (v := .ref v) (q := 20) d16_19 rfl rfl rfl ?_
  refine go_arraylength (z := (Int32.ofNat n)) (q := 21) (A.ext E1) d16_20 rfl ?_
  refine go_iloadN (v := 0) (q := 22) d16_21 rfl rfl ?_
  refine go_isub (r := (Int32.ofNat n)) (q := 23) d16_22 (Int32.sub_zero _) rfl ?_
  refine go_iloadN (v := (Int32.ofNat cs.length)) (q := 24) d16_23 rfl rfl ?_
  refine go_static (c' := 1) (s' := 16) (q := 27) (S := [.int (0 : Int32), .ref ba, .int 0, .ref v]) (argsL := [.int (Int32.ofNat n), .int (Int32.ofNat cs.length)]) H (w_99 H) (w_100 H) (w_101 H) (w_102 H) (by decide) (rm_min H) rfl rfl (lenOf pd_7 rfl) (fun _ q => nomatch q) rfl (by decide) (Nat.le_of_ble_eq_true rfl) rfl rfl (by decide) (by decide) d16_24 rfl ?_
  rintro _ _ G - ⟨rfl, rfl⟩
  refine nx_ (v := none) ?_
  show Go _ _ _ _ _ _ _ _ _ _ _ _ _ _ 27 #[.val (.ref v), .val (.int 0), .val (.int (Int32.ofNat cs.length)), .val (.int (Int32.ofNat cs.length)), .val (.ref ba)] [.int (if Int32.ofNat cs.length < Int32.ofNat n then Int32.ofNat cs.length else Int32.ofNat n), .int (0 : Int32), .ref ba, .int 0, .ref v]
  rw [show (if Int32.ofNat cs.length < Int32.ofNat n then Int32.ofNat cs.length else Int32.ofNat n) = Int32.ofNat cs.length from by split; rfl; rename_i q; rw [lt_ofNat (by omega) (by omega)] at q; rw [show n = cs.length by omega]]
  show Go _ _ _ _ _ _ _ _ _ _ _ _ _ _ 27 #[.val (.ref v), .val (.int 0), .val (.int (Int32.ofNat cs.length)), .val (.int (Int32.ofNat cs.length)), .val (.ref ba)] [.int (Int32.ofNat cs.length), .int (0 : Int32), .ref ba, .int 0, .ref v]
  refine go_arraycopy (q := 30) (us := bts cs) (w_103 H) (w_106 H) (w_104 H) (w_105 H) (A.ext E1) V1 rfl (by decide) (by decide) (nn_ofNat (by omega)) (by rw [cl_ofNat (by omega), cl_ofNat (by omega)]; exact Nat.le_trans (Nat.le_of_eq (Nat.zero_add _)) hb) (by rw [cl_ofNat (by omega)]; exact Nat.le_of_eq (Nat.zero_add _)) (by rw [cl_ofNat (by omega), show (0 : Int32).toNatClampNeg = 0 from rfl]; simp only [Nat.zero_add]; exact (us_pre _ _).symm) (by rw [cl_ofNat (by omega), List.length_replicate]; exact Nat.le_of_eq (Nat.zero_add _)) (by simp) rfl (by decide) (Nat.le_of_ble_eq_true rfl) d16_27 rfl ?_
  intro h2 K2 V2
  have Ka : Keep h h2 [] := kfresh Ka K2 f_Ka_ba
  rw [cl_ofNat (by omega), show (0 : Int32).toNatClampNeg = 0 from rfl, List.take_zero, List.nil_append, Nat.zero_add, List.drop_of_length_le (by simp), List.append_nil] at V2
  refine go_aload (v := .ref ba) (q := 32) d16_30 rfl rfl rfl ?_
  exact go_areturn H (G := []) (t := (.array .byte)) rfl rfl rfl d16_32 (by decide) (by decide) (fun _ q => nomatch q) ⟨ba, kb, rfl, f_Ka_ba, Ka, V2⟩
set_option maxRecDepth 65536 in
set_option maxHeartbeats 4000000 in
theorem rm_cR {l : Launch} {Z : State} {a0 : Array Value} (H : Wd Z a0) {h : Heap} {v : Addr} {k : ClassId} {n : Nat} {cs : List Int32} (A : Arv Z h v k .byte (Int32.ofNat n) (bts cs ++ zs (n - cs.length)) (.int 0)) (hb : cs.length < n) (hn : n ≤ 4096) (hc : cs.length ≤ 16) : Met l Z (⟨"java/util/Arrays", "copyOfRange", "([BII)[B"⟩ : MethodName) jdk_65_method_132_code 3 (some (.array .byte)) ({ frames := 2, cells := 1, slots := 16, locals := 56 } : Room) h [] #[.ref v, .int 0, .int (Int32.ofNat cs.length)] (fun u h' G => ∃ ba kb, u = some (.ref ba) ∧ h.size ≤ ba ∧ Keep h h' [] ∧ Arv Z h' ba kb .byte (Int32.ofNat cs.length) (bts cs) (.int 0)) := by
  refine Met.mk (L := #[.val (.ref v), .val (.int 0), .val (.int (Int32.ofNat cs.length))]) (by decide +kernel) (fun m => by first | (simp [entryFrame, mkF, argsToLocals, Value.category]; done) | rfl) (fun K => ?_)
  show Go _ _ K "java/util/Arrays" "copyOfRange" _ _ _ _ _ _ _ _ _ 0 _ _
  refine go_iloadN (v := 0) (q := 1) d15_0 rfl rfl ?_
  refine go_ifN (q := 4) d15_1 (by decide) rfl ?_
  refine go_iloadN (v := (Int32.ofNat cs.length)) (q := 5) d15_4 rfl rfl ?_
  refine go_aloadN (v := .ref v) (q := 6) d15_5 rfl rfl rfl ?_
  refine go_arraylength (z := (Int32.ofNat n)) (q := 7) A d15_6 rfl ?_
  refine go_icN (q := 10) d15_7 (fun e => absurd ((eq_ofNat (by omega) (by omega)).mp e) (by omega)) rfl ?_
  refine go_aloadN (v := .ref v) (q := 11) d15_10 rfl rfl rfl ?_
  refine go_iloadN (v := 0) (q := 12) d15_11 rfl rfl ?_
  refine go_iloadN (v := (Int32.ofNat cs.length)) (q := 13) d15_12 rfl rfl ?_
  refine go_static (c' := 1) (s' := 16) (q := 16) (S := []) (argsL := [.ref v, .int 0, .int (Int32.ofNat cs.length)]) H (w_93 H) (w_94 H) (w_91 H) (w_95 H) (by decide) (rm_cRB H A (Nat.le_of_lt hb) hn hc) rfl rfl (lenOf pd_8 rfl) (fun _ q => nomatch q) rfl (by decide) (Nat.le_of_ble_eq_true rfl) rfl rfl (by decide) (by decide) d15_13 rfl ?_
  rintro _ h1 G - ⟨ba, kb, rfl, gb, K1, V1⟩
  refine nx_ (v := none) ?_
  show Go _ _ _ _ _ _ _ _ _ _ _ _ _ _ 16 #[.val (.ref v), .val (.int 0), .val (.int (Int32.ofNat cs.length))] [.ref ba]
  exact go_areturn H (G := []) (t := (.array .byte)) rfl rfl rfl d15_16 (by decide) (by decide) (fun _ q => nomatch q) ⟨ba, kb, rfl, gb, K1, V1⟩
set_option maxRecDepth 65536 in
set_option maxHeartbeats 4000000 in
theorem rm_gV {l : Launch} {Z : State} {a0 : Array Value} (H : Wd Z a0) {h : Heap} {x v : Addr} (Vv : Fld Z h x ABN "value" "[B" (.ref v)) : Met l Z (⟨"java/lang/AbstractStringBuilder", "getValue", "()[B"⟩ : MethodName) jdk_68_method_64_code 1 (some (.array .byte)) ({ frames := 0, cells := 0, slots := 0, locals := 0 } : Room) h [] #[.ref x] (fun u h' G => u = some (.ref v) ∧ h = h') := by
  refine Met.mk (L := #[.val (.ref x)]) (by decide +kernel) (fun m => by first | (simp [entryFrame, mkF, argsToLocals, Value.category]; done) | rfl) (fun K => ?_)
  show Go _ _ K "java/lang/AbstractStringBuilder" "getValue" _ _ _ _ _ _ _ _ _ 0 _ _
  refine go_aloadN (v := .ref x) (q := 1) d11_0 rfl rfl rfl ?_
  refine go_getfield (v := .ref v) (q := 4) (w_52 H) Via.refl Vv d11_1 rfl ?_
  exact go_areturn H (G := []) (t := (.array .byte)) rfl rfl rfl d11_4 (by decide) (by decide) (fun _ q => nomatch q) ⟨rfl, rfl⟩
set_option maxRecDepth 65536 in
set_option maxHeartbeats 4000000 in
theorem rm_aLen {l : Launch} {Z : State} {a0 : Array Value} (H : Wd Z a0) {h : Heap} {x : Addr} {n : Int32} (N : Fld Z h x ABN "count" "I" (.int n)) : Met l Z (⟨"java/lang/AbstractStringBuilder", "length", "()I"⟩ : MethodName) jdk_68_method_6_code 1 (some .int) ({ frames := 0, cells := 0, slots := 0, locals := 0 } : Room) h [] #[.ref x] (fun u h' G => u = some (.int n) ∧ h = h') := by
  refine Met.mk (L := #[.val (.ref x)]) (by decide +kernel) (fun m => by first | (simp [entryFrame, mkF, argsToLocals, Value.category]; done) | rfl) (fun K => ?_)
  show Go _ _ K "java/lang/AbstractStringBuilder" "length" _ _ _ _ _ _ _ _ _ 0 _ _
  refine go_aloadN (v := .ref x) (q := 1) d13_0 rfl rfl rfl ?_
  refine go_getfield (v := .int n) (q := 4) (w_82 H) Via.refl N d13_1 rfl ?_
  exact go_ireturn H (G := []) (t := .int) rfl (by decide) rfl d13_4 (by decide) (by decide) (fun _ q => nomatch q) ⟨rfl, rfl⟩
set_option maxRecDepth 65536 in
set_option maxHeartbeats 4000000 in
theorem rm_sLen {l : Launch} {Z : State} {a0 : Array Value} (H : Wd Z a0) {h : Heap} {x : Addr} {n : Int32} (E : Exa Z h x SBN) (N : Fld Z h x ABN "count" "I" (.int n)) : Met l Z (⟨"java/lang/StringBuilder", "length", "()I"⟩ : MethodName) jdk_67_method_93_code 1 (some .int) ({ frames := 1, cells := 0, slots := 0, locals := 12 } : Room) h [] #[.ref x] (fun u h' G => u = some (.int n) ∧ h = h') := by
  refine Met.mk (L := #[.val (.ref x)]) (by decide +kernel) (fun m => by first | (simp [entryFrame, mkF, argsToLocals, Value.category]; done) | rfl) (fun K => ?_)
  show Go _ _ K "java/lang/StringBuilder" "length" _ _ _ _ _ _ _ _ _ 0 _ _
  refine go_aloadN (v := .ref x) (q := 1) d12_0 rfl rfl rfl ?_
  refine go_super (c' := 0) (s' := 0) (q := 4) (S := []) (argsL := []) H (C := "java/lang/StringBuilder") (w_79 H) (same_of (y := ({ cls := "java/lang/AbstractStringBuilder", name := "length", desc := "()I" } : Jvm.MethodName)) (w := ({ cls := "java/lang/AbstractStringBuilder", name := "getValue", desc := "()[B" } : Jvm.MethodName)) (C := "java/lang/StringBuilder") rfl (w_71 H) (w_74 H) (by decide)) (w_75 H) (w_80 H) (w_48 H) (w_81 H) (by decide) E (rm_aLen H N) rfl rfl (lenOf pd_9 rfl) (fun _ q => nomatch q) rfl (by decide) (Nat.le_of_ble_eq_true rfl) rfl rfl (by decide) (by decide) d12_1 rfl ?_
  rintro _ _ G - ⟨rfl, rfl⟩
  refine nx_ (v := none) ?_
  show Go _ _ _ _ _ _ _ _ _ _ _ _ _ _ 4 #[.val (.ref x)] [.int n]
  exact go_ireturn H (G := []) (t := .int) rfl (by decide) rfl d12_4 (by decide) (by decide) (fun _ q => nomatch q) ⟨rfl, rfl⟩
set_option maxRecDepth 65536 in
set_option maxHeartbeats 4000000 in
theorem rm_aL1 {l : Launch} {Z : State} {a0 : Array Value} (H : Wd Z a0) {h : Heap} {x : Addr} (C : Fld Z h x ABN "coder" "B" (.int 0)) : Met l Z (⟨"java/lang/AbstractStringBuilder", "isLatin1", "()Z"⟩ : MethodName) jdk_68_method_68_code 1 (some .boolean) ({ frames := 0, cells := 0, slots := 0, locals := 0 } : Room) h [] #[.ref x] (fun u h' G => u = some (.int 1) ∧ h = h') := by
  refine Met.mk (L := #[.val (.ref x)]) (by decide +kernel) (fun m => by first | (simp [entryFrame, mkF, argsToLocals, Value.category]; done) | rfl) (fun K => ?_)
  show Go _ _ K "java/lang/AbstractStringBuilder" "isLatin1" _ _ _ _ _ _ _ _ _ 0 _ _
  obtain ⟨cz, Sz, nz⟩ := H.2.2.2.1
  refine go_getstatic (v := .int cz) (q := 3) (w_51 H) Via.refl Sz d14_0 rfl ?_
  refine go_ifN (q := 6) d14_3 nz rfl ?_
  refine go_aloadN (v := .ref x) (q := 7) d14_6 rfl rfl rfl ?_
  refine go_getfield (v := .int 0) (q := 10) (w_54 H) Via.refl C d14_7 rfl ?_
  refine go_ifN (q := 13) d14_10 rfl rfl ?_
  refine go_iconst (x := (1 : Int32)) (q := 14) d14_13 rfl rfl ?_
  refine go_goto (q := 18) d14_14 (by decide) (by decide) ?_
  exact go_ireturn H (G := []) (t := .boolean) rfl (by decide) rfl d14_18 (by decide) (by decide) (fun _ q => nomatch q) ⟨rfl, rfl⟩
set_option maxRecDepth 65536 in
set_option maxHeartbeats 4000000 in
theorem rm_iASB {l : Launch} {Z : State} {a0 : Array Value} (H : Wd Z a0) {h : Heap} {F : List Addr} {x s v : Addr} {n : Nat} {cs : List Int32} (E : Exa Z h x ST) (C : Fld Z h x ST "coder" "B" (.int 0)) (Vv : Fld Z h x ST "value" "[B" .null) (B : SBd Z h s v n cs) (hb : cs.length < n) (hc : cs.length ≤ 16) (hx : x ∉ F) (hFl : ∀ y ∈ F, y < h.size) : Met l Z (⟨"java/lang/String", "<init>", "(Ljava/lang/AbstractStringBuilder;Ljava/lang/Void;)V"⟩ : MethodName) jdk_42_method_150_code 5 none ({ frames := 3, cells := 1, slots := 16, locals := 72 } : Room) h (x :: F) #[.ref x, .ref s, .null] (fun u h' G => u = none ∧ Keep h h' [x] ∧ Str Z h' F x cs) := by
  refine Met.mk (L := #[.val (.ref x), .val (.ref s), .val (.null), .unset, .unset]) (by decide +kernel) (fun m => by first | (simp [entryFrame, mkF, argsToLocals, Value.category]; done) | rfl) (fun K => ?_)
  show Go _ _ K "java/lang/String" "<init>" _ _ _ _ _ _ _ _ _ 0 _ _
  obtain ⟨BE, BV, BC, BN, hl, l1, l2, k, A⟩ := B
  have sne : RoadKit.slotOf Z ST "value" "[B" ≠ RoadKit.slotOf Z ST "coder" "B" := slot_ne (C := ST) (Or.inr (w_17 H)) (Or.inr (w_18 H)) (by decide) (t := .array .byte) (t' := .byte) (by decide) (by decide)
  have wiS := (w_3 H)
  have nvx : v ≠ x := (E.neArv A wiS).symm
  refine go_aloadN (v := .ref x) (q := 1) d10_0 rfl rfl rfl ?_
  refine go_initO (q := 4) (w_12 H) (w_13 H) (w_14 H) rfl d10_1 rfl (by decide) (Nat.le_of_ble_eq_true rfl) ?_
  refine go_aloadN (v := .ref s) (q := 5) d10_4 rfl rfl rfl ?_
  refine go_virtual (c' := 0) (s' := 0) (q := 8) (S := []) (argsL := []) H (C := "java/lang/StringBuilder") (w_68 H) (w_69 H) (nf_self (w_71 H)) (w_71 H) (w_70 H) (w_48 H) (w_72 H) (by decide) BE (rm_gV H BV) rfl rfl (lenOf pd_10 rfl) (fun _ q => nomatch q) rfl (by decide) (Nat.le_of_ble_eq_true rfl) rfl rfl (by decide) (by decide) d10_5 rfl ?_
  rintro _ _ G - ⟨rfl, rfl⟩
  refine nx_ (v := none) ?_
  show Go _ _ _ _ _ _ _ _ _ _ _ _ _ _ 8 #[.val (.ref x), .val (.ref s), .val (.null), .unset, .unset] [.ref v]
  refine go_astoreN (L' := #[.val (.ref x), .val (.ref s), .val (.null), .val (.ref v), .unset]) (q := 9) d10_8 rfl rfl rfl ?_
  refine go_aloadN (v := .ref s) (q := 10) d10_9 rfl rfl rfl ?_
  refine go_virtual (c' := 0) (s' := 0) (q := 13) (S := []) (argsL := []) H (C := "java/lang/StringBuilder") (w_73 H) (w_74 H) (nf_mate (y := ({ cls := "java/lang/AbstractStringBuilder", name := "length", desc := "()I" } : Jvm.MethodName)) (w := ({ cls := "java/lang/AbstractStringBuilder", name := "getValue", desc := "()[B" } : Jvm.MethodName)) (C := "java/lang/StringBuilder") rfl (w_71 H)) (w_76 H) (w_77 H) (w_29 H) (w_78 H) (by decide) BE (rm_sLen H BE BN) rfl rfl (lenOf pd_9 rfl) (fun _ q => nomatch q) rfl (by decide) (Nat.le_of_ble_eq_true rfl) rfl rfl (by decide) (by decide) d10_10 rfl ?_
  rintro _ _ G - ⟨rfl, rfl⟩
  refine nx_ (v := none) ?_
  show Go _ _ _ _ _ _ _ _ _ _ _ _ _ _ 13 #[.val (.ref x), .val (.ref s), .val (.null), .val (.ref v), .unset] [.int (Int32.ofNat cs.length)]
  refine go_istore (L' := #[.val (.ref x), .val (.ref s), .val (.null), .val (.ref v), .val (.int (Int32.ofNat cs.length))]) (q := 15) d10_13 rfl rfl ?_
  refine go_aloadN (v := .ref s) (q := 16) d10_15 rfl rfl rfl ?_
  refine go_virtual (c' := 0) (s' := 0) (q := 19) (S := []) (argsL := []) H (C := "java/lang/StringBuilder") (w_84 H) (w_85 H) (nf_self (w_87 H)) (w_87 H) (w_86 H) (w_48 H) (w_88 H) (by decide) BE (rm_aL1 H BC) rfl rfl (lenOf pd_11 rfl) (fun _ q => nomatch q) rfl (by decide) (Nat.le_of_ble_eq_true rfl) rfl rfl (by decide) (by decide) d10_16 rfl ?_
  rintro _ _ G - ⟨rfl, rfl⟩
  refine nx_ (v := none) ?_
  show Go _ _ _ _ _ _ _ _ _ _ _ _ _ _ 19 #[.val (.ref x), .val (.ref s), .val (.null), .val (.ref v), .val (.int (Int32.ofNat cs.length))] [.int 1]
  refine go_ifN (q := 22) d10_19 (by decide) rfl ?_
  refine go_aloadN (v := .ref x) (q := 23) d10_22 rfl rfl rfl ?_
  refine go_iconst (x := (0 : Int32)) (q := 24) d10_23 rfl rfl ?_
  refine go_putfield (q := 27) (w_22 H) Via.refl C E (Or.inr ⟨(w_18 H), rfl, rfl⟩) (w_3 H) (ty := .byte) (by decide) rfl rfl (by simp) d10_24 rfl ?_
  intro h1 W1
  refine go_aloadN (v := .ref x) (q := 28) d10_27 rfl rfl rfl ?_
  refine go_aloadN (v := .ref v) (q := 29) d10_28 rfl rfl rfl ?_
  refine go_iconst (x := (0 : Int32)) (q := 30) d10_29 rfl rfl ?_
  refine go_iload (v := (Int32.ofNat cs.length)) (q := 32) d10_30 rfl rfl ?_
  refine go_static (c' := 1) (s' := 16) (q := 35) (S := [.ref x]) (argsL := [.ref v, .int (0 : Int32), .int (Int32.ofNat cs.length)]) H (w_89 H) (w_90 H) (w_91 H) (w_92 H) (by decide) (rm_cR H (A.other W1 nvx) hb l2 hc) rfl rfl (lenOf pd_8 rfl) (fun _ q => nomatch q) rfl (by decide) (Nat.le_of_ble_eq_true rfl) rfl rfl (by decide) (by decide) d10_32 rfl ?_
  rintro _ h2 G - ⟨ba, kb, rfl, gb, K2, V2⟩
  refine nx_ (v := none) ?_
  show Go _ _ _ _ _ _ _ _ _ _ _ _ _ _ 35 #[.val (.ref x), .val (.ref s), .val (.null), .val (.ref v), .val (.int (Int32.ofNat cs.length))] [.ref ba, .ref x]
  have nxb : ba ≠ x := (((E.wr W1).keep K2).neArv V2 wiS).symm
  refine go_putfield (q := 38) (w_21 H) Via.refl ((Vv.other W1 (Or.inr sne)).keep K2 nin0) ((E.wr W1).keep K2) (Or.inr ⟨(w_17 H), rfl, rfl⟩) (w_3 H) (ty := (.array .byte)) (by decide) rfl rfl (by simp) d10_35 rfl ?_
  intro h3 W3
  refine go_goto (q := 97) d10_38 (by decide) (by decide) ?_
  have Kp : Keep h h3 [x] := ((Keep.of_wr W1).trans K2 (fun _ q => nomatch q)).wr W3 (Or.inl (by simp))
  exact go_return H (G := []) rfl d10_97 (by decide) (by decide) (fun _ q => nomatch q) ⟨rfl, Kp, ((E.wr W1).keep K2).wr W3, ((C.same W1).keep K2 nin0).other W3 (Or.inr sne.symm), hx, hl, ba, kb, fun q => absurd (hFl ba q) (Nat.not_lt.mpr (Nat.le_trans (Nat.le_of_eq W1.size.symm) gb)), ((Vv.other W1 (Or.inr sne)).keep K2 nin0).same W3, V2.other W3 nxb⟩
set_option maxRecDepth 65536 in
set_option maxHeartbeats 4000000 in
theorem rm_iSB {l : Launch} {Z : State} {a0 : Array Value} (H : Wd Z a0) {h : Heap} {F : List Addr} {x s v : Addr} {n : Nat} {cs : List Int32} (E : Exa Z h x ST) (C : Fld Z h x ST "coder" "B" (.int 0)) (Vv : Fld Z h x ST "value" "[B" .null) (B : SBd Z h s v n cs) (hb : cs.length < n) (hc : cs.length ≤ 16) (hx : x ∉ F) (hFl : ∀ y ∈ F, y < h.size) : Met l Z (⟨"java/lang/String", "<init>", "(Ljava/lang/StringBuilder;)V"⟩ : MethodName) jdk_42_method_53_code 2 none ({ frames := 4, cells := 1, slots := 16, locals := 90 } : Room) h (x :: F) #[.ref x, .ref s] (fun u h' G => u = none ∧ Keep h h' [x] ∧ Str Z h' F x cs) := by
  refine Met.mk (L := #[.val (.ref x), .val (.ref s)]) (by decide +kernel) (fun m => by first | (simp [entryFrame, mkF, argsToLocals, Value.category]; done) | rfl) (fun K => ?_)
  show Go _ _ K "java/lang/String" "<init>" _ _ _ _ _ _ _ _ _ 0 _ _
  refine go_aloadN (v := .ref x) (q := 1) d9_0 rfl rfl rfl ?_
  refine go_aloadN (v := .ref s) (q := 2) d9_1 rfl rfl rfl ?_
  refine go_null (q := 3) d9_2 rfl ?_
  refine go_special (c' := 1) (s' := 16) (q := 6) (S := []) (argsL := [.ref s, .null]) H rfl (w_65 H) (w_66 H) (w_4 H) (w_67 H) (by decide) (rm_iASB H E C Vv B hb hc hx hFl) rfl rfl (lenOf pd_12 rfl) (fun _ q => q) rfl (by decide) (Nat.le_of_ble_eq_true rfl) rfl rfl (by decide) (by decide) d9_3 rfl ?_
  rintro _ h1 G - ⟨rfl, K1, S1⟩
  refine nx_ (v := none) ?_
  show Go _ _ _ _ _ _ _ _ _ _ _ _ _ _ 6 #[.val (.ref x), .val (.ref s)] []
  exact go_return H (G := []) rfl d9_6 (by decide) (by decide) (fun _ q => nomatch q) ⟨rfl, K1, S1⟩
set_option maxRecDepth 65536 in
set_option maxHeartbeats 4000000 in
theorem rm_toS {l : Launch} {Z : State} {a0 : Array Value} (H : Wd Z a0) {h : Heap} {F : List Addr} {s v : Addr} {n : Nat} {cs : List Int32} (B : SBd Z h s v n cs) (hb : cs.length < n) (hc : cs.length ≤ 16) (hFl : ∀ y ∈ F, y < h.size) : Met l Z (⟨"java/lang/StringBuilder", "toString", "()Ljava/lang/String;"⟩ : MethodName) jdk_67_method_42_code 1 (some (.object "java/lang/String")) ({ frames := 5, cells := 2, slots := 20, locals := 106 } : Room) h F #[.ref s] (fun u h' G => ∃ a, u = some (.ref a) ∧ Keep h h' [] ∧ Str Z h' F a cs) := by
  refine Met.mk (L := #[.val (.ref s)]) (by decide +kernel) (fun m => by first | (simp [entryFrame, mkF, argsToLocals, Value.category]; done) | rfl) (fun K => ?_)
  show Go _ _ K "java/lang/StringBuilder" "toString" _ _ _ _ _ _ _ _ _ 0 _ _
  have Ka : Keep h h [] := Keep.refl _ _
  refine go_new (c' := 1) (s' := 4) (q := 3) (w_61 H) (w_3 H) (w_4 H) d8_0 rfl rfl rfl (by decide) (by decide) ?_
  intro h1 x g1 E1 A1 D1
  have f_Ka_x : h.size ≤ x := by rw [g1]; exact Ka.1
  have Ka : Keep h h1 [] := Ka.ext E1
  have C1 : Fld Z h1 x ST "coder" "B" (.int 0) := D1 (Or.inr (w_18 H)) (ty := .byte) (by decide)
  have V1 : Fld Z h1 x ST "value" "[B" .null := D1 (Or.inr (w_17 H)) (ty := .array .byte) (by decide)
  have nF : x ∉ F := fun q => absurd (hFl x q) (Nat.not_lt.mpr f_Ka_x)
  refine go_dup (q := 4) d8_3 rfl rfl ?_
  refine go_aloadN (v := .ref s) (q := 5) d8_4 rfl rfl rfl ?_
  refine go_special (c' := 2) (s' := 20) (q := 8) (S := [.ref x]) (argsL := [.ref s]) H rfl (w_62 H) (w_63 H) (w_4 H) (w_64 H) (by decide) (rm_iSB H A1 C1 V1 (B.ext E1) hb hc nF (fun y q => Nat.lt_of_lt_of_le (hFl y q) E1.1)) rfl rfl (lenOf pd_13 rfl) (fun _ q => q) rfl (by decide) (Nat.le_of_ble_eq_true rfl) rfl rfl (by decide) (by decide) d8_5 rfl ?_
  rintro _ h2 G - ⟨rfl, K2, S2⟩
  refine nx_ (v := none) ?_
  have Ka : Keep h h2 [] := kfresh Ka K2 f_Ka_x
  show Go _ _ _ _ _ _ _ _ _ _ _ _ _ _ 8 #[.val (.ref s)] [.ref x]
  exact go_areturn H (G := []) (t := (.object "java/lang/String")) rfl rfl rfl d8_8 (by decide) (by decide) (fun _ q => nomatch q) ⟨x, rfl, Ka, S2⟩
set_option maxRecDepth 65536 in
set_option maxHeartbeats 4000000 in
theorem rm_isL {l : Launch} {Z : State} {a0 : Array Value} (H : Wd Z a0) {h : Heap} {a : Addr} (C : Fld Z h a ST "coder" "B" (.int 0)) : Met l Z (⟨"java/lang/String", "isLatin1", "()Z"⟩ : MethodName) jdk_42_method_154_code 1 (some .boolean) ({ frames := 0, cells := 0, slots := 0, locals := 0 } : Room) h [] #[.ref a] (fun v h' G => v = some (.int 1) ∧ h = h') := by
  refine Met.mk (L := #[.val (.ref a)]) (by decide +kernel) (fun m => by first | (simp [entryFrame, mkF, argsToLocals, Value.category]; done) | rfl) (fun K => ?_)
  show Go _ _ K "java/lang/String" "isLatin1" _ _ _ _ _ _ _ _ _ 0 _ _
  obtain ⟨cz, Sz, nz⟩ := H.2.2.2.1
  refine go_getstatic (v := .int cz) (q := 3) (w_40 H) Via.refl Sz d23_0 rfl ?_
  refine go_ifN (q := 6) d23_3 nz rfl ?_
  refine go_aloadN (v := .ref a) (q := 7) d23_6 rfl rfl rfl ?_
  refine go_getfield (v := .int 0) (q := 10) (w_22 H) Via.refl C d23_7 rfl ?_
  refine go_ifN (q := 13) d23_10 rfl rfl ?_
  refine go_iconst (x := (1 : Int32)) (q := 14) d23_13 rfl rfl ?_
  refine go_goto (q := 18) d23_14 (by decide) (by decide) ?_
  exact go_ireturn H (G := []) (t := .boolean) rfl (by decide) rfl d23_18 (by decide) (by decide) (fun _ q => nomatch q) ⟨rfl, rfl⟩
set_option maxRecDepth 65536 in
set_option maxHeartbeats 4000000 in
theorem rm_ckP {l : Launch} {Z : State} {a0 : Array Value} (H : Wd Z a0) {h : Heap} {i n : Int32} {f : Value} (hf : f.isRef = true) (h0 : ¬ i < 0) (h1 : i < n) : Met l Z (⟨"jdk/internal/util/Preconditions", "checkIndex", "(IILjava/util/function/BiFunction;)I"⟩ : MethodName) jdk_41_method_11_code 3 (some .int) ({ frames := 0, cells := 0, slots := 0, locals := 0 } : Room) h [] #[.int i, .int n, f] (fun v h' G => v = some (.int i) ∧ h = h') := by
  refine Met.mk (L := #[.val (.int i), .val (.int n), .val (f)]) (by decide +kernel) (fun m => by rcases ref_cases hf with rfl | ⟨_, rfl⟩ <;> first | (simp [entryFrame, mkF, argsToLocals, Value.category]; done) | rfl) (fun K => ?_)
  show Go _ _ K "jdk/internal/util/Preconditions" "checkIndex" _ _ _ _ _ _ _ _ _ 0 _ _
  refine go_iloadN (v := i) (q := 1) d26_0 rfl rfl ?_
  refine go_ifN (q := 4) d26_1 h0 rfl ?_
  refine go_iloadN (v := i) (q := 5) d26_4 rfl rfl ?_
  refine go_iloadN (v := n) (q := 6) d26_5 rfl rfl ?_
  refine go_icY (q := 16) d26_6 h1 (by decide) (by decide) ?_
  refine go_iloadN (v := i) (q := 17) d26_16 rfl rfl ?_
  exact go_ireturn H (G := []) (t := .int) rfl (by decide) rfl d26_17 (by decide) (by decide) (fun _ q => nomatch q) ⟨rfl, rfl⟩
set_option maxRecDepth 65536 in
set_option maxHeartbeats 4000000 in
theorem rm_ckS {l : Launch} {Z : State} {a0 : Array Value} (H : Wd Z a0) {h : Heap} {i n : Int32} (h0 : ¬ i < 0) (h1 : i < n) : Met l Z (⟨"java/lang/String", "checkIndex", "(II)V"⟩ : MethodName) jdk_42_method_155_code 2 none ({ frames := 1, cells := 0, slots := 0, locals := 14 } : Room) h [] #[.int i, .int n] (fun v h' G => v = none ∧ h = h') := by
  refine Met.mk (L := #[.val (.int i), .val (.int n)]) (by decide +kernel) (fun m => by first | (simp [entryFrame, mkF, argsToLocals, Value.category]; done) | rfl) (fun K => ?_)
  show Go _ _ K "java/lang/String" "checkIndex" _ _ _ _ _ _ _ _ _ 0 _ _
  obtain ⟨fm, Sf, rf⟩ := H.2.2.2.2.1
  refine go_iloadN (v := i) (q := 1) d25_0 rfl rfl ?_
  refine go_iloadN (v := n) (q := 2) d25_1 rfl rfl ?_
  refine go_getstatic (v := fm) (q := 5) (w_135 H) Via.refl Sf d25_2 rfl ?_
  refine go_static (c' := 0) (s' := 0) (q := 8) (S := []) (argsL := [.int i, .int n, fm]) H (w_137 H) (w_138 H) (w_136 H) (w_139 H) (by decide) (rm_ckP H rf h0 h1) rfl rfl (lenOf pd_14 rfl) (fun _ q => nomatch q) rfl (by decide) (Nat.le_of_ble_eq_true rfl) rfl rfl (by decide) (by decide) d25_5 rfl ?_
  rintro _ _ G - ⟨rfl, rfl⟩
  refine nx_ (v := none) ?_
  show Go _ _ _ _ _ _ _ _ _ _ _ _ _ _ 8 #[.val (.int i), .val (.int n)] [.int i]
  refine go_pop (q := 9) d25_8 rfl rfl ?_
  exact go_return H (G := []) rfl d25_9 (by decide) (by decide) (fun _ q => nomatch q) ⟨rfl, rfl⟩
set_option maxRecDepth 65536 in
set_option maxHeartbeats 4000000 in
theorem rm_l1ch {l : Launch} {Z : State} {a0 : Array Value} (H : Wd Z a0) {h : Heap} {ba : Addr} {kb : ClassId} {cs : List Int32} {i : Nat} (A : Arv Z h ba kb .byte (Int32.ofNat cs.length) (bts cs) (.int 0)) (hl : Lat cs) (hi : i < cs.length) : Met l Z (⟨"java/lang/StringLatin1", "charAt", "([BI)C"⟩ : MethodName) jdk_43_method_2_code 2 (some .char) ({ frames := 2, cells := 0, slots := 0, locals := 27 } : Room) h [] #[.ref ba, .int (Int32.ofNat i)] (fun v h' G => v = some (.int cs[i]) ∧ h = h') := by
  refine Met.mk (L := #[.val (.ref ba), .val (.int (Int32.ofNat i))]) (by decide +kernel) (fun m => by first | (simp [entryFrame, mkF, argsToLocals, Value.category]; done) | rfl) (fun K => ?_)
  show Go _ _ K "java/lang/StringLatin1" "charAt" _ _ _ _ _ _ _ _ _ 0 _ _
  have hb := hl.1
  have hc := hl.2 cs[i] (List.getElem_mem hi)
  have n0 : ¬ Int32.ofNat i < 0 := nn_ofNat (by omega)
  have n1 : Int32.ofNat i < Int32.ofNat cs.length := (lt_ofNat (by omega) (by omega)).mpr hi
  refine go_iloadN (v := (Int32.ofNat i)) (q := 1) d24_0 rfl rfl ?_
  refine go_aloadN (v := .ref ba) (q := 2) d24_1 rfl rfl rfl ?_
  refine go_arraylength (z := (Int32.ofNat cs.length)) (q := 3) A d24_2 rfl ?_
  refine go_static (c' := 0) (s' := 0) (q := 6) (S := []) (argsL := [.int (Int32.ofNat i), .int (Int32.ofNat cs.length)]) H (w_132 H) (w_133 H) (w_4 H) (w_134 H) (by decide) (rm_ckS H n0 n1) rfl rfl (lenOf pd_6 rfl) (fun _ q => nomatch q) rfl (by decide) (Nat.le_of_ble_eq_true rfl) rfl rfl (by decide) (by decide) d24_3 rfl ?_
  rintro _ _ G - ⟨rfl, rfl⟩
  refine nx_ (v := none) ?_
  show Go _ _ _ _ _ _ _ _ _ _ _ _ _ _ 6 #[.val (.ref ba), .val (.int (Int32.ofNat i))] []
  refine go_aloadN (v := .ref ba) (q := 7) d24_6 rfl rfl rfl ?_
  refine go_iloadN (v := (Int32.ofNat i)) (q := 8) d24_7 rfl rfl ?_
  refine go_baload (v := .int (cs[i].toInt8.toInt32)) (q := 9) A ⟨n0, n1⟩ (by rw [cl_ofNat (by omega)]; exact bts_at hi) d24_8 rfl ?_
  refine go_sipush (x := (255 : Int32)) (q := 12) d24_9 rfl rfl ?_
  refine go_iand (r := cs[i]) (q := 13) d24_12 (b_and hc) rfl ?_
  refine go_i2c (r := cs[i]) (q := 14) d24_13 (nar_char hc.1 hc.2) rfl ?_
  exact go_ireturn H (G := []) (t := .char) rfl (by decide) (by show Value.int (nar .char cs[i]) = _; rw [nar_char hc.1 hc.2]) d24_14 (by decide) (by decide) (fun _ q => nomatch q) ⟨rfl, rfl⟩
set_option maxRecDepth 65536 in
set_option maxHeartbeats 4000000 in
theorem rm_chAt {l : Launch} {Z : State} {a0 : Array Value} (H : Wd Z a0) {h : Heap} {F : List Addr} {a : Addr} {cs : List Int32} {i : Nat} (S : Str Z h F a cs) (hi : i < cs.length) : Met l Z (⟨"java/lang/String", "charAt", "(I)C"⟩ : MethodName) jdk_42_method_56_code 2 (some .char) ({ frames := 3, cells := 0, slots := 0, locals := 40 } : Room) h [] #[.ref a, .int (Int32.ofNat i)] (fun v h' G => v = some (.int cs[i]) ∧ h = h') := by
  refine Met.mk (L := #[.val (.ref a), .val (.int (Int32.ofNat i))]) (by decide +kernel) (fun m => by first | (simp [entryFrame, mkF, argsToLocals, Value.category]; done) | rfl) (fun K => ?_)
  show Go _ _ K "java/lang/String" "charAt" _ _ _ _ _ _ _ _ _ 0 _ _
  obtain ⟨E, C, ha, hl, bb, k, hb, Vv, A⟩ := S
  have hc := hl.2 cs[i] (List.getElem_mem hi)
  refine go_aloadN (v := .ref a) (q := 1) d22_0 rfl rfl rfl ?_
  refine go_virtual (c' := 0) (s' := 0) (q := 4) (S := []) (argsL := []) H (C := "java/lang/String") (w_123 H) (w_124 H) (nf_self (w_126 H)) (w_126 H) (w_125 H) (w_4 H) (w_127 H) (by decide) E (rm_isL H C) rfl rfl (lenOf pd_11 rfl) (fun _ q => nomatch q) rfl (by decide) (Nat.le_of_ble_eq_true rfl) rfl rfl (by decide) (by decide) d22_1 rfl ?_
  rintro _ _ G - ⟨rfl, rfl⟩
  refine nx_ (v := none) ?_
  show Go _ _ _ _ _ _ _ _ _ _ _ _ _ _ 4 #[.val (.ref a), .val (.int (Int32.ofNat i))] [.int 1]
  refine go_ifN (q := 7) d22_4 (by decide) rfl ?_
  refine go_aloadN (v := .ref a) (q := 8) d22_7 rfl rfl rfl ?_
  refine go_getfield (v := .ref bb) (q := 11) (w_21 H) Via.refl Vv d22_8 rfl ?_
  refine go_iloadN (v := (Int32.ofNat i)) (q := 12) d22_11 rfl rfl ?_
  refine go_static (c' := 0) (s' := 0) (q := 15) (S := []) (argsL := [.ref bb, .int (Int32.ofNat i)]) H (w_128 H) (w_129 H) (w_130 H) (w_131 H) (by decide) (rm_l1ch H A hl hi) rfl rfl (lenOf pd_15 rfl) (fun _ q => nomatch q) rfl (by decide) (Nat.le_of_ble_eq_true rfl) rfl rfl (by decide) (by decide) d22_12 rfl ?_
  rintro _ _ G - ⟨rfl, rfl⟩
  refine nx_ (v := none) ?_
  show Go _ _ _ _ _ _ _ _ _ _ _ _ _ _ 15 #[.val (.ref a), .val (.int (Int32.ofNat i))] [.int (cs[i])]
  exact go_ireturn H (G := []) (t := .char) rfl (by decide) (by show Value.int (nar .char cs[i]) = _; rw [nar_char hc.1 hc.2]) d22_15 (by decide) (by decide) (fun _ q => nomatch q) ⟨rfl, rfl⟩
theorem rm_chV {l : Launch} {Z : State} {a0 : Array Value} (H : Wd Z a0) {h : Heap} {F : List Addr} {a : Addr} {cs : List Int32} {i : Nat} {v : Int32} (S : Str Z h F a cs) (hv : cs[i]? = some v) : Met l Z (⟨"java/lang/String", "charAt", "(I)C"⟩ : MethodName) jdk_42_method_56_code 2 (some .char) ({ frames := 3, cells := 0, slots := 0, locals := 40 } : Room) h [] #[.ref a, .int (Int32.ofNat i)] (fun u h' G => u = some (.int v) ∧ h = h') := by
  obtain ⟨hi, rfl⟩ := List.getElem?_eq_some_iff.mp hv
  exact rm_chAt H S hi
set_option maxRecDepth 65536 in
set_option maxHeartbeats 4000000 in
theorem rm_apCA {l : Launch} {Z : State} {a0 : Array Value} (H : Wd Z a0) {h : Heap} {x v : Addr} {cap : Nat} {cs : List Int32} {c : Int32} (B : SBd Z h x v cap cs) (hc : ¬ c < 0 ∧ ¬ 255 < c) (hb : cs.length + 1 ≤ cap) : Met l Z (⟨"java/lang/AbstractStringBuilder", "append", "(C)Ljava/lang/AbstractStringBuilder;"⟩ : MethodName) jdk_68_method_31_code 2 (some (.object "java/lang/AbstractStringBuilder")) ({ frames := 1, cells := 0, slots := 0, locals := 16 } : Room) h [x, v] #[.ref x, .int c] (fun u h' G => u = some (.ref x) ∧ Keep h h' [x, v] ∧ SBd Z h' x v cap (cs ++ [c])) := by
  refine Met.mk (L := #[.val (.ref x), .val (.int c)]) (by decide +kernel) (fun m => by first | (simp [entryFrame, mkF, argsToLocals, Value.category]; done) | rfl) (fun K => ?_)
  show Go _ _ K "java/lang/AbstractStringBuilder" "append" _ _ _ _ _ _ _ _ _ 0 _ _
  have B0 := B
  obtain ⟨E, Vv, C, N, hl, l1, l2, k, A⟩ := B
  have s2 : RoadKit.slotOf Z ABN "value" "[B" ≠ RoadKit.slotOf Z ABN "count" "I" := slot_ne (C := SBN) (Or.inl (w_53 H)) (Or.inl (w_83 H)) (by decide) (t := .array .byte) (t' := .int) (by decide) (by decide)
  have s3 : RoadKit.slotOf Z ABN "coder" "B" ≠ RoadKit.slotOf Z ABN "count" "I" := slot_ne (C := SBN) (Or.inl (w_55 H)) (Or.inl (w_83 H)) (by decide) (t := .byte) (t' := .int) (by decide) (by decide)
  have nxv : v ≠ x := (E.neArv A (w_28 H)).symm
  refine go_aloadN (v := .ref x) (q := 1) d28_0 rfl rfl rfl ?_
  refine go_aloadN (v := .ref x) (q := 2) d28_1 rfl rfl rfl ?_
  refine go_getfield (v := .int (Int32.ofNat cs.length)) (q := 5) (w_82 H) Via.refl N d28_2 rfl ?_
  refine go_iconst (x := (1 : Int32)) (q := 6) d28_5 rfl rfl ?_
  refine go_iadd (r := (Int32.ofNat (cs.length + 1))) (q := 7) d28_6 (add_ofNat _ 1) rfl ?_
  refine go_virtual (c' := 0) (s' := 0) (q := 10) (S := []) (argsL := [.int (Int32.ofNat (cs.length + 1))]) H (C := "java/lang/StringBuilder") (w_149 H) (decl_of (w_150 H) (w_153 H)) (nf_self (w_152 H)) (w_152 H) (w_150 H) (w_48 H) (w_153 H) (by decide) E (rm_ens H B0 hb) rfl rfl (lenOf pd_5 rfl) (fun _ q => nomatch q) rfl (by decide) (Nat.le_of_ble_eq_true rfl) rfl rfl (by decide) (by decide) d28_7 rfl ?_
  rintro _ _ G - ⟨rfl, rfl⟩
  refine nx_ (v := none) ?_
  show Go _ _ _ _ _ _ _ _ _ _ _ _ _ _ 10 #[.val (.ref x), .val (.int c)] []
  refine go_aloadN (v := .ref x) (q := 11) d28_10 rfl rfl rfl ?_
  refine go_virtual (c' := 0) (s' := 0) (q := 14) (S := []) (argsL := []) H (C := "java/lang/StringBuilder") (w_154 H) (w_85 H) (nf_self (w_87 H)) (w_87 H) (w_86 H) (w_48 H) (w_88 H) (by decide) E (rm_aL1 H C) rfl rfl (lenOf pd_11 rfl) (fun _ q => nomatch q) rfl (by decide) (Nat.le_of_ble_eq_true rfl) rfl rfl (by decide) (by decide) d28_11 rfl ?_
  rintro _ _ G - ⟨rfl, rfl⟩
  refine nx_ (v := none) ?_
  show Go _ _ _ _ _ _ _ _ _ _ _ _ _ _ 14 #[.val (.ref x), .val (.int c)] [.int 1]
  refine go_ifN (q := 17) d28_14 (by decide) rfl ?_
  refine go_iloadN (v := c) (q := 18) d28_17 rfl rfl ?_
  refine go_static (c' := 0) (s' := 0) (q := 21) (S := []) (argsL := [.int c]) H (w_155 H) (w_156 H) (w_130 H) (w_157 H) (by decide) (rm_canE H hc.2) rfl rfl (lenOf pd_16 rfl) (fun _ q => nomatch q) rfl (by decide) (Nat.le_of_ble_eq_true rfl) rfl rfl (by decide) (by decide) d28_18 rfl ?_
  rintro _ _ G - ⟨rfl, rfl⟩
  refine nx_ (v := none) ?_
  show Go _ _ _ _ _ _ _ _ _ _ _ _ _ _ 21 #[.val (.ref x), .val (.int c)] [.int 1]
  refine go_ifN (q := 24) d28_21 (by decide) rfl ?_
  refine go_aloadN (v := .ref x) (q := 25) d28_24 rfl rfl rfl ?_
  refine go_getfield (v := .ref v) (q := 28) (w_52 H) Via.refl Vv d28_25 rfl ?_
  refine go_aloadN (v := .ref x) (q := 29) d28_28 rfl rfl rfl ?_
  refine go_dup (q := 30) d28_29 rfl rfl ?_
  refine go_getfield (v := .int (Int32.ofNat cs.length)) (q := 33) (w_82 H) Via.refl N d28_30 rfl ?_
  refine go_dupX1 (q := 34) d28_33 rfl rfl rfl ?_
  refine go_iconst (x := (1 : Int32)) (q := 35) d28_34 rfl rfl ?_
  refine go_iadd (r := (Int32.ofNat (cs.length + 1))) (q := 36) d28_35 (add_ofNat _ 1) rfl ?_
  refine go_putfield (q := 39) (w_82 H) Via.refl N E (Or.inl (w_83 H)) (w_28 H) (ty := .int) (by decide) rfl rfl (by simp) d28_36 rfl ?_
  intro h1 W1
  refine go_iloadN (v := c) (q := 40) d28_39 rfl rfl ?_
  refine go_i2b (r := c.toInt8.toInt32) (q := 41) d28_40 rfl rfl ?_
  refine go_bastore (i := cs.length) (y := c.toInt8.toInt32) (q := 42) (A.other W1 nxv) ⟨nn_ofNat (by omega), (lt_ofNat (by omega) (by omega)).mpr (by omega)⟩ (cl_ofNat (by omega)) (by simp; omega) (by simp) (show (c.toInt8.toInt32).toInt8.toInt32 = c.toInt8.toInt32 by simp) d28_41 rfl ?_
  intro h2 K2 z2 V2
  rw [put_eq hb] at V2
  refine go_goto (q := 75) d28_42 (by decide) (by decide) ?_
  refine go_aloadN (v := .ref x) (q := 76) d28_75 rfl rfl rfl ?_
  have Kp : Keep h h2 [x, v] := (kless (Keep.of_wr W1) (by simp)).trans K2 (by intro y q; simp only [List.mem_cons, List.not_mem_nil, or_false] at q; exact Or.inl (by simp [q]))
  exact go_areturn H (G := []) (t := (.object "java/lang/AbstractStringBuilder")) rfl rfl rfl d28_76 (by decide) (by decide) (fun _ q => nomatch q) ⟨rfl, Kp, (E.wr W1).keep K2, (Vv.other W1 (Or.inr s2)).keep K2 (ninS nxv.symm nin0), (C.other W1 (Or.inr s3)).keep K2 (ninS nxv.symm nin0), by rw [List.length_append]; exact (N.same W1).keep K2 (ninS nxv.symm nin0), hl.app ⟨Nat.le_of_ble_eq_true rfl, by intro d hd; simp only [List.mem_cons, List.not_mem_nil, or_false] at hd; subst hd; exact hc⟩ (by show cs.length + 1 ≤ 4096; omega), by rw [List.length_append]; exact hb, l2, k, V2⟩
set_option maxRecDepth 65536 in
set_option maxHeartbeats 4000000 in
theorem rm_apC {l : Launch} {Z : State} {a0 : Array Value} (H : Wd Z a0) {h : Heap} {x v : Addr} {cap : Nat} {cs : List Int32} {c : Int32} (B : SBd Z h x v cap cs) (hc : ¬ c < 0 ∧ ¬ 255 < c) (hb : cs.length + 1 ≤ cap) : Met l Z (⟨"java/lang/StringBuilder", "append", "(C)Ljava/lang/StringBuilder;"⟩ : MethodName) jdk_67_method_14_code 2 (some (.object "java/lang/StringBuilder")) ({ frames := 2, cells := 0, slots := 0, locals := 30 } : Room) h [x, v] #[.ref x, .int c] (fun u h' G => u = some (.ref x) ∧ Keep h h' [x, v] ∧ SBd Z h' x v cap (cs ++ [c])) := by
  refine Met.mk (L := #[.val (.ref x), .val (.int c)]) (by decide +kernel) (fun m => by first | (simp [entryFrame, mkF, argsToLocals, Value.category]; done) | rfl) (fun K => ?_)
  show Go _ _ K "java/lang/StringBuilder" "append" _ _ _ _ _ _ _ _ _ 0 _ _
  refine go_aloadN (v := .ref x) (q := 1) d27_0 rfl rfl rfl ?_
  refine go_iloadN (v := c) (q := 2) d27_1 rfl rfl ?_
  refine go_super (c' := 0) (s' := 0) (q := 5) (S := []) (argsL := [.int c]) H (C := "java/lang/StringBuilder") (w_145 H) (same_of (y := ({ cls := "java/lang/AbstractStringBuilder", name := "append", desc := "(C)Ljava/lang/AbstractStringBuilder;" } : Jvm.MethodName)) (w := ({ cls := "java/lang/AbstractStringBuilder", name := "getValue", desc := "()[B" } : Jvm.MethodName)) (C := "java/lang/StringBuilder") rfl (w_71 H) (w_147 H) (by decide)) (w_146 H) (w_80 H) (w_48 H) (w_148 H) (by decide) B.exa (rm_apCA H B hc hb) rfl rfl (lenOf pd_17 rfl) (fun _ q => q) rfl (by decide) (Nat.le_of_ble_eq_true rfl) rfl rfl (by decide) (by decide) d27_2 rfl ?_
  rintro _ h1 G - ⟨rfl, K1, S1⟩
  refine nx_ (v := none) ?_
  show Go _ _ _ _ _ _ _ _ _ _ _ _ _ _ 5 #[.val (.ref x), .val (.int c)] [.ref x]
  refine go_pop (q := 6) d27_5 rfl rfl ?_
  refine go_aloadN (v := .ref x) (q := 7) d27_6 rfl rfl rfl ?_
  exact go_areturn H (G := []) (t := (.object "java/lang/StringBuilder")) rfl rfl rfl d27_7 (by decide) (by decide) (fun _ q => nomatch q) ⟨rfl, K1, S1⟩
set_option maxRecDepth 65536 in
set_option maxHeartbeats 4000000 in
theorem rm_esc {l : Launch} {Z : State} {a0 : Array Value} (H : Wd Z a0) {h : Heap} {x v : Addr} {cap : Nat} {cs : List Int32} {c : Int32} (HX : Hexs Z) (B : SBd Z h x v cap cs) (hc : ¬ c < 0 ∧ ¬ 255 < c) (hb : cs.length + 3 ≤ cap) : Met l Z (⟨"com/example/tabane/tabane/http/RequestHead", "appendEscape", "(Ljava/lang/StringBuilder;C)V"⟩ : MethodName) prog_24_method_11_code 2 none ({ frames := 3, cells := 0, slots := 0, locals := 48 } : Room) h [x, v] #[.ref x, .int c] (fun u h' G => u = none ∧ Keep h h' [x, v] ∧ SBd Z h' x v cap (cs ++ esc3 c)) := by
  refine Met.mk (L := #[.val (.ref x), .val (.int c)]) (plainFor_of_name (by first | (simp [plainName, overriddenIn]; done) | decide +kernel)) (fun m => by first | (simp [entryFrame, mkF, argsToLocals, Value.category]; done) | rfl) (fun K => ?_)
  show Go _ _ K "com/example/tabane/tabane/http/RequestHead" "appendEscape" _ _ _ _ _ _ _ _ _ 0 _ _
  obtain ⟨ha, kh, HS, HA⟩ := HX
  obtain ⟨p0, p1⟩ := nib_hi hc
  obtain ⟨q0, q1⟩ := nib_lo c
  obtain ⟨eh, hh⟩ := hex_at p0 p1
  obtain ⟨el, hll⟩ := hex_at q0 q1
  refine go_aloadN (v := .ref x) (q := 1) d33_0 rfl rfl rfl ?_
  refine go_bipush (x := (37 : Int32)) (q := 3) d33_1 rfl rfl ?_
  refine go_virtual (c' := 0) (s' := 0) (q := 6) (S := []) (argsL := [.int (37 : Int32)]) H (C := "java/lang/StringBuilder") (w_140 H) (w_141 H) (nf_self (w_143 H)) (w_143 H) (w_142 H) (w_29 H) (w_144 H) (by decide) B.exa (rm_apC H B (c := 37) (by decide) (by omega)) rfl rfl (lenOf pd_18 rfl) (fun _ q => q) rfl (by decide) (Nat.le_of_ble_eq_true rfl) rfl rfl (by decide) (by decide) d33_3 rfl ?_
  rintro _ h1 G - ⟨rfl, K1, B1⟩
  refine nx_ (v := none) ?_
  show Go _ _ _ _ _ _ _ _ _ _ _ _ _ _ 6 #[.val (.ref x), .val (.int c)] [.ref x]
  refine go_mine fun _ hO => ?_
  refine go_getstatic (v := .ref ha) (q := 9) (w_169 H) Via.refl HS d33_6 rfl ?_
  refine go_iloadN (v := c) (q := 10) d33_9 rfl rfl ?_
  refine go_iconst (x := (4 : Int32)) (q := 11) d33_10 rfl rfl ?_
  refine go_ishr (r := c >>> ((4 : Int32) &&& 31)) (q := 12) d33_11 rfl rfl ?_
  refine go_caload (v := .int (hx (c >>> ((4 : Int32) &&& 31)))) (q := 13) (HA.ext hO.2) ⟨p0, p1⟩ eh d33_12 rfl ?_
  refine go_virtual (c' := 0) (s' := 0) (q := 16) (S := []) (argsL := [.int (hx (c >>> ((4 : Int32) &&& 31)))]) H (C := "java/lang/StringBuilder") (w_140 H) (w_141 H) (nf_self (w_143 H)) (w_143 H) (w_142 H) (w_29 H) (w_144 H) (by decide) B1.exa (rm_apC H B1 hh (by simp; omega)) rfl rfl (lenOf pd_18 rfl) (fun _ q => q) rfl (by decide) (Nat.le_of_ble_eq_true rfl) rfl rfl (by decide) (by decide) d33_13 rfl ?_
  rintro _ h2 G - ⟨rfl, K2, B2⟩
  refine nx_ (v := none) ?_
  show Go _ _ _ _ _ _ _ _ _ _ _ _ _ _ 16 #[.val (.ref x), .val (.int c)] [.ref x]
  refine go_mine fun _ hO => ?_
  refine go_getstatic (v := .ref ha) (q := 19) (w_169 H) Via.refl HS d33_16 rfl ?_
  refine go_iloadN (v := c) (q := 20) d33_19 rfl rfl ?_
  refine go_bipush (x := (15 : Int32)) (q := 22) d33_20 rfl rfl ?_
  refine go_iand (r := c &&& (15 : Int32)) (q := 23) d33_22 rfl rfl ?_
  refine go_caload (v := .int (hx (c &&& 15))) (q := 24) (HA.ext hO.2) ⟨q0, q1⟩ el d33_23 rfl ?_
  refine go_virtual (c' := 0) (s' := 0) (q := 27) (S := []) (argsL := [.int (hx (c &&& 15))]) H (C := "java/lang/StringBuilder") (w_140 H) (w_141 H) (nf_self (w_143 H)) (w_143 H) (w_142 H) (w_29 H) (w_144 H) (by decide) B2.exa (rm_apC H B2 hll (by simp; omega)) rfl rfl (lenOf pd_18 rfl) (fun _ q => q) rfl (by decide) (Nat.le_of_ble_eq_true rfl) rfl rfl (by decide) (by decide) d33_24 rfl ?_
  rintro _ h3 G - ⟨rfl, K3, B3⟩
  refine nx_ (v := none) ?_
  show Go _ _ _ _ _ _ _ _ _ _ _ _ _ _ 27 #[.val (.ref x), .val (.int c)] [.ref x]
  refine go_pop (q := 28) d33_27 rfl rfl ?_
  exact go_return H (G := []) rfl d33_28 (by decide) (by decide) (fun _ q => nomatch q) ⟨rfl, (K1.trans K2 (fun _ q => Or.inl q)).trans K3 (fun _ q => Or.inl q), by simpa [esc3] using B3⟩
set_option maxRecDepth 65536 in
set_option maxHeartbeats 4000000 in
theorem lp_qf {l : Launch} {Z : State} {a0 : Array Value} (H : Wd Z a0) {K : Cx} {h : Heap} {F : List Addr} {x v a : Addr} {cs : List Int32} (HX : Hexs Z) (hn : cs.length ≤ 4) (fx : h.size ≤ x) (fv : h.size ≤ v) : ∀ (n i : Nat) (x3 : Slot) (h1 : Heap), n + i = cs.length → One x3 → Keep h h1 [] → Str Z h1 (v :: x :: F) a cs → SBd Z h1 x v (cs.length + 16) ((cs.take i).flatMap esc) → Go l Z K "com/example/tabane/tabane/http/RequestHead" "queryForm" prog_24_method_10_code 4 (some (.object "java/lang/String")) ({ frames := 6, cells := 4, slots := 44, locals := 125 } : Room) (fun u h' G => ∃ r, u = some (.ref r) ∧ Keep h h' [] ∧ Str Z h' F r (cs.flatMap esc)) h1 (v :: x :: F) 2 24 17 #[.val (.ref a), .val (.ref x), .val (.int (Int32.ofNat i)), x3] []
  | 0, i, x3, h1, hni, h3, Ka, S, B => by
    obtain rfl : i = cs.length := by omega
    refine go_iloadN (v := (Int32.ofNat cs.length)) (q := 18) d3_17 rfl rfl ?_
    refine go_aloadN (v := .ref a) (q := 19) d3_18 rfl rfl rfl ?_
    refine go_virtual (c' := 2) (s' := 24) (q := 22) (S := [.int (Int32.ofNat cs.length)]) (argsL := []) H (C := "java/lang/String") (w_30 H) (w_31 H) (nf_self (w_33 H)) (w_33 H) (w_32 H) (w_4 H) (w_34 H) (by decide) S.exa (rm_len H S) rfl rfl (lenOf pd_9 rfl) (fun _ q => nomatch q) rfl (by decide) (Nat.le_of_ble_eq_true rfl) rfl rfl (by decide) (by decide) d3_19 rfl ?_
    rintro _ _ G - ⟨rfl, rfl⟩
    refine nx_ (v := none) ?_
    show Go _ _ _ _ _ _ _ _ _ _ _ _ _ _ 22 #[.val (.ref a), .val (.ref x), .val (.int (Int32.ofNat cs.length)), x3] [.int (Int32.ofNat cs.length), .int (Int32.ofNat cs.length)]
    refine go_icY (q := 58) d3_22 (show ¬ Int32.ofNat cs.length < Int32.ofNat cs.length from Int32.lt_irrefl) (by decide) (by decide) ?_
    refine go_aloadN (v := .ref x) (q := 59) d3_58 rfl rfl rfl ?_
    rw [List.take_of_length_le (Nat.le_refl _)] at B
    have hle := escs_len cs
    refine go_mine fun hM _ => ?_
    refine go_virtual (c' := 4) (s' := 44) (q := 62) (S := []) (argsL := []) H (C := "java/lang/StringBuilder") (w_56 H) (w_57 H) (nf_self (w_59 H)) (w_59 H) (w_58 H) (w_29 H) (w_60 H) (by decide) B.exa (rm_toS H (F := F) B (by omega) (by omega) (fun y q => (hM y (by simp [q])).2)) rfl rfl (lenOf pd_19 rfl) (by intro y q; simp [q]) rfl (by decide) (Nat.le_of_ble_eq_true rfl) rfl rfl (by decide) (by decide) d3_59 rfl ?_
    rintro _ hz G - ⟨r, rfl, Kz, Sz⟩
    refine nx_ (v := none) ?_
    show Go _ _ _ _ _ _ _ _ _ _ _ _ _ _ 62 #[.val (.ref a), .val (.ref x), .val (.int (Int32.ofNat cs.length)), x3] [.ref r]
    exact go_areturn H (G := []) (t := (.object "java/lang/String")) rfl rfl rfl d3_62 (by decide) (by decide) (fun _ q => nomatch q) ⟨r, rfl, Ka.trans Kz (fun _ q => nomatch q), Sz⟩
  | n + 1, i, x3, h1, hni, h3, Ka, S, B => by
    have hi : i < cs.length := by omega
    have hlat := S.lat.2 cs[i] (List.getElem_mem hi)
    have hle := escs_len (cs.take i)
    have htl : (cs.take i).length ≤ i := by simp; omega
    refine go_iloadN (v := (Int32.ofNat i)) (q := 18) d3_17 rfl rfl ?_
    refine go_aloadN (v := .ref a) (q := 19) d3_18 rfl rfl rfl ?_
    refine go_virtual (c' := 2) (s' := 24) (q := 22) (S := [.int (Int32.ofNat i)]) (argsL := []) H (C := "java/lang/String") (w_30 H) (w_31 H) (nf_self (w_33 H)) (w_33 H) (w_32 H) (w_4 H) (w_34 H) (by decide) S.exa (rm_len H S) rfl rfl (lenOf pd_9 rfl) (fun _ q => nomatch q) rfl (by decide) (Nat.le_of_ble_eq_true rfl) rfl rfl (by decide) (by decide) d3_19 rfl ?_
    rintro _ _ G - ⟨rfl, rfl⟩
    refine nx_ (v := none) ?_
    show Go _ _ _ _ _ _ _ _ _ _ _ _ _ _ 22 #[.val (.ref a), .val (.ref x), .val (.int (Int32.ofNat i)), x3] [.int (Int32.ofNat cs.length), .int (Int32.ofNat i)]
    refine go_icN (q := 25) d3_22 ((lt_ofNat (by omega) (by omega)).mpr hi) rfl ?_
    refine go_aloadN (v := .ref a) (q := 26) d3_25 rfl rfl rfl ?_
    refine go_iloadN (v := (Int32.ofNat i)) (q := 27) d3_26 rfl rfl ?_
    refine go_virtual (c' := 2) (s' := 24) (q := 30) (S := []) (argsL := [.int (Int32.ofNat i)]) H (C := "java/lang/String") (w_118 H) (w_119 H) (nf_self (w_121 H)) (w_121 H) (w_120 H) (w_4 H) (w_122 H) (by decide) S.exa (rm_chAt H S hi) rfl rfl (lenOf pd_20 rfl) (fun _ q => nomatch q) rfl (by decide) (Nat.le_of_ble_eq_true rfl) rfl rfl (by decide) (by decide) d3_27 rfl ?_
    rintro _ _ G - ⟨rfl, rfl⟩
    refine nx_ (v := none) ?_
    show Go _ _ _ _ _ _ _ _ _ _ _ _ _ _ 30 #[.val (.ref a), .val (.ref x), .val (.int (Int32.ofNat i)), x3] [.int (cs[i])]
    refine go_istoreNO (L' := #[.val (.ref a), .val (.ref x), .val (.int (Int32.ofNat i)), .val (.int (cs[i]))]) (q := 31) d3_30 rfl h3 rfl rfl ?_
    refine go_iloadN (v := cs[i]) (q := 32) d3_31 rfl rfl ?_
    refine go_sipush (x := (128 : Int32)) (q := 35) d3_32 rfl rfl ?_
    by_cases q8 : cs[i] < 128
    · refine go_icN (q := 38) d3_35 q8 rfl ?_
      refine go_aloadN (v := .ref x) (q := 39) d3_38 rfl rfl rfl ?_
      refine go_iloadN (v := cs[i]) (q := 40) d3_39 rfl rfl ?_
      refine go_virtual (c' := 2) (s' := 24) (q := 43) (S := []) (argsL := [.int (cs[i])]) H (C := "java/lang/StringBuilder") (w_140 H) (w_141 H) (nf_self (w_143 H)) (w_143 H) (w_142 H) (w_29 H) (w_144 H) (by decide) B.exa (rm_apC H B hlat (by omega)) rfl rfl (lenOf pd_18 rfl) (by intro z hz; simp only [List.mem_cons, List.not_mem_nil, or_false] at hz ⊢; first | exact hz | exact Or.inl hz | (rcases hz with hz | hz <;> simp [hz]; done) | (rcases hz with rfl | rfl <;> simp)) rfl (by decide) (Nat.le_of_ble_eq_true rfl) rfl rfl (by decide) (by decide) d3_40 rfl ?_
      rintro _ h2 G - ⟨rfl, K2, B2⟩
      refine nx_ (v := none) ?_
      show Go _ _ _ _ _ _ _ _ _ _ _ _ _ _ 43 #[.val (.ref a), .val (.ref x), .val (.int (Int32.ofNat i)), .val (.int (cs[i]))] [.ref x]
      have B2 : SBd Z h2 x v (cs.length + 16) ((cs.take (i + 1)).flatMap esc) := by rw [take_esc hi, esc, if_pos q8]; exact B2
      refine go_pop (q := 44) d3_43 rfl rfl ?_
      refine go_goto (q := 52) d3_44 (by decide) (by decide) ?_
      refine go_iinc (x := (Int32.ofNat i)) (y := (Int32.ofNat (i + 1))) (L' := #[.val (.ref a), .val (.ref x), .val (.int (Int32.ofNat (i + 1))), .val (.int (cs[i]))]) (q := 55) d3_52 rfl add1_ofNat rfl rfl ?_
      refine go_goto (q := 17) d3_55 (by decide) (by decide) ?_
      exact lp_qf H HX hn fx fv n (i + 1) _ h2 (by omega) (One.val rfl) (Ka.trans K2 (by intro y q; simp only [List.mem_cons, List.not_mem_nil, or_false] at q; rcases q with rfl | rfl; exact Or.inr fx; exact Or.inr fv)) (S.keep K2 (by intro y q; simp only [List.mem_cons, List.not_mem_nil, or_false] at q ⊢; rcases q with rfl | rfl <;> simp)) B2
    · refine go_icY (q := 47) d3_35 q8 (by decide) (by decide) ?_
      refine go_aloadN (v := .ref x) (q := 48) d3_47 rfl rfl rfl ?_
      refine go_iloadN (v := cs[i]) (q := 49) d3_48 rfl rfl ?_
      refine go_static (c' := 2) (s' := 24) (q := 52) (S := []) (argsL := [.ref x, .int (cs[i])]) H (w_166 H) (w_167 H) (w_25 H) (w_168 H) (by decide) (rm_esc H HX B hlat (by omega)) rfl rfl (lenOf pd_21 rfl) (by intro z hz; simp only [List.mem_cons, List.not_mem_nil, or_false] at hz ⊢; first | exact hz | exact Or.inl hz | (rcases hz with hz | hz <;> simp [hz]; done) | (rcases hz with rfl | rfl <;> simp)) rfl (by decide) (Nat.le_of_ble_eq_true rfl) rfl rfl (by decide) (by decide) d3_49 rfl ?_
      rintro _ h2 G - ⟨rfl, K2, B2⟩
      refine nx_ (v := none) ?_
      show Go _ _ _ _ _ _ _ _ _ _ _ _ _ _ 52 #[.val (.ref a), .val (.ref x), .val (.int (Int32.ofNat i)), .val (.int (cs[i]))] []
      have B2 : SBd Z h2 x v (cs.length + 16) ((cs.take (i + 1)).flatMap esc) := by rw [take_esc hi, esc, if_neg q8]; exact B2
      refine go_iinc (x := (Int32.ofNat i)) (y := (Int32.ofNat (i + 1))) (L' := #[.val (.ref a), .val (.ref x), .val (.int (Int32.ofNat (i + 1))), .val (.int (cs[i]))]) (q := 55) d3_52 rfl add1_ofNat rfl rfl ?_
      refine go_goto (q := 17) d3_55 (by decide) (by decide) ?_
      exact lp_qf H HX hn fx fv n (i + 1) _ h2 (by omega) (One.val rfl) (Ka.trans K2 (by intro y q; simp only [List.mem_cons, List.not_mem_nil, or_false] at q; rcases q with rfl | rfl; exact Or.inr fx; exact Or.inr fv)) (S.keep K2 (by intro y q; simp only [List.mem_cons, List.not_mem_nil, or_false] at q ⊢; rcases q with rfl | rfl <;> simp)) B2
set_option maxRecDepth 65536 in
set_option maxHeartbeats 4000000 in
theorem rm_qf {l : Launch} {Z : State} {a0 : Array Value} (H : Wd Z a0) {h : Heap} {F : List Addr} {a : Addr} {cs : List Int32} (HX : Hexs Z) (S : Str Z h F a cs) (hn : cs.length ≤ 4) : Met l Z (⟨"com/example/tabane/tabane/http/RequestHead", "queryForm", "(Ljava/lang/String;)Ljava/lang/String;"⟩ : MethodName) prog_24_method_10_code 4 (some (.object "java/lang/String")) ({ frames := 6, cells := 4, slots := 44, locals := 125 } : Room) h F #[.ref a] (fun u h' G => ∃ r, u = some (.ref r) ∧ Keep h h' [] ∧ Str Z h' F r (cs.flatMap esc)) := by
  refine Met.mk (L := #[.val (.ref a), .unset, .unset, .unset]) (plainFor_of_name (by first | (simp [plainName, overriddenIn]; done) | decide +kernel)) (fun m => by first | (simp [entryFrame, mkF, argsToLocals, Value.category]; done) | rfl) (fun K => ?_)
  show Go _ _ K "com/example/tabane/tabane/http/RequestHead" "queryForm" _ _ _ _ _ _ _ _ _ 0 _ _
  have Ka : Keep h h [] := Keep.refl _ _
  refine go_new (c' := 1) (s' := 4) (q := 3) (w_27 H) (w_28 H) (w_29 H) d3_0 rfl rfl rfl (by decide) (by decide) ?_
  intro h1 x g1 E1 A1 D1
  have f_Ka_x : h.size ≤ x := by rw [g1]; exact Ka.1
  have Ka : Keep h h1 [] := Ka.ext E1
  have V1 : Fld Z h1 x ABN "value" "[B" .null := D1 (Or.inl (w_53 H)) (ty := .array .byte) (by decide)
  have C1 : Fld Z h1 x ABN "coder" "B" (.int 0) := D1 (Or.inl (w_55 H)) (ty := .byte) (by decide)
  have N1 : Fld Z h1 x ABN "count" "I" (.int 0) := D1 (Or.inl (w_83 H)) (ty := .int) (by decide)
  refine go_dup (q := 4) d3_3 rfl rfl ?_
  refine go_aloadN (v := .ref a) (q := 5) d3_4 rfl rfl rfl ?_
  refine go_virtual (c' := 1) (s' := 4) (q := 8) (S := [.ref x, .ref x]) (argsL := []) H (C := "java/lang/String") (w_30 H) (w_31 H) (nf_self (w_33 H)) (w_33 H) (w_32 H) (w_4 H) (w_34 H) (by decide) (S.ext E1).exa (rm_len H (S.ext E1)) rfl rfl (lenOf pd_9 rfl) (fun _ q => nomatch q) rfl (by decide) (Nat.le_of_ble_eq_true rfl) rfl rfl (by decide) (by decide) d3_5 rfl ?_
  rintro _ _ G - ⟨rfl, rfl⟩
  refine nx_ (v := none) ?_
  show Go _ _ _ _ _ _ _ _ _ _ _ _ _ _ 8 #[.val (.ref a), .unset, .unset, .unset] [.int (Int32.ofNat cs.length), .ref x, .ref x]
  refine go_bipush (x := (16 : Int32)) (q := 10) d3_8 rfl rfl ?_
  refine go_iadd (r := (Int32.ofNat (cs.length + 16))) (q := 11) d3_10 (add_ofNat _ 16) rfl ?_
  refine go_special (c' := 2) (s' := 24) (q := 14) (S := [.ref x]) (argsL := [.int (Int32.ofNat (cs.length + 16))]) H rfl (w_41 H) (w_42 H) (w_29 H) (w_43 H) (by decide) (rm_sbII H A1 V1 C1 N1 (by omega)) rfl rfl (lenOf pd_5 rfl) (by intro z hz; simp only [List.mem_cons, List.not_mem_nil, or_false] at hz ⊢; first | exact hz | exact Or.inl hz | (rcases hz with hz | hz <;> simp [hz]; done) | (rcases hz with rfl | rfl <;> simp)) rfl (by decide) (Nat.le_of_ble_eq_true rfl) rfl rfl (by decide) (by decide) d3_11 rfl ?_
  rintro _ h2 G - ⟨v, rfl, rfl, gv, K2, B⟩
  refine ⟨v :: (x :: F), (by intro y q; simpa using q), ?_⟩
  have Ka : Keep h h2 [] := kfresh Ka K2 f_Ka_x
  show Go _ _ _ _ _ _ _ _ _ _ _ _ _ _ 14 #[.val (.ref a), .unset, .unset, .unset] [.ref x]
  have fv : h.size ≤ v := Nat.le_trans E1.1 gv
  have S2 := (S.grow (F' := v :: x :: F) (by intro y q; rcases List.mem_cons.mp q with rfl | q; exact Or.inr fv; rcases List.mem_cons.mp q with rfl | q; exact Or.inr f_Ka_x; exact Or.inl q)).keep0 Ka
  refine go_astoreN (L' := #[.val (.ref a), .val (.ref x), .unset, .unset]) (q := 15) d3_14 rfl rfl rfl ?_
  refine go_iconst (x := (0 : Int32)) (q := 16) d3_15 rfl rfl ?_
  refine go_istoreN (L' := #[.val (.ref a), .val (.ref x), .val (.int (0 : Int32)), .unset]) (q := 17) d3_16 rfl rfl ?_
  exact lp_qf H HX hn f_Ka_x fv cs.length 0 _ h2 (by omega) One.u Ka S2 (by simpa using B)
set_option maxRecDepth 65536 in
set_option maxHeartbeats 4000000 in
theorem rm_wd {l : Launch} {Z : State} {a0 : Array Value} (H : Wd Z a0) {h : Heap} {c : Int32}  : Met l Z (⟨"com/example/tabane/tabane/http/RequestHeadQueryFormPinLaw", "width", "(C)I"⟩ : MethodName) method_3_code 1 (some .int) ({ frames := 0, cells := 0, slots := 0, locals := 0 } : Room) h [] #[.int c] (fun u h' G => u = some (.int (Int32.ofNat (esc c).length)) ∧ h = h') := by
  refine Met.mk (L := #[.val (.int c)]) (plainFor_of_name (by first | (simp [plainName, overriddenIn]; done) | decide +kernel)) (fun m => by first | (simp [entryFrame, mkF, argsToLocals, Value.category]; done) | rfl) (fun K => ?_)
  show Go _ _ K "com/example/tabane/tabane/http/RequestHeadQueryFormPinLaw" "width" _ _ _ _ _ _ _ _ _ 0 _ _
  refine go_iloadN (v := c) (q := 1) d31_0 rfl rfl ?_
  refine go_sipush (x := (128 : Int32)) (q := 4) d31_1 rfl rfl ?_
  by_cases q8 : c < 128
  · refine go_icN (q := 7) d31_4 q8 rfl ?_
    refine go_iconst (x := (1 : Int32)) (q := 8) d31_7 rfl rfl ?_
    refine go_goto (q := 12) d31_8 (by decide) (by decide) ?_
    exact go_ireturn H (G := []) (t := .int) rfl (by decide) rfl d31_12 (by decide) (by decide) (fun _ q => nomatch q) ⟨by rw [esc, if_pos q8]; rfl, rfl⟩
  · refine go_icY (q := 11) d31_4 q8 (by decide) (by decide) ?_
    refine go_iconst (x := (3 : Int32)) (q := 12) d31_11 rfl rfl ?_
    exact go_ireturn H (G := []) (t := .int) rfl (by decide) rfl d31_12 (by decide) (by decide) (fun _ q => nomatch q) ⟨by rw [esc, if_neg q8]; rfl, rfl⟩
set_option maxRecDepth 65536 in
set_option maxHeartbeats 4000000 in
theorem rm_hx {l : Launch} {Z : State} {a0 : Array Value} (H : Wd Z a0) {h : Heap} {j : Int32} (h0 : ¬ j < 0) (h1 : j < 16) : Met l Z (⟨"com/example/tabane/tabane/http/RequestHeadQueryFormPinLaw", "hex", "(I)C"⟩ : MethodName) method_4_code 1 (some .char) ({ frames := 0, cells := 0, slots := 0, locals := 0 } : Room) h [] #[.int j] (fun u h' G => u = some (.int (hx j)) ∧ h = h') := by
  refine Met.mk (L := #[.val (.int j)]) (plainFor_of_name (by first | (simp [plainName, overriddenIn]; done) | decide +kernel)) (fun m => by first | (simp [entryFrame, mkF, argsToLocals, Value.category]; done) | rfl) (fun K => ?_)
  show Go _ _ K "com/example/tabane/tabane/http/RequestHeadQueryFormPinLaw" "hex" _ _ _ _ _ _ _ _ _ 0 _ _
  have hr := (hex_at h0 h1).2
  refine go_iloadN (v := j) (q := 1) d34_0 rfl rfl ?_
  refine go_bipush (x := (10 : Int32)) (q := 3) d34_1 rfl rfl ?_
  by_cases q : j < 10
  · refine go_icN (q := 6) d34_3 q rfl ?_
    refine go_bipush (x := (48 : Int32)) (q := 8) d34_6 rfl rfl ?_
    refine go_iloadN (v := j) (q := 9) d34_8 rfl rfl ?_
    refine go_iadd (r := (48 : Int32) + j) (q := 10) d34_9 rfl rfl ?_
    refine go_i2c (r := (hx j)) (q := 11) d34_10 (hex_lo h0 h1 q) rfl ?_
    refine go_goto (q := 22) d34_11 (by decide) (by decide) ?_
    exact go_ireturn H (G := []) (t := .char) rfl (by decide) (by show Value.int (nar .char (hx j)) = _; rw [nar_char hr.1 hr.2]) d34_22 (by decide) (by decide) (fun _ q => nomatch q) ⟨rfl, rfl⟩
  · refine go_icY (q := 14) d34_3 q (by decide) (by decide) ?_
    refine go_bipush (x := (65 : Int32)) (q := 16) d34_14 rfl rfl ?_
    refine go_iloadN (v := j) (q := 17) d34_16 rfl rfl ?_
    refine go_bipush (x := (10 : Int32)) (q := 19) d34_17 rfl rfl ?_
    refine go_isub (r := j - (10 : Int32)) (q := 20) d34_19 rfl rfl ?_
    refine go_iadd (r := (65 : Int32) + (j - (10 : Int32))) (q := 21) d34_20 rfl rfl ?_
    refine go_i2c (r := (hx j)) (q := 22) d34_21 (hex_hi h0 h1 q) rfl ?_
    exact go_ireturn H (G := []) (t := .char) rfl (by decide) (by show Value.int (nar .char (hx j)) = _; rw [nar_char hr.1 hr.2]) d34_22 (by decide) (by decide) (fun _ q => nomatch q) ⟨rfl, rfl⟩
set_option maxRecDepth 65536 in
set_option maxHeartbeats 4000000 in
theorem rm_at {l : Launch} {Z : State} {a0 : Array Value} (H : Wd Z a0) {h : Heap} {F : List Addr} {r : Addr} {pre post : List Int32} {c p : Int32} (hp : p = Int32.ofNat pre.length) (S : Str Z h F r (pre ++ (esc c ++ post))) (hc : ¬ c < 0 ∧ ¬ 255 < c) : Met l Z (⟨"com/example/tabane/tabane/http/RequestHeadQueryFormPinLaw", "at", "(Ljava/lang/String;IC)Z"⟩ : MethodName) method_5_code 3 (some .boolean) ({ frames := 4, cells := 0, slots := 0, locals := 60 } : Room) h [] #[.ref r, .int p, .int c] (fun u h' G => u = some (.int 1) ∧ h = h') := by
  subst hp
  refine Met.mk (L := #[.val (.ref r), .val (.int (Int32.ofNat pre.length)), .val (.int c)]) (plainFor_of_name (by first | (simp [plainName, overriddenIn]; done) | decide +kernel)) (fun m => by first | (simp [entryFrame, mkF, argsToLocals, Value.category]; done) | rfl) (fun K => ?_)
  show Go _ _ K "com/example/tabane/tabane/http/RequestHeadQueryFormPinLaw" "at" _ _ _ _ _ _ _ _ _ 0 _ _
  refine go_iloadN (v := c) (q := 1) d32_0 rfl rfl ?_
  refine go_sipush (x := (128 : Int32)) (q := 4) d32_1 rfl rfl ?_
  by_cases q8 : c < 128
  · refine go_icN (q := 7) d32_4 q8 rfl ?_
    refine go_aloadN (v := .ref r) (q := 8) d32_7 rfl rfl rfl ?_
    refine go_iloadN (v := (Int32.ofNat pre.length)) (q := 9) d32_8 rfl rfl ?_
    rw [esc, if_pos q8] at S
    refine go_virtual (c' := 0) (s' := 0) (q := 12) (S := []) (argsL := [.int (Int32.ofNat pre.length)]) H (C := "java/lang/String") (w_165 H) (w_119 H) (nf_self (w_121 H)) (w_121 H) (w_120 H) (w_4 H) (w_122 H) (by decide) S.exa (rm_chV H (i := pre.length) (v := c) S (atV (i := 0) rfl)) rfl rfl (lenOf pd_20 rfl) (fun _ q => nomatch q) rfl (by decide) (Nat.le_of_ble_eq_true rfl) rfl rfl (by decide) (by decide) d32_9 rfl ?_
    rintro _ _ G - ⟨rfl, rfl⟩
    refine nx_ (v := none) ?_
    show Go _ _ _ _ _ _ _ _ _ _ _ _ _ _ 12 #[.val (.ref r), .val (.int (Int32.ofNat pre.length)), .val (.int c)] [.int c]
    refine go_iloadN (v := c) (q := 13) d32_12 rfl rfl ?_
    refine go_icN (q := 16) d32_13 rfl rfl ?_
    refine go_iconst (x := (1 : Int32)) (q := 17) d32_16 rfl rfl ?_
    refine go_goto (q := 21) d32_17 (by decide) (by decide) ?_
    exact go_ireturn H (G := []) (t := .boolean) rfl (by decide) rfl d32_21 (by decide) (by decide) (fun _ q => nomatch q) ⟨rfl, rfl⟩
  · refine go_icY (q := 22) d32_4 q8 (by decide) (by decide) ?_
    refine go_aloadN (v := .ref r) (q := 23) d32_22 rfl rfl rfl ?_
    refine go_iloadN (v := (Int32.ofNat pre.length)) (q := 24) d32_23 rfl rfl ?_
    rw [esc, if_neg q8] at S
    obtain ⟨p0, p1⟩ := nib_hi hc
    obtain ⟨q0, q1⟩ := nib_lo c
    refine go_virtual (c' := 0) (s' := 0) (q := 27) (S := []) (argsL := [.int (Int32.ofNat pre.length)]) H (C := "java/lang/String") (w_165 H) (w_119 H) (nf_self (w_121 H)) (w_121 H) (w_120 H) (w_4 H) (w_122 H) (by decide) S.exa (rm_chV H (i := pre.length) (v := 37) S (atV (i := 0) rfl)) rfl rfl (lenOf pd_20 rfl) (fun _ q => nomatch q) rfl (by decide) (Nat.le_of_ble_eq_true rfl) rfl rfl (by decide) (by decide) d32_24 rfl ?_
    rintro _ _ G - ⟨rfl, rfl⟩
    refine nx_ (v := none) ?_
    show Go _ _ _ _ _ _ _ _ _ _ _ _ _ _ 27 #[.val (.ref r), .val (.int (Int32.ofNat pre.length)), .val (.int c)] [.int (37 : Int32)]
    refine go_bipush (x := (37 : Int32)) (q := 29) d32_27 rfl rfl ?_
    refine go_icN (q := 32) d32_29 (by decide) rfl ?_
    refine go_aloadN (v := .ref r) (q := 33) d32_32 rfl rfl rfl ?_
    refine go_iloadN (v := (Int32.ofNat pre.length)) (q := 34) d32_33 rfl rfl ?_
    refine go_iconst (x := (1 : Int32)) (q := 35) d32_34 rfl rfl ?_
    refine go_iadd (r := (Int32.ofNat (pre.length + 1))) (q := 36) d32_35 (add_ofNat _ 1) rfl ?_
    refine go_virtual (c' := 0) (s' := 0) (q := 39) (S := []) (argsL := [.int (Int32.ofNat (pre.length + 1))]) H (C := "java/lang/String") (w_165 H) (w_119 H) (nf_self (w_121 H)) (w_121 H) (w_120 H) (w_4 H) (w_122 H) (by decide) S.exa (rm_chV H (i := pre.length + 1) (v := (hx (c >>> ((4 : Int32) &&& 31)))) S (atV (i := 1) rfl)) rfl rfl (lenOf pd_20 rfl) (fun _ q => nomatch q) rfl (by decide) (Nat.le_of_ble_eq_true rfl) rfl rfl (by decide) (by decide) d32_36 rfl ?_
    rintro _ _ G - ⟨rfl, rfl⟩
    refine nx_ (v := none) ?_
    show Go _ _ _ _ _ _ _ _ _ _ _ _ _ _ 39 #[.val (.ref r), .val (.int (Int32.ofNat pre.length)), .val (.int c)] [.int (hx (c >>> ((4 : Int32) &&& 31)))]
    refine go_iloadN (v := c) (q := 40) d32_39 rfl rfl ?_
    refine go_iconst (x := (4 : Int32)) (q := 41) d32_40 rfl rfl ?_
    refine go_ishr (r := c >>> ((4 : Int32) &&& 31)) (q := 42) d32_41 rfl rfl ?_
    refine go_static (c' := 0) (s' := 0) (q := 45) (S := [.int (hx (c >>> ((4 : Int32) &&& 31)))]) (argsL := [.int (c >>> ((4 : Int32) &&& 31))]) H (w_171 H) (w_172 H) (w_160 H) (w_173 H) (by decide) (rm_hx H p0 p1) rfl rfl (lenOf pd_20 rfl) (fun _ q => nomatch q) rfl (by decide) (Nat.le_of_ble_eq_true rfl) rfl rfl (by decide) (by decide) d32_42 rfl ?_
    rintro _ _ G - ⟨rfl, rfl⟩
    refine nx_ (v := none) ?_
    show Go _ _ _ _ _ _ _ _ _ _ _ _ _ _ 45 #[.val (.ref r), .val (.int (Int32.ofNat pre.length)), .val (.int c)] [.int (hx (c >>> ((4 : Int32) &&& 31))), .int (hx (c >>> ((4 : Int32) &&& 31)))]
    refine go_icN (q := 48) d32_45 rfl rfl ?_
    refine go_aloadN (v := .ref r) (q := 49) d32_48 rfl rfl rfl ?_
    refine go_iloadN (v := (Int32.ofNat pre.length)) (q := 50) d32_49 rfl rfl ?_
    refine go_iconst (x := (2 : Int32)) (q := 51) d32_50 rfl rfl ?_
    refine go_iadd (r := (Int32.ofNat (pre.length + 2))) (q := 52) d32_51 (add_ofNat _ 2) rfl ?_
    refine go_virtual (c' := 0) (s' := 0) (q := 55) (S := []) (argsL := [.int (Int32.ofNat (pre.length + 2))]) H (C := "java/lang/String") (w_165 H) (w_119 H) (nf_self (w_121 H)) (w_121 H) (w_120 H) (w_4 H) (w_122 H) (by decide) S.exa (rm_chV H (i := pre.length + 2) (v := (hx (c &&& 15))) S (atV (i := 2) rfl)) rfl rfl (lenOf pd_20 rfl) (fun _ q => nomatch q) rfl (by decide) (Nat.le_of_ble_eq_true rfl) rfl rfl (by decide) (by decide) d32_52 rfl ?_
    rintro _ _ G - ⟨rfl, rfl⟩
    refine nx_ (v := none) ?_
    show Go _ _ _ _ _ _ _ _ _ _ _ _ _ _ 55 #[.val (.ref r), .val (.int (Int32.ofNat pre.length)), .val (.int c)] [.int (hx (c &&& 15))]
    refine go_iloadN (v := c) (q := 56) d32_55 rfl rfl ?_
    refine go_bipush (x := (15 : Int32)) (q := 58) d32_56 rfl rfl ?_
    refine go_iand (r := c &&& (15 : Int32)) (q := 59) d32_58 rfl rfl ?_
    refine go_static (c' := 0) (s' := 0) (q := 62) (S := [.int (hx (c &&& 15))]) (argsL := [.int (c &&& (15 : Int32))]) H (w_171 H) (w_172 H) (w_160 H) (w_173 H) (by decide) (rm_hx H q0 q1) rfl rfl (lenOf pd_20 rfl) (fun _ q => nomatch q) rfl (by decide) (Nat.le_of_ble_eq_true rfl) rfl rfl (by decide) (by decide) d32_59 rfl ?_
    rintro _ _ G - ⟨rfl, rfl⟩
    refine nx_ (v := none) ?_
    show Go _ _ _ _ _ _ _ _ _ _ _ _ _ _ 62 #[.val (.ref r), .val (.int (Int32.ofNat pre.length)), .val (.int c)] [.int (hx (c &&& 15)), .int (hx (c &&& 15))]
    refine go_icN (q := 65) d32_62 rfl rfl ?_
    refine go_iconst (x := (1 : Int32)) (q := 66) d32_65 rfl rfl ?_
    refine go_goto (q := 70) d32_66 (by decide) (by decide) ?_
    exact go_ireturn H (G := []) (t := .boolean) rfl (by decide) rfl d32_70 (by decide) (by decide) (fun _ q => nomatch q) ⟨rfl, rfl⟩
abbrev GL (l : Launch) (Z : State) (K : Cx) (h : Heap) (F : List Addr) (c s pc : Nat) (L : Array Slot) (S : List Value) : Prop := Go l Z K "com/example/tabane/tabane/http/RequestHeadQueryFormPinLaw" "law" code 14 ret ({ frames := 10, cells := 24, slots := 1216, locals := 224 } : Room) (fun v h' G => v = some (.int 1)) h F c s pc L S
set_option maxRecDepth 65536 in
set_option maxHeartbeats 8000000 in
theorem j246_0 {l : Launch} {Z : State} {a0 : Array Value} (H : Wd Z a0) {K : Cx} {h : Heap} {r : Addr} {s10 : Slot} {e12 : Int32} {i0 i1 i2 i3 i4 a b c d : Int32} (pa : ¬ a < 0 ∧ ¬ 255 < a) (pb : ¬ b < 0 ∧ ¬ 255 < b) (pc : ¬ c < 0 ∧ ¬ 255 < c) (pd : ¬ d < 0 ∧ ¬ 255 < d) (S : Str Z h [] r ([] : List Int32)) : GL l Z K h [] 10 64 246 #[.val (.int i0), .val (.int i1), .val (.int i2), .val (.int i3), .val (.int i4), .val (.int (0 : Int32)), .val (.int a), .val (.int b), .val (.int c), .val (.int d), s10, .val (.ref r), .val (.int e12), .unset] [] := by
  refine go_iconst (x := (0 : Int32)) (q := 247) at_246 rfl rfl ?_
  refine go_istore (L' := #[.val (.int i0), .val (.int i1), .val (.int i2), .val (.int i3), .val (.int i4), .val (.int (0 : Int32)), .val (.int a), .val (.int b), .val (.int c), .val (.int d), s10, .val (.ref r), .val (.int e12), .val (.int (0 : Int32))]) (q := 249) at_247 rfl rfl ?_
  refine go_iload (v := (0 : Int32)) (q := 251) at_249 rfl rfl ?_
  refine go_ifY (q := 278) at_251 (by decide) (by decide) (by decide) ?_
  refine go_iload (v := (0 : Int32)) (q := 280) at_278 rfl rfl ?_
  refine go_iconst (x := (1 : Int32)) (q := 281) at_280 rfl rfl ?_
  refine go_icY (q := 308) at_281 (by decide) (by decide) (by decide) ?_
  refine go_iload (v := (0 : Int32)) (q := 310) at_308 rfl rfl ?_
  refine go_iconst (x := (2 : Int32)) (q := 311) at_310 rfl rfl ?_
  refine go_icY (q := 338) at_311 (by decide) (by decide) (by decide) ?_
  refine go_iload (v := (0 : Int32)) (q := 340) at_338 rfl rfl ?_
  refine go_iconst (x := (3 : Int32)) (q := 341) at_340 rfl rfl ?_
  refine go_icY (q := 358) at_341 (by decide) (by decide) (by decide) ?_
  refine go_iconst (x := (1 : Int32)) (q := 359) at_358 rfl rfl ?_
  exact go_ireturn H (G := []) (t := .boolean) rfl (by decide) rfl at_359 (by decide) (by decide) (fun _ q => nomatch q) rfl
set_option maxRecDepth 65536 in
set_option maxHeartbeats 8000000 in
theorem j165_0 {l : Launch} {Z : State} {a0 : Array Value} (H : Wd Z a0) {K : Cx} {h : Heap} {r : Addr} {s10 : Slot} {i0 i1 i2 i3 i4 a b c d : Int32} (pa : ¬ a < 0 ∧ ¬ 255 < a) (pb : ¬ b < 0 ∧ ¬ 255 < b) (pc : ¬ c < 0 ∧ ¬ 255 < c) (pd : ¬ d < 0 ∧ ¬ 255 < d) (S : Str Z h [] r ([] : List Int32)) : GL l Z K h [] 10 64 165 #[.val (.int i0), .val (.int i1), .val (.int i2), .val (.int i3), .val (.int i4), .val (.int (0 : Int32)), .val (.int a), .val (.int b), .val (.int c), .val (.int d), s10, .val (.ref r), .unset, .unset] [] := by
  refine go_iload (v := (0 : Int32)) (q := 167) at_165 rfl rfl ?_
  refine go_ifY (q := 178) at_167 (by decide) (by decide) (by decide) ?_
  refine go_iconst (x := (0 : Int32)) (q := 179) at_178 rfl rfl ?_
  refine go_iload (v := (0 : Int32)) (q := 181) at_179 rfl rfl ?_
  refine go_iconst (x := (1 : Int32)) (q := 182) at_181 rfl rfl ?_
  refine go_icY (q := 193) at_182 (by decide) (by decide) (by decide) ?_
  refine go_iconst (x := (0 : Int32)) (q := 194) at_193 rfl rfl ?_
  refine go_iadd (r := (Int32.ofNat ([] : List Int32).length)) (q := 195) at_194 (Int32.add_zero _) rfl ?_
  refine go_iload (v := (0 : Int32)) (q := 197) at_195 rfl rfl ?_
  refine go_iconst (x := (2 : Int32)) (q := 198) at_197 rfl rfl ?_
  refine go_icY (q := 209) at_198 (by decide) (by decide) (by decide) ?_
  refine go_iconst (x := (0 : Int32)) (q := 210) at_209 rfl rfl ?_
  refine go_iadd (r := (Int32.ofNat ([] : List Int32).length)) (q := 211) at_210 (Int32.add_zero _) rfl ?_
  refine go_iload (v := (0 : Int32)) (q := 213) at_211 rfl rfl ?_
  refine go_iconst (x := (3 : Int32)) (q := 214) at_213 rfl rfl ?_
  refine go_icY (q := 225) at_214 (by decide) (by decide) (by decide) ?_
  refine go_iconst (x := (0 : Int32)) (q := 226) at_225 rfl rfl ?_
  refine go_iadd (r := (Int32.ofNat ([] : List Int32).length)) (q := 227) at_226 (Int32.add_zero _) rfl ?_
  refine go_istore (L' := #[.val (.int i0), .val (.int i1), .val (.int i2), .val (.int i3), .val (.int i4), .val (.int (0 : Int32)), .val (.int a), .val (.int b), .val (.int c), .val (.int d), s10, .val (.ref r), .val (.int (Int32.ofNat ([] : List Int32).length)), .unset]) (q := 229) at_227 rfl rfl ?_
  refine go_aload (v := .ref r) (q := 231) at_229 rfl rfl rfl ?_
  refine go_nullN (q := 234) at_231 rfl ?_
  refine go_aload (v := .ref r) (q := 236) at_234 rfl rfl rfl ?_
  refine go_virtual (c' := 10) (s' := 64) (q := 239) (S := []) (argsL := []) H (C := "java/lang/String") (w_107 H) (w_31 H) (nf_self (w_33 H)) (w_33 H) (w_32 H) (w_4 H) (w_34 H) (by decide) S.exa (rm_len H S) rfl rfl (lenOf pd_9 rfl) (fun _ q => nomatch q) rfl (by decide) (Nat.le_of_ble_eq_true rfl) rfl rfl (by decide) (by decide) at_236 rfl ?_
  rintro _ _ G - ⟨rfl, rfl⟩
  refine nx_ (v := none) ?_
  show Go _ _ _ _ _ _ _ _ _ _ _ _ _ _ 239 #[.val (.int i0), .val (.int i1), .val (.int i2), .val (.int i3), .val (.int i4), .val (.int (0 : Int32)), .val (.int a), .val (.int b), .val (.int c), .val (.int d), s10, .val (.ref r), .val (.int (Int32.ofNat ([] : List Int32).length)), .unset] [.int (Int32.ofNat ([] : List Int32).length)]
  refine go_iload (v := (Int32.ofNat ([] : List Int32).length)) (q := 241) at_239 rfl rfl ?_
  refine go_icY (q := 246) at_241 (congrArg (fun (z : List Int32) => Int32.ofNat z.length) (show ([] : List Int32) = ([] : List Int32) by simp)) (by decide) (by decide) ?_
  exact j246_0 H pa pb pc pd S
set_option maxRecDepth 65536 in
set_option maxHeartbeats 8000000 in
theorem j41_0 {l : Launch} {Z : State} {a0 : Array Value} (H : Wd Z a0) {K : Cx} {h : Heap} {i0 i1 i2 i3 i4 a b c d : Int32} (HX : Hexs Z) (pa : ¬ a < 0 ∧ ¬ 255 < a) (pb : ¬ b < 0 ∧ ¬ 255 < b) (pc : ¬ c < 0 ∧ ¬ 255 < c) (pd : ¬ d < 0 ∧ ¬ 255 < d) (hFl : ∀ x ∈ ([] : List Addr), x < h.size) : GL l Z K h [] 0 0 41 #[.val (.int i0), .val (.int i1), .val (.int i2), .val (.int i3), .val (.int i4), .val (.int (0 : Int32)), .val (.int a), .val (.int b), .val (.int c), .val (.int d), .unset, .unset, .unset, .unset] [] := by
  refine go_iload (v := (0 : Int32)) (q := 43) at_41 rfl rfl ?_
  refine go_ifN (q := 46) at_43 (by decide) rfl ?_
  refine go_iconst (x := (0 : Int32)) (q := 47) at_46 rfl rfl ?_
  refine go_newarray (ty := .char) (dv := .int 0) (n := 0) (cap := 0) (ad := "[C") (c' := 1) (s' := 0) (q := 49) rfl rfl (by decide) (w_1 H) at_47 (by decide) (by decide) (by decide) rfl rfl rfl rfl (by decide) (by decide) ?_
  intro hq2 yq kq gq2 Eq2 Wq2 Xq2
  have Wq2 : Arv Z hq2 yq kq .char (0 : Int32) [] (.int 0) := Wq2
  refine go_astore (L' := #[.val (.int i0), .val (.int i1), .val (.int i2), .val (.int i3), .val (.int i4), .val (.int (0 : Int32)), .val (.int a), .val (.int b), .val (.int c), .val (.int d), .val (.ref yq), .unset, .unset, .unset]) (q := 51) at_49 rfl rfl rfl ?_
  refine go_goto (q := 151) at_51 (by decide) (by decide) ?_
  have W := Wq2
  have Ka : Keep hq2 hq2 [] := Keep.refl _ _
  have hFl : ∀ x ∈ ([] : List Addr), x < hq2.size := fun _ q => nomatch q
  refine go_new (c' := 2) (s' := 4) (q := 154) (w_2 H) (w_3 H) (w_4 H) at_151 rfl rfl rfl (by decide) (by decide) ?_
  intro hs1 xs gs1 Es1 As1 Ds1
  have f_Ka_xs : hq2.size ≤ xs := by rw [gs1]; exact Ka.1
  have Ka : Keep hq2 hs1 [] := Ka.ext Es1
  have W := W.ext Es1
  have Cs1 : Fld Z hs1 xs ST "coder" "B" (.int 0) := Ds1 (Or.inr (w_18 H)) (ty := .byte) (by decide)
  have Vs1 : Fld Z hs1 xs ST "value" "[B" .null := Ds1 (Or.inr (w_17 H)) (ty := .array .byte) (by decide)
  have Kbs : Keep hs1 hs1 [] := Keep.refl _ _
  refine go_dup (q := 155) at_154 rfl rfl ?_
  refine go_aload (v := .ref yq) (q := 157) at_155 rfl rfl rfl ?_
  have Lts : Lat [] := ⟨Nat.le_of_ble_eq_true rfl, (by intro c hc; simp only [List.mem_cons, List.not_mem_nil, or_false] at hc)⟩
  refine go_mine fun hMs _ => ?_
  have nFs : xs ∉ [] := fun q => absurd (hFl xs q) (Nat.not_lt.mpr f_Ka_xs)
  refine go_special (c' := 6) (s' := 20) (q := 160) (S := [.ref xs]) (argsL := [.ref yq]) H rfl (w_5 H) (w_6 H) (w_4 H) (w_7 H) (by decide) (rm_new1 H (cs := []) (F := []) (As1.keep Kbs) (Cs1.keep Kbs nin0) (Vs1.keep Kbs nin0) W Lts (Nat.le_of_ble_eq_true rfl) nFs) rfl rfl (lenOf pd_22 rfl) (by intro z hz; simp only [List.mem_cons, List.not_mem_nil, or_false] at hz ⊢; first | exact hz | exact Or.inl hz | (rcases hz with hz | hz <;> simp [hz]; done) | (rcases hz with rfl | rfl <;> simp)) rfl (by decide) (Nat.le_of_ble_eq_true rfl) rfl rfl (by decide) (by decide) at_157 rfl ?_
  rintro _ hsz G - ⟨rfl, Kcs, Ss⟩
  refine nx_ (v := none) ?_
  have Ka : Keep hq2 hsz [] := kfresh Ka Kcs f_Ka_xs
  show Go _ _ _ _ _ _ _ _ _ _ _ _ _ _ 160 #[.val (.int i0), .val (.int i1), .val (.int i2), .val (.int i3), .val (.int i4), .val (.int (0 : Int32)), .val (.int a), .val (.int b), .val (.int c), .val (.int d), .val (.ref yq), .unset, .unset, .unset] [.ref xs]
  refine go_less (F' := []) (by intro y hy; simp [hy]) (Nat.le_refl _) (Nat.le_refl _) ?_
  refine go_static (c' := 10) (s' := 64) (q := 163) (S := []) (argsL := [.ref xs]) H (w_23 H) (w_24 H) (w_25 H) (w_26 H) (by decide) (rm_qf H HX Ss (Nat.le_of_ble_eq_true rfl)) rfl rfl (lenOf pd_23 rfl) (fun _ q => nomatch q) rfl (by decide) (Nat.le_of_ble_eq_true rfl) rfl rfl (by decide) (by decide) at_160 rfl ?_
  rintro _ hr G - ⟨r, rfl, Kr, S⟩
  refine nx_ (v := none) ?_
  show Go _ _ _ _ _ _ _ _ _ _ _ _ _ _ 163 #[.val (.int i0), .val (.int i1), .val (.int i2), .val (.int i3), .val (.int i4), .val (.int (0 : Int32)), .val (.int a), .val (.int b), .val (.int c), .val (.int d), .val (.ref yq), .unset, .unset, .unset] [.ref r]
  have S : Str Z hr [] r ([] : List Int32) := S
  refine go_astore (L' := #[.val (.int i0), .val (.int i1), .val (.int i2), .val (.int i3), .val (.int i4), .val (.int (0 : Int32)), .val (.int a), .val (.int b), .val (.int c), .val (.int d), .val (.ref yq), .val (.ref r), .unset, .unset]) (q := 165) at_163 rfl rfl rfl ?_
  refine go_less (F' := []) (fun _ q => nomatch q) (Nat.le_refl _) (Nat.le_refl _) ?_
  exact j165_0 H pa pb pc pd S
set_option maxRecDepth 65536 in
set_option maxHeartbeats 8000000 in
theorem j246_1 {l : Launch} {Z : State} {a0 : Array Value} (H : Wd Z a0) {K : Cx} {h : Heap} {r : Addr} {s10 : Slot} {e12 : Int32} {i0 i1 i2 i3 i4 a b c d : Int32} (pa : ¬ a < 0 ∧ ¬ 255 < a) (pb : ¬ b < 0 ∧ ¬ 255 < b) (pc : ¬ c < 0 ∧ ¬ 255 < c) (pd : ¬ d < 0 ∧ ¬ 255 < d) (S : Str Z h [] r (esc a ++ [])) : GL l Z K h [] 10 65 246 #[.val (.int i0), .val (.int i1), .val (.int i2), .val (.int i3), .val (.int i4), .val (.int (1 : Int32)), .val (.int a), .val (.int b), .val (.int c), .val (.int d), s10, .val (.ref r), .val (.int e12), .unset] [] := by
  refine go_iconst (x := (0 : Int32)) (q := 247) at_246 rfl rfl ?_
  refine go_istore (L' := #[.val (.int i0), .val (.int i1), .val (.int i2), .val (.int i3), .val (.int i4), .val (.int (1 : Int32)), .val (.int a), .val (.int b), .val (.int c), .val (.int d), s10, .val (.ref r), .val (.int e12), .val (.int (0 : Int32))]) (q := 249) at_247 rfl rfl ?_
  refine go_iload (v := (1 : Int32)) (q := 251) at_249 rfl rfl ?_
  refine go_ifN (q := 254) at_251 (by decide) rfl ?_
  have T0 : Str Z h [] r (([] : List Int32) ++ (esc a ++ [])) := by rw [List.nil_append]; exact S
  refine go_aload (v := .ref r) (q := 256) at_254 rfl rfl rfl ?_
  refine go_iload (v := (0 : Int32)) (q := 258) at_256 rfl rfl ?_
  refine go_iload (v := a) (q := 260) at_258 rfl rfl ?_
  refine go_static (c' := 10) (s' := 65) (q := 263) (S := []) (argsL := [.ref r, .int (0 : Int32), .int a]) H (w_162 H) (w_163 H) (w_160 H) (w_164 H) (by decide) (rm_at H (pre := ([] : List Int32)) (post := []) (c := a) rfl T0 pa) rfl rfl (lenOf pd_25 rfl) (fun _ q => nomatch q) rfl (by decide) (Nat.le_of_ble_eq_true rfl) rfl rfl (by decide) (by decide) at_260 rfl ?_
  rintro _ _ G - ⟨rfl, rfl⟩
  refine nx_ (v := none) ?_
  show Go _ _ _ _ _ _ _ _ _ _ _ _ _ _ 263 #[.val (.int i0), .val (.int i1), .val (.int i2), .val (.int i3), .val (.int i4), .val (.int (1 : Int32)), .val (.int a), .val (.int b), .val (.int c), .val (.int d), s10, .val (.ref r), .val (.int e12), .val (.int (0 : Int32))] [.int 1]
  refine go_ifY (q := 268) at_263 (by decide) (by decide) (by decide) ?_
  refine go_iload (v := (0 : Int32)) (q := 270) at_268 rfl rfl ?_
  refine go_iload (v := a) (q := 272) at_270 rfl rfl ?_
  refine go_static (c' := 10) (s' := 65) (q := 275) (S := [.int (0 : Int32)]) (argsL := [.int a]) H (w_158 H) (w_159 H) (w_160 H) (w_161 H) (by decide) (rm_wd H) rfl rfl (lenOf pd_24 rfl) (fun _ q => nomatch q) rfl (by decide) (Nat.le_of_ble_eq_true rfl) rfl rfl (by decide) (by decide) at_272 rfl ?_
  rintro _ _ G - ⟨rfl, rfl⟩
  refine nx_ (v := none) ?_
  show Go _ _ _ _ _ _ _ _ _ _ _ _ _ _ 275 #[.val (.int i0), .val (.int i1), .val (.int i2), .val (.int i3), .val (.int i4), .val (.int (1 : Int32)), .val (.int a), .val (.int b), .val (.int c), .val (.int d), s10, .val (.ref r), .val (.int e12), .val (.int (0 : Int32))] [.int (Int32.ofNat (esc a).length), .int (0 : Int32)]
  obtain ⟨p1, hp1⟩ : ∃ p, (0 : Int32) + Int32.ofNat (esc a).length = p := ⟨_, rfl⟩
  have ep1 : p1 = Int32.ofNat (([] : List Int32) ++ esc a).length := by rw [← hp1]; exact addL ([] : List Int32) (esc a)
  refine go_iadd (r := p1) (q := 276) at_275 hp1 rfl ?_
  refine go_istore (L' := #[.val (.int i0), .val (.int i1), .val (.int i2), .val (.int i3), .val (.int i4), .val (.int (1 : Int32)), .val (.int a), .val (.int b), .val (.int c), .val (.int d), s10, .val (.ref r), .val (.int e12), .val (.int p1)]) (q := 278) at_276 rfl rfl ?_
  refine go_iload (v := (1 : Int32)) (q := 280) at_278 rfl rfl ?_
  refine go_iconst (x := (1 : Int32)) (q := 281) at_280 rfl rfl ?_
  refine go_icY (q := 308) at_281 (by decide) (by decide) (by decide) ?_
  refine go_iload (v := (1 : Int32)) (q := 310) at_308 rfl rfl ?_
  refine go_iconst (x := (2 : Int32)) (q := 311) at_310 rfl rfl ?_
  refine go_icY (q := 338) at_311 (by decide) (by decide) (by decide) ?_
  refine go_iload (v := (1 : Int32)) (q := 340) at_338 rfl rfl ?_
  refine go_iconst (x := (3 : Int32)) (q := 341) at_340 rfl rfl ?_
  refine go_icY (q := 358) at_341 (by decide) (by decide) (by decide) ?_
  refine go_iconst (x := (1 : Int32)) (q := 359) at_358 rfl rfl ?_
  exact go_ireturn H (G := []) (t := .boolean) rfl (by decide) rfl at_359 (by decide) (by decide) (fun _ q => nomatch q) rfl
set_option maxRecDepth 65536 in
set_option maxHeartbeats 8000000 in
theorem j165_1 {l : Launch} {Z : State} {a0 : Array Value} (H : Wd Z a0) {K : Cx} {h : Heap} {r : Addr} {s10 : Slot} {i0 i1 i2 i3 i4 a b c d : Int32} (pa : ¬ a < 0 ∧ ¬ 255 < a) (pb : ¬ b < 0 ∧ ¬ 255 < b) (pc : ¬ c < 0 ∧ ¬ 255 < c) (pd : ¬ d < 0 ∧ ¬ 255 < d) (S : Str Z h [] r (esc a ++ [])) : GL l Z K h [] 10 65 165 #[.val (.int i0), .val (.int i1), .val (.int i2), .val (.int i3), .val (.int i4), .val (.int (1 : Int32)), .val (.int a), .val (.int b), .val (.int c), .val (.int d), s10, .val (.ref r), .unset, .unset] [] := by
  refine go_iload (v := (1 : Int32)) (q := 167) at_165 rfl rfl ?_
  refine go_ifN (q := 170) at_167 (by decide) rfl ?_
  refine go_iload (v := a) (q := 172) at_170 rfl rfl ?_
  refine go_static (c' := 10) (s' := 65) (q := 175) (S := []) (argsL := [.int a]) H (w_158 H) (w_159 H) (w_160 H) (w_161 H) (by decide) (rm_wd H) rfl rfl (lenOf pd_24 rfl) (fun _ q => nomatch q) rfl (by decide) (Nat.le_of_ble_eq_true rfl) rfl rfl (by decide) (by decide) at_172 rfl ?_
  rintro _ _ G - ⟨rfl, rfl⟩
  refine nx_ (v := none) ?_
  show Go _ _ _ _ _ _ _ _ _ _ _ _ _ _ 175 #[.val (.int i0), .val (.int i1), .val (.int i2), .val (.int i3), .val (.int i4), .val (.int (1 : Int32)), .val (.int a), .val (.int b), .val (.int c), .val (.int d), s10, .val (.ref r), .unset, .unset] [.int (Int32.ofNat (esc a).length)]
  refine go_goto (q := 179) at_175 (by decide) (by decide) ?_
  refine go_iload (v := (1 : Int32)) (q := 181) at_179 rfl rfl ?_
  refine go_iconst (x := (1 : Int32)) (q := 182) at_181 rfl rfl ?_
  refine go_icY (q := 193) at_182 (by decide) (by decide) (by decide) ?_
  refine go_iconst (x := (0 : Int32)) (q := 194) at_193 rfl rfl ?_
  refine go_iadd (r := (Int32.ofNat (esc a).length)) (q := 195) at_194 (Int32.add_zero _) rfl ?_
  refine go_iload (v := (1 : Int32)) (q := 197) at_195 rfl rfl ?_
  refine go_iconst (x := (2 : Int32)) (q := 198) at_197 rfl rfl ?_
  refine go_icY (q := 209) at_198 (by decide) (by decide) (by decide) ?_
  refine go_iconst (x := (0 : Int32)) (q := 210) at_209 rfl rfl ?_
  refine go_iadd (r := (Int32.ofNat (esc a).length)) (q := 211) at_210 (Int32.add_zero _) rfl ?_
  refine go_iload (v := (1 : Int32)) (q := 213) at_211 rfl rfl ?_
  refine go_iconst (x := (3 : Int32)) (q := 214) at_213 rfl rfl ?_
  refine go_icY (q := 225) at_214 (by decide) (by decide) (by decide) ?_
  refine go_iconst (x := (0 : Int32)) (q := 226) at_225 rfl rfl ?_
  refine go_iadd (r := (Int32.ofNat (esc a).length)) (q := 227) at_226 (Int32.add_zero _) rfl ?_
  refine go_istore (L' := #[.val (.int i0), .val (.int i1), .val (.int i2), .val (.int i3), .val (.int i4), .val (.int (1 : Int32)), .val (.int a), .val (.int b), .val (.int c), .val (.int d), s10, .val (.ref r), .val (.int (Int32.ofNat (esc a).length)), .unset]) (q := 229) at_227 rfl rfl ?_
  refine go_aload (v := .ref r) (q := 231) at_229 rfl rfl rfl ?_
  refine go_nullN (q := 234) at_231 rfl ?_
  refine go_aload (v := .ref r) (q := 236) at_234 rfl rfl rfl ?_
  refine go_virtual (c' := 10) (s' := 65) (q := 239) (S := []) (argsL := []) H (C := "java/lang/String") (w_107 H) (w_31 H) (nf_self (w_33 H)) (w_33 H) (w_32 H) (w_4 H) (w_34 H) (by decide) S.exa (rm_len H S) rfl rfl (lenOf pd_9 rfl) (fun _ q => nomatch q) rfl (by decide) (Nat.le_of_ble_eq_true rfl) rfl rfl (by decide) (by decide) at_236 rfl ?_
  rintro _ _ G - ⟨rfl, rfl⟩
  refine nx_ (v := none) ?_
  show Go _ _ _ _ _ _ _ _ _ _ _ _ _ _ 239 #[.val (.int i0), .val (.int i1), .val (.int i2), .val (.int i3), .val (.int i4), .val (.int (1 : Int32)), .val (.int a), .val (.int b), .val (.int c), .val (.int d), s10, .val (.ref r), .val (.int (Int32.ofNat (esc a).length)), .unset] [.int (Int32.ofNat (esc a ++ []).length)]
  refine go_iload (v := (Int32.ofNat (esc a).length)) (q := 241) at_239 rfl rfl ?_
  refine go_icY (q := 246) at_241 (congrArg (fun (z : List Int32) => Int32.ofNat z.length) (show (esc a ++ []) = (esc a) by simp)) (by decide) (by decide) ?_
  exact j246_1 H pa pb pc pd S
set_option maxRecDepth 65536 in
set_option maxHeartbeats 8000000 in
theorem j41_1 {l : Launch} {Z : State} {a0 : Array Value} (H : Wd Z a0) {K : Cx} {h : Heap} {i0 i1 i2 i3 i4 a b c d : Int32} (HX : Hexs Z) (pa : ¬ a < 0 ∧ ¬ 255 < a) (pb : ¬ b < 0 ∧ ¬ 255 < b) (pc : ¬ c < 0 ∧ ¬ 255 < c) (pd : ¬ d < 0 ∧ ¬ 255 < d) (hFl : ∀ x ∈ ([] : List Addr), x < h.size) : GL l Z K h [] 0 0 41 #[.val (.int i0), .val (.int i1), .val (.int i2), .val (.int i3), .val (.int i4), .val (.int (1 : Int32)), .val (.int a), .val (.int b), .val (.int c), .val (.int d), .unset, .unset, .unset, .unset] [] := by
  refine go_iload (v := (1 : Int32)) (q := 43) at_41 rfl rfl ?_
  refine go_ifY (q := 54) at_43 (by decide) (by decide) (by decide) ?_
  refine go_iload (v := (1 : Int32)) (q := 56) at_54 rfl rfl ?_
  refine go_iconst (x := (1 : Int32)) (q := 57) at_56 rfl rfl ?_
  refine go_icN (q := 60) at_57 (by decide) rfl ?_
  refine go_iconst (x := (1 : Int32)) (q := 61) at_60 rfl rfl ?_
  refine go_newarray (ty := .char) (dv := .int 0) (n := 1) (cap := 1) (ad := "[C") (c' := 1) (s' := 1) (q := 63) rfl rfl (by decide) (w_1 H) at_61 (by decide) (by decide) (by decide) rfl rfl rfl rfl (by decide) (by decide) ?_
  intro hq2 yq kq gq2 Eq2 Wq2 Xq2
  have Wq2 : Arv Z hq2 yq kq .char (1 : Int32) [.int 0] (.int 0) := Wq2
  refine go_dup (q := 64) at_63 rfl rfl ?_
  refine go_iconst (x := (0 : Int32)) (q := 65) at_64 rfl rfl ?_
  refine go_iload (v := a) (q := 67) at_65 rfl rfl ?_
  refine go_castore (i := 0) (y := a) (q := 68) Wq2 (by decide) rfl (Nat.le_of_ble_eq_true rfl) (by simp) (nar_char (pa).1 (pa).2) at_67 rfl ?_
  intro hq3 Kq3 zq3 Wq3
  have Wq3 : Arv Z hq3 yq kq .char (1 : Int32) [.int a] (.int 0) := Wq3
  refine go_astore (L' := #[.val (.int i0), .val (.int i1), .val (.int i2), .val (.int i3), .val (.int i4), .val (.int (1 : Int32)), .val (.int a), .val (.int b), .val (.int c), .val (.int d), .val (.ref yq), .unset, .unset, .unset]) (q := 70) at_68 rfl rfl rfl ?_
  refine go_goto (q := 151) at_70 (by decide) (by decide) ?_
  have W := Wq3
  have Ka : Keep hq3 hq3 [] := Keep.refl _ _
  have hFl : ∀ x ∈ ([] : List Addr), x < hq3.size := fun _ q => nomatch q
  refine go_new (c' := 2) (s' := 5) (q := 154) (w_2 H) (w_3 H) (w_4 H) at_151 rfl rfl rfl (by decide) (by decide) ?_
  intro hs1 xs gs1 Es1 As1 Ds1
  have f_Ka_xs : hq3.size ≤ xs := by rw [gs1]; exact Ka.1
  have Ka : Keep hq3 hs1 [] := Ka.ext Es1
  have W := W.ext Es1
  have Cs1 : Fld Z hs1 xs ST "coder" "B" (.int 0) := Ds1 (Or.inr (w_18 H)) (ty := .byte) (by decide)
  have Vs1 : Fld Z hs1 xs ST "value" "[B" .null := Ds1 (Or.inr (w_17 H)) (ty := .array .byte) (by decide)
  have Kbs : Keep hs1 hs1 [] := Keep.refl _ _
  refine go_dup (q := 155) at_154 rfl rfl ?_
  refine go_aload (v := .ref yq) (q := 157) at_155 rfl rfl rfl ?_
  have Lts : Lat [a] := ⟨Nat.le_of_ble_eq_true rfl, (by intro c hc; simp only [List.mem_cons, List.not_mem_nil, or_false] at hc; subst hc; exact pa)⟩
  refine go_mine fun hMs _ => ?_
  have nFs : xs ∉ [] := fun q => absurd (hFl xs q) (Nat.not_lt.mpr f_Ka_xs)
  refine go_special (c' := 6) (s' := 21) (q := 160) (S := [.ref xs]) (argsL := [.ref yq]) H rfl (w_5 H) (w_6 H) (w_4 H) (w_7 H) (by decide) (rm_new1 H (cs := [a]) (F := []) (As1.keep Kbs) (Cs1.keep Kbs nin0) (Vs1.keep Kbs nin0) W Lts (Nat.le_of_ble_eq_true rfl) nFs) rfl rfl (lenOf pd_22 rfl) (by intro z hz; simp only [List.mem_cons, List.not_mem_nil, or_false] at hz ⊢; first | exact hz | exact Or.inl hz | (rcases hz with hz | hz <;> simp [hz]; done) | (rcases hz with rfl | rfl <;> simp)) rfl (by decide) (Nat.le_of_ble_eq_true rfl) rfl rfl (by decide) (by decide) at_157 rfl ?_
  rintro _ hsz G - ⟨rfl, Kcs, Ss⟩
  refine nx_ (v := none) ?_
  have Ka : Keep hq3 hsz [] := kfresh Ka Kcs f_Ka_xs
  show Go _ _ _ _ _ _ _ _ _ _ _ _ _ _ 160 #[.val (.int i0), .val (.int i1), .val (.int i2), .val (.int i3), .val (.int i4), .val (.int (1 : Int32)), .val (.int a), .val (.int b), .val (.int c), .val (.int d), .val (.ref yq), .unset, .unset, .unset] [.ref xs]
  refine go_less (F' := []) (by intro y hy; simp [hy]) (Nat.le_refl _) (Nat.le_refl _) ?_
  refine go_static (c' := 10) (s' := 65) (q := 163) (S := []) (argsL := [.ref xs]) H (w_23 H) (w_24 H) (w_25 H) (w_26 H) (by decide) (rm_qf H HX Ss (Nat.le_of_ble_eq_true rfl)) rfl rfl (lenOf pd_23 rfl) (fun _ q => nomatch q) rfl (by decide) (Nat.le_of_ble_eq_true rfl) rfl rfl (by decide) (by decide) at_160 rfl ?_
  rintro _ hr G - ⟨r, rfl, Kr, S⟩
  refine nx_ (v := none) ?_
  show Go _ _ _ _ _ _ _ _ _ _ _ _ _ _ 163 #[.val (.int i0), .val (.int i1), .val (.int i2), .val (.int i3), .val (.int i4), .val (.int (1 : Int32)), .val (.int a), .val (.int b), .val (.int c), .val (.int d), .val (.ref yq), .unset, .unset, .unset] [.ref r]
  have S : Str Z hr [] r (esc a ++ []) := S
  refine go_astore (L' := #[.val (.int i0), .val (.int i1), .val (.int i2), .val (.int i3), .val (.int i4), .val (.int (1 : Int32)), .val (.int a), .val (.int b), .val (.int c), .val (.int d), .val (.ref yq), .val (.ref r), .unset, .unset]) (q := 165) at_163 rfl rfl rfl ?_
  refine go_less (F' := []) (fun _ q => nomatch q) (Nat.le_refl _) (Nat.le_refl _) ?_
  exact j165_1 H pa pb pc pd S
set_option maxRecDepth 65536 in
set_option maxHeartbeats 8000000 in
theorem j246_2 {l : Launch} {Z : State} {a0 : Array Value} (H : Wd Z a0) {K : Cx} {h : Heap} {r : Addr} {s10 : Slot} {e12 : Int32} {i0 i1 i2 i3 i4 a b c d : Int32} (pa : ¬ a < 0 ∧ ¬ 255 < a) (pb : ¬ b < 0 ∧ ¬ 255 < b) (pc : ¬ c < 0 ∧ ¬ 255 < c) (pd : ¬ d < 0 ∧ ¬ 255 < d) (S : Str Z h [] r (esc a ++ (esc b ++ []))) : GL l Z K h [] 10 66 246 #[.val (.int i0), .val (.int i1), .val (.int i2), .val (.int i3), .val (.int i4), .val (.int (2 : Int32)), .val (.int a), .val (.int b), .val (.int c), .val (.int d), s10, .val (.ref r), .val (.int e12), .unset] [] := by
  refine go_iconst (x := (0 : Int32)) (q := 247) at_246 rfl rfl ?_
  refine go_istore (L' := #[.val (.int i0), .val (.int i1), .val (.int i2), .val (.int i3), .val (.int i4), .val (.int (2 : Int32)), .val (.int a), .val (.int b), .val (.int c), .val (.int d), s10, .val (.ref r), .val (.int e12), .val (.int (0 : Int32))]) (q := 249) at_247 rfl rfl ?_
  refine go_iload (v := (2 : Int32)) (q := 251) at_249 rfl rfl ?_
  refine go_ifN (q := 254) at_251 (by decide) rfl ?_
  have T0 : Str Z h [] r (([] : List Int32) ++ (esc a ++ (esc b ++ []))) := by rw [List.nil_append]; exact S
  refine go_aload (v := .ref r) (q := 256) at_254 rfl rfl rfl ?_
  refine go_iload (v := (0 : Int32)) (q := 258) at_256 rfl rfl ?_
  refine go_iload (v := a) (q := 260) at_258 rfl rfl ?_
  refine go_static (c' := 10) (s' := 66) (q := 263) (S := []) (argsL := [.ref r, .int (0 : Int32), .int a]) H (w_162 H) (w_163 H) (w_160 H) (w_164 H) (by decide) (rm_at H (pre := ([] : List Int32)) (post := (esc b ++ [])) (c := a) rfl T0 pa) rfl rfl (lenOf pd_25 rfl) (fun _ q => nomatch q) rfl (by decide) (Nat.le_of_ble_eq_true rfl) rfl rfl (by decide) (by decide) at_260 rfl ?_
  rintro _ _ G - ⟨rfl, rfl⟩
  refine nx_ (v := none) ?_
  show Go _ _ _ _ _ _ _ _ _ _ _ _ _ _ 263 #[.val (.int i0), .val (.int i1), .val (.int i2), .val (.int i3), .val (.int i4), .val (.int (2 : Int32)), .val (.int a), .val (.int b), .val (.int c), .val (.int d), s10, .val (.ref r), .val (.int e12), .val (.int (0 : Int32))] [.int 1]
  refine go_ifY (q := 268) at_263 (by decide) (by decide) (by decide) ?_
  refine go_iload (v := (0 : Int32)) (q := 270) at_268 rfl rfl ?_
  refine go_iload (v := a) (q := 272) at_270 rfl rfl ?_
  refine go_static (c' := 10) (s' := 66) (q := 275) (S := [.int (0 : Int32)]) (argsL := [.int a]) H (w_158 H) (w_159 H) (w_160 H) (w_161 H) (by decide) (rm_wd H) rfl rfl (lenOf pd_24 rfl) (fun _ q => nomatch q) rfl (by decide) (Nat.le_of_ble_eq_true rfl) rfl rfl (by decide) (by decide) at_272 rfl ?_
  rintro _ _ G - ⟨rfl, rfl⟩
  refine nx_ (v := none) ?_
  show Go _ _ _ _ _ _ _ _ _ _ _ _ _ _ 275 #[.val (.int i0), .val (.int i1), .val (.int i2), .val (.int i3), .val (.int i4), .val (.int (2 : Int32)), .val (.int a), .val (.int b), .val (.int c), .val (.int d), s10, .val (.ref r), .val (.int e12), .val (.int (0 : Int32))] [.int (Int32.ofNat (esc a).length), .int (0 : Int32)]
  obtain ⟨p1, hp1⟩ : ∃ p, (0 : Int32) + Int32.ofNat (esc a).length = p := ⟨_, rfl⟩
  have ep1 : p1 = Int32.ofNat (([] : List Int32) ++ esc a).length := by rw [← hp1]; exact addL ([] : List Int32) (esc a)
  refine go_iadd (r := p1) (q := 276) at_275 hp1 rfl ?_
  refine go_istore (L' := #[.val (.int i0), .val (.int i1), .val (.int i2), .val (.int i3), .val (.int i4), .val (.int (2 : Int32)), .val (.int a), .val (.int b), .val (.int c), .val (.int d), s10, .val (.ref r), .val (.int e12), .val (.int p1)]) (q := 278) at_276 rfl rfl ?_
  refine go_iload (v := (2 : Int32)) (q := 280) at_278 rfl rfl ?_
  refine go_iconst (x := (1 : Int32)) (q := 281) at_280 rfl rfl ?_
  refine go_icN (q := 284) at_281 (by decide) rfl ?_
  have T1 := T0.assoc
  refine go_aload (v := .ref r) (q := 286) at_284 rfl rfl rfl ?_
  refine go_iload (v := p1) (q := 288) at_286 rfl rfl ?_
  refine go_iload (v := b) (q := 290) at_288 rfl rfl ?_
  refine go_static (c' := 10) (s' := 66) (q := 293) (S := []) (argsL := [.ref r, .int p1, .int b]) H (w_162 H) (w_163 H) (w_160 H) (w_164 H) (by decide) (rm_at H (pre := (([] : List Int32) ++ esc a)) (post := []) (c := b) ep1 T1 pb) rfl rfl (lenOf pd_25 rfl) (fun _ q => nomatch q) rfl (by decide) (Nat.le_of_ble_eq_true rfl) rfl rfl (by decide) (by decide) at_290 rfl ?_
  rintro _ _ G - ⟨rfl, rfl⟩
  refine nx_ (v := none) ?_
  show Go _ _ _ _ _ _ _ _ _ _ _ _ _ _ 293 #[.val (.int i0), .val (.int i1), .val (.int i2), .val (.int i3), .val (.int i4), .val (.int (2 : Int32)), .val (.int a), .val (.int b), .val (.int c), .val (.int d), s10, .val (.ref r), .val (.int e12), .val (.int p1)] [.int 1]
  refine go_ifY (q := 298) at_293 (by decide) (by decide) (by decide) ?_
  refine go_iload (v := p1) (q := 300) at_298 rfl rfl ?_
  refine go_iload (v := b) (q := 302) at_300 rfl rfl ?_
  refine go_static (c' := 10) (s' := 66) (q := 305) (S := [.int p1]) (argsL := [.int b]) H (w_158 H) (w_159 H) (w_160 H) (w_161 H) (by decide) (rm_wd H) rfl rfl (lenOf pd_24 rfl) (fun _ q => nomatch q) rfl (by decide) (Nat.le_of_ble_eq_true rfl) rfl rfl (by decide) (by decide) at_302 rfl ?_
  rintro _ _ G - ⟨rfl, rfl⟩
  refine nx_ (v := none) ?_
  show Go _ _ _ _ _ _ _ _ _ _ _ _ _ _ 305 #[.val (.int i0), .val (.int i1), .val (.int i2), .val (.int i3), .val (.int i4), .val (.int (2 : Int32)), .val (.int a), .val (.int b), .val (.int c), .val (.int d), s10, .val (.ref r), .val (.int e12), .val (.int p1)] [.int (Int32.ofNat (esc b).length), .int p1]
  obtain ⟨p2, hp2⟩ : ∃ p, p1 + Int32.ofNat (esc b).length = p := ⟨_, rfl⟩
  have ep2 : p2 = Int32.ofNat ((([] : List Int32) ++ esc a) ++ esc b).length := by rw [← hp2, ep1]; exact addL (([] : List Int32) ++ esc a) (esc b)
  refine go_iadd (r := p2) (q := 306) at_305 hp2 rfl ?_
  refine go_istore (L' := #[.val (.int i0), .val (.int i1), .val (.int i2), .val (.int i3), .val (.int i4), .val (.int (2 : Int32)), .val (.int a), .val (.int b), .val (.int c), .val (.int d), s10, .val (.ref r), .val (.int e12), .val (.int p2)]) (q := 308) at_306 rfl rfl ?_
  refine go_iload (v := (2 : Int32)) (q := 310) at_308 rfl rfl ?_
  refine go_iconst (x := (2 : Int32)) (q := 311) at_310 rfl rfl ?_
  refine go_icY (q := 338) at_311 (by decide) (by decide) (by decide) ?_
  refine go_iload (v := (2 : Int32)) (q := 340) at_338 rfl rfl ?_
  refine go_iconst (x := (3 : Int32)) (q := 341) at_340 rfl rfl ?_
  refine go_icY (q := 358) at_341 (by decide) (by decide) (by decide) ?_
  refine go_iconst (x := (1 : Int32)) (q := 359) at_358 rfl rfl ?_
  exact go_ireturn H (G := []) (t := .boolean) rfl (by decide) rfl at_359 (by decide) (by decide) (fun _ q => nomatch q) rfl
set_option maxRecDepth 65536 in
set_option maxHeartbeats 8000000 in
theorem j165_2 {l : Launch} {Z : State} {a0 : Array Value} (H : Wd Z a0) {K : Cx} {h : Heap} {r : Addr} {s10 : Slot} {i0 i1 i2 i3 i4 a b c d : Int32} (pa : ¬ a < 0 ∧ ¬ 255 < a) (pb : ¬ b < 0 ∧ ¬ 255 < b) (pc : ¬ c < 0 ∧ ¬ 255 < c) (pd : ¬ d < 0 ∧ ¬ 255 < d) (S : Str Z h [] r (esc a ++ (esc b ++ []))) : GL l Z K h [] 10 66 165 #[.val (.int i0), .val (.int i1), .val (.int i2), .val (.int i3), .val (.int i4), .val (.int (2 : Int32)), .val (.int a), .val (.int b), .val (.int c), .val (.int d), s10, .val (.ref r), .unset, .unset] [] := by
  refine go_iload (v := (2 : Int32)) (q := 167) at_165 rfl rfl ?_
  refine go_ifN (q := 170) at_167 (by decide) rfl ?_
  refine go_iload (v := a) (q := 172) at_170 rfl rfl ?_
  refine go_static (c' := 10) (s' := 66) (q := 175) (S := []) (argsL := [.int a]) H (w_158 H) (w_159 H) (w_160 H) (w_161 H) (by decide) (rm_wd H) rfl rfl (lenOf pd_24 rfl) (fun _ q => nomatch q) rfl (by decide) (Nat.le_of_ble_eq_true rfl) rfl rfl (by decide) (by decide) at_172 rfl ?_
  rintro _ _ G - ⟨rfl, rfl⟩
  refine nx_ (v := none) ?_
  show Go _ _ _ _ _ _ _ _ _ _ _ _ _ _ 175 #[.val (.int i0), .val (.int i1), .val (.int i2), .val (.int i3), .val (.int i4), .val (.int (2 : Int32)), .val (.int a), .val (.int b), .val (.int c), .val (.int d), s10, .val (.ref r), .unset, .unset] [.int (Int32.ofNat (esc a).length)]
  refine go_goto (q := 179) at_175 (by decide) (by decide) ?_
  refine go_iload (v := (2 : Int32)) (q := 181) at_179 rfl rfl ?_
  refine go_iconst (x := (1 : Int32)) (q := 182) at_181 rfl rfl ?_
  refine go_icN (q := 185) at_182 (by decide) rfl ?_
  refine go_iload (v := b) (q := 187) at_185 rfl rfl ?_
  refine go_static (c' := 10) (s' := 66) (q := 190) (S := [.int (Int32.ofNat (esc a).length)]) (argsL := [.int b]) H (w_158 H) (w_159 H) (w_160 H) (w_161 H) (by decide) (rm_wd H) rfl rfl (lenOf pd_24 rfl) (fun _ q => nomatch q) rfl (by decide) (Nat.le_of_ble_eq_true rfl) rfl rfl (by decide) (by decide) at_187 rfl ?_
  rintro _ _ G - ⟨rfl, rfl⟩
  refine nx_ (v := none) ?_
  show Go _ _ _ _ _ _ _ _ _ _ _ _ _ _ 190 #[.val (.int i0), .val (.int i1), .val (.int i2), .val (.int i3), .val (.int i4), .val (.int (2 : Int32)), .val (.int a), .val (.int b), .val (.int c), .val (.int d), s10, .val (.ref r), .unset, .unset] [.int (Int32.ofNat (esc b).length), .int (Int32.ofNat (esc a).length)]
  refine go_goto (q := 194) at_190 (by decide) (by decide) ?_
  refine go_iadd (r := (Int32.ofNat ((esc a) ++ esc b).length)) (q := 195) at_194 (addL (esc a) (esc b)) rfl ?_
  refine go_iload (v := (2 : Int32)) (q := 197) at_195 rfl rfl ?_
  refine go_iconst (x := (2 : Int32)) (q := 198) at_197 rfl rfl ?_
  refine go_icY (q := 209) at_198 (by decide) (by decide) (by decide) ?_
  refine go_iconst (x := (0 : Int32)) (q := 210) at_209 rfl rfl ?_
  refine go_iadd (r := (Int32.ofNat ((esc a) ++ esc b).length)) (q := 211) at_210 (Int32.add_zero _) rfl ?_
  refine go_iload (v := (2 : Int32)) (q := 213) at_211 rfl rfl ?_
  refine go_iconst (x := (3 : Int32)) (q := 214) at_213 rfl rfl ?_
  refine go_icY (q := 225) at_214 (by decide) (by decide) (by decide) ?_
  refine go_iconst (x := (0 : Int32)) (q := 226) at_225 rfl rfl ?_
  refine go_iadd (r := (Int32.ofNat ((esc a) ++ esc b).length)) (q := 227) at_226 (Int32.add_zero _) rfl ?_
  refine go_istore (L' := #[.val (.int i0), .val (.int i1), .val (.int i2), .val (.int i3), .val (.int i4), .val (.int (2 : Int32)), .val (.int a), .val (.int b), .val (.int c), .val (.int d), s10, .val (.ref r), .val (.int (Int32.ofNat ((esc a) ++ esc b).length)), .unset]) (q := 229) at_227 rfl rfl ?_
  refine go_aload (v := .ref r) (q := 231) at_229 rfl rfl rfl ?_
  refine go_nullN (q := 234) at_231 rfl ?_
  refine go_aload (v := .ref r) (q := 236) at_234 rfl rfl rfl ?_
  refine go_virtual (c' := 10) (s' := 66) (q := 239) (S := []) (argsL := []) H (C := "java/lang/String") (w_107 H) (w_31 H) (nf_self (w_33 H)) (w_33 H) (w_32 H) (w_4 H) (w_34 H) (by decide) S.exa (rm_len H S) rfl rfl (lenOf pd_9 rfl) (fun _ q => nomatch q) rfl (by decide) (Nat.le_of_ble_eq_true rfl) rfl rfl (by decide) (by decide) at_236 rfl ?_
  rintro _ _ G - ⟨rfl, rfl⟩
  refine nx_ (v := none) ?_
  show Go _ _ _ _ _ _ _ _ _ _ _ _ _ _ 239 #[.val (.int i0), .val (.int i1), .val (.int i2), .val (.int i3), .val (.int i4), .val (.int (2 : Int32)), .val (.int a), .val (.int b), .val (.int c), .val (.int d), s10, .val (.ref r), .val (.int (Int32.ofNat ((esc a) ++ esc b).length)), .unset] [.int (Int32.ofNat (esc a ++ (esc b ++ [])).length)]
  refine go_iload (v := (Int32.ofNat ((esc a) ++ esc b).length)) (q := 241) at_239 rfl rfl ?_
  refine go_icY (q := 246) at_241 (congrArg (fun (z : List Int32) => Int32.ofNat z.length) (show (esc a ++ (esc b ++ [])) = ((esc a) ++ esc b) by simp)) (by decide) (by decide) ?_
  exact j246_2 H pa pb pc pd S
set_option maxRecDepth 65536 in
set_option maxHeartbeats 8000000 in
theorem j41_2 {l : Launch} {Z : State} {a0 : Array Value} (H : Wd Z a0) {K : Cx} {h : Heap} {i0 i1 i2 i3 i4 a b c d : Int32} (HX : Hexs Z) (pa : ¬ a < 0 ∧ ¬ 255 < a) (pb : ¬ b < 0 ∧ ¬ 255 < b) (pc : ¬ c < 0 ∧ ¬ 255 < c) (pd : ¬ d < 0 ∧ ¬ 255 < d) (hFl : ∀ x ∈ ([] : List Addr), x < h.size) : GL l Z K h [] 0 0 41 #[.val (.int i0), .val (.int i1), .val (.int i2), .val (.int i3), .val (.int i4), .val (.int (2 : Int32)), .val (.int a), .val (.int b), .val (.int c), .val (.int d), .unset, .unset, .unset, .unset] [] := by
  refine go_iload (v := (2 : Int32)) (q := 43) at_41 rfl rfl ?_
  refine go_ifY (q := 54) at_43 (by decide) (by decide) (by decide) ?_
  refine go_iload (v := (2 : Int32)) (q := 56) at_54 rfl rfl ?_
  refine go_iconst (x := (1 : Int32)) (q := 57) at_56 rfl rfl ?_
  refine go_icY (q := 73) at_57 (by decide) (by decide) (by decide) ?_
  refine go_iload (v := (2 : Int32)) (q := 75) at_73 rfl rfl ?_
  refine go_iconst (x := (2 : Int32)) (q := 76) at_75 rfl rfl ?_
  refine go_icN (q := 79) at_76 (by decide) rfl ?_
  refine go_iconst (x := (2 : Int32)) (q := 80) at_79 rfl rfl ?_
  refine go_newarray (ty := .char) (dv := .int 0) (n := 2) (cap := 2) (ad := "[C") (c' := 1) (s' := 2) (q := 82) rfl rfl (by decide) (w_1 H) at_80 (by decide) (by decide) (by decide) rfl rfl rfl rfl (by decide) (by decide) ?_
  intro hq2 yq kq gq2 Eq2 Wq2 Xq2
  have Wq2 : Arv Z hq2 yq kq .char (2 : Int32) [.int 0, .int 0] (.int 0) := Wq2
  refine go_dup (q := 83) at_82 rfl rfl ?_
  refine go_iconst (x := (0 : Int32)) (q := 84) at_83 rfl rfl ?_
  refine go_iload (v := a) (q := 86) at_84 rfl rfl ?_
  refine go_castore (i := 0) (y := a) (q := 87) Wq2 (by decide) rfl (Nat.le_of_ble_eq_true rfl) (by simp) (nar_char (pa).1 (pa).2) at_86 rfl ?_
  intro hq3 Kq3 zq3 Wq3
  have Wq3 : Arv Z hq3 yq kq .char (2 : Int32) [.int a, .int 0] (.int 0) := Wq3
  refine go_dup (q := 88) at_87 rfl rfl ?_
  refine go_iconst (x := (1 : Int32)) (q := 89) at_88 rfl rfl ?_
  refine go_iload (v := b) (q := 91) at_89 rfl rfl ?_
  refine go_castore (i := 1) (y := b) (q := 92) Wq3 (by decide) rfl (Nat.le_of_ble_eq_true rfl) (by simp) (nar_char (pb).1 (pb).2) at_91 rfl ?_
  intro hq4 Kq4 zq4 Wq4
  have Wq4 : Arv Z hq4 yq kq .char (2 : Int32) [.int a, .int b] (.int 0) := Wq4
  refine go_astore (L' := #[.val (.int i0), .val (.int i1), .val (.int i2), .val (.int i3), .val (.int i4), .val (.int (2 : Int32)), .val (.int a), .val (.int b), .val (.int c), .val (.int d), .val (.ref yq), .unset, .unset, .unset]) (q := 94) at_92 rfl rfl rfl ?_
  refine go_goto (q := 151) at_94 (by decide) (by decide) ?_
  have W := Wq4
  have Ka : Keep hq4 hq4 [] := Keep.refl _ _
  have hFl : ∀ x ∈ ([] : List Addr), x < hq4.size := fun _ q => nomatch q
  refine go_new (c' := 2) (s' := 6) (q := 154) (w_2 H) (w_3 H) (w_4 H) at_151 rfl rfl rfl (by decide) (by decide) ?_
  intro hs1 xs gs1 Es1 As1 Ds1
  have f_Ka_xs : hq4.size ≤ xs := by rw [gs1]; exact Ka.1
  have Ka : Keep hq4 hs1 [] := Ka.ext Es1
  have W := W.ext Es1
  have Cs1 : Fld Z hs1 xs ST "coder" "B" (.int 0) := Ds1 (Or.inr (w_18 H)) (ty := .byte) (by decide)
  have Vs1 : Fld Z hs1 xs ST "value" "[B" .null := Ds1 (Or.inr (w_17 H)) (ty := .array .byte) (by decide)
  have Kbs : Keep hs1 hs1 [] := Keep.refl _ _
  refine go_dup (q := 155) at_154 rfl rfl ?_
  refine go_aload (v := .ref yq) (q := 157) at_155 rfl rfl rfl ?_
  have Lts : Lat [a, b] := ⟨Nat.le_of_ble_eq_true rfl, (by intro c hc; simp only [List.mem_cons, List.not_mem_nil, or_false] at hc; rcases hc with rfl | rfl <;> first | exact pa | exact pb)⟩
  refine go_mine fun hMs _ => ?_
  have nFs : xs ∉ [] := fun q => absurd (hFl xs q) (Nat.not_lt.mpr f_Ka_xs)
  refine go_special (c' := 6) (s' := 22) (q := 160) (S := [.ref xs]) (argsL := [.ref yq]) H rfl (w_5 H) (w_6 H) (w_4 H) (w_7 H) (by decide) (rm_new1 H (cs := [a, b]) (F := []) (As1.keep Kbs) (Cs1.keep Kbs nin0) (Vs1.keep Kbs nin0) W Lts (Nat.le_of_ble_eq_true rfl) nFs) rfl rfl (lenOf pd_22 rfl) (by intro z hz; simp only [List.mem_cons, List.not_mem_nil, or_false] at hz ⊢; first | exact hz | exact Or.inl hz | (rcases hz with hz | hz <;> simp [hz]; done) | (rcases hz with rfl | rfl <;> simp)) rfl (by decide) (Nat.le_of_ble_eq_true rfl) rfl rfl (by decide) (by decide) at_157 rfl ?_
  rintro _ hsz G - ⟨rfl, Kcs, Ss⟩
  refine nx_ (v := none) ?_
  have Ka : Keep hq4 hsz [] := kfresh Ka Kcs f_Ka_xs
  show Go _ _ _ _ _ _ _ _ _ _ _ _ _ _ 160 #[.val (.int i0), .val (.int i1), .val (.int i2), .val (.int i3), .val (.int i4), .val (.int (2 : Int32)), .val (.int a), .val (.int b), .val (.int c), .val (.int d), .val (.ref yq), .unset, .unset, .unset] [.ref xs]
  refine go_less (F' := []) (by intro y hy; simp [hy]) (Nat.le_refl _) (Nat.le_refl _) ?_
  refine go_static (c' := 10) (s' := 66) (q := 163) (S := []) (argsL := [.ref xs]) H (w_23 H) (w_24 H) (w_25 H) (w_26 H) (by decide) (rm_qf H HX Ss (Nat.le_of_ble_eq_true rfl)) rfl rfl (lenOf pd_23 rfl) (fun _ q => nomatch q) rfl (by decide) (Nat.le_of_ble_eq_true rfl) rfl rfl (by decide) (by decide) at_160 rfl ?_
  rintro _ hr G - ⟨r, rfl, Kr, S⟩
  refine nx_ (v := none) ?_
  show Go _ _ _ _ _ _ _ _ _ _ _ _ _ _ 163 #[.val (.int i0), .val (.int i1), .val (.int i2), .val (.int i3), .val (.int i4), .val (.int (2 : Int32)), .val (.int a), .val (.int b), .val (.int c), .val (.int d), .val (.ref yq), .unset, .unset, .unset] [.ref r]
  have S : Str Z hr [] r (esc a ++ (esc b ++ [])) := S
  refine go_astore (L' := #[.val (.int i0), .val (.int i1), .val (.int i2), .val (.int i3), .val (.int i4), .val (.int (2 : Int32)), .val (.int a), .val (.int b), .val (.int c), .val (.int d), .val (.ref yq), .val (.ref r), .unset, .unset]) (q := 165) at_163 rfl rfl rfl ?_
  refine go_less (F' := []) (fun _ q => nomatch q) (Nat.le_refl _) (Nat.le_refl _) ?_
  exact j165_2 H pa pb pc pd S
set_option maxRecDepth 65536 in
set_option maxHeartbeats 8000000 in
theorem j246_3 {l : Launch} {Z : State} {a0 : Array Value} (H : Wd Z a0) {K : Cx} {h : Heap} {r : Addr} {s10 : Slot} {e12 : Int32} {i0 i1 i2 i3 i4 a b c d : Int32} (pa : ¬ a < 0 ∧ ¬ 255 < a) (pb : ¬ b < 0 ∧ ¬ 255 < b) (pc : ¬ c < 0 ∧ ¬ 255 < c) (pd : ¬ d < 0 ∧ ¬ 255 < d) (S : Str Z h [] r (esc a ++ (esc b ++ (esc c ++ [])))) : GL l Z K h [] 10 67 246 #[.val (.int i0), .val (.int i1), .val (.int i2), .val (.int i3), .val (.int i4), .val (.int (3 : Int32)), .val (.int a), .val (.int b), .val (.int c), .val (.int d), s10, .val (.ref r), .val (.int e12), .unset] [] := by
  refine go_iconst (x := (0 : Int32)) (q := 247) at_246 rfl rfl ?_
  refine go_istore (L' := #[.val (.int i0), .val (.int i1), .val (.int i2), .val (.int i3), .val (.int i4), .val (.int (3 : Int32)), .val (.int a), .val (.int b), .val (.int c), .val (.int d), s10, .val (.ref r), .val (.int e12), .val (.int (0 : Int32))]) (q := 249) at_247 rfl rfl ?_
  refine go_iload (v := (3 : Int32)) (q := 251) at_249 rfl rfl ?_
  refine go_ifN (q := 254) at_251 (by decide) rfl ?_
  have T0 : Str Z h [] r (([] : List Int32) ++ (esc a ++ (esc b ++ (esc c ++ [])))) := by rw [List.nil_append]; exact S
  refine go_aload (v := .ref r) (q := 256) at_254 rfl rfl rfl ?_
  refine go_iload (v := (0 : Int32)) (q := 258) at_256 rfl rfl ?_
  refine go_iload (v := a) (q := 260) at_258 rfl rfl ?_
  refine go_static (c' := 10) (s' := 67) (q := 263) (S := []) (argsL := [.ref r, .int (0 : Int32), .int a]) H (w_162 H) (w_163 H) (w_160 H) (w_164 H) (by decide) (rm_at H (pre := ([] : List Int32)) (post := (esc b ++ (esc c ++ []))) (c := a) rfl T0 pa) rfl rfl (lenOf pd_25 rfl) (fun _ q => nomatch q) rfl (by decide) (Nat.le_of_ble_eq_true rfl) rfl rfl (by decide) (by decide) at_260 rfl ?_
  rintro _ _ G - ⟨rfl, rfl⟩
  refine nx_ (v := none) ?_
  show Go _ _ _ _ _ _ _ _ _ _ _ _ _ _ 263 #[.val (.int i0), .val (.int i1), .val (.int i2), .val (.int i3), .val (.int i4), .val (.int (3 : Int32)), .val (.int a), .val (.int b), .val (.int c), .val (.int d), s10, .val (.ref r), .val (.int e12), .val (.int (0 : Int32))] [.int 1]
  refine go_ifY (q := 268) at_263 (by decide) (by decide) (by decide) ?_
  refine go_iload (v := (0 : Int32)) (q := 270) at_268 rfl rfl ?_
  refine go_iload (v := a) (q := 272) at_270 rfl rfl ?_
  refine go_static (c' := 10) (s' := 67) (q := 275) (S := [.int (0 : Int32)]) (argsL := [.int a]) H (w_158 H) (w_159 H) (w_160 H) (w_161 H) (by decide) (rm_wd H) rfl rfl (lenOf pd_24 rfl) (fun _ q => nomatch q) rfl (by decide) (Nat.le_of_ble_eq_true rfl) rfl rfl (by decide) (by decide) at_272 rfl ?_
  rintro _ _ G - ⟨rfl, rfl⟩
  refine nx_ (v := none) ?_
  show Go _ _ _ _ _ _ _ _ _ _ _ _ _ _ 275 #[.val (.int i0), .val (.int i1), .val (.int i2), .val (.int i3), .val (.int i4), .val (.int (3 : Int32)), .val (.int a), .val (.int b), .val (.int c), .val (.int d), s10, .val (.ref r), .val (.int e12), .val (.int (0 : Int32))] [.int (Int32.ofNat (esc a).length), .int (0 : Int32)]
  obtain ⟨p1, hp1⟩ : ∃ p, (0 : Int32) + Int32.ofNat (esc a).length = p := ⟨_, rfl⟩
  have ep1 : p1 = Int32.ofNat (([] : List Int32) ++ esc a).length := by rw [← hp1]; exact addL ([] : List Int32) (esc a)
  refine go_iadd (r := p1) (q := 276) at_275 hp1 rfl ?_
  refine go_istore (L' := #[.val (.int i0), .val (.int i1), .val (.int i2), .val (.int i3), .val (.int i4), .val (.int (3 : Int32)), .val (.int a), .val (.int b), .val (.int c), .val (.int d), s10, .val (.ref r), .val (.int e12), .val (.int p1)]) (q := 278) at_276 rfl rfl ?_
  refine go_iload (v := (3 : Int32)) (q := 280) at_278 rfl rfl ?_
  refine go_iconst (x := (1 : Int32)) (q := 281) at_280 rfl rfl ?_
  refine go_icN (q := 284) at_281 (by decide) rfl ?_
  have T1 := T0.assoc
  refine go_aload (v := .ref r) (q := 286) at_284 rfl rfl rfl ?_
  refine go_iload (v := p1) (q := 288) at_286 rfl rfl ?_
  refine go_iload (v := b) (q := 290) at_288 rfl rfl ?_
  refine go_static (c' := 10) (s' := 67) (q := 293) (S := []) (argsL := [.ref r, .int p1, .int b]) H (w_162 H) (w_163 H) (w_160 H) (w_164 H) (by decide) (rm_at H (pre := (([] : List Int32) ++ esc a)) (post := (esc c ++ [])) (c := b) ep1 T1 pb) rfl rfl (lenOf pd_25 rfl) (fun _ q => nomatch q) rfl (by decide) (Nat.le_of_ble_eq_true rfl) rfl rfl (by decide) (by decide) at_290 rfl ?_
  rintro _ _ G - ⟨rfl, rfl⟩
  refine nx_ (v := none) ?_
  show Go _ _ _ _ _ _ _ _ _ _ _ _ _ _ 293 #[.val (.int i0), .val (.int i1), .val (.int i2), .val (.int i3), .val (.int i4), .val (.int (3 : Int32)), .val (.int a), .val (.int b), .val (.int c), .val (.int d), s10, .val (.ref r), .val (.int e12), .val (.int p1)] [.int 1]
  refine go_ifY (q := 298) at_293 (by decide) (by decide) (by decide) ?_
  refine go_iload (v := p1) (q := 300) at_298 rfl rfl ?_
  refine go_iload (v := b) (q := 302) at_300 rfl rfl ?_
  refine go_static (c' := 10) (s' := 67) (q := 305) (S := [.int p1]) (argsL := [.int b]) H (w_158 H) (w_159 H) (w_160 H) (w_161 H) (by decide) (rm_wd H) rfl rfl (lenOf pd_24 rfl) (fun _ q => nomatch q) rfl (by decide) (Nat.le_of_ble_eq_true rfl) rfl rfl (by decide) (by decide) at_302 rfl ?_
  rintro _ _ G - ⟨rfl, rfl⟩
  refine nx_ (v := none) ?_
  show Go _ _ _ _ _ _ _ _ _ _ _ _ _ _ 305 #[.val (.int i0), .val (.int i1), .val (.int i2), .val (.int i3), .val (.int i4), .val (.int (3 : Int32)), .val (.int a), .val (.int b), .val (.int c), .val (.int d), s10, .val (.ref r), .val (.int e12), .val (.int p1)] [.int (Int32.ofNat (esc b).length), .int p1]
  obtain ⟨p2, hp2⟩ : ∃ p, p1 + Int32.ofNat (esc b).length = p := ⟨_, rfl⟩
  have ep2 : p2 = Int32.ofNat ((([] : List Int32) ++ esc a) ++ esc b).length := by rw [← hp2, ep1]; exact addL (([] : List Int32) ++ esc a) (esc b)
  refine go_iadd (r := p2) (q := 306) at_305 hp2 rfl ?_
  refine go_istore (L' := #[.val (.int i0), .val (.int i1), .val (.int i2), .val (.int i3), .val (.int i4), .val (.int (3 : Int32)), .val (.int a), .val (.int b), .val (.int c), .val (.int d), s10, .val (.ref r), .val (.int e12), .val (.int p2)]) (q := 308) at_306 rfl rfl ?_
  refine go_iload (v := (3 : Int32)) (q := 310) at_308 rfl rfl ?_
  refine go_iconst (x := (2 : Int32)) (q := 311) at_310 rfl rfl ?_
  refine go_icN (q := 314) at_311 (by decide) rfl ?_
  have T2 := T1.assoc
  refine go_aload (v := .ref r) (q := 316) at_314 rfl rfl rfl ?_
  refine go_iload (v := p2) (q := 318) at_316 rfl rfl ?_
  refine go_iload (v := c) (q := 320) at_318 rfl rfl ?_
  refine go_static (c' := 10) (s' := 67) (q := 323) (S := []) (argsL := [.ref r, .int p2, .int c]) H (w_162 H) (w_163 H) (w_160 H) (w_164 H) (by decide) (rm_at H (pre := ((([] : List Int32) ++ esc a) ++ esc b)) (post := []) (c := c) ep2 T2 pc) rfl rfl (lenOf pd_25 rfl) (fun _ q => nomatch q) rfl (by decide) (Nat.le_of_ble_eq_true rfl) rfl rfl (by decide) (by decide) at_320 rfl ?_
  rintro _ _ G - ⟨rfl, rfl⟩
  refine nx_ (v := none) ?_
  show Go _ _ _ _ _ _ _ _ _ _ _ _ _ _ 323 #[.val (.int i0), .val (.int i1), .val (.int i2), .val (.int i3), .val (.int i4), .val (.int (3 : Int32)), .val (.int a), .val (.int b), .val (.int c), .val (.int d), s10, .val (.ref r), .val (.int e12), .val (.int p2)] [.int 1]
  refine go_ifY (q := 328) at_323 (by decide) (by decide) (by decide) ?_
  refine go_iload (v := p2) (q := 330) at_328 rfl rfl ?_
  refine go_iload (v := c) (q := 332) at_330 rfl rfl ?_
  refine go_static (c' := 10) (s' := 67) (q := 335) (S := [.int p2]) (argsL := [.int c]) H (w_158 H) (w_159 H) (w_160 H) (w_161 H) (by decide) (rm_wd H) rfl rfl (lenOf pd_24 rfl) (fun _ q => nomatch q) rfl (by decide) (Nat.le_of_ble_eq_true rfl) rfl rfl (by decide) (by decide) at_332 rfl ?_
  rintro _ _ G - ⟨rfl, rfl⟩
  refine nx_ (v := none) ?_
  show Go _ _ _ _ _ _ _ _ _ _ _ _ _ _ 335 #[.val (.int i0), .val (.int i1), .val (.int i2), .val (.int i3), .val (.int i4), .val (.int (3 : Int32)), .val (.int a), .val (.int b), .val (.int c), .val (.int d), s10, .val (.ref r), .val (.int e12), .val (.int p2)] [.int (Int32.ofNat (esc c).length), .int p2]
  obtain ⟨p3, hp3⟩ : ∃ p, p2 + Int32.ofNat (esc c).length = p := ⟨_, rfl⟩
  have ep3 : p3 = Int32.ofNat (((([] : List Int32) ++ esc a) ++ esc b) ++ esc c).length := by rw [← hp3, ep2]; exact addL ((([] : List Int32) ++ esc a) ++ esc b) (esc c)
  refine go_iadd (r := p3) (q := 336) at_335 hp3 rfl ?_
  refine go_istore (L' := #[.val (.int i0), .val (.int i1), .val (.int i2), .val (.int i3), .val (.int i4), .val (.int (3 : Int32)), .val (.int a), .val (.int b), .val (.int c), .val (.int d), s10, .val (.ref r), .val (.int e12), .val (.int p3)]) (q := 338) at_336 rfl rfl ?_
  refine go_iload (v := (3 : Int32)) (q := 340) at_338 rfl rfl ?_
  refine go_iconst (x := (3 : Int32)) (q := 341) at_340 rfl rfl ?_
  refine go_icY (q := 358) at_341 (by decide) (by decide) (by decide) ?_
  refine go_iconst (x := (1 : Int32)) (q := 359) at_358 rfl rfl ?_
  exact go_ireturn H (G := []) (t := .boolean) rfl (by decide) rfl at_359 (by decide) (by decide) (fun _ q => nomatch q) rfl
set_option maxRecDepth 65536 in
set_option maxHeartbeats 8000000 in
theorem j165_3 {l : Launch} {Z : State} {a0 : Array Value} (H : Wd Z a0) {K : Cx} {h : Heap} {r : Addr} {s10 : Slot} {i0 i1 i2 i3 i4 a b c d : Int32} (pa : ¬ a < 0 ∧ ¬ 255 < a) (pb : ¬ b < 0 ∧ ¬ 255 < b) (pc : ¬ c < 0 ∧ ¬ 255 < c) (pd : ¬ d < 0 ∧ ¬ 255 < d) (S : Str Z h [] r (esc a ++ (esc b ++ (esc c ++ [])))) : GL l Z K h [] 10 67 165 #[.val (.int i0), .val (.int i1), .val (.int i2), .val (.int i3), .val (.int i4), .val (.int (3 : Int32)), .val (.int a), .val (.int b), .val (.int c), .val (.int d), s10, .val (.ref r), .unset, .unset] [] := by
  refine go_iload (v := (3 : Int32)) (q := 167) at_165 rfl rfl ?_
  refine go_ifN (q := 170) at_167 (by decide) rfl ?_
  refine go_iload (v := a) (q := 172) at_170 rfl rfl ?_
  refine go_static (c' := 10) (s' := 67) (q := 175) (S := []) (argsL := [.int a]) H (w_158 H) (w_159 H) (w_160 H) (w_161 H) (by decide) (rm_wd H) rfl rfl (lenOf pd_24 rfl) (fun _ q => nomatch q) rfl (by decide) (Nat.le_of_ble_eq_true rfl) rfl rfl (by decide) (by decide) at_172 rfl ?_
  rintro _ _ G - ⟨rfl, rfl⟩
  refine nx_ (v := none) ?_
  show Go _ _ _ _ _ _ _ _ _ _ _ _ _ _ 175 #[.val (.int i0), .val (.int i1), .val (.int i2), .val (.int i3), .val (.int i4), .val (.int (3 : Int32)), .val (.int a), .val (.int b), .val (.int c), .val (.int d), s10, .val (.ref r), .unset, .unset] [.int (Int32.ofNat (esc a).length)]
  refine go_goto (q := 179) at_175 (by decide) (by decide) ?_
  refine go_iload (v := (3 : Int32)) (q := 181) at_179 rfl rfl ?_
  refine go_iconst (x := (1 : Int32)) (q := 182) at_181 rfl rfl ?_
  refine go_icN (q := 185) at_182 (by decide) rfl ?_
  refine go_iload (v := b) (q := 187) at_185 rfl rfl ?_
  refine go_static (c' := 10) (s' := 67) (q := 190) (S := [.int (Int32.ofNat (esc a).length)]) (argsL := [.int b]) H (w_158 H) (w_159 H) (w_160 H) (w_161 H) (by decide) (rm_wd H) rfl rfl (lenOf pd_24 rfl) (fun _ q => nomatch q) rfl (by decide) (Nat.le_of_ble_eq_true rfl) rfl rfl (by decide) (by decide) at_187 rfl ?_
  rintro _ _ G - ⟨rfl, rfl⟩
  refine nx_ (v := none) ?_
  show Go _ _ _ _ _ _ _ _ _ _ _ _ _ _ 190 #[.val (.int i0), .val (.int i1), .val (.int i2), .val (.int i3), .val (.int i4), .val (.int (3 : Int32)), .val (.int a), .val (.int b), .val (.int c), .val (.int d), s10, .val (.ref r), .unset, .unset] [.int (Int32.ofNat (esc b).length), .int (Int32.ofNat (esc a).length)]
  refine go_goto (q := 194) at_190 (by decide) (by decide) ?_
  refine go_iadd (r := (Int32.ofNat ((esc a) ++ esc b).length)) (q := 195) at_194 (addL (esc a) (esc b)) rfl ?_
  refine go_iload (v := (3 : Int32)) (q := 197) at_195 rfl rfl ?_
  refine go_iconst (x := (2 : Int32)) (q := 198) at_197 rfl rfl ?_
  refine go_icN (q := 201) at_198 (by decide) rfl ?_
  refine go_iload (v := c) (q := 203) at_201 rfl rfl ?_
  refine go_static (c' := 10) (s' := 67) (q := 206) (S := [.int (Int32.ofNat ((esc a) ++ esc b).length)]) (argsL := [.int c]) H (w_158 H) (w_159 H) (w_160 H) (w_161 H) (by decide) (rm_wd H) rfl rfl (lenOf pd_24 rfl) (fun _ q => nomatch q) rfl (by decide) (Nat.le_of_ble_eq_true rfl) rfl rfl (by decide) (by decide) at_203 rfl ?_
  rintro _ _ G - ⟨rfl, rfl⟩
  refine nx_ (v := none) ?_
  show Go _ _ _ _ _ _ _ _ _ _ _ _ _ _ 206 #[.val (.int i0), .val (.int i1), .val (.int i2), .val (.int i3), .val (.int i4), .val (.int (3 : Int32)), .val (.int a), .val (.int b), .val (.int c), .val (.int d), s10, .val (.ref r), .unset, .unset] [.int (Int32.ofNat (esc c).length), .int (Int32.ofNat ((esc a) ++ esc b).length)]
  refine go_goto (q := 210) at_206 (by decide) (by decide) ?_
  refine go_iadd (r := (Int32.ofNat (((esc a) ++ esc b) ++ esc c).length)) (q := 211) at_210 (addL ((esc a) ++ esc b) (esc c)) rfl ?_
  refine go_iload (v := (3 : Int32)) (q := 213) at_211 rfl rfl ?_
  refine go_iconst (x := (3 : Int32)) (q := 214) at_213 rfl rfl ?_
  refine go_icY (q := 225) at_214 (by decide) (by decide) (by decide) ?_
  refine go_iconst (x := (0 : Int32)) (q := 226) at_225 rfl rfl ?_
  refine go_iadd (r := (Int32.ofNat (((esc a) ++ esc b) ++ esc c).length)) (q := 227) at_226 (Int32.add_zero _) rfl ?_
  refine go_istore (L' := #[.val (.int i0), .val (.int i1), .val (.int i2), .val (.int i3), .val (.int i4), .val (.int (3 : Int32)), .val (.int a), .val (.int b), .val (.int c), .val (.int d), s10, .val (.ref r), .val (.int (Int32.ofNat (((esc a) ++ esc b) ++ esc c).length)), .unset]) (q := 229) at_227 rfl rfl ?_
  refine go_aload (v := .ref r) (q := 231) at_229 rfl rfl rfl ?_
  refine go_nullN (q := 234) at_231 rfl ?_
  refine go_aload (v := .ref r) (q := 236) at_234 rfl rfl rfl ?_
  refine go_virtual (c' := 10) (s' := 67) (q := 239) (S := []) (argsL := []) H (C := "java/lang/String") (w_107 H) (w_31 H) (nf_self (w_33 H)) (w_33 H) (w_32 H) (w_4 H) (w_34 H) (by decide) S.exa (rm_len H S) rfl rfl (lenOf pd_9 rfl) (fun _ q => nomatch q) rfl (by decide) (Nat.le_of_ble_eq_true rfl) rfl rfl (by decide) (by decide) at_236 rfl ?_
  rintro _ _ G - ⟨rfl, rfl⟩
  refine nx_ (v := none) ?_
  show Go _ _ _ _ _ _ _ _ _ _ _ _ _ _ 239 #[.val (.int i0), .val (.int i1), .val (.int i2), .val (.int i3), .val (.int i4), .val (.int (3 : Int32)), .val (.int a), .val (.int b), .val (.int c), .val (.int d), s10, .val (.ref r), .val (.int (Int32.ofNat (((esc a) ++ esc b) ++ esc c).length)), .unset] [.int (Int32.ofNat (esc a ++ (esc b ++ (esc c ++ []))).length)]
  refine go_iload (v := (Int32.ofNat (((esc a) ++ esc b) ++ esc c).length)) (q := 241) at_239 rfl rfl ?_
  refine go_icY (q := 246) at_241 (congrArg (fun (z : List Int32) => Int32.ofNat z.length) (show (esc a ++ (esc b ++ (esc c ++ []))) = (((esc a) ++ esc b) ++ esc c) by simp)) (by decide) (by decide) ?_
  exact j246_3 H pa pb pc pd S
set_option maxRecDepth 65536 in
set_option maxHeartbeats 8000000 in
theorem j41_3 {l : Launch} {Z : State} {a0 : Array Value} (H : Wd Z a0) {K : Cx} {h : Heap} {i0 i1 i2 i3 i4 a b c d : Int32} (HX : Hexs Z) (pa : ¬ a < 0 ∧ ¬ 255 < a) (pb : ¬ b < 0 ∧ ¬ 255 < b) (pc : ¬ c < 0 ∧ ¬ 255 < c) (pd : ¬ d < 0 ∧ ¬ 255 < d) (hFl : ∀ x ∈ ([] : List Addr), x < h.size) : GL l Z K h [] 0 0 41 #[.val (.int i0), .val (.int i1), .val (.int i2), .val (.int i3), .val (.int i4), .val (.int (3 : Int32)), .val (.int a), .val (.int b), .val (.int c), .val (.int d), .unset, .unset, .unset, .unset] [] := by
  refine go_iload (v := (3 : Int32)) (q := 43) at_41 rfl rfl ?_
  refine go_ifY (q := 54) at_43 (by decide) (by decide) (by decide) ?_
  refine go_iload (v := (3 : Int32)) (q := 56) at_54 rfl rfl ?_
  refine go_iconst (x := (1 : Int32)) (q := 57) at_56 rfl rfl ?_
  refine go_icY (q := 73) at_57 (by decide) (by decide) (by decide) ?_
  refine go_iload (v := (3 : Int32)) (q := 75) at_73 rfl rfl ?_
  refine go_iconst (x := (2 : Int32)) (q := 76) at_75 rfl rfl ?_
  refine go_icY (q := 97) at_76 (by decide) (by decide) (by decide) ?_
  refine go_iload (v := (3 : Int32)) (q := 99) at_97 rfl rfl ?_
  refine go_iconst (x := (3 : Int32)) (q := 100) at_99 rfl rfl ?_
  refine go_icN (q := 103) at_100 (by decide) rfl ?_
  refine go_iconst (x := (3 : Int32)) (q := 104) at_103 rfl rfl ?_
  refine go_newarray (ty := .char) (dv := .int 0) (n := 3) (cap := 3) (ad := "[C") (c' := 1) (s' := 3) (q := 106) rfl rfl (by decide) (w_1 H) at_104 (by decide) (by decide) (by decide) rfl rfl rfl rfl (by decide) (by decide) ?_
  intro hq2 yq kq gq2 Eq2 Wq2 Xq2
  have Wq2 : Arv Z hq2 yq kq .char (3 : Int32) [.int 0, .int 0, .int 0] (.int 0) := Wq2
  refine go_dup (q := 107) at_106 rfl rfl ?_
  refine go_iconst (x := (0 : Int32)) (q := 108) at_107 rfl rfl ?_
  refine go_iload (v := a) (q := 110) at_108 rfl rfl ?_
  refine go_castore (i := 0) (y := a) (q := 111) Wq2 (by decide) rfl (Nat.le_of_ble_eq_true rfl) (by simp) (nar_char (pa).1 (pa).2) at_110 rfl ?_
  intro hq3 Kq3 zq3 Wq3
  have Wq3 : Arv Z hq3 yq kq .char (3 : Int32) [.int a, .int 0, .int 0] (.int 0) := Wq3
  refine go_dup (q := 112) at_111 rfl rfl ?_
  refine go_iconst (x := (1 : Int32)) (q := 113) at_112 rfl rfl ?_
  refine go_iload (v := b) (q := 115) at_113 rfl rfl ?_
  refine go_castore (i := 1) (y := b) (q := 116) Wq3 (by decide) rfl (Nat.le_of_ble_eq_true rfl) (by simp) (nar_char (pb).1 (pb).2) at_115 rfl ?_
  intro hq4 Kq4 zq4 Wq4
  have Wq4 : Arv Z hq4 yq kq .char (3 : Int32) [.int a, .int b, .int 0] (.int 0) := Wq4
  refine go_dup (q := 117) at_116 rfl rfl ?_
  refine go_iconst (x := (2 : Int32)) (q := 118) at_117 rfl rfl ?_
  refine go_iload (v := c) (q := 120) at_118 rfl rfl ?_
  refine go_castore (i := 2) (y := c) (q := 121) Wq4 (by decide) rfl (Nat.le_of_ble_eq_true rfl) (by simp) (nar_char (pc).1 (pc).2) at_120 rfl ?_
  intro hq5 Kq5 zq5 Wq5
  have Wq5 : Arv Z hq5 yq kq .char (3 : Int32) [.int a, .int b, .int c] (.int 0) := Wq5
  refine go_astore (L' := #[.val (.int i0), .val (.int i1), .val (.int i2), .val (.int i3), .val (.int i4), .val (.int (3 : Int32)), .val (.int a), .val (.int b), .val (.int c), .val (.int d), .val (.ref yq), .unset, .unset, .unset]) (q := 123) at_121 rfl rfl rfl ?_
  refine go_goto (q := 151) at_123 (by decide) (by decide) ?_
  have W := Wq5
  have Ka : Keep hq5 hq5 [] := Keep.refl _ _
  have hFl : ∀ x ∈ ([] : List Addr), x < hq5.size := fun _ q => nomatch q
  refine go_new (c' := 2) (s' := 7) (q := 154) (w_2 H) (w_3 H) (w_4 H) at_151 rfl rfl rfl (by decide) (by decide) ?_
  intro hs1 xs gs1 Es1 As1 Ds1
  have f_Ka_xs : hq5.size ≤ xs := by rw [gs1]; exact Ka.1
  have Ka : Keep hq5 hs1 [] := Ka.ext Es1
  have W := W.ext Es1
  have Cs1 : Fld Z hs1 xs ST "coder" "B" (.int 0) := Ds1 (Or.inr (w_18 H)) (ty := .byte) (by decide)
  have Vs1 : Fld Z hs1 xs ST "value" "[B" .null := Ds1 (Or.inr (w_17 H)) (ty := .array .byte) (by decide)
  have Kbs : Keep hs1 hs1 [] := Keep.refl _ _
  refine go_dup (q := 155) at_154 rfl rfl ?_
  refine go_aload (v := .ref yq) (q := 157) at_155 rfl rfl rfl ?_
  have Lts : Lat [a, b, c] := ⟨Nat.le_of_ble_eq_true rfl, (by intro c hc; simp only [List.mem_cons, List.not_mem_nil, or_false] at hc; rcases hc with rfl | rfl | rfl <;> first | exact pa | exact pb | exact pc)⟩
  refine go_mine fun hMs _ => ?_
  have nFs : xs ∉ [] := fun q => absurd (hFl xs q) (Nat.not_lt.mpr f_Ka_xs)
  refine go_special (c' := 6) (s' := 23) (q := 160) (S := [.ref xs]) (argsL := [.ref yq]) H rfl (w_5 H) (w_6 H) (w_4 H) (w_7 H) (by decide) (rm_new1 H (cs := [a, b, c]) (F := []) (As1.keep Kbs) (Cs1.keep Kbs nin0) (Vs1.keep Kbs nin0) W Lts (Nat.le_of_ble_eq_true rfl) nFs) rfl rfl (lenOf pd_22 rfl) (by intro z hz; simp only [List.mem_cons, List.not_mem_nil, or_false] at hz ⊢; first | exact hz | exact Or.inl hz | (rcases hz with hz | hz <;> simp [hz]; done) | (rcases hz with rfl | rfl <;> simp)) rfl (by decide) (Nat.le_of_ble_eq_true rfl) rfl rfl (by decide) (by decide) at_157 rfl ?_
  rintro _ hsz G - ⟨rfl, Kcs, Ss⟩
  refine nx_ (v := none) ?_
  have Ka : Keep hq5 hsz [] := kfresh Ka Kcs f_Ka_xs
  show Go _ _ _ _ _ _ _ _ _ _ _ _ _ _ 160 #[.val (.int i0), .val (.int i1), .val (.int i2), .val (.int i3), .val (.int i4), .val (.int (3 : Int32)), .val (.int a), .val (.int b), .val (.int c), .val (.int d), .val (.ref yq), .unset, .unset, .unset] [.ref xs]
  refine go_less (F' := []) (by intro y hy; simp [hy]) (Nat.le_refl _) (Nat.le_refl _) ?_
  refine go_static (c' := 10) (s' := 67) (q := 163) (S := []) (argsL := [.ref xs]) H (w_23 H) (w_24 H) (w_25 H) (w_26 H) (by decide) (rm_qf H HX Ss (Nat.le_of_ble_eq_true rfl)) rfl rfl (lenOf pd_23 rfl) (fun _ q => nomatch q) rfl (by decide) (Nat.le_of_ble_eq_true rfl) rfl rfl (by decide) (by decide) at_160 rfl ?_
  rintro _ hr G - ⟨r, rfl, Kr, S⟩
  refine nx_ (v := none) ?_
  show Go _ _ _ _ _ _ _ _ _ _ _ _ _ _ 163 #[.val (.int i0), .val (.int i1), .val (.int i2), .val (.int i3), .val (.int i4), .val (.int (3 : Int32)), .val (.int a), .val (.int b), .val (.int c), .val (.int d), .val (.ref yq), .unset, .unset, .unset] [.ref r]
  have S : Str Z hr [] r (esc a ++ (esc b ++ (esc c ++ []))) := S
  refine go_astore (L' := #[.val (.int i0), .val (.int i1), .val (.int i2), .val (.int i3), .val (.int i4), .val (.int (3 : Int32)), .val (.int a), .val (.int b), .val (.int c), .val (.int d), .val (.ref yq), .val (.ref r), .unset, .unset]) (q := 165) at_163 rfl rfl rfl ?_
  refine go_less (F' := []) (fun _ q => nomatch q) (Nat.le_refl _) (Nat.le_refl _) ?_
  exact j165_3 H pa pb pc pd S
set_option maxRecDepth 65536 in
set_option maxHeartbeats 8000000 in
theorem j246_4 {l : Launch} {Z : State} {a0 : Array Value} (H : Wd Z a0) {K : Cx} {h : Heap} {r : Addr} {s10 : Slot} {e12 : Int32} {i0 i1 i2 i3 i4 a b c d : Int32} (pa : ¬ a < 0 ∧ ¬ 255 < a) (pb : ¬ b < 0 ∧ ¬ 255 < b) (pc : ¬ c < 0 ∧ ¬ 255 < c) (pd : ¬ d < 0 ∧ ¬ 255 < d) (S : Str Z h [] r (esc a ++ (esc b ++ (esc c ++ (esc d ++ []))))) : GL l Z K h [] 10 68 246 #[.val (.int i0), .val (.int i1), .val (.int i2), .val (.int i3), .val (.int i4), .val (.int (4 : Int32)), .val (.int a), .val (.int b), .val (.int c), .val (.int d), s10, .val (.ref r), .val (.int e12), .unset] [] := by
  refine go_iconst (x := (0 : Int32)) (q := 247) at_246 rfl rfl ?_
  refine go_istore (L' := #[.val (.int i0), .val (.int i1), .val (.int i2), .val (.int i3), .val (.int i4), .val (.int (4 : Int32)), .val (.int a), .val (.int b), .val (.int c), .val (.int d), s10, .val (.ref r), .val (.int e12), .val (.int (0 : Int32))]) (q := 249) at_247 rfl rfl ?_
  refine go_iload (v := (4 : Int32)) (q := 251) at_249 rfl rfl ?_
  refine go_ifN (q := 254) at_251 (by decide) rfl ?_
  have T0 : Str Z h [] r (([] : List Int32) ++ (esc a ++ (esc b ++ (esc c ++ (esc d ++ []))))) := by rw [List.nil_append]; exact S
  refine go_aload (v := .ref r) (q := 256) at_254 rfl rfl rfl ?_
  refine go_iload (v := (0 : Int32)) (q := 258) at_256 rfl rfl ?_
  refine go_iload (v := a) (q := 260) at_258 rfl rfl ?_
  refine go_static (c' := 10) (s' := 68) (q := 263) (S := []) (argsL := [.ref r, .int (0 : Int32), .int a]) H (w_162 H) (w_163 H) (w_160 H) (w_164 H) (by decide) (rm_at H (pre := ([] : List Int32)) (post := (esc b ++ (esc c ++ (esc d ++ [])))) (c := a) rfl T0 pa) rfl rfl (lenOf pd_25 rfl) (fun _ q => nomatch q) rfl (by decide) (Nat.le_of_ble_eq_true rfl) rfl rfl (by decide) (by decide) at_260 rfl ?_
  rintro _ _ G - ⟨rfl, rfl⟩
  refine nx_ (v := none) ?_
  show Go _ _ _ _ _ _ _ _ _ _ _ _ _ _ 263 #[.val (.int i0), .val (.int i1), .val (.int i2), .val (.int i3), .val (.int i4), .val (.int (4 : Int32)), .val (.int a), .val (.int b), .val (.int c), .val (.int d), s10, .val (.ref r), .val (.int e12), .val (.int (0 : Int32))] [.int 1]
  refine go_ifY (q := 268) at_263 (by decide) (by decide) (by decide) ?_
  refine go_iload (v := (0 : Int32)) (q := 270) at_268 rfl rfl ?_
  refine go_iload (v := a) (q := 272) at_270 rfl rfl ?_
  refine go_static (c' := 10) (s' := 68) (q := 275) (S := [.int (0 : Int32)]) (argsL := [.int a]) H (w_158 H) (w_159 H) (w_160 H) (w_161 H) (by decide) (rm_wd H) rfl rfl (lenOf pd_24 rfl) (fun _ q => nomatch q) rfl (by decide) (Nat.le_of_ble_eq_true rfl) rfl rfl (by decide) (by decide) at_272 rfl ?_
  rintro _ _ G - ⟨rfl, rfl⟩
  refine nx_ (v := none) ?_
  show Go _ _ _ _ _ _ _ _ _ _ _ _ _ _ 275 #[.val (.int i0), .val (.int i1), .val (.int i2), .val (.int i3), .val (.int i4), .val (.int (4 : Int32)), .val (.int a), .val (.int b), .val (.int c), .val (.int d), s10, .val (.ref r), .val (.int e12), .val (.int (0 : Int32))] [.int (Int32.ofNat (esc a).length), .int (0 : Int32)]
  obtain ⟨p1, hp1⟩ : ∃ p, (0 : Int32) + Int32.ofNat (esc a).length = p := ⟨_, rfl⟩
  have ep1 : p1 = Int32.ofNat (([] : List Int32) ++ esc a).length := by rw [← hp1]; exact addL ([] : List Int32) (esc a)
  refine go_iadd (r := p1) (q := 276) at_275 hp1 rfl ?_
  refine go_istore (L' := #[.val (.int i0), .val (.int i1), .val (.int i2), .val (.int i3), .val (.int i4), .val (.int (4 : Int32)), .val (.int a), .val (.int b), .val (.int c), .val (.int d), s10, .val (.ref r), .val (.int e12), .val (.int p1)]) (q := 278) at_276 rfl rfl ?_
  refine go_iload (v := (4 : Int32)) (q := 280) at_278 rfl rfl ?_
  refine go_iconst (x := (1 : Int32)) (q := 281) at_280 rfl rfl ?_
  refine go_icN (q := 284) at_281 (by decide) rfl ?_
  have T1 := T0.assoc
  refine go_aload (v := .ref r) (q := 286) at_284 rfl rfl rfl ?_
  refine go_iload (v := p1) (q := 288) at_286 rfl rfl ?_
  refine go_iload (v := b) (q := 290) at_288 rfl rfl ?_
  refine go_static (c' := 10) (s' := 68) (q := 293) (S := []) (argsL := [.ref r, .int p1, .int b]) H (w_162 H) (w_163 H) (w_160 H) (w_164 H) (by decide) (rm_at H (pre := (([] : List Int32) ++ esc a)) (post := (esc c ++ (esc d ++ []))) (c := b) ep1 T1 pb) rfl rfl (lenOf pd_25 rfl) (fun _ q => nomatch q) rfl (by decide) (Nat.le_of_ble_eq_true rfl) rfl rfl (by decide) (by decide) at_290 rfl ?_
  rintro _ _ G - ⟨rfl, rfl⟩
  refine nx_ (v := none) ?_
  show Go _ _ _ _ _ _ _ _ _ _ _ _ _ _ 293 #[.val (.int i0), .val (.int i1), .val (.int i2), .val (.int i3), .val (.int i4), .val (.int (4 : Int32)), .val (.int a), .val (.int b), .val (.int c), .val (.int d), s10, .val (.ref r), .val (.int e12), .val (.int p1)] [.int 1]
  refine go_ifY (q := 298) at_293 (by decide) (by decide) (by decide) ?_
  refine go_iload (v := p1) (q := 300) at_298 rfl rfl ?_
  refine go_iload (v := b) (q := 302) at_300 rfl rfl ?_
  refine go_static (c' := 10) (s' := 68) (q := 305) (S := [.int p1]) (argsL := [.int b]) H (w_158 H) (w_159 H) (w_160 H) (w_161 H) (by decide) (rm_wd H) rfl rfl (lenOf pd_24 rfl) (fun _ q => nomatch q) rfl (by decide) (Nat.le_of_ble_eq_true rfl) rfl rfl (by decide) (by decide) at_302 rfl ?_
  rintro _ _ G - ⟨rfl, rfl⟩
  refine nx_ (v := none) ?_
  show Go _ _ _ _ _ _ _ _ _ _ _ _ _ _ 305 #[.val (.int i0), .val (.int i1), .val (.int i2), .val (.int i3), .val (.int i4), .val (.int (4 : Int32)), .val (.int a), .val (.int b), .val (.int c), .val (.int d), s10, .val (.ref r), .val (.int e12), .val (.int p1)] [.int (Int32.ofNat (esc b).length), .int p1]
  obtain ⟨p2, hp2⟩ : ∃ p, p1 + Int32.ofNat (esc b).length = p := ⟨_, rfl⟩
  have ep2 : p2 = Int32.ofNat ((([] : List Int32) ++ esc a) ++ esc b).length := by rw [← hp2, ep1]; exact addL (([] : List Int32) ++ esc a) (esc b)
  refine go_iadd (r := p2) (q := 306) at_305 hp2 rfl ?_
  refine go_istore (L' := #[.val (.int i0), .val (.int i1), .val (.int i2), .val (.int i3), .val (.int i4), .val (.int (4 : Int32)), .val (.int a), .val (.int b), .val (.int c), .val (.int d), s10, .val (.ref r), .val (.int e12), .val (.int p2)]) (q := 308) at_306 rfl rfl ?_
  refine go_iload (v := (4 : Int32)) (q := 310) at_308 rfl rfl ?_
  refine go_iconst (x := (2 : Int32)) (q := 311) at_310 rfl rfl ?_
  refine go_icN (q := 314) at_311 (by decide) rfl ?_
  have T2 := T1.assoc
  refine go_aload (v := .ref r) (q := 316) at_314 rfl rfl rfl ?_
  refine go_iload (v := p2) (q := 318) at_316 rfl rfl ?_
  refine go_iload (v := c) (q := 320) at_318 rfl rfl ?_
  refine go_static (c' := 10) (s' := 68) (q := 323) (S := []) (argsL := [.ref r, .int p2, .int c]) H (w_162 H) (w_163 H) (w_160 H) (w_164 H) (by decide) (rm_at H (pre := ((([] : List Int32) ++ esc a) ++ esc b)) (post := (esc d ++ [])) (c := c) ep2 T2 pc) rfl rfl (lenOf pd_25 rfl) (fun _ q => nomatch q) rfl (by decide) (Nat.le_of_ble_eq_true rfl) rfl rfl (by decide) (by decide) at_320 rfl ?_
  rintro _ _ G - ⟨rfl, rfl⟩
  refine nx_ (v := none) ?_
  show Go _ _ _ _ _ _ _ _ _ _ _ _ _ _ 323 #[.val (.int i0), .val (.int i1), .val (.int i2), .val (.int i3), .val (.int i4), .val (.int (4 : Int32)), .val (.int a), .val (.int b), .val (.int c), .val (.int d), s10, .val (.ref r), .val (.int e12), .val (.int p2)] [.int 1]
  refine go_ifY (q := 328) at_323 (by decide) (by decide) (by decide) ?_
  refine go_iload (v := p2) (q := 330) at_328 rfl rfl ?_
  refine go_iload (v := c) (q := 332) at_330 rfl rfl ?_
  refine go_static (c' := 10) (s' := 68) (q := 335) (S := [.int p2]) (argsL := [.int c]) H (w_158 H) (w_159 H) (w_160 H) (w_161 H) (by decide) (rm_wd H) rfl rfl (lenOf pd_24 rfl) (fun _ q => nomatch q) rfl (by decide) (Nat.le_of_ble_eq_true rfl) rfl rfl (by decide) (by decide) at_332 rfl ?_
  rintro _ _ G - ⟨rfl, rfl⟩
  refine nx_ (v := none) ?_
  show Go _ _ _ _ _ _ _ _ _ _ _ _ _ _ 335 #[.val (.int i0), .val (.int i1), .val (.int i2), .val (.int i3), .val (.int i4), .val (.int (4 : Int32)), .val (.int a), .val (.int b), .val (.int c), .val (.int d), s10, .val (.ref r), .val (.int e12), .val (.int p2)] [.int (Int32.ofNat (esc c).length), .int p2]
  obtain ⟨p3, hp3⟩ : ∃ p, p2 + Int32.ofNat (esc c).length = p := ⟨_, rfl⟩
  have ep3 : p3 = Int32.ofNat (((([] : List Int32) ++ esc a) ++ esc b) ++ esc c).length := by rw [← hp3, ep2]; exact addL ((([] : List Int32) ++ esc a) ++ esc b) (esc c)
  refine go_iadd (r := p3) (q := 336) at_335 hp3 rfl ?_
  refine go_istore (L' := #[.val (.int i0), .val (.int i1), .val (.int i2), .val (.int i3), .val (.int i4), .val (.int (4 : Int32)), .val (.int a), .val (.int b), .val (.int c), .val (.int d), s10, .val (.ref r), .val (.int e12), .val (.int p3)]) (q := 338) at_336 rfl rfl ?_
  refine go_iload (v := (4 : Int32)) (q := 340) at_338 rfl rfl ?_
  refine go_iconst (x := (3 : Int32)) (q := 341) at_340 rfl rfl ?_
  refine go_icN (q := 344) at_341 (by decide) rfl ?_
  have T3 := T2.assoc
  refine go_aload (v := .ref r) (q := 346) at_344 rfl rfl rfl ?_
  refine go_iload (v := p3) (q := 348) at_346 rfl rfl ?_
  refine go_iload (v := d) (q := 350) at_348 rfl rfl ?_
  refine go_static (c' := 10) (s' := 68) (q := 353) (S := []) (argsL := [.ref r, .int p3, .int d]) H (w_162 H) (w_163 H) (w_160 H) (w_164 H) (by decide) (rm_at H (pre := (((([] : List Int32) ++ esc a) ++ esc b) ++ esc c)) (post := []) (c := d) ep3 T3 pd) rfl rfl (lenOf pd_25 rfl) (fun _ q => nomatch q) rfl (by decide) (Nat.le_of_ble_eq_true rfl) rfl rfl (by decide) (by decide) at_350 rfl ?_
  rintro _ _ G - ⟨rfl, rfl⟩
  refine nx_ (v := none) ?_
  show Go _ _ _ _ _ _ _ _ _ _ _ _ _ _ 353 #[.val (.int i0), .val (.int i1), .val (.int i2), .val (.int i3), .val (.int i4), .val (.int (4 : Int32)), .val (.int a), .val (.int b), .val (.int c), .val (.int d), s10, .val (.ref r), .val (.int e12), .val (.int p3)] [.int 1]
  refine go_ifY (q := 358) at_353 (by decide) (by decide) (by decide) ?_
  refine go_iconst (x := (1 : Int32)) (q := 359) at_358 rfl rfl ?_
  exact go_ireturn H (G := []) (t := .boolean) rfl (by decide) rfl at_359 (by decide) (by decide) (fun _ q => nomatch q) rfl
set_option maxRecDepth 65536 in
set_option maxHeartbeats 8000000 in
theorem j165_4 {l : Launch} {Z : State} {a0 : Array Value} (H : Wd Z a0) {K : Cx} {h : Heap} {r : Addr} {s10 : Slot} {i0 i1 i2 i3 i4 a b c d : Int32} (pa : ¬ a < 0 ∧ ¬ 255 < a) (pb : ¬ b < 0 ∧ ¬ 255 < b) (pc : ¬ c < 0 ∧ ¬ 255 < c) (pd : ¬ d < 0 ∧ ¬ 255 < d) (S : Str Z h [] r (esc a ++ (esc b ++ (esc c ++ (esc d ++ []))))) : GL l Z K h [] 10 68 165 #[.val (.int i0), .val (.int i1), .val (.int i2), .val (.int i3), .val (.int i4), .val (.int (4 : Int32)), .val (.int a), .val (.int b), .val (.int c), .val (.int d), s10, .val (.ref r), .unset, .unset] [] := by
  refine go_iload (v := (4 : Int32)) (q := 167) at_165 rfl rfl ?_
  refine go_ifN (q := 170) at_167 (by decide) rfl ?_
  refine go_iload (v := a) (q := 172) at_170 rfl rfl ?_
  refine go_static (c' := 10) (s' := 68) (q := 175) (S := []) (argsL := [.int a]) H (w_158 H) (w_159 H) (w_160 H) (w_161 H) (by decide) (rm_wd H) rfl rfl (lenOf pd_24 rfl) (fun _ q => nomatch q) rfl (by decide) (Nat.le_of_ble_eq_true rfl) rfl rfl (by decide) (by decide) at_172 rfl ?_
  rintro _ _ G - ⟨rfl, rfl⟩
  refine nx_ (v := none) ?_
  show Go _ _ _ _ _ _ _ _ _ _ _ _ _ _ 175 #[.val (.int i0), .val (.int i1), .val (.int i2), .val (.int i3), .val (.int i4), .val (.int (4 : Int32)), .val (.int a), .val (.int b), .val (.int c), .val (.int d), s10, .val (.ref r), .unset, .unset] [.int (Int32.ofNat (esc a).length)]
  refine go_goto (q := 179) at_175 (by decide) (by decide) ?_
  refine go_iload (v := (4 : Int32)) (q := 181) at_179 rfl rfl ?_
  refine go_iconst (x := (1 : Int32)) (q := 182) at_181 rfl rfl ?_
  refine go_icN (q := 185) at_182 (by decide) rfl ?_
  refine go_iload (v := b) (q := 187) at_185 rfl rfl ?_
  refine go_static (c' := 10) (s' := 68) (q := 190) (S := [.int (Int32.ofNat (esc a).length)]) (argsL := [.int b]) H (w_158 H) (w_159 H) (w_160 H) (w_161 H) (by decide) (rm_wd H) rfl rfl (lenOf pd_24 rfl) (fun _ q => nomatch q) rfl (by decide) (Nat.le_of_ble_eq_true rfl) rfl rfl (by decide) (by decide) at_187 rfl ?_
  rintro _ _ G - ⟨rfl, rfl⟩
  refine nx_ (v := none) ?_
  show Go _ _ _ _ _ _ _ _ _ _ _ _ _ _ 190 #[.val (.int i0), .val (.int i1), .val (.int i2), .val (.int i3), .val (.int i4), .val (.int (4 : Int32)), .val (.int a), .val (.int b), .val (.int c), .val (.int d), s10, .val (.ref r), .unset, .unset] [.int (Int32.ofNat (esc b).length), .int (Int32.ofNat (esc a).length)]
  refine go_goto (q := 194) at_190 (by decide) (by decide) ?_
  refine go_iadd (r := (Int32.ofNat ((esc a) ++ esc b).length)) (q := 195) at_194 (addL (esc a) (esc b)) rfl ?_
  refine go_iload (v := (4 : Int32)) (q := 197) at_195 rfl rfl ?_
  refine go_iconst (x := (2 : Int32)) (q := 198) at_197 rfl rfl ?_
  refine go_icN (q := 201) at_198 (by decide) rfl ?_
  refine go_iload (v := c) (q := 203) at_201 rfl rfl ?_
  refine go_static (c' := 10) (s' := 68) (q := 206) (S := [.int (Int32.ofNat ((esc a) ++ esc b).length)]) (argsL := [.int c]) H (w_158 H) (w_159 H) (w_160 H) (w_161 H) (by decide) (rm_wd H) rfl rfl (lenOf pd_24 rfl) (fun _ q => nomatch q) rfl (by decide) (Nat.le_of_ble_eq_true rfl) rfl rfl (by decide) (by decide) at_203 rfl ?_
  rintro _ _ G - ⟨rfl, rfl⟩
  refine nx_ (v := none) ?_
  show Go _ _ _ _ _ _ _ _ _ _ _ _ _ _ 206 #[.val (.int i0), .val (.int i1), .val (.int i2), .val (.int i3), .val (.int i4), .val (.int (4 : Int32)), .val (.int a), .val (.int b), .val (.int c), .val (.int d), s10, .val (.ref r), .unset, .unset] [.int (Int32.ofNat (esc c).length), .int (Int32.ofNat ((esc a) ++ esc b).length)]
  refine go_goto (q := 210) at_206 (by decide) (by decide) ?_
  refine go_iadd (r := (Int32.ofNat (((esc a) ++ esc b) ++ esc c).length)) (q := 211) at_210 (addL ((esc a) ++ esc b) (esc c)) rfl ?_
  refine go_iload (v := (4 : Int32)) (q := 213) at_211 rfl rfl ?_
  refine go_iconst (x := (3 : Int32)) (q := 214) at_213 rfl rfl ?_
  refine go_icN (q := 217) at_214 (by decide) rfl ?_
  refine go_iload (v := d) (q := 219) at_217 rfl rfl ?_
  refine go_static (c' := 10) (s' := 68) (q := 222) (S := [.int (Int32.ofNat (((esc a) ++ esc b) ++ esc c).length)]) (argsL := [.int d]) H (w_158 H) (w_159 H) (w_160 H) (w_161 H) (by decide) (rm_wd H) rfl rfl (lenOf pd_24 rfl) (fun _ q => nomatch q) rfl (by decide) (Nat.le_of_ble_eq_true rfl) rfl rfl (by decide) (by decide) at_219 rfl ?_
  rintro _ _ G - ⟨rfl, rfl⟩
  refine nx_ (v := none) ?_
  show Go _ _ _ _ _ _ _ _ _ _ _ _ _ _ 222 #[.val (.int i0), .val (.int i1), .val (.int i2), .val (.int i3), .val (.int i4), .val (.int (4 : Int32)), .val (.int a), .val (.int b), .val (.int c), .val (.int d), s10, .val (.ref r), .unset, .unset] [.int (Int32.ofNat (esc d).length), .int (Int32.ofNat (((esc a) ++ esc b) ++ esc c).length)]
  refine go_goto (q := 226) at_222 (by decide) (by decide) ?_
  refine go_iadd (r := (Int32.ofNat ((((esc a) ++ esc b) ++ esc c) ++ esc d).length)) (q := 227) at_226 (addL (((esc a) ++ esc b) ++ esc c) (esc d)) rfl ?_
  refine go_istore (L' := #[.val (.int i0), .val (.int i1), .val (.int i2), .val (.int i3), .val (.int i4), .val (.int (4 : Int32)), .val (.int a), .val (.int b), .val (.int c), .val (.int d), s10, .val (.ref r), .val (.int (Int32.ofNat ((((esc a) ++ esc b) ++ esc c) ++ esc d).length)), .unset]) (q := 229) at_227 rfl rfl ?_
  refine go_aload (v := .ref r) (q := 231) at_229 rfl rfl rfl ?_
  refine go_nullN (q := 234) at_231 rfl ?_
  refine go_aload (v := .ref r) (q := 236) at_234 rfl rfl rfl ?_
  refine go_virtual (c' := 10) (s' := 68) (q := 239) (S := []) (argsL := []) H (C := "java/lang/String") (w_107 H) (w_31 H) (nf_self (w_33 H)) (w_33 H) (w_32 H) (w_4 H) (w_34 H) (by decide) S.exa (rm_len H S) rfl rfl (lenOf pd_9 rfl) (fun _ q => nomatch q) rfl (by decide) (Nat.le_of_ble_eq_true rfl) rfl rfl (by decide) (by decide) at_236 rfl ?_
  rintro _ _ G - ⟨rfl, rfl⟩
  refine nx_ (v := none) ?_
  show Go _ _ _ _ _ _ _ _ _ _ _ _ _ _ 239 #[.val (.int i0), .val (.int i1), .val (.int i2), .val (.int i3), .val (.int i4), .val (.int (4 : Int32)), .val (.int a), .val (.int b), .val (.int c), .val (.int d), s10, .val (.ref r), .val (.int (Int32.ofNat ((((esc a) ++ esc b) ++ esc c) ++ esc d).length)), .unset] [.int (Int32.ofNat (esc a ++ (esc b ++ (esc c ++ (esc d ++ [])))).length)]
  refine go_iload (v := (Int32.ofNat ((((esc a) ++ esc b) ++ esc c) ++ esc d).length)) (q := 241) at_239 rfl rfl ?_
  refine go_icY (q := 246) at_241 (congrArg (fun (z : List Int32) => Int32.ofNat z.length) (show (esc a ++ (esc b ++ (esc c ++ (esc d ++ [])))) = ((((esc a) ++ esc b) ++ esc c) ++ esc d) by simp)) (by decide) (by decide) ?_
  exact j246_4 H pa pb pc pd S
set_option maxRecDepth 65536 in
set_option maxHeartbeats 8000000 in
theorem j41_4 {l : Launch} {Z : State} {a0 : Array Value} (H : Wd Z a0) {K : Cx} {h : Heap} {i0 i1 i2 i3 i4 a b c d : Int32} (HX : Hexs Z) (pa : ¬ a < 0 ∧ ¬ 255 < a) (pb : ¬ b < 0 ∧ ¬ 255 < b) (pc : ¬ c < 0 ∧ ¬ 255 < c) (pd : ¬ d < 0 ∧ ¬ 255 < d) (hFl : ∀ x ∈ ([] : List Addr), x < h.size) : GL l Z K h [] 0 0 41 #[.val (.int i0), .val (.int i1), .val (.int i2), .val (.int i3), .val (.int i4), .val (.int (4 : Int32)), .val (.int a), .val (.int b), .val (.int c), .val (.int d), .unset, .unset, .unset, .unset] [] := by
  refine go_iload (v := (4 : Int32)) (q := 43) at_41 rfl rfl ?_
  refine go_ifY (q := 54) at_43 (by decide) (by decide) (by decide) ?_
  refine go_iload (v := (4 : Int32)) (q := 56) at_54 rfl rfl ?_
  refine go_iconst (x := (1 : Int32)) (q := 57) at_56 rfl rfl ?_
  refine go_icY (q := 73) at_57 (by decide) (by decide) (by decide) ?_
  refine go_iload (v := (4 : Int32)) (q := 75) at_73 rfl rfl ?_
  refine go_iconst (x := (2 : Int32)) (q := 76) at_75 rfl rfl ?_
  refine go_icY (q := 97) at_76 (by decide) (by decide) (by decide) ?_
  refine go_iload (v := (4 : Int32)) (q := 99) at_97 rfl rfl ?_
  refine go_iconst (x := (3 : Int32)) (q := 100) at_99 rfl rfl ?_
  refine go_icY (q := 126) at_100 (by decide) (by decide) (by decide) ?_
  refine go_iconst (x := (4 : Int32)) (q := 127) at_126 rfl rfl ?_
  refine go_newarray (ty := .char) (dv := .int 0) (n := 4) (cap := 4) (ad := "[C") (c' := 1) (s' := 4) (q := 129) rfl rfl (by decide) (w_1 H) at_127 (by decide) (by decide) (by decide) rfl rfl rfl rfl (by decide) (by decide) ?_
  intro hq2 yq kq gq2 Eq2 Wq2 Xq2
  have Wq2 : Arv Z hq2 yq kq .char (4 : Int32) [.int 0, .int 0, .int 0, .int 0] (.int 0) := Wq2
  refine go_dup (q := 130) at_129 rfl rfl ?_
  refine go_iconst (x := (0 : Int32)) (q := 131) at_130 rfl rfl ?_
  refine go_iload (v := a) (q := 133) at_131 rfl rfl ?_
  refine go_castore (i := 0) (y := a) (q := 134) Wq2 (by decide) rfl (Nat.le_of_ble_eq_true rfl) (by simp) (nar_char (pa).1 (pa).2) at_133 rfl ?_
  intro hq3 Kq3 zq3 Wq3
  have Wq3 : Arv Z hq3 yq kq .char (4 : Int32) [.int a, .int 0, .int 0, .int 0] (.int 0) := Wq3
  refine go_dup (q := 135) at_134 rfl rfl ?_
  refine go_iconst (x := (1 : Int32)) (q := 136) at_135 rfl rfl ?_
  refine go_iload (v := b) (q := 138) at_136 rfl rfl ?_
  refine go_castore (i := 1) (y := b) (q := 139) Wq3 (by decide) rfl (Nat.le_of_ble_eq_true rfl) (by simp) (nar_char (pb).1 (pb).2) at_138 rfl ?_
  intro hq4 Kq4 zq4 Wq4
  have Wq4 : Arv Z hq4 yq kq .char (4 : Int32) [.int a, .int b, .int 0, .int 0] (.int 0) := Wq4
  refine go_dup (q := 140) at_139 rfl rfl ?_
  refine go_iconst (x := (2 : Int32)) (q := 141) at_140 rfl rfl ?_
  refine go_iload (v := c) (q := 143) at_141 rfl rfl ?_
  refine go_castore (i := 2) (y := c) (q := 144) Wq4 (by decide) rfl (Nat.le_of_ble_eq_true rfl) (by simp) (nar_char (pc).1 (pc).2) at_143 rfl ?_
  intro hq5 Kq5 zq5 Wq5
  have Wq5 : Arv Z hq5 yq kq .char (4 : Int32) [.int a, .int b, .int c, .int 0] (.int 0) := Wq5
  refine go_dup (q := 145) at_144 rfl rfl ?_
  refine go_iconst (x := (3 : Int32)) (q := 146) at_145 rfl rfl ?_
  refine go_iload (v := d) (q := 148) at_146 rfl rfl ?_
  refine go_castore (i := 3) (y := d) (q := 149) Wq5 (by decide) rfl (Nat.le_of_ble_eq_true rfl) (by simp) (nar_char (pd).1 (pd).2) at_148 rfl ?_
  intro hq6 Kq6 zq6 Wq6
  have Wq6 : Arv Z hq6 yq kq .char (4 : Int32) [.int a, .int b, .int c, .int d] (.int 0) := Wq6
  refine go_astore (L' := #[.val (.int i0), .val (.int i1), .val (.int i2), .val (.int i3), .val (.int i4), .val (.int (4 : Int32)), .val (.int a), .val (.int b), .val (.int c), .val (.int d), .val (.ref yq), .unset, .unset, .unset]) (q := 151) at_149 rfl rfl rfl ?_
  have W := Wq6
  have Ka : Keep hq6 hq6 [] := Keep.refl _ _
  have hFl : ∀ x ∈ ([] : List Addr), x < hq6.size := fun _ q => nomatch q
  refine go_new (c' := 2) (s' := 8) (q := 154) (w_2 H) (w_3 H) (w_4 H) at_151 rfl rfl rfl (by decide) (by decide) ?_
  intro hs1 xs gs1 Es1 As1 Ds1
  have f_Ka_xs : hq6.size ≤ xs := by rw [gs1]; exact Ka.1
  have Ka : Keep hq6 hs1 [] := Ka.ext Es1
  have W := W.ext Es1
  have Cs1 : Fld Z hs1 xs ST "coder" "B" (.int 0) := Ds1 (Or.inr (w_18 H)) (ty := .byte) (by decide)
  have Vs1 : Fld Z hs1 xs ST "value" "[B" .null := Ds1 (Or.inr (w_17 H)) (ty := .array .byte) (by decide)
  have Kbs : Keep hs1 hs1 [] := Keep.refl _ _
  refine go_dup (q := 155) at_154 rfl rfl ?_
  refine go_aload (v := .ref yq) (q := 157) at_155 rfl rfl rfl ?_
  have Lts : Lat [a, b, c, d] := ⟨Nat.le_of_ble_eq_true rfl, (by intro c hc; simp only [List.mem_cons, List.not_mem_nil, or_false] at hc; rcases hc with rfl | rfl | rfl | rfl <;> first | exact pa | exact pb | exact pc | exact pd)⟩
  refine go_mine fun hMs _ => ?_
  have nFs : xs ∉ [] := fun q => absurd (hFl xs q) (Nat.not_lt.mpr f_Ka_xs)
  refine go_special (c' := 6) (s' := 24) (q := 160) (S := [.ref xs]) (argsL := [.ref yq]) H rfl (w_5 H) (w_6 H) (w_4 H) (w_7 H) (by decide) (rm_new1 H (cs := [a, b, c, d]) (F := []) (As1.keep Kbs) (Cs1.keep Kbs nin0) (Vs1.keep Kbs nin0) W Lts (Nat.le_of_ble_eq_true rfl) nFs) rfl rfl (lenOf pd_22 rfl) (by intro z hz; simp only [List.mem_cons, List.not_mem_nil, or_false] at hz ⊢; first | exact hz | exact Or.inl hz | (rcases hz with hz | hz <;> simp [hz]; done) | (rcases hz with rfl | rfl <;> simp)) rfl (by decide) (Nat.le_of_ble_eq_true rfl) rfl rfl (by decide) (by decide) at_157 rfl ?_
  rintro _ hsz G - ⟨rfl, Kcs, Ss⟩
  refine nx_ (v := none) ?_
  have Ka : Keep hq6 hsz [] := kfresh Ka Kcs f_Ka_xs
  show Go _ _ _ _ _ _ _ _ _ _ _ _ _ _ 160 #[.val (.int i0), .val (.int i1), .val (.int i2), .val (.int i3), .val (.int i4), .val (.int (4 : Int32)), .val (.int a), .val (.int b), .val (.int c), .val (.int d), .val (.ref yq), .unset, .unset, .unset] [.ref xs]
  refine go_less (F' := []) (by intro y hy; simp [hy]) (Nat.le_refl _) (Nat.le_refl _) ?_
  refine go_static (c' := 10) (s' := 68) (q := 163) (S := []) (argsL := [.ref xs]) H (w_23 H) (w_24 H) (w_25 H) (w_26 H) (by decide) (rm_qf H HX Ss (Nat.le_of_ble_eq_true rfl)) rfl rfl (lenOf pd_23 rfl) (fun _ q => nomatch q) rfl (by decide) (Nat.le_of_ble_eq_true rfl) rfl rfl (by decide) (by decide) at_160 rfl ?_
  rintro _ hr G - ⟨r, rfl, Kr, S⟩
  refine nx_ (v := none) ?_
  show Go _ _ _ _ _ _ _ _ _ _ _ _ _ _ 163 #[.val (.int i0), .val (.int i1), .val (.int i2), .val (.int i3), .val (.int i4), .val (.int (4 : Int32)), .val (.int a), .val (.int b), .val (.int c), .val (.int d), .val (.ref yq), .unset, .unset, .unset] [.ref r]
  have S : Str Z hr [] r (esc a ++ (esc b ++ (esc c ++ (esc d ++ [])))) := S
  refine go_astore (L' := #[.val (.int i0), .val (.int i1), .val (.int i2), .val (.int i3), .val (.int i4), .val (.int (4 : Int32)), .val (.int a), .val (.int b), .val (.int c), .val (.int d), .val (.ref yq), .val (.ref r), .unset, .unset]) (q := 165) at_163 rfl rfl rfl ?_
  refine go_less (F' := []) (fun _ q => nomatch q) (Nat.le_refl _) (Nat.le_refl _) ?_
  exact j165_4 H pa pb pc pd S
set_option maxRecDepth 65536 in
set_option maxHeartbeats 8000000 in
theorem rm_law {l : Launch} {Z : State} {a0 : Array Value} (H : Wd Z a0) {i0 i1 i2 i3 i4 : Int32} (HX : Hexs Z) : MetL l Z x code maxLocals ret room_1 Z.heap [] #[.int i0, .int i1, .int i2, .int i3, .int i4] (fun v h' G => v = some (.int 1)) := by
  refine MetL.mk (L := #[.val (.int i0), .val (.int i1), .val (.int i2), .val (.int i3), .val (.int i4), .unset, .unset, .unset, .unset, .unset, .unset, .unset, .unset, .unset]) (plainFor_of_name (by first | (simp [plainName, overriddenIn, x]; done) | decide +kernel)) (fun m => by first | (simp [entryFrame, mkF, argsToLocals, Value.category, maxLocals]; done) | rfl) (fun K => ?_)
  show Go _ _ K "com/example/tabane/tabane/http/RequestHeadQueryFormPinLaw" "law" _ 14 _ ({ frames := 10, cells := 24, slots := 1216, locals := 224 } : Room) _ _ _ _ _ 0 _ _
  refine go_iloadN (v := i0) (q := 1) at_0 rfl rfl ?_
  refine go_ldcInt (v := (2147483647 : Int32)) (q := 3) (w_0 H) at_1 rfl ?_
  refine go_iand (r := i0 &&& (2147483647 : Int32)) (q := 4) at_3 rfl rfl ?_
  refine go_iconst (x := (5 : Int32)) (q := 5) at_4 rfl rfl ?_
  refine go_irem (r := (i0 &&& (2147483647 : Int32)) % (5 : Int32)) (q := 6) at_5 (by decide) rfl rfl ?_
  refine go_istore (L' := #[.val (.int i0), .val (.int i1), .val (.int i2), .val (.int i3), .val (.int i4), .val (.int ((i0 &&& (2147483647 : Int32)) % (5 : Int32))), .unset, .unset, .unset, .unset, .unset, .unset, .unset, .unset]) (q := 8) at_6 rfl rfl ?_
  refine go_iloadN (v := i1) (q := 9) at_8 rfl rfl ?_
  refine go_sipush (x := (255 : Int32)) (q := 12) at_9 rfl rfl ?_
  refine go_iand (r := i1 &&& (255 : Int32)) (q := 13) at_12 rfl rfl ?_
  refine go_i2c (r := (i1 &&& 255)) (q := 14) at_13 (i2c_msk i1) rfl ?_
  refine go_istore (L' := #[.val (.int i0), .val (.int i1), .val (.int i2), .val (.int i3), .val (.int i4), .val (.int ((i0 &&& (2147483647 : Int32)) % (5 : Int32))), .val (.int (i1 &&& 255)), .unset, .unset, .unset, .unset, .unset, .unset, .unset]) (q := 16) at_14 rfl rfl ?_
  refine go_iloadN (v := i2) (q := 17) at_16 rfl rfl ?_
  refine go_sipush (x := (255 : Int32)) (q := 20) at_17 rfl rfl ?_
  refine go_iand (r := i2 &&& (255 : Int32)) (q := 21) at_20 rfl rfl ?_
  refine go_i2c (r := (i2 &&& 255)) (q := 22) at_21 (i2c_msk i2) rfl ?_
  refine go_istore (L' := #[.val (.int i0), .val (.int i1), .val (.int i2), .val (.int i3), .val (.int i4), .val (.int ((i0 &&& (2147483647 : Int32)) % (5 : Int32))), .val (.int (i1 &&& 255)), .val (.int (i2 &&& 255)), .unset, .unset, .unset, .unset, .unset, .unset]) (q := 24) at_22 rfl rfl ?_
  refine go_iloadN (v := i3) (q := 25) at_24 rfl rfl ?_
  refine go_sipush (x := (255 : Int32)) (q := 28) at_25 rfl rfl ?_
  refine go_iand (r := i3 &&& (255 : Int32)) (q := 29) at_28 rfl rfl ?_
  refine go_i2c (r := (i3 &&& 255)) (q := 30) at_29 (i2c_msk i3) rfl ?_
  refine go_istore (L' := #[.val (.int i0), .val (.int i1), .val (.int i2), .val (.int i3), .val (.int i4), .val (.int ((i0 &&& (2147483647 : Int32)) % (5 : Int32))), .val (.int (i1 &&& 255)), .val (.int (i2 &&& 255)), .val (.int (i3 &&& 255)), .unset, .unset, .unset, .unset, .unset]) (q := 32) at_30 rfl rfl ?_
  refine go_iload (v := i4) (q := 34) at_32 rfl rfl ?_
  refine go_sipush (x := (255 : Int32)) (q := 37) at_34 rfl rfl ?_
  refine go_iand (r := i4 &&& (255 : Int32)) (q := 38) at_37 rfl rfl ?_
  refine go_i2c (r := (i4 &&& 255)) (q := 39) at_38 (i2c_msk i4) rfl ?_
  refine go_istore (L' := #[.val (.int i0), .val (.int i1), .val (.int i2), .val (.int i3), .val (.int i4), .val (.int ((i0 &&& (2147483647 : Int32)) % (5 : Int32))), .val (.int (i1 &&& 255)), .val (.int (i2 &&& 255)), .val (.int (i3 &&& 255)), .val (.int (i4 &&& 255)), .unset, .unset, .unset, .unset]) (q := 41) at_39 rfl rfl ?_
  have ht := rem5 i0
  have p1 := msk i1
  have p2 := msk i2
  have p3 := msk i3
  have p4 := msk i4
  obtain ⟨t, et⟩ : ∃ t, t = (i0 &&& 2147483647) % 5 := ⟨_, rfl⟩
  rw [← et] at ht
  rw [← et]
  show Go _ _ _ _ _ _ _ _ _ _ _ _ _ _ 41 #[.val (.int i0), .val (.int i1), .val (.int i2), .val (.int i3), .val (.int i4), .val (.int t), .val (.int (i1 &&& 255)), .val (.int (i2 &&& 255)), .val (.int (i3 &&& 255)), .val (.int (i4 &&& 255)), .unset, .unset, .unset, .unset] []
  clear et
  rcases ht with rfl | rfl | rfl | rfl | rfl
  · exact j41_0 H HX p1 p2 p3 p4 (fun _ q => nomatch q)
  · exact j41_1 H HX p1 p2 p3 p4 (fun _ q => nomatch q)
  · exact j41_2 H HX p1 p2 p3 p4 (fun _ q => nomatch q)
  · exact j41_3 H HX p1 p2 p3 p4 (fun _ q => nomatch q)
  · exact j41_4 H HX p1 p2 p3 p4 (fun _ q => nomatch q)
set_option maxRecDepth 65536 in
set_option maxHeartbeats 4000000 in
theorem comes_1 {Post : Tables → Env → Array Value → State → Outcome → State → Prop} (hpost : ∀ tb e args s v u, (limb_1_1.after args s (.returned v) u = true ∧ limb_1_2.after args s (.returned v) u = true ∧ True) → Jvm.D.FramedW s (.returned v) u (Jvm.fieldLocs frame_1_writes args s ++ Jvm.arrayLocs frame_1_arrays args s ++ Jvm.staticLocs frame_1_statics s) 24 1216 → Post tb e args s (.returned v) u) :
    Jvm.D.ArmFor flags0 classFile x code maxLocals ret World_1 tables_1 room_1 Calls_1 rest_1 Pre_1 Post := by
  intro l hfl _ _ p e ha hc hk s m args below hf hA hF happ hP
  obtain ⟨hcalls, hrest, hpre⟩ := hP
  obtain ⟨-, -, -, hnamed, -, -, -, hat⟩ := (Spec.applies_iff hf).mp happ
  obtain ⟨hg, hn⟩ := and_e (Cond.before_iff.mp (show (Jvm.Cond.and given_1 narrow_1).before args s = true from hpre))
  obtain ⟨g0, r0⟩ := and_e hg
  obtain ⟨g1, r1⟩ := and_e r0
  obtain ⟨g2, r2⟩ := and_e r1
  obtain ⟨g3, r3⟩ := and_e r2
  obtain ⟨g4, r4⟩ := and_e r3
  obtain ⟨w0, w1, w2, w3, w4, rfl⟩ : ∃ w0 w1 w2 w3 w4 : Value, args = #[w0, w1, w2, w3, w4] := by
    have hs : args.size = 5 := by simpa [Cond.value, given_1] using g0
    obtain ⟨L⟩ := args
    match L, hs with
    | [w0, w1, w2, w3, w4], _ => exact ⟨w0, w1, w2, w3, w4, rfl⟩
  have hw := fun d (hd : d ∈ tables_1) => atoms_spec (ws := Jvm.Cond.code x code maxLocals ret :: tables_1) hat d (List.mem_cons_of_mem _ hd)
  obtain ⟨hsets, hown0⟩ := atoms_of _ (rest_1_c_eq ▸ (show rest_1_c.before _ s = true from hrest))
  have hfit : Fit s := fun {y c} hc i hi => by
    obtain ⟨ha, rfl⟩ := Array.getElem?_eq_some_iff.mp hc
    have q := List.all_eq_true.mp ((Array.all_eq_true_iff_forall_mem.mp hF) _ (Array.getElem_mem ha)) i (List.mem_range.mpr hi)
    simpa [Array.getElem?_eq_getElem hi] using q
  obtain ⟨i0, e0⟩ := is_v g1
  obtain rfl : w0 = (.int i0) := Option.some.inj e0
  obtain ⟨i1, e1⟩ := is_v g2
  obtain rfl : w1 = (.int i1) := Option.some.inj e1
  obtain ⟨i2, e2⟩ := is_v g3
  obtain rfl : w2 = (.int i2) := Option.some.inj e2
  obtain ⟨i3, e3⟩ := is_v g4
  obtain rfl : w3 = (.int i3) := Option.some.inj e3
  obtain ⟨i4, e4⟩ := is_v r4
  obtain rfl : w4 = (.int i4) := Option.some.inj e4
  obtain ⟨cz, ecz⟩ := is_v (Cond.before_iff.mp (hsets _ (List.mem_of_getElem? (i := 1) rfl)))
  have Scz : Sta s s.heap "java/lang/String" "COMPACT_STRINGS" "Z" (.int cz) := Sta.start ecz (Or.inl (hsets _ (List.mem_of_getElem? (i := 0) rfl)))
  have ncz : ¬ cz = (0 : Int32) := gotF (Cond.eq_ints ecz (Term.int_eval (0))) (not_v (Cond.before_iff.mp (hsets _ (List.mem_of_getElem? (i := 2) rfl))))
  obtain ⟨fm, efm, rfm⟩ := isR_v (Cond.before_iff.mp (hsets _ (List.mem_of_getElem? (i := 8) rfl)))
  have Sfm : Sta s s.heap "jdk/internal/util/Preconditions" "SIOOBE_FORMATTER" "Ljava/util/function/BiFunction;" fm := Sta.start efm (Or.inl (hsets _ (List.mem_of_getElem? (i := 7) rfl)))
  have hS : ∀ d ∈ Bundle.stringAtoms, d.before #[.int i0, .int i1, .int i2, .int i3, .int i4] s = true := by
    intro d hd
    simp only [Bundle.stringAtoms, List.mem_cons, List.not_mem_nil, or_false] at hd
    rcases hd with rfl | rfl | rfl | rfl | rfl | rfl | rfl
    · exact hw _ (List.mem_of_getElem? (i := 4) rfl)
    · exact hw _ (List.mem_of_getElem? (i := 3) rfl)
    · exact hw _ (List.mem_of_getElem? (i := 16) rfl)
    · exact hw _ (List.mem_of_getElem? (i := 17) rfl)
    · exact hw _ (List.mem_of_getElem? (i := 18) rfl)
    · exact hw _ (List.mem_of_getElem? (i := 19) rfl)
    · exact hw _ (List.mem_of_getElem? (i := 20) rfl)
  have hE : EW s #[.int i0, .int i1, .int i2, .int i3, .int i4] consts_1 := (EW.cons (hw _ (List.mem_of_getElem? (i := 15) rfl)) (by decide) EW.nil)
  have H : Wd s #[.int i0, .int i1, .int i2, .int i3, .int i4] := ⟨hw, hE, hS, ⟨cz, Scz, ncz⟩, ⟨fm, Sfm, rfm⟩, hsets⟩
  have hC : CHv s consts_1 s.vm s.heap := CHv.start hE (fun q hq => hcalls.1 q hq) (Cond.before_iff.mpr (Cond.before_iff.mp (hsets _ (List.mem_of_getElem? (i := 2) rfl)))) (hw _ (List.mem_of_getElem? (i := 16) rfl)) (hw _ (List.mem_of_getElem? (i := 3) rfl))
  obtain ⟨n1, n5⟩ := and_e hn
  obtain ⟨n2, n6⟩ := and_e n5
  obtain ⟨n3, n4⟩ := and_e n6
  obtain ⟨hda, hdk, ehd, HA⟩ := hex_start (fun _ => by simp only [Term.eval]) hfit n1 n2 n3 n4
  have HX : Hexs s := ⟨hda, hdk, Sta.start ehd (Or.inr ⟨hw _ (List.mem_of_getElem? (i := 25) rfl), hw _ (List.mem_of_getElem? (i := 170) rfl)⟩), HA⟩
  obtain ⟨n, o, h1, h2, h3, v, L, G, rfl, hq, N, -, -, -, hE2⟩ := rm_law (l := l) H HX p e ha hc hk s m _ below hf ((Spec.applies_iff_loose hf).mp happ).1 ⟨rfl, State.Warmed39.refl s, rfl, hC, (fun _ q => nomatch q), Old.start s⟩ trivial
  subst hq
  refine ⟨n, _, h1, h2, h3, hpost _ _ _ _ _ _ ⟨Cond.after_iff.mpr rfl, Cond.after_iff.mpr (eq_i res_at (Term.int_eval (1)) rfl), trivial⟩ ⟨hE2.1, hE2.2.1, hE2.2.2.1, (hE2.2.2.2.sift fun y hy => Or.inr (N y hy)).mono (by decide) (by decide)⟩⟩
end Own
end Jvm.Pilot.@@N@@
namespace Jvm.Pilot.@@N@@
theorem main_1_1 : Claimed_1_1 := Own.comes_1 fun _ _ _ _ _ _ h hF => ⟨h.1, hF⟩
theorem main_1_2 : Claimed_1_2 := Own.comes_1 fun _ _ _ _ _ _ h hF => ⟨h.2.1, hF⟩
end Jvm.Pilot.@@N@@
namespace Jvm.Pilot.@@N@@
open Jvm Jvm.ClassFile Sem Op Lib Jvm.Free Jvm.Stand Jvm.Pilot.@@N@@.Jvm.D
/-! MADE BY PROGRAM (witnessworld.py) out of the Statement's table words and the real class files: 26 classes; the members and pool entries that the words name. The judged class is class 1, her method 1. -/
namespace start1
open Jvm.ClassFile
def u (s : String) : CpInfo := .utf8 (stringToUtf16 s)
/-- a pool by its gaps: so many unusable entries, then the entry; so many at the end -/
def gap : Nat → List CpInfo → List CpInfo
  | 0, r => r
  | n + 1, r => .unusable :: gap n r
def poolList (es : List (Nat × CpInfo)) (last : Nat) : List CpInfo := es.foldr (fun e r => gap e.1 (e.2 :: r)) (gap last [])
def pool (es : List (Nat × CpInfo)) (last : Nat) : Array CpInfo := ⟨poolList es last⟩
def fileOf (pool : Array CpInfo) (this : Nat) (attrs : Array Attribute := #[]) (ms : Array MethodInfo := #[]) (fl : Nat := 33) (sup : Nat := 0) (ifs : Array Nat := #[]) (fds : Array FieldInfo := #[]) : ClassFile where
  minorVersion := 0
  majorVersion := 65
  constantPool := pool
  accessFlags := fl
  thisClass := this
  superClass := sup
  interfaces := ifs
  fields := fds
  methods := ms
  attributes := attrs
def plain (name : String) (sup : Option ClassId) : Class where
  name := name
  kind := .ordinary
  loader := none
  accessFlags := 33
  super := sup
  interfaces := #[]
  cf := none
  fields := #[]
  methods := #[]
  instanceTypes := #[]
  staticTypes := #[]
  resolved := #[]
  callSites := []
  init := .initialized
  statics := none
  mirror := none

def pool0 : Array CpInfo := pool [(5, u "<init>"), (0, u "()V"), (1, .class_ 10), (1, u "java/lang/Object")] 113

def k0c0 : Code := { maxStack := 0, maxLocals := 1, code := object_method_1_code, exceptionTable := #[], attributes := #[] }
def k0m0 : Method := { name := "<init>", desc := "()V", sig := { parameters := [], returnType := none }, accessFlags := 1, code := some k0c0 }
/-- java/lang/Object -/
def k0 : Class := { plain "java/lang/Object" none with
  accessFlags := 33
  interfaces := #[]
  cf := some (fileOf pool0 8 #[] #[{ accessFlags := 1, nameIndex := 5, descriptorIndex := 6, attributes := #[] }] 33 0 #[] #[])
  fields := #[]
  methods := #[k0m0]
  instanceTypes := #[]
  staticTypes := #[]
  resolved := Array.replicate 124 none
  statics := none }

def pool1 : Array CpInfo := pool [(2, .class_ 4), (1, u "java/lang/Object"), (0, u "<init>"), (0, u "()V"), (0, .integer 2147483647), (0, .class_ 9), (0, u "java/lang/String"), (0, .methodref 8 11), (0, .nameAndType 5 12), (0, u "([C)V"), (0, .methodref 14 15), (0, .class_ 16), (0, .nameAndType 17 18), (0, u "com/example/tabane/tabane/http/RequestHead"), (0, u "queryForm"), (0, u "(Ljava/lang/String;)Ljava/lang/String;"), (0, .methodref 20 21), (0, .class_ 22), (0, .nameAndType 23 24), (0, u "com/example/tabane/tabane/http/RequestHeadQueryFormPinLaw"), (0, u "width"), (0, u "(C)I"), (0, .methodref 8 26), (0, .nameAndType 27 28), (0, u "length"), (0, u "()I"), (0, .methodref 20 30), (0, .nameAndType 31 32), (0, u "at"), (0, u "(Ljava/lang/String;IC)Z"), (0, .methodref 8 34), (0, .nameAndType 35 36), (0, u "charAt"), (0, u "(I)C"), (0, .methodref 20 38), (0, .nameAndType 39 36), (0, u "hex"), (2, u "law"), (0, u "(IIIII)Z")] 5

def k1m0 : Method := { name := "<init>", desc := "()V", sig := { parameters := [], returnType := none }, accessFlags := 1, code := none }
def k1c1 : Code := { maxStack := 4, maxLocals := 14, code := code, exceptionTable := #[], attributes := #[] }
def k1m1 : Method := { name := "law", desc := "(IIIII)Z", sig := { parameters := [.int, .int, .int, .int, .int], returnType := some .boolean }, accessFlags := 9, code := some k1c1 }
def k1c2 : Code := { maxStack := 2, maxLocals := 1, code := method_3_code, exceptionTable := #[], attributes := #[] }
def k1m2 : Method := { name := "width", desc := "(C)I", sig := { parameters := [.char], returnType := some .int }, accessFlags := 10, code := some k1c2 }
def k1c3 : Code := { maxStack := 3, maxLocals := 1, code := method_4_code, exceptionTable := #[], attributes := #[] }
def k1m3 : Method := { name := "hex", desc := "(I)C", sig := { parameters := [.int], returnType := some .char }, accessFlags := 10, code := some k1c3 }
def k1c4 : Code := { maxStack := 3, maxLocals := 3, code := method_5_code, exceptionTable := #[], attributes := #[] }
def k1m4 : Method := { name := "at", desc := "(Ljava/lang/String;IC)Z", sig := { parameters := [(.object "java/lang/String"), .int, .char], returnType := some .boolean }, accessFlags := 10, code := some k1c4 }
/-- com/example/tabane/tabane/http/RequestHeadQueryFormPinLaw -/
def k1 : Class := { plain "com/example/tabane/tabane/http/RequestHeadQueryFormPinLaw" (some 0) with
  accessFlags := 49
  interfaces := #[]
  cf := some (fileOf pool1 20 #[] #[{ accessFlags := 1, nameIndex := 5, descriptorIndex := 6, attributes := #[] }, { accessFlags := 9, nameIndex := 42, descriptorIndex := 43, attributes := #[] }, { accessFlags := 10, nameIndex := 23, descriptorIndex := 24, attributes := #[] }, { accessFlags := 10, nameIndex := 39, descriptorIndex := 36, attributes := #[] }, { accessFlags := 10, nameIndex := 31, descriptorIndex := 32, attributes := #[] }] 49 2 #[] #[])
  fields := #[]
  methods := #[k1m0, k1m1, k1m2, k1m3, k1m4]
  instanceTypes := #[]
  staticTypes := #[]
  resolved := Array.replicate 49 none
  statics := none }

def pool2 : Array CpInfo := pool [(1, .class_ 2), (0, u "java/io/Serializable"), (0, .class_ 4), (0, u "java/lang/Object")] 2

/-- java/io/Serializable -/
def k2 : Class := { plain "java/io/Serializable" (some 0) with
  accessFlags := 1537
  interfaces := #[]
  cf := some (fileOf pool2 1 #[] #[] 1537 3 #[] #[])
  fields := #[]
  methods := #[]
  instanceTypes := #[]
  staticTypes := #[]
  resolved := Array.replicate 7 none
  statics := none }

def pool3 : Array CpInfo := pool [(1, .class_ 2), (0, u "java/lang/Comparable"), (0, .class_ 4), (0, u "java/lang/Object")] 7

/-- java/lang/Comparable -/
def k3 : Class := { plain "java/lang/Comparable" (some 0) with
  accessFlags := 1537
  interfaces := #[]
  cf := some (fileOf pool3 1 #[] #[] 1537 3 #[] #[])
  fields := #[]
  methods := #[]
  instanceTypes := #[]
  staticTypes := #[]
  resolved := Array.replicate 12 none
  statics := none }

def pool4 : Array CpInfo := pool [(2, .class_ 4), (1, u "java/lang/CharSequence"), (42, .class_ 48), (0, u "java/lang/CharSequence$1CodePointIterator"), (10, .class_ 60), (0, u "java/lang/CharSequence$1CharIterator"), (5, .class_ 67), (0, u "java/lang/Object")] 63

/-- java/lang/CharSequence -/
def k4 : Class := { plain "java/lang/CharSequence" (some 0) with
  accessFlags := 1537
  interfaces := #[]
  cf := some (fileOf pool4 2 #[.nestMembers #[47, 59]] #[] 1537 66 #[] #[])
  fields := #[]
  methods := #[]
  instanceTypes := #[]
  staticTypes := #[]
  resolved := Array.replicate 131 none
  statics := none }

def pool5 : Array CpInfo := pool [(1, .class_ 2), (0, u "java/lang/constant/Constable"), (0, .class_ 4), (0, u "java/lang/Object")] 6

/-- java/lang/constant/Constable -/
def k5 : Class := { plain "java/lang/constant/Constable" (some 0) with
  accessFlags := 1537
  interfaces := #[]
  cf := some (fileOf pool5 1 #[] #[] 1537 3 #[] #[])
  fields := #[]
  methods := #[]
  instanceTypes := #[]
  staticTypes := #[]
  resolved := Array.replicate 11 none
  statics := none }

def pool6 : Array CpInfo := pool [(1, .class_ 2), (0, u "java/lang/constant/ConstantDesc"), (0, .class_ 4), (0, u "java/lang/Object")] 32

/-- java/lang/constant/ConstantDesc -/
def k6 : Class := { plain "java/lang/constant/ConstantDesc" (some 0) with
  accessFlags := 1537
  interfaces := #[]
  cf := some (fileOf pool6 1 #[] #[] 1537 3 #[] #[])
  fields := #[]
  methods := #[]
  instanceTypes := #[]
  staticTypes := #[]
  resolved := Array.replicate 37 none
  statics := none }

def pool7 : Array CpInfo := pool [(1, .methodref 2 3), (0, .class_ 4), (0, .nameAndType 5 6), (0, u "java/lang/Object"), (0, u "<init>"), (0, u "()V"), (0, .string 8), (0, u ""), (0, .fieldref 10 11), (0, .class_ 12), (0, .nameAndType 13 14), (0, u "java/lang/String"), (0, u "value"), (0, u "[B"), (0, .fieldref 10 16), (0, .nameAndType 17 18), (0, u "coder"), (0, u "B"), (2, u "hash"), (0, u "I"), (2, u "hashIsZero"), (0, u "Z"), (0, .methodref 10 28), (0, .nameAndType 5 29), (0, u "([CIILjava/lang/Void;)V"), (8, .fieldref 10 39), (0, .nameAndType 40 26), (0, u "COMPACT_STRINGS"), (1, .class_ 44), (1, u "java/lang/StringUTF16"), (0, u "compress"), (1, .methodref 42 48), (0, .nameAndType 49 50), (0, u "coderFromArrayLen"), (0, u "([BI)B"), (3, .methodref 55 56), (0, .class_ 57), (0, .nameAndType 58 59), (0, u "java/util/Arrays"), (0, u "copyOfRange"), (0, u "([BII)[B"), (47, .class_ 109), (1, u "java/lang/StringLatin1"), (32, u "()Z"), (34, .methodref 42 178), (0, .nameAndType 45 179), (0, u "([CII)[B"), (154, u "()I"), (0, .methodref 10 336), (0, .nameAndType 17 337), (0, u "()B"), (2, u "()[B"), (22, u "([BI)C"), (27, u "(II)V"), (35, u "(I)C"), (61, .methodref 10 490), (0, .nameAndType 5 491), (0, u "(Ljava/lang/AbstractStringBuilder;Ljava/lang/Void;)V"), (0, .methodref 10 493), (0, .nameAndType 494 142), (0, u "isLatin1"), (0, .methodref 107 496), (0, .nameAndType 497 363), (0, u "charAt"), (3, u "checkIndex"), (4, .nameAndType 507 334), (0, u "length"), (41, .methodref 550 506), (0, .class_ 551), (0, u "java/lang/AbstractStringBuilder"), (0, .methodref 550 553), (0, .nameAndType 554 340), (0, u "getValue"), (20, .class_ 576), (0, u "java/lang/CharSequence"), (22, u "CASE_INSENSITIVE_ORDER"), (0, u "Ljava/util/Comparator;"), (409, u "([C)V"), (36, .methodref 550 493), (5, .fieldref 1054 1055), (0, .class_ 1056), (0, .nameAndType 1057 1058), (0, u "jdk/internal/util/Preconditions"), (0, u "SIOOBE_FORMATTER"), (0, u "Ljava/util/function/BiFunction;"), (0, .methodref 1054 1060), (0, .nameAndType 501 1061), (0, u "(IILjava/util/function/BiFunction;)I"), (39, u "serialPersistentFields"), (0, u "[Ljava/io/ObjectStreamField;"), (0, .class_ 1104), (0, u "java/lang/String$CaseInsensitiveComparator"), (1, .class_ 1107), (0, u "java/io/Serializable"), (0, .class_ 1109), (0, u "java/lang/Comparable"), (0, .class_ 1111), (0, u "java/lang/constant/Constable"), (0, .class_ 1113), (0, u "java/lang/constant/ConstantDesc"), (2, u "serialVersionUID"), (0, u "J"), (3, u "REPL"), (0, u "C"), (2, u "LATIN1"), (1, u "UTF16"), (105, u "(Ljava/lang/StringBuilder;)V")] 217

def k7m0 : Method := { name := "<init>", desc := "()V", sig := { parameters := [], returnType := none }, accessFlags := 1, code := none }
def k7c1 : Code := { maxStack := 5, maxLocals := 2, code := jdk_42_method_3_code, exceptionTable := #[], attributes := #[] }
def k7m1 : Method := { name := "<init>", desc := "([C)V", sig := { parameters := [(.array .char)], returnType := none }, accessFlags := 1, code := some k7c1 }
def k7c2 : Code := { maxStack := 3, maxLocals := 2, code := jdk_42_method_53_code, exceptionTable := #[], attributes := #[] }
def k7m2 : Method := { name := "<init>", desc := "(Ljava/lang/StringBuilder;)V", sig := { parameters := [(.object "java/lang/StringBuilder")], returnType := none }, accessFlags := 1, code := some k7c2 }
def k7c3 : Code := { maxStack := 2, maxLocals := 1, code := jdk_42_method_54_code, exceptionTable := #[], attributes := #[] }
def k7m3 : Method := { name := "length", desc := "()I", sig := { parameters := [], returnType := some .int }, accessFlags := 1, code := some k7c3 }
def k7c4 : Code := { maxStack := 2, maxLocals := 2, code := jdk_42_method_56_code, exceptionTable := #[], attributes := #[] }
def k7m4 : Method := { name := "charAt", desc := "(I)C", sig := { parameters := [.int], returnType := some .char }, accessFlags := 1, code := some k7c4 }
def k7c5 : Code := { maxStack := 4, maxLocals := 6, code := jdk_42_method_149_code, exceptionTable := #[], attributes := #[] }
def k7m5 : Method := { name := "<init>", desc := "([CIILjava/lang/Void;)V", sig := { parameters := [(.array .char), .int, .int, (.object "java/lang/Void")], returnType := none }, accessFlags := 2, code := some k7c5 }
def k7c6 : Code := { maxStack := 5, maxLocals := 5, code := jdk_42_method_150_code, exceptionTable := #[], attributes := #[] }
def k7m6 : Method := { name := "<init>", desc := "(Ljava/lang/AbstractStringBuilder;Ljava/lang/Void;)V", sig := { parameters := [(.object "java/lang/AbstractStringBuilder"), (.object "java/lang/Void")], returnType := none }, accessFlags := 0, code := some k7c6 }
def k7c7 : Code := { maxStack := 1, maxLocals := 1, code := jdk_42_method_152_code, exceptionTable := #[], attributes := #[] }
def k7m7 : Method := { name := "coder", desc := "()B", sig := { parameters := [], returnType := some .byte }, accessFlags := 0, code := some k7c7 }
def k7c8 : Code := { maxStack := 1, maxLocals := 1, code := jdk_42_method_154_code, exceptionTable := #[], attributes := #[] }
def k7m8 : Method := { name := "isLatin1", desc := "()Z", sig := { parameters := [], returnType := some .boolean }, accessFlags := 0, code := some k7c8 }
def k7c9 : Code := { maxStack := 3, maxLocals := 2, code := jdk_42_method_155_code, exceptionTable := #[], attributes := #[] }
def k7m9 : Method := { name := "checkIndex", desc := "(II)V", sig := { parameters := [.int, .int], returnType := none }, accessFlags := 8, code := some k7c9 }
/-- java/lang/String -/
def k7 : Class := { plain "java/lang/String" (some 0) with
  accessFlags := 49
  interfaces := #[2, 3, 4, 5, 6]
  cf := some (fileOf pool7 10 #[.nestMembers #[1103]] #[{ accessFlags := 1, nameIndex := 5, descriptorIndex := 6, attributes := #[] }, { accessFlags := 1, nameIndex := 5, descriptorIndex := 1010, attributes := #[] }, { accessFlags := 1, nameIndex := 5, descriptorIndex := 1233, attributes := #[] }, { accessFlags := 1, nameIndex := 507, descriptorIndex := 334, attributes := #[] }, { accessFlags := 1, nameIndex := 497, descriptorIndex := 427, attributes := #[] }, { accessFlags := 2, nameIndex := 5, descriptorIndex := 29, attributes := #[] }, { accessFlags := 0, nameIndex := 5, descriptorIndex := 491, attributes := #[] }, { accessFlags := 0, nameIndex := 17, descriptorIndex := 337, attributes := #[] }, { accessFlags := 0, nameIndex := 494, descriptorIndex := 142, attributes := #[] }, { accessFlags := 8, nameIndex := 501, descriptorIndex := 391, attributes := #[] }] 49 2 #[1106, 1108, 575, 1110, 1112] #[{ accessFlags := 18, nameIndex := 13, descriptorIndex := 14, attributes := #[] }, { accessFlags := 18, nameIndex := 17, descriptorIndex := 18, attributes := #[] }, { accessFlags := 2, nameIndex := 21, descriptorIndex := 22, attributes := #[] }, { accessFlags := 2, nameIndex := 25, descriptorIndex := 26, attributes := #[] }, { accessFlags := 26, nameIndex := 1116, descriptorIndex := 1117, attributes := #[] }, { accessFlags := 24, nameIndex := 40, descriptorIndex := 26, attributes := #[] }, { accessFlags := 26, nameIndex := 1101, descriptorIndex := 1102, attributes := #[] }, { accessFlags := 26, nameIndex := 1121, descriptorIndex := 1122, attributes := #[] }, { accessFlags := 25, nameIndex := 599, descriptorIndex := 600, attributes := #[] }, { accessFlags := 24, nameIndex := 1125, descriptorIndex := 18, attributes := #[] }, { accessFlags := 24, nameIndex := 1127, descriptorIndex := 18, attributes := #[] }])
  fields := #[{ name := "value", type := (.array .byte), accessFlags := 18, slot := 0, constantValue := 0 }, { name := "coder", type := .byte, accessFlags := 18, slot := 1, constantValue := 0 }, { name := "hash", type := .int, accessFlags := 2, slot := 2, constantValue := 0 }, { name := "hashIsZero", type := .boolean, accessFlags := 2, slot := 3, constantValue := 0 }, { name := "serialVersionUID", type := .long, accessFlags := 26, slot := 0, constantValue := 0 }, { name := "COMPACT_STRINGS", type := .boolean, accessFlags := 24, slot := 1, constantValue := 0 }, { name := "serialPersistentFields", type := (.array (.object "java/io/ObjectStreamField")), accessFlags := 26, slot := 2, constantValue := 0 }, { name := "REPL", type := .char, accessFlags := 26, slot := 3, constantValue := 0 }, { name := "CASE_INSENSITIVE_ORDER", type := (.object "java/util/Comparator"), accessFlags := 25, slot := 4, constantValue := 0 }, { name := "LATIN1", type := .byte, accessFlags := 24, slot := 5, constantValue := 0 }, { name := "UTF16", type := .byte, accessFlags := 24, slot := 6, constantValue := 0 }]
  methods := #[k7m0, k7m1, k7m2, k7m3, k7m4, k7m5, k7m6, k7m7, k7m8, k7m9]
  instanceTypes := #[(.array .byte), .byte, .int, .boolean]
  staticTypes := #[.long, .boolean, (.array (.object "java/io/ObjectStreamField")), .char, (.object "java/util/Comparator"), .byte, .byte]
  resolved := Array.replicate 1451 none
  statics := some 0 }

def pool8 : Array CpInfo := pool [(2, .class_ 4), (1, u "java/lang/Object"), (0, u "<init>"), (2, .class_ 10), (1, u "com/example/tabane/tabane/http/RequestHead"), (0, u "method"), (0, u "Ljava/lang/String;"), (2, u "target"), (2, u "http11"), (0, u "Z"), (2, u "headers"), (0, u "Ljava/util/Map;"), (2, u "bodyLength"), (0, u "J"), (7, .class_ 37), (1, u "com/example/tabane/tabane/http/RequestHead$Arrived"), (3, .nameAndType 42 43), (0, u "length"), (0, u "()I"), (66, .class_ 112), (1, u "java/lang/String"), (15, u "(Ljava/lang/String;)Ljava/lang/String;"), (17, u "HTTP_VERSION"), (0, u "Ljava/util/regex/Pattern;"), (36, u "()Ljava/lang/String;"), (123, .methodref 110 41), (21, u "SCHEME_AND_AUTHORITY"), (13, .class_ 345), (0, u "java/lang/StringBuilder"), (0, .methodref 344 347), (0, .nameAndType 5 348), (0, u "(I)V"), (0, .methodref 110 350), (0, .nameAndType 351 352), (0, u "charAt"), (0, u "(I)C"), (7, u "append"), (19, .methodref 344 381), (0, .nameAndType 360 382), (0, u "(C)Ljava/lang/StringBuilder;"), (0, .methodref 8 384), (0, .nameAndType 385 386), (0, u "appendEscape"), (0, u "(Ljava/lang/StringBuilder;C)V"), (0, .methodref 344 388), (0, .nameAndType 389 184), (0, u "toString"), (0, .fieldref 8 391), (0, .nameAndType 392 393), (0, u "HEX_DIGITS"), (0, u "[C"), (48, u "MAX_BYTES"), (0, u "I"), (1, u "MAX_FIELDS"), (1, u "FIRST_BYTES"), (1, u "TARGET_CHARACTERS"), (0, u "TOKEN_CHARACTERS"), (17, u "queryForm")] 82

def k8c0 : Code := { maxStack := 4, maxLocals := 4, code := prog_24_method_10_code, exceptionTable := #[], attributes := #[] }
def k8m0 : Method := { name := "queryForm", desc := "(Ljava/lang/String;)Ljava/lang/String;", sig := { parameters := [(.object "java/lang/String")], returnType := some (.object "java/lang/String") }, accessFlags := 8, code := some k8c0 }
def k8c1 : Code := { maxStack := 4, maxLocals := 2, code := prog_24_method_11_code, exceptionTable := #[], attributes := #[] }
def k8m1 : Method := { name := "appendEscape", desc := "(Ljava/lang/StringBuilder;C)V", sig := { parameters := [(.object "java/lang/StringBuilder"), .char], returnType := none }, accessFlags := 10, code := some k8c1 }
/-- com/example/tabane/tabane/http/RequestHead -/
def k8 : Class := { plain "com/example/tabane/tabane/http/RequestHead" (some 0) with
  accessFlags := 48
  interfaces := #[]
  cf := some (fileOf pool8 8 #[.nestMembers #[35]] #[{ accessFlags := 8, nameIndex := 468, descriptorIndex := 128, attributes := #[] }, { accessFlags := 10, nameIndex := 385, descriptorIndex := 386, attributes := #[] }] 48 2 #[] #[{ accessFlags := 24, nameIndex := 442, descriptorIndex := 443, attributes := #[] }, { accessFlags := 24, nameIndex := 445, descriptorIndex := 443, attributes := #[] }, { accessFlags := 26, nameIndex := 447, descriptorIndex := 443, attributes := #[] }, { accessFlags := 26, nameIndex := 330, descriptorIndex := 147, attributes := #[] }, { accessFlags := 26, nameIndex := 146, descriptorIndex := 147, attributes := #[] }, { accessFlags := 26, nameIndex := 449, descriptorIndex := 12, attributes := #[] }, { accessFlags := 26, nameIndex := 450, descriptorIndex := 12, attributes := #[] }, { accessFlags := 26, nameIndex := 392, descriptorIndex := 393, attributes := #[] }, { accessFlags := 18, nameIndex := 11, descriptorIndex := 12, attributes := #[] }, { accessFlags := 18, nameIndex := 15, descriptorIndex := 12, attributes := #[] }, { accessFlags := 18, nameIndex := 18, descriptorIndex := 19, attributes := #[] }, { accessFlags := 18, nameIndex := 22, descriptorIndex := 23, attributes := #[] }, { accessFlags := 18, nameIndex := 26, descriptorIndex := 27, attributes := #[] }])
  fields := #[{ name := "MAX_BYTES", type := .int, accessFlags := 24, slot := 0, constantValue := 0 }, { name := "MAX_FIELDS", type := .int, accessFlags := 24, slot := 1, constantValue := 0 }, { name := "FIRST_BYTES", type := .int, accessFlags := 26, slot := 2, constantValue := 0 }, { name := "SCHEME_AND_AUTHORITY", type := (.object "java/util/regex/Pattern"), accessFlags := 26, slot := 3, constantValue := 0 }, { name := "HTTP_VERSION", type := (.object "java/util/regex/Pattern"), accessFlags := 26, slot := 4, constantValue := 0 }, { name := "TARGET_CHARACTERS", type := (.object "java/lang/String"), accessFlags := 26, slot := 5, constantValue := 0 }, { name := "TOKEN_CHARACTERS", type := (.object "java/lang/String"), accessFlags := 26, slot := 6, constantValue := 0 }, { name := "HEX_DIGITS", type := (.array .char), accessFlags := 26, slot := 7, constantValue := 0 }, { name := "method", type := (.object "java/lang/String"), accessFlags := 18, slot := 0, constantValue := 0 }, { name := "target", type := (.object "java/lang/String"), accessFlags := 18, slot := 1, constantValue := 0 }, { name := "http11", type := .boolean, accessFlags := 18, slot := 2, constantValue := 0 }, { name := "headers", type := (.object "java/util/Map"), accessFlags := 18, slot := 3, constantValue := 0 }, { name := "bodyLength", type := .long, accessFlags := 18, slot := 4, constantValue := 0 }]
  methods := #[k8m0, k8m1]
  instanceTypes := #[(.object "java/lang/String"), (.object "java/lang/String"), .boolean, (.object "java/util/Map"), .long]
  staticTypes := #[.int, .int, .int, (.object "java/util/regex/Pattern"), (.object "java/util/regex/Pattern"), (.object "java/lang/String"), (.object "java/lang/String"), (.array .char)]
  resolved := Array.replicate 551 none
  statics := some 1 }

def pool9 : Array CpInfo := pool [(1, .class_ 2), (0, u "java/lang/Appendable"), (0, .class_ 4), (0, u "java/lang/Object")] 9

/-- java/lang/Appendable -/
def k9 : Class := { plain "java/lang/Appendable" (some 0) with
  accessFlags := 1537
  interfaces := #[]
  cf := some (fileOf pool9 1 #[] #[] 1537 3 #[] #[])
  fields := #[]
  methods := #[]
  instanceTypes := #[]
  staticTypes := #[]
  resolved := Array.replicate 14 none
  statics := none }

def pool10 : Array CpInfo := pool [(1, .class_ 2), (0, u "java/lang/String"), (0, .methodref 4 5), (0, .class_ 6), (0, .nameAndType 7 8), (0, u "java/lang/Object"), (0, u "<init>"), (0, u "()V"), (1, .class_ 12), (1, u "java/lang/AbstractStringBuilder"), (0, u "EMPTYVALUE"), (0, u "[B"), (0, .fieldref 10 16), (0, .nameAndType 17 14), (0, u "value"), (0, .fieldref 1 19), (0, .nameAndType 20 21), (0, u "COMPACT_STRINGS"), (0, u "Z"), (0, .fieldref 10 23), (0, .nameAndType 24 25), (0, u "coder"), (0, u "B"), (8, u "length"), (0, u "()I"), (9, u "append"), (2, .class_ 49), (0, u "java/lang/CharSequence"), (25, u "maybeLatin1"), (3, .fieldref 10 80), (0, .nameAndType 81 82), (0, u "count"), (0, u "I"), (0, .methodref 10 84), (0, .nameAndType 85 86), (0, u "isLatin1"), (0, u "()Z"), (1, .class_ 90), (1, u "java/lang/StringLatin1"), (9, .methodref 10 101), (0, .nameAndType 102 103), (0, u "ensureCapacityInternal"), (0, u "(I)V"), (87, .methodref 88 192), (0, .nameAndType 193 194), (0, u "canEncode"), (0, u "(C)Z"), (97, u "(C)Ljava/lang/AbstractStringBuilder;"), (110, u "()[B"), (40, .class_ 445), (0, u "java/lang/Appendable"), (106, u "getValue")] 56

def k10m0 : Method := { name := "<init>", desc := "()V", sig := { parameters := [], returnType := none }, accessFlags := 0, code := none }
def k10c1 : Code := { maxStack := 2, maxLocals := 2, code := jdk_68_method_2_code, exceptionTable := #[], attributes := #[] }
def k10m1 : Method := { name := "<init>", desc := "(I)V", sig := { parameters := [.int], returnType := none }, accessFlags := 0, code := some k10c1 }
def k10c2 : Code := { maxStack := 1, maxLocals := 1, code := jdk_68_method_6_code, exceptionTable := #[], attributes := #[] }
def k10m2 : Method := { name := "length", desc := "()I", sig := { parameters := [], returnType := some .int }, accessFlags := 1, code := some k10c2 }
def k10c3 : Code := { maxStack := 4, maxLocals := 3, code := jdk_68_method_9_code, exceptionTable := #[], attributes := #[] }
def k10m3 : Method := { name := "ensureCapacityInternal", desc := "(I)V", sig := { parameters := [.int], returnType := none }, accessFlags := 2, code := some k10c3 }
def k10c4 : Code := { maxStack := 5, maxLocals := 2, code := jdk_68_method_31_code, exceptionTable := #[], attributes := #[] }
def k10m4 : Method := { name := "append", desc := "(C)Ljava/lang/AbstractStringBuilder;", sig := { parameters := [.char], returnType := some (.object "java/lang/AbstractStringBuilder") }, accessFlags := 1, code := some k10c4 }
def k10c5 : Code := { maxStack := 1, maxLocals := 1, code := jdk_68_method_64_code, exceptionTable := #[], attributes := #[] }
def k10m5 : Method := { name := "getValue", desc := "()[B", sig := { parameters := [], returnType := some (.array .byte) }, accessFlags := 16, code := some k10c5 }
def k10c6 : Code := { maxStack := 1, maxLocals := 1, code := jdk_68_method_68_code, exceptionTable := #[], attributes := #[] }
def k10m6 : Method := { name := "isLatin1", desc := "()Z", sig := { parameters := [], returnType := some .boolean }, accessFlags := 16, code := some k10c6 }
/-- java/lang/AbstractStringBuilder -/
def k10 : Class := { plain "java/lang/AbstractStringBuilder" (some 0) with
  accessFlags := 1056
  interfaces := #[9, 4]
  cf := some (fileOf pool10 10 #[] #[{ accessFlags := 0, nameIndex := 7, descriptorIndex := 8, attributes := #[] }, { accessFlags := 0, nameIndex := 7, descriptorIndex := 103, attributes := #[] }, { accessFlags := 1, nameIndex := 34, descriptorIndex := 35, attributes := #[] }, { accessFlags := 2, nameIndex := 102, descriptorIndex := 103, attributes := #[] }, { accessFlags := 1, nameIndex := 45, descriptorIndex := 292, attributes := #[] }, { accessFlags := 16, nameIndex := 552, descriptorIndex := 403, attributes := #[] }, { accessFlags := 16, nameIndex := 85, descriptorIndex := 86, attributes := #[] }] 1056 4 #[444, 48] #[{ accessFlags := 0, nameIndex := 17, descriptorIndex := 14, attributes := #[] }, { accessFlags := 0, nameIndex := 24, descriptorIndex := 25, attributes := #[] }, { accessFlags := 0, nameIndex := 75, descriptorIndex := 21, attributes := #[] }, { accessFlags := 0, nameIndex := 81, descriptorIndex := 82, attributes := #[] }, { accessFlags := 26, nameIndex := 13, descriptorIndex := 14, attributes := #[] }])
  fields := #[{ name := "value", type := (.array .byte), accessFlags := 0, slot := 0, constantValue := 0 }, { name := "coder", type := .byte, accessFlags := 0, slot := 1, constantValue := 0 }, { name := "maybeLatin1", type := .boolean, accessFlags := 0, slot := 2, constantValue := 0 }, { name := "count", type := .int, accessFlags := 0, slot := 3, constantValue := 0 }, { name := "EMPTYVALUE", type := (.array .byte), accessFlags := 26, slot := 0, constantValue := 0 }]
  methods := #[k10m0, k10m1, k10m2, k10m3, k10m4, k10m5, k10m6]
  instanceTypes := #[(.array .byte), .byte, .boolean, .int]
  staticTypes := #[(.array .byte)]
  resolved := Array.replicate 609 none
  statics := none }

def pool11 : Array CpInfo := pool [(1, .methodref 2 3), (0, .class_ 4), (0, .nameAndType 5 6), (0, u "java/lang/AbstractStringBuilder"), (0, u "<init>"), (0, u "(I)V"), (11, .class_ 20), (1, u "java/lang/String"), (3, .class_ 26), (1, u "java/lang/StringBuilder"), (0, u "append"), (22, .methodref 2 51), (0, .nameAndType 27 52), (0, u "(C)Ljava/lang/AbstractStringBuilder;"), (84, .methodref 18 138), (0, .nameAndType 5 139), (0, u "(Ljava/lang/StringBuilder;)V"), (5, u "()V"), (10, u "()I"), (129, u "(C)Ljava/lang/StringBuilder;"), (56, .methodref 2 344), (0, .nameAndType 345 156), (0, u "length"), (3, .class_ 350), (0, u "java/lang/Appendable"), (0, .class_ 352), (0, u "java/io/Serializable"), (0, .class_ 354), (0, u "java/lang/Comparable"), (0, .class_ 356), (0, u "java/lang/CharSequence"), (0, u "serialVersionUID"), (0, u "J"), (40, u "toString"), (0, u "()Ljava/lang/String;")] 21

def k11m0 : Method := { name := "<init>", desc := "()V", sig := { parameters := [], returnType := none }, accessFlags := 1, code := none }
def k11c1 : Code := { maxStack := 2, maxLocals := 2, code := jdk_67_method_2_code, exceptionTable := #[], attributes := #[] }
def k11m1 : Method := { name := "<init>", desc := "(I)V", sig := { parameters := [.int], returnType := none }, accessFlags := 1, code := some k11c1 }
def k11c2 : Code := { maxStack := 2, maxLocals := 2, code := jdk_67_method_14_code, exceptionTable := #[], attributes := #[] }
def k11m2 : Method := { name := "append", desc := "(C)Ljava/lang/StringBuilder;", sig := { parameters := [.char], returnType := some (.object "java/lang/StringBuilder") }, accessFlags := 1, code := some k11c2 }
def k11c3 : Code := { maxStack := 3, maxLocals := 1, code := jdk_67_method_42_code, exceptionTable := #[], attributes := #[] }
def k11m3 : Method := { name := "toString", desc := "()Ljava/lang/String;", sig := { parameters := [], returnType := some (.object "java/lang/String") }, accessFlags := 1, code := some k11c3 }
def k11c4 : Code := { maxStack := 1, maxLocals := 1, code := jdk_67_method_93_code, exceptionTable := #[], attributes := #[] }
def k11m4 : Method := { name := "length", desc := "()I", sig := { parameters := [], returnType := some .int }, accessFlags := 4161, code := some k11c4 }
/-- java/lang/StringBuilder -/
def k11 : Class := { plain "java/lang/StringBuilder" (some 10) with
  accessFlags := 49
  interfaces := #[9, 2, 3, 4]
  cf := some (fileOf pool11 24 #[] #[{ accessFlags := 1, nameIndex := 5, descriptorIndex := 145, attributes := #[] }, { accessFlags := 1, nameIndex := 5, descriptorIndex := 6, attributes := #[] }, { accessFlags := 1, nameIndex := 27, descriptorIndex := 286, attributes := #[] }, { accessFlags := 1, nameIndex := 399, descriptorIndex := 400, attributes := #[] }, { accessFlags := 4161, nameIndex := 345, descriptorIndex := 156, attributes := #[] }] 49 2 #[349, 351, 353, 355] #[{ accessFlags := 24, nameIndex := 357, descriptorIndex := 358, attributes := #[] }])
  fields := #[{ name := "serialVersionUID", type := .long, accessFlags := 24, slot := 0, constantValue := 0 }]
  methods := #[k11m0, k11m1, k11m2, k11m3, k11m4]
  instanceTypes := #[(.array .byte), .byte, .boolean, .int]
  staticTypes := #[.long]
  resolved := Array.replicate 422 none
  statics := none }

def pool12 : Array CpInfo := pool [(2, .class_ 4), (1, u "java/lang/Object"), (0, u "<init>"), (0, u "()V"), (7, .class_ 16), (1, u "java/util/Arrays"), (57, .class_ 76), (1, u "java/util/Arrays$NaturalOrder"), (36, .class_ 115), (1, u "java/util/Arrays$LegacyMergeSort"), (1, u "Z"), (21, u "copyOfRange"), (10, .methodref 151 152), (0, .class_ 153), (0, .nameAndType 154 155), (0, u "java/lang/System"), (0, u "arraycopy"), (0, u "(Ljava/lang/Object;ILjava/lang/Object;II)V"), (148, .methodref 305 306), (0, .class_ 307), (0, .nameAndType 308 309), (0, u "java/lang/Math"), (0, u "min"), (0, u "(II)I"), (29, .methodref 14 340), (0, .nameAndType 341 342), (0, u "copyOfRangeByte"), (0, u "([BII)[B"), (0, .methodref 14 344), (0, .nameAndType 345 346), (0, u "checkLength"), (0, u "(II)V"), (28, .class_ 376), (0, u "java/util/Arrays$ArrayList"), (68, u "$assertionsDisabled"), (269, u "MIN_ARRAY_SORT_GRAN"), (0, u "I"), (2, u "INSERTIONSORT_THRESHOLD"), (255, .class_ 976), (0, u "java/util/Arrays$ArrayItr")] 52

def k12m0 : Method := { name := "<init>", desc := "()V", sig := { parameters := [], returnType := none }, accessFlags := 2, code := none }
def k12c1 : Code := { maxStack := 4, maxLocals := 2, code := jdk_65_method_131_code, exceptionTable := #[], attributes := #[] }
def k12m1 : Method := { name := "checkLength", desc := "(II)V", sig := { parameters := [.int, .int], returnType := none }, accessFlags := 10, code := some k12c1 }
def k12c2 : Code := { maxStack := 3, maxLocals := 3, code := jdk_65_method_132_code, exceptionTable := #[], attributes := #[] }
def k12m2 : Method := { name := "copyOfRange", desc := "([BII)[B", sig := { parameters := [(.array .byte), .int, .int], returnType := some (.array .byte) }, accessFlags := 9, code := some k12c2 }
def k12c3 : Code := { maxStack := 6, maxLocals := 5, code := jdk_65_method_133_code, exceptionTable := #[], attributes := #[] }
def k12m3 : Method := { name := "copyOfRangeByte", desc := "([BII)[B", sig := { parameters := [(.array .byte), .int, .int], returnType := some (.array .byte) }, accessFlags := 10, code := some k12c3 }
/-- java/util/Arrays -/
def k12 : Class := { plain "java/util/Arrays" (some 0) with
  accessFlags := 49
  interfaces := #[]
  cf := some (fileOf pool12 14 #[.nestMembers #[975, 375, 113, 74]] #[{ accessFlags := 2, nameIndex := 5, descriptorIndex := 6, attributes := #[] }, { accessFlags := 10, nameIndex := 345, descriptorIndex := 346, attributes := #[] }, { accessFlags := 9, nameIndex := 139, descriptorIndex := 342, attributes := #[] }, { accessFlags := 10, nameIndex := 341, descriptorIndex := 342, attributes := #[] }] 49 2 #[] #[{ accessFlags := 26, nameIndex := 715, descriptorIndex := 716, attributes := #[] }, { accessFlags := 26, nameIndex := 719, descriptorIndex := 716, attributes := #[] }, { accessFlags := 4120, nameIndex := 445, descriptorIndex := 117, attributes := #[] }])
  fields := #[{ name := "MIN_ARRAY_SORT_GRAN", type := .int, accessFlags := 26, slot := 0, constantValue := 0 }, { name := "INSERTIONSORT_THRESHOLD", type := .int, accessFlags := 26, slot := 1, constantValue := 0 }, { name := "$assertionsDisabled", type := .boolean, accessFlags := 4120, slot := 2, constantValue := 0 }]
  methods := #[k12m0, k12m1, k12m2, k12m3]
  instanceTypes := #[]
  staticTypes := #[.int, .int, .boolean]
  resolved := Array.replicate 1029 none
  statics := none }

def pool13 : Array CpInfo := pool [(1, .class_ 2), (0, u "java/lang/Math"), (1, .class_ 6), (1, u "java/lang/Object"), (0, u "<init>"), (0, u "()V"), (89, .class_ 100), (1, u "java/lang/Math$RandomNumberGeneratorHolder"), (71, u "negativeZeroFloatBits"), (0, u "J"), (2, u "negativeZeroDoubleBits"), (24, u "min"), (43, u "$assertionsDisabled"), (0, u "Z"), (88, u "(II)I"), (2, u "twoToTheDoubleScaleDown"), (0, u "D"), (4, u "twoToTheDoubleScaleUp"), (9, u "E"), (3, u "PI"), (2, u "TAU"), (2, u "DEGREES_TO_RADIANS"), (0, u "RADIANS_TO_DEGREES")] 94

def k13m0 : Method := { name := "<init>", desc := "()V", sig := { parameters := [], returnType := none }, accessFlags := 2, code := none }
def k13c1 : Code := { maxStack := 2, maxLocals := 2, code := jdk_29_method_69_code, exceptionTable := #[], attributes := #[] }
def k13m1 : Method := { name := "min", desc := "(II)I", sig := { parameters := [.int, .int], returnType := some .int }, accessFlags := 9, code := some k13c1 }
/-- java/lang/Math -/
def k13 : Class := { plain "java/lang/Math" (some 0) with
  accessFlags := 49
  interfaces := #[]
  cf := some (fileOf pool13 1 #[.nestMembers #[98]] #[{ accessFlags := 2, nameIndex := 7, descriptorIndex := 8, attributes := #[] }, { accessFlags := 9, nameIndex := 201, descriptorIndex := 335, attributes := #[] }] 49 4 #[] #[{ accessFlags := 25, nameIndex := 354, descriptorIndex := 339, attributes := #[] }, { accessFlags := 25, nameIndex := 358, descriptorIndex := 339, attributes := #[] }, { accessFlags := 25, nameIndex := 361, descriptorIndex := 339, attributes := #[] }, { accessFlags := 26, nameIndex := 364, descriptorIndex := 339, attributes := #[] }, { accessFlags := 26, nameIndex := 365, descriptorIndex := 339, attributes := #[] }, { accessFlags := 26, nameIndex := 172, descriptorIndex := 173, attributes := #[] }, { accessFlags := 26, nameIndex := 176, descriptorIndex := 173, attributes := #[] }, { accessFlags := 8, nameIndex := 344, descriptorIndex := 339, attributes := #[] }, { accessFlags := 8, nameIndex := 338, descriptorIndex := 339, attributes := #[] }, { accessFlags := 4120, nameIndex := 245, descriptorIndex := 246, attributes := #[] }])
  fields := #[{ name := "E", type := .double, accessFlags := 25, slot := 0, constantValue := 0 }, { name := "PI", type := .double, accessFlags := 25, slot := 1, constantValue := 0 }, { name := "TAU", type := .double, accessFlags := 25, slot := 2, constantValue := 0 }, { name := "DEGREES_TO_RADIANS", type := .double, accessFlags := 26, slot := 3, constantValue := 0 }, { name := "RADIANS_TO_DEGREES", type := .double, accessFlags := 26, slot := 4, constantValue := 0 }, { name := "negativeZeroFloatBits", type := .long, accessFlags := 26, slot := 5, constantValue := 0 }, { name := "negativeZeroDoubleBits", type := .long, accessFlags := 26, slot := 6, constantValue := 0 }, { name := "twoToTheDoubleScaleUp", type := .double, accessFlags := 8, slot := 7, constantValue := 0 }, { name := "twoToTheDoubleScaleDown", type := .double, accessFlags := 8, slot := 8, constantValue := 0 }, { name := "$assertionsDisabled", type := .boolean, accessFlags := 4120, slot := 9, constantValue := 0 }]
  methods := #[k13m0, k13m1]
  instanceTypes := #[]
  staticTypes := #[.double, .double, .double, .double, .double, .long, .long, .double, .double, .boolean]
  resolved := Array.replicate 460 none
  statics := none }

def pool14 : Array CpInfo := pool [(2, .class_ 4), (1, u "java/lang/Object"), (0, u "<init>"), (0, u "()V"), (1, .class_ 10), (1, u "java/lang/System"), (0, u "allowSecurityManager"), (0, u "I"), (16, u "cons"), (0, u "Ljava/io/Console;"), (77, .class_ 110), (1, u "java/lang/System$CallersHolder"), (43, u "initialErrStream"), (0, u "Ljava/io/PrintStream;"), (19, u "security"), (0, u "Ljava/lang/SecurityManager;"), (31, .class_ 209), (0, u "java/lang/System$1"), (7, u "props"), (0, u "Ljava/util/Properties;"), (2, u "lineSeparator"), (0, u "Ljava/lang/String;"), (96, .class_ 321), (1, u "java/lang/System$LoggerFinder"), (5, .class_ 328), (0, u "java/lang/System$Logger"), (67, u "err"), (2, u "out"), (91, u "notSupportedJnuEncoding"), (15, u "in"), (17, u "initialIn"), (0, u "Ljava/io/InputStream;"), (35, u "bootLayer"), (0, u "Ljava/lang/ModuleLayer;"), (99, .class_ 664), (0, u "java/lang/System$2"), (9, u "NEVER"), (2, u "MAYBE"), (49, u "arraycopy"), (0, u "(Ljava/lang/Object;ILjava/lang/Object;II)V"), (72, .class_ 802), (0, u "java/lang/System$Logger$Level")] 31

def k14m0 : Method := { name := "<init>", desc := "()V", sig := { parameters := [], returnType := none }, accessFlags := 2, code := none }
def k14m1 : Method := { name := "arraycopy", desc := "(Ljava/lang/Object;ILjava/lang/Object;II)V", sig := { parameters := [(.object "java/lang/Object"), .int, (.object "java/lang/Object"), .int, .int], returnType := none }, accessFlags := 265, code := none }
/-- java/lang/System -/
def k14 : Class := { plain "java/lang/System" (some 0) with
  accessFlags := 49
  interfaces := #[]
  cf := some (fileOf pool14 8 #[.nestMembers #[319, 327, 801, 108, 663, 208]] #[{ accessFlags := 2, nameIndex := 5, descriptorIndex := 6, attributes := #[] }, { accessFlags := 265, nameIndex := 727, descriptorIndex := 728, attributes := #[] }] 49 2 #[] #[{ accessFlags := 25, nameIndex := 507, descriptorIndex := 526, attributes := #[] }, { accessFlags := 25, nameIndex := 399, descriptorIndex := 155, attributes := #[] }, { accessFlags := 25, nameIndex := 396, descriptorIndex := 155, attributes := #[] }, { accessFlags := 10, nameIndex := 525, descriptorIndex := 526, attributes := #[] }, { accessFlags := 26, nameIndex := 674, descriptorIndex := 12, attributes := #[] }, { accessFlags := 26, nameIndex := 677, descriptorIndex := 12, attributes := #[] }, { accessFlags := 10, nameIndex := 11, descriptorIndex := 12, attributes := #[] }, { accessFlags := 74, nameIndex := 175, descriptorIndex := 176, attributes := #[] }, { accessFlags := 10, nameIndex := 491, descriptorIndex := 222, attributes := #[] }, { accessFlags := 74, nameIndex := 29, descriptorIndex := 30, attributes := #[] }, { accessFlags := 74, nameIndex := 154, descriptorIndex := 155, attributes := #[] }, { accessFlags := 10, nameIndex := 217, descriptorIndex := 218, attributes := #[] }, { accessFlags := 10, nameIndex := 221, descriptorIndex := 222, attributes := #[] }, { accessFlags := 8, nameIndex := 562, descriptorIndex := 563, attributes := #[] }])
  fields := #[{ name := "in", type := (.object "java/io/InputStream"), accessFlags := 25, slot := 0, constantValue := 0 }, { name := "out", type := (.object "java/io/PrintStream"), accessFlags := 25, slot := 1, constantValue := 0 }, { name := "err", type := (.object "java/io/PrintStream"), accessFlags := 25, slot := 2, constantValue := 0 }, { name := "initialIn", type := (.object "java/io/InputStream"), accessFlags := 10, slot := 3, constantValue := 0 }, { name := "NEVER", type := .int, accessFlags := 26, slot := 4, constantValue := 0 }, { name := "MAYBE", type := .int, accessFlags := 26, slot := 5, constantValue := 0 }, { name := "allowSecurityManager", type := .int, accessFlags := 10, slot := 6, constantValue := 0 }, { name := "security", type := (.object "java/lang/SecurityManager"), accessFlags := 74, slot := 7, constantValue := 0 }, { name := "notSupportedJnuEncoding", type := (.object "java/lang/String"), accessFlags := 10, slot := 8, constantValue := 0 }, { name := "cons", type := (.object "java/io/Console"), accessFlags := 74, slot := 9, constantValue := 0 }, { name := "initialErrStream", type := (.object "java/io/PrintStream"), accessFlags := 74, slot := 10, constantValue := 0 }, { name := "props", type := (.object "java/util/Properties"), accessFlags := 10, slot := 11, constantValue := 0 }, { name := "lineSeparator", type := (.object "java/lang/String"), accessFlags := 10, slot := 12, constantValue := 0 }, { name := "bootLayer", type := (.object "java/lang/ModuleLayer"), accessFlags := 8, slot := 13, constantValue := 0 }]
  methods := #[k14m0, k14m1]
  instanceTypes := #[]
  staticTypes := #[(.object "java/io/InputStream"), (.object "java/io/PrintStream"), (.object "java/io/PrintStream"), (.object "java/io/InputStream"), .int, .int, .int, (.object "java/lang/SecurityManager"), (.object "java/lang/String"), (.object "java/io/Console"), (.object "java/io/PrintStream"), (.object "java/util/Properties"), (.object "java/lang/String"), (.object "java/lang/ModuleLayer")]
  resolved := Array.replicate 834 none
  statics := none }

def pool15 : Array CpInfo := pool [(6, .class_ 8), (1, u "java/lang/Object"), (0, u "<init>"), (0, u "()V"), (1, .class_ 14), (1, u "java/lang/StringUTF16"), (31, u "$assertionsDisabled"), (0, u "Z"), (13, u "HI_BYTE_SHIFT"), (0, u "I"), (2, u "LO_BYTE_SHIFT"), (49, .methodref 12 116), (0, .nameAndType 117 118), (0, u "compress"), (0, u "([CI[BII)I"), (3, u "([CII)[B"), (138, u "coderFromArrayLen"), (0, u "([BI)B"), (106, .class_ 371), (1, u "java/lang/StringUTF16$LinesSpliterator"), (58, u "MAX_LENGTH"), (196, .class_ 628), (0, u "java/lang/StringUTF16$CodePointsSpliterator"), (0, .class_ 630), (0, u "java/lang/StringUTF16$CharsSpliterator")] 4

def k15m0 : Method := { name := "<init>", desc := "()V", sig := { parameters := [], returnType := none }, accessFlags := 0, code := none }
def k15c1 : Code := { maxStack := 2, maxLocals := 2, code := jdk_52_method_15_code, exceptionTable := #[], attributes := #[] }
def k15m1 : Method := { name := "coderFromArrayLen", desc := "([BI)B", sig := { parameters := [(.array .byte), .int], returnType := some .byte }, accessFlags := 8, code := some k15c1 }
def k15c2 : Code := { maxStack := 5, maxLocals := 6, code := jdk_52_method_16_code, exceptionTable := #[], attributes := #[] }
def k15m2 : Method := { name := "compress", desc := "([CII)[B", sig := { parameters := [(.array .char), .int, .int], returnType := some (.array .byte) }, accessFlags := 9, code := some k15c2 }
def k15c3 : Code := { maxStack := 3, maxLocals := 7, code := jdk_52_method_21_code, exceptionTable := #[], attributes := #[] }
def k15m3 : Method := { name := "compress", desc := "([CI[BII)I", sig := { parameters := [(.array .char), .int, (.array .byte), .int, .int], returnType := some .int }, accessFlags := 9, code := some k15c3 }
/-- java/lang/StringUTF16 -/
def k15 : Class := { plain "java/lang/StringUTF16" (some 0) with
  accessFlags := 48
  interfaces := #[]
  cf := some (fileOf pool15 12 #[.nestMembers #[627, 629, 369]] #[{ accessFlags := 0, nameIndex := 9, descriptorIndex := 10, attributes := #[] }, { accessFlags := 8, nameIndex := 261, descriptorIndex := 262, attributes := #[] }, { accessFlags := 9, nameIndex := 117, descriptorIndex := 122, attributes := #[] }, { accessFlags := 9, nameIndex := 117, descriptorIndex := 118, attributes := #[] }] 48 6 #[] #[{ accessFlags := 26, nameIndex := 61, descriptorIndex := 62, attributes := #[] }, { accessFlags := 26, nameIndex := 65, descriptorIndex := 62, attributes := #[] }, { accessFlags := 24, nameIndex := 430, descriptorIndex := 62, attributes := #[] }, { accessFlags := 4120, nameIndex := 46, descriptorIndex := 47, attributes := #[] }])
  fields := #[{ name := "HI_BYTE_SHIFT", type := .int, accessFlags := 26, slot := 0, constantValue := 0 }, { name := "LO_BYTE_SHIFT", type := .int, accessFlags := 26, slot := 1, constantValue := 0 }, { name := "MAX_LENGTH", type := .int, accessFlags := 24, slot := 2, constantValue := 0 }, { name := "$assertionsDisabled", type := .boolean, accessFlags := 4120, slot := 3, constantValue := 0 }]
  methods := #[k15m0, k15m1, k15m2, k15m3]
  instanceTypes := #[]
  staticTypes := #[.int, .int, .int, .boolean]
  resolved := Array.replicate 635 none
  statics := none }

def pool16 : Array CpInfo := pool [(1, .class_ 2), (0, u "java/lang/String"), (1, .class_ 6), (1, u "java/lang/Object"), (0, u "<init>"), (0, u "()V"), (0, .methodref 1 10), (0, .nameAndType 11 12), (0, u "checkIndex"), (0, u "(II)V"), (1, .class_ 16), (1, u "java/lang/StringLatin1"), (36, u "([BI)C"), (36, u "canEncode"), (14, u "(C)Z"), (15, u "$assertionsDisabled"), (0, u "Z"), (98, .class_ 223), (1, u "java/lang/StringLatin1$LinesSpliterator"), (28, u "charAt"), (137, .class_ 391), (0, u "java/lang/StringLatin1$CharsSpliterator")] 3

def k16m0 : Method := { name := "<init>", desc := "()V", sig := { parameters := [], returnType := none }, accessFlags := 0, code := none }
def k16c1 : Code := { maxStack := 2, maxLocals := 2, code := jdk_43_method_2_code, exceptionTable := #[], attributes := #[] }
def k16m1 : Method := { name := "charAt", desc := "([BI)C", sig := { parameters := [(.array .byte), .int], returnType := some .char }, accessFlags := 9, code := some k16c1 }
def k16c2 : Code := { maxStack := 2, maxLocals := 1, code := jdk_43_method_3_code, exceptionTable := #[], attributes := #[] }
def k16m2 : Method := { name := "canEncode", desc := "(C)Z", sig := { parameters := [.char], returnType := some .boolean }, accessFlags := 9, code := some k16c2 }
/-- java/lang/StringLatin1 -/
def k16 : Class := { plain "java/lang/StringLatin1" (some 0) with
  accessFlags := 48
  interfaces := #[]
  cf := some (fileOf pool16 14 #[.nestMembers #[390, 221]] #[{ accessFlags := 0, nameIndex := 7, descriptorIndex := 8, attributes := #[] }, { accessFlags := 9, nameIndex := 252, descriptorIndex := 53, attributes := #[] }, { accessFlags := 9, nameIndex := 90, descriptorIndex := 105, attributes := #[] }] 48 4 #[] #[{ accessFlags := 4120, nameIndex := 121, descriptorIndex := 122, attributes := #[] }])
  fields := #[{ name := "$assertionsDisabled", type := .boolean, accessFlags := 4120, slot := 0, constantValue := 0 }]
  methods := #[k16m0, k16m1, k16m2]
  instanceTypes := #[]
  staticTypes := #[.boolean]
  resolved := Array.replicate 395 none
  statics := none }

def pool17 : Array CpInfo := pool [(2, .class_ 4), (1, u "java/lang/Object"), (0, u "<init>"), (0, u "()V"), (17, .class_ 26), (1, u "jdk/internal/util/Preconditions"), (6, u "checkIndex"), (21, .class_ 56), (0, u "jdk/internal/util/Preconditions$4"), (57, .class_ 115), (0, u "jdk/internal/util/Preconditions$1"), (7, u "SIOOBE_FORMATTER"), (0, u "Ljava/util/function/BiFunction;"), (0, .class_ 126), (0, u "jdk/internal/util/Preconditions$2"), (3, u "AIOOBE_FORMATTER"), (0, .class_ 132), (0, u "jdk/internal/util/Preconditions$3"), (3, u "IOOBE_FORMATTER"), (41, u "(IILjava/util/function/BiFunction;)I")] 15

def k17m0 : Method := { name := "<init>", desc := "()V", sig := { parameters := [], returnType := none }, accessFlags := 1, code := none }
def k17c1 : Code := { maxStack := 3, maxLocals := 3, code := jdk_41_method_11_code, exceptionTable := #[], attributes := #[] }
def k17m1 : Method := { name := "checkIndex", desc := "(IILjava/util/function/BiFunction;)I", sig := { parameters := [.int, .int, (.object "java/util/function/BiFunction")], returnType := some .int }, accessFlags := 9, code := some k17c1 }
/-- jdk/internal/util/Preconditions -/
def k17 : Class := { plain "jdk/internal/util/Preconditions" (some 0) with
  accessFlags := 33
  interfaces := #[]
  cf := some (fileOf pool17 24 #[.nestMembers #[55, 131, 125, 114]] #[{ accessFlags := 1, nameIndex := 5, descriptorIndex := 6, attributes := #[] }, { accessFlags := 9, nameIndex := 33, descriptorIndex := 178, attributes := #[] }] 33 2 #[] #[{ accessFlags := 25, nameIndex := 123, descriptorIndex := 124, attributes := #[] }, { accessFlags := 25, nameIndex := 130, descriptorIndex := 124, attributes := #[] }, { accessFlags := 25, nameIndex := 136, descriptorIndex := 124, attributes := #[] }])
  fields := #[{ name := "SIOOBE_FORMATTER", type := (.object "java/util/function/BiFunction"), accessFlags := 25, slot := 0, constantValue := 0 }, { name := "AIOOBE_FORMATTER", type := (.object "java/util/function/BiFunction"), accessFlags := 25, slot := 1, constantValue := 0 }, { name := "IOOBE_FORMATTER", type := (.object "java/util/function/BiFunction"), accessFlags := 25, slot := 2, constantValue := 0 }]
  methods := #[k17m0, k17m1]
  instanceTypes := #[]
  staticTypes := #[(.object "java/util/function/BiFunction"), (.object "java/util/function/BiFunction"), (.object "java/util/function/BiFunction")]
  resolved := Array.replicate 194 none
  statics := some 2 }

def pool18 : Array CpInfo := pool [(9, u "<init>"), (6, .class_ 18), (1, u "java/lang/Object"), (0, u "()V"), (1, .class_ 23), (1, u "jdk/internal/util/ArraysSupport"), (0, u "LOG2_ARRAY_LONG_INDEX_SCALE"), (0, u "I"), (2, u "U"), (0, u "Ljdk/internal/misc/Unsafe;"), (8, u "BIG_ENDIAN"), (0, u "Z"), (8, u "LOG2_BYTE_BIT_SIZE"), (4, u "LOG2_ARRAY_INT_INDEX_SCALE"), (54, u "JLA"), (0, u "Ljdk/internal/access/JavaLangAccess;"), (11, u "LOG2_ARRAY_BOOLEAN_INDEX_SCALE"), (9, u "LOG2_ARRAY_BYTE_INDEX_SCALE"), (5, u "LOG2_ARRAY_CHAR_INDEX_SCALE"), (5, u "LOG2_ARRAY_SHORT_INDEX_SCALE"), (18, u "LOG2_ARRAY_FLOAT_INDEX_SCALE"), (24, u "LOG2_ARRAY_DOUBLE_INDEX_SCALE"), (89, u "T_BOOLEAN"), (2, u "T_CHAR"), (1, u "T_FLOAT"), (1, u "T_DOUBLE"), (1, u "T_BYTE"), (1, u "T_SHORT"), (1, u "T_INT"), (1, u "T_LONG"), (1, u "SOFT_MAX_ARRAY_LENGTH")] 83

def k18m0 : Method := { name := "<init>", desc := "()V", sig := { parameters := [], returnType := none }, accessFlags := 2, code := none }
/-- jdk/internal/util/ArraysSupport -/
def k18 : Class := { plain "jdk/internal/util/ArraysSupport" (some 0) with
  accessFlags := 33
  interfaces := #[]
  cf := some (fileOf pool18 21 #[] #[{ accessFlags := 2, nameIndex := 9, descriptorIndex := 19, attributes := #[] }] 33 16 #[] #[{ accessFlags := 24, nameIndex := 28, descriptorIndex := 29, attributes := #[] }, { accessFlags := 26, nameIndex := 38, descriptorIndex := 39, attributes := #[] }, { accessFlags := 25, nameIndex := 121, descriptorIndex := 25, attributes := #[] }, { accessFlags := 25, nameIndex := 131, descriptorIndex := 25, attributes := #[] }, { accessFlags := 25, nameIndex := 137, descriptorIndex := 25, attributes := #[] }, { accessFlags := 25, nameIndex := 143, descriptorIndex := 25, attributes := #[] }, { accessFlags := 25, nameIndex := 53, descriptorIndex := 25, attributes := #[] }, { accessFlags := 25, nameIndex := 24, descriptorIndex := 25, attributes := #[] }, { accessFlags := 25, nameIndex := 162, descriptorIndex := 25, attributes := #[] }, { accessFlags := 25, nameIndex := 187, descriptorIndex := 25, attributes := #[] }, { accessFlags := 26, nameIndex := 48, descriptorIndex := 25, attributes := #[] }, { accessFlags := 25, nameIndex := 277, descriptorIndex := 25, attributes := #[] }, { accessFlags := 25, nameIndex := 280, descriptorIndex := 25, attributes := #[] }, { accessFlags := 25, nameIndex := 282, descriptorIndex := 25, attributes := #[] }, { accessFlags := 25, nameIndex := 284, descriptorIndex := 25, attributes := #[] }, { accessFlags := 25, nameIndex := 286, descriptorIndex := 25, attributes := #[] }, { accessFlags := 25, nameIndex := 288, descriptorIndex := 25, attributes := #[] }, { accessFlags := 25, nameIndex := 290, descriptorIndex := 25, attributes := #[] }, { accessFlags := 25, nameIndex := 292, descriptorIndex := 25, attributes := #[] }, { accessFlags := 26, nameIndex := 108, descriptorIndex := 109, attributes := #[] }, { accessFlags := 25, nameIndex := 294, descriptorIndex := 25, attributes := #[] }])
  fields := #[{ name := "U", type := (.object "jdk/internal/misc/Unsafe"), accessFlags := 24, slot := 0, constantValue := 0 }, { name := "BIG_ENDIAN", type := .boolean, accessFlags := 26, slot := 1, constantValue := 0 }, { name := "LOG2_ARRAY_BOOLEAN_INDEX_SCALE", type := .int, accessFlags := 25, slot := 2, constantValue := 0 }, { name := "LOG2_ARRAY_BYTE_INDEX_SCALE", type := .int, accessFlags := 25, slot := 3, constantValue := 0 }, { name := "LOG2_ARRAY_CHAR_INDEX_SCALE", type := .int, accessFlags := 25, slot := 4, constantValue := 0 }, { name := "LOG2_ARRAY_SHORT_INDEX_SCALE", type := .int, accessFlags := 25, slot := 5, constantValue := 0 }, { name := "LOG2_ARRAY_INT_INDEX_SCALE", type := .int, accessFlags := 25, slot := 6, constantValue := 0 }, { name := "LOG2_ARRAY_LONG_INDEX_SCALE", type := .int, accessFlags := 25, slot := 7, constantValue := 0 }, { name := "LOG2_ARRAY_FLOAT_INDEX_SCALE", type := .int, accessFlags := 25, slot := 8, constantValue := 0 }, { name := "LOG2_ARRAY_DOUBLE_INDEX_SCALE", type := .int, accessFlags := 25, slot := 9, constantValue := 0 }, { name := "LOG2_BYTE_BIT_SIZE", type := .int, accessFlags := 26, slot := 10, constantValue := 0 }, { name := "T_BOOLEAN", type := .int, accessFlags := 25, slot := 11, constantValue := 0 }, { name := "T_CHAR", type := .int, accessFlags := 25, slot := 12, constantValue := 0 }, { name := "T_FLOAT", type := .int, accessFlags := 25, slot := 13, constantValue := 0 }, { name := "T_DOUBLE", type := .int, accessFlags := 25, slot := 14, constantValue := 0 }, { name := "T_BYTE", type := .int, accessFlags := 25, slot := 15, constantValue := 0 }, { name := "T_SHORT", type := .int, accessFlags := 25, slot := 16, constantValue := 0 }, { name := "T_INT", type := .int, accessFlags := 25, slot := 17, constantValue := 0 }, { name := "T_LONG", type := .int, accessFlags := 25, slot := 18, constantValue := 0 }, { name := "JLA", type := (.object "jdk/internal/access/JavaLangAccess"), accessFlags := 26, slot := 19, constantValue := 0 }, { name := "SOFT_MAX_ARRAY_LENGTH", type := .int, accessFlags := 25, slot := 20, constantValue := 0 }]
  methods := #[k18m0]
  instanceTypes := #[]
  staticTypes := #[(.object "jdk/internal/misc/Unsafe"), .boolean, .int, .int, .int, .int, .int, .int, .int, .int, .int, .int, .int, .int, .int, .int, .int, .int, .int, (.object "jdk/internal/access/JavaLangAccess"), .int]
  resolved := Array.replicate 378 none
  statics := none }

def pool19 : Array CpInfo := pool [(1, u "java/lang/Cloneable"), (0, .class_ 1), (0, u "java/lang/Object"), (0, .class_ 3)] 3

/-- java/lang/Cloneable -/
def k19 : Class := { plain "java/lang/Cloneable" (some 0) with
  accessFlags := 1537
  interfaces := #[]
  cf := some (fileOf pool19 2 #[] #[] 1537 4 #[] #[])
  fields := #[]
  methods := #[]
  instanceTypes := #[]
  staticTypes := #[]
  resolved := Array.replicate 8 none
  statics := none }

/-- the primitive byte -/
def k20 : Class := { plain "byte" none with kind := .primitive 'B', accessFlags := 0x411 }
/-- [B -/
def k21 : Class := { plain "[B" (some 0) with kind := .array 20 .byte, interfaces := #[19, 2], accessFlags := 1041 }

/-- the primitive char -/
def k22 : Class := { plain "char" none with kind := .primitive 'C', accessFlags := 0x411 }
/-- [C -/
def k23 : Class := { plain "[C" (some 0) with kind := .array 22 .char, interfaces := #[19, 2], accessFlags := 1041 }

/-- the primitive int -/
def k24 : Class := { plain "int" none with kind := .primitive 'I', accessFlags := 0x411 }
/-- [I -/
def k25 : Class := { plain "[I" (some 0) with kind := .array 24 .int, interfaces := #[19, 2], accessFlags := 1041 }

def heap : Heap := #[{ cls := 7, slots := #[.long 0, .int 1, .null, .int 0, .null, .int 0, .int 0], vm := .statics 7 },
  { cls := 8, slots := #[.int 0, .int 0, .int 0, .null, .null, .null, .null, .ref 3], vm := .statics 8 },
  { cls := 17, slots := #[.null, .null, .null], vm := .statics 17 },
  { cls := 23, slots := #[.int 48, .int 49, .int 50, .int 51, .int 52, .int 53, .int 54, .int 55, .int 56, .int 57, .int 65, .int 66, .int 67, .int 68, .int 69, .int 70], vm := .none }]
def classes : Array Class := #[k0, k1, k2, k3, k4, k5, k6, k7, k8, k9, k10, k11, k12, k13, k14, k15, k16, k17, k18, k19, k20, k21, k22, k23, k24, k25]
def interned : List (Array UInt16 × Addr) := []
def slotsUsed : Nat := 34
def theMethod : MethodId := ⟨1, 1⟩
def args0 : Array Value := #[.int 4, .int 6, .int 200, .int 8, .int 255]
def aboutOver (below : List Frame) : State where
  vm := { classes := classes, interned := interned.toArray }
  heap := heap
  slotsUsed := slotsUsed
  threads := #[{ frames := .invoking theMethod args0 :: below }]
def below0 : List Frame := [.native { method := ⟨0, 0⟩, args := #[] }]
def about1 : State := aboutOver below0
def p0 : Program := .bare "" "" ""
def e0 : Env := launch0.env 0 0 0
theorem w_frames : about1.frames = Frame.invoking theMethod args0 :: below0 := rfl
set_option maxRecDepth 65536 in
theorem w_args : argsFit about1.vm theMethod args0 = true := by decide +kernel
set_option maxRecDepth 65536 in
theorem w_heap : heapFits about1 = true := by decide +kernel
set_option maxRecDepth 65536 in
theorem w_runnable : about1.curStatus? = some .runnable := by decide +kernel
set_option maxRecDepth 65536 in
theorem w_alone : about1.alone = true := by decide +kernel
set_option maxRecDepth 65536 in
theorem w_named : about1.methodNamed? x = some theMethod := by decide +kernel
set_option maxRecDepth 65536 in
theorem w_hears : about1.hears theMethod below0 = true := by decide +kernel
set_option maxRecDepth 65536 in
theorem w_ripe : about1.ripe theMethod args0 below0 = true := by decide +kernel
theorem w_running : about1.status = .running := rfl
set_option maxRecDepth 65536 in
theorem w_room : about1.hasRoom e0.platform room_1 = true :=
  launch0.hasRoom_least _ room_1 (by decide +kernel) (by decide +kernel) (by decide +kernel) (by decide +kernel) (by decide +kernel) (by decide +kernel)
theorem allAtoms_all (ts : List Jvm.Cond) (a : Array Jvm.Value) (st : Jvm.State) : (allAtoms ts).before a st = ts.all (fun c => c.before a st) := by
  induction ts with
  | nil => rfl
  | cons c t ih =>
    show (Jvm.Cond.and c (allAtoms t)).before a st = _
    rw [Jvm.Cond.before_and, ih, List.all_cons]
def words1 : List Jvm.Cond := Jvm.Cond.code x code maxLocals ret :: tables_1
/-- a 'code' word, met by the world's own term for the bytes: nothing is compared byte by byte -/
theorem code_word {y : MethodName} {bytes : ByteArray} {mx : Nat} {rt : Option FieldType} {a : Array Value} {s : State} {m : MethodId} {meth : Method} {c : Code} (h1 : s.methodNamed? y = some m) (h2 : s.vm.method? m = some meth) (h3 : meth.code = some c) (h4 : c.code = bytes)
    (h5 : (c.maxLocals == mx && c.exceptionTable.isEmpty && decide (c.maxStack ≤ mostOperands) && decide (meth.sig.returnType = rt) && !meth.locks && decide (parseMethodDescriptor y.desc = some meth.sig)) = true) : (Jvm.Cond.code y bytes mx rt).before a s = true := by
  simp only [Bool.and_eq_true, beq_iff_eq, Bool.not_eq_true', decide_eq_true_eq] at h5
  obtain ⟨⟨⟨⟨⟨g1, g2⟩, g3⟩, g4⟩, g5⟩, g6⟩ := h5
  simp [Cond.before, Cond.holds, Cond.value, h1, h2, h3, h4, g1, g2, g3, g4, g5, g6]
def isCode : Jvm.Cond → Bool
  | .code _ _ _ _ => true
  | _ => false
theorem all_split {L : List Jvm.Cond} {P : Jvm.Cond → Bool} (h1 : L.all (fun c => isCode c || P c) = true) (h2 : ∀ c ∈ L.filter isCode, P c = true) : L.all P = true := by
  refine List.all_eq_true.mpr fun c hc => ?_
  have h := List.all_eq_true.mp h1 c hc
  rcases Bool.eq_false_or_eq_true (isCode c) with hi | hi
  · exact h2 c (List.mem_filter.mpr ⟨hc, hi⟩)
  · simpa [hi] using h
set_option maxRecDepth 65536 in
theorem w_c0 : (Jvm.Cond.code x code maxLocals ret).before args0 about1 = true := code_word (m := ⟨1, 1⟩) (meth := k1m1) (c := k1c1) (by decide +kernel) rfl rfl rfl (by decide +kernel)
set_option maxRecDepth 65536 in
theorem w_c1 : (Jvm.Cond.code ({ cls := "java/lang/String", name := "<init>", desc := "([C)V" } : Jvm.MethodName) jdk_42_method_3_code (2 : Nat) (Option.none : Option Jvm.ClassFile.FieldType)).before args0 about1 = true := code_word (m := ⟨7, 1⟩) (meth := k7m1) (c := k7c1) (by decide +kernel) rfl rfl rfl (by decide +kernel)
set_option maxRecDepth 65536 in
theorem w_c2 : (Jvm.Cond.code ({ cls := "java/lang/String", name := "<init>", desc := "([CIILjava/lang/Void;)V" } : Jvm.MethodName) jdk_42_method_149_code (6 : Nat) (Option.none : Option Jvm.ClassFile.FieldType)).before args0 about1 = true := code_word (m := ⟨7, 5⟩) (meth := k7m5) (c := k7c5) (by decide +kernel) rfl rfl rfl (by decide +kernel)
set_option maxRecDepth 65536 in
theorem w_c3 : (Jvm.Cond.code ({ cls := "java/lang/Object", name := "<init>", desc := "()V" } : Jvm.MethodName) object_method_1_code (1 : Nat) (Option.none : Option Jvm.ClassFile.FieldType)).before args0 about1 = true := code_word (m := ⟨0, 0⟩) (meth := k0m0) (c := k0c0) (by decide +kernel) rfl rfl rfl (by decide +kernel)
set_option maxRecDepth 65536 in
theorem w_c4 : (Jvm.Cond.code ({ cls := "com/example/tabane/tabane/http/RequestHead", name := "queryForm", desc := "(Ljava/lang/String;)Ljava/lang/String;" } : Jvm.MethodName) prog_24_method_10_code (4 : Nat) (Option.some (Jvm.ClassFile.FieldType.object "java/lang/String"))).before args0 about1 = true := code_word (m := ⟨8, 0⟩) (meth := k8m0) (c := k8c0) (by decide +kernel) rfl rfl rfl (by decide +kernel)
set_option maxRecDepth 65536 in
theorem w_c5 : (Jvm.Cond.code ({ cls := "java/lang/String", name := "length", desc := "()I" } : Jvm.MethodName) jdk_42_method_54_code (1 : Nat) (Option.some Jvm.ClassFile.FieldType.int)).before args0 about1 = true := code_word (m := ⟨7, 3⟩) (meth := k7m3) (c := k7c3) (by decide +kernel) rfl rfl rfl (by decide +kernel)
set_option maxRecDepth 65536 in
theorem w_c6 : (Jvm.Cond.code ({ cls := "java/lang/String", name := "coder", desc := "()B" } : Jvm.MethodName) jdk_42_method_152_code (1 : Nat) (Option.some Jvm.ClassFile.FieldType.byte)).before args0 about1 = true := code_word (m := ⟨7, 7⟩) (meth := k7m7) (c := k7c7) (by decide +kernel) rfl rfl rfl (by decide +kernel)
set_option maxRecDepth 65536 in
theorem w_c7 : (Jvm.Cond.code ({ cls := "java/lang/StringBuilder", name := "<init>", desc := "(I)V" } : Jvm.MethodName) jdk_67_method_2_code (2 : Nat) (Option.none : Option Jvm.ClassFile.FieldType)).before args0 about1 = true := code_word (m := ⟨11, 1⟩) (meth := k11m1) (c := k11c1) (by decide +kernel) rfl rfl rfl (by decide +kernel)
set_option maxRecDepth 65536 in
theorem w_c8 : (Jvm.Cond.code ({ cls := "java/lang/AbstractStringBuilder", name := "<init>", desc := "(I)V" } : Jvm.MethodName) jdk_68_method_2_code (2 : Nat) (Option.none : Option Jvm.ClassFile.FieldType)).before args0 about1 = true := code_word (m := ⟨10, 1⟩) (meth := k10m1) (c := k10c1) (by decide +kernel) rfl rfl rfl (by decide +kernel)
set_option maxRecDepth 65536 in
theorem w_c9 : (Jvm.Cond.code ({ cls := "java/lang/StringBuilder", name := "toString", desc := "()Ljava/lang/String;" } : Jvm.MethodName) jdk_67_method_42_code (1 : Nat) (Option.some (Jvm.ClassFile.FieldType.object "java/lang/String"))).before args0 about1 = true := code_word (m := ⟨11, 3⟩) (meth := k11m3) (c := k11c3) (by decide +kernel) rfl rfl rfl (by decide +kernel)
set_option maxRecDepth 65536 in
theorem w_c10 : (Jvm.Cond.code ({ cls := "java/lang/String", name := "<init>", desc := "(Ljava/lang/StringBuilder;)V" } : Jvm.MethodName) jdk_42_method_53_code (2 : Nat) (Option.none : Option Jvm.ClassFile.FieldType)).before args0 about1 = true := code_word (m := ⟨7, 2⟩) (meth := k7m2) (c := k7c2) (by decide +kernel) rfl rfl rfl (by decide +kernel)
set_option maxRecDepth 65536 in
theorem w_c11 : (Jvm.Cond.code ({ cls := "java/lang/String", name := "<init>", desc := "(Ljava/lang/AbstractStringBuilder;Ljava/lang/Void;)V" } : Jvm.MethodName) jdk_42_method_150_code (5 : Nat) (Option.none : Option Jvm.ClassFile.FieldType)).before args0 about1 = true := code_word (m := ⟨7, 6⟩) (meth := k7m6) (c := k7c6) (by decide +kernel) rfl rfl rfl (by decide +kernel)
set_option maxRecDepth 65536 in
theorem w_c12 : (Jvm.Cond.code ({ cls := "java/lang/AbstractStringBuilder", name := "getValue", desc := "()[B" } : Jvm.MethodName) jdk_68_method_64_code (1 : Nat) (Option.some (Jvm.ClassFile.FieldType.array Jvm.ClassFile.FieldType.byte))).before args0 about1 = true := code_word (m := ⟨10, 5⟩) (meth := k10m5) (c := k10c5) (by decide +kernel) rfl rfl rfl (by decide +kernel)
set_option maxRecDepth 65536 in
theorem w_c13 : (Jvm.Cond.code ({ cls := "java/lang/StringBuilder", name := "length", desc := "()I" } : Jvm.MethodName) jdk_67_method_93_code (1 : Nat) (Option.some Jvm.ClassFile.FieldType.int)).before args0 about1 = true := code_word (m := ⟨11, 4⟩) (meth := k11m4) (c := k11c4) (by decide +kernel) rfl rfl rfl (by decide +kernel)
set_option maxRecDepth 65536 in
theorem w_c14 : (Jvm.Cond.code ({ cls := "java/lang/AbstractStringBuilder", name := "length", desc := "()I" } : Jvm.MethodName) jdk_68_method_6_code (1 : Nat) (Option.some Jvm.ClassFile.FieldType.int)).before args0 about1 = true := code_word (m := ⟨10, 2⟩) (meth := k10m2) (c := k10c2) (by decide +kernel) rfl rfl rfl (by decide +kernel)
set_option maxRecDepth 65536 in
theorem w_c15 : (Jvm.Cond.code ({ cls := "java/lang/AbstractStringBuilder", name := "isLatin1", desc := "()Z" } : Jvm.MethodName) jdk_68_method_68_code (1 : Nat) (Option.some Jvm.ClassFile.FieldType.boolean)).before args0 about1 = true := code_word (m := ⟨10, 6⟩) (meth := k10m6) (c := k10c6) (by decide +kernel) rfl rfl rfl (by decide +kernel)
set_option maxRecDepth 65536 in
theorem w_c16 : (Jvm.Cond.code ({ cls := "java/util/Arrays", name := "copyOfRange", desc := "([BII)[B" } : Jvm.MethodName) jdk_65_method_132_code (3 : Nat) (Option.some (Jvm.ClassFile.FieldType.array Jvm.ClassFile.FieldType.byte))).before args0 about1 = true := code_word (m := ⟨12, 2⟩) (meth := k12m2) (c := k12c2) (by decide +kernel) rfl rfl rfl (by decide +kernel)
set_option maxRecDepth 65536 in
theorem w_c17 : (Jvm.Cond.code ({ cls := "java/util/Arrays", name := "copyOfRangeByte", desc := "([BII)[B" } : Jvm.MethodName) jdk_65_method_133_code (5 : Nat) (Option.some (Jvm.ClassFile.FieldType.array Jvm.ClassFile.FieldType.byte))).before args0 about1 = true := code_word (m := ⟨12, 3⟩) (meth := k12m3) (c := k12c3) (by decide +kernel) rfl rfl rfl (by decide +kernel)
set_option maxRecDepth 65536 in
theorem w_c18 : (Jvm.Cond.code ({ cls := "java/util/Arrays", name := "checkLength", desc := "(II)V" } : Jvm.MethodName) jdk_65_method_131_code (2 : Nat) (Option.none : Option Jvm.ClassFile.FieldType)).before args0 about1 = true := code_word (m := ⟨12, 1⟩) (meth := k12m1) (c := k12c1) (by decide +kernel) rfl rfl rfl (by decide +kernel)
set_option maxRecDepth 65536 in
theorem w_c19 : (Jvm.Cond.code ({ cls := "java/lang/Math", name := "min", desc := "(II)I" } : Jvm.MethodName) jdk_29_method_69_code (2 : Nat) (Option.some Jvm.ClassFile.FieldType.int)).before args0 about1 = true := code_word (m := ⟨13, 1⟩) (meth := k13m1) (c := k13c1) (by decide +kernel) rfl rfl rfl (by decide +kernel)
set_option maxRecDepth 65536 in
theorem w_c20 : (Jvm.Cond.code ({ cls := "java/lang/StringUTF16", name := "compress", desc := "([CII)[B" } : Jvm.MethodName) jdk_52_method_16_code (6 : Nat) (Option.some (Jvm.ClassFile.FieldType.array Jvm.ClassFile.FieldType.byte))).before args0 about1 = true := code_word (m := ⟨15, 2⟩) (meth := k15m2) (c := k15c2) (by decide +kernel) rfl rfl rfl (by decide +kernel)
set_option maxRecDepth 65536 in
theorem w_c21 : (Jvm.Cond.code ({ cls := "java/lang/StringUTF16", name := "compress", desc := "([CI[BII)I" } : Jvm.MethodName) jdk_52_method_21_code (7 : Nat) (Option.some Jvm.ClassFile.FieldType.int)).before args0 about1 = true := code_word (m := ⟨15, 3⟩) (meth := k15m3) (c := k15c3) (by decide +kernel) rfl rfl rfl (by decide +kernel)
set_option maxRecDepth 65536 in
theorem w_c22 : (Jvm.Cond.code ({ cls := "java/lang/StringUTF16", name := "coderFromArrayLen", desc := "([BI)B" } : Jvm.MethodName) jdk_52_method_15_code (2 : Nat) (Option.some Jvm.ClassFile.FieldType.byte)).before args0 about1 = true := code_word (m := ⟨15, 1⟩) (meth := k15m1) (c := k15c1) (by decide +kernel) rfl rfl rfl (by decide +kernel)
set_option maxRecDepth 65536 in
theorem w_c23 : (Jvm.Cond.code ({ cls := "java/lang/String", name := "charAt", desc := "(I)C" } : Jvm.MethodName) jdk_42_method_56_code (2 : Nat) (Option.some Jvm.ClassFile.FieldType.char)).before args0 about1 = true := code_word (m := ⟨7, 4⟩) (meth := k7m4) (c := k7c4) (by decide +kernel) rfl rfl rfl (by decide +kernel)
set_option maxRecDepth 65536 in
theorem w_c24 : (Jvm.Cond.code ({ cls := "java/lang/String", name := "isLatin1", desc := "()Z" } : Jvm.MethodName) jdk_42_method_154_code (1 : Nat) (Option.some Jvm.ClassFile.FieldType.boolean)).before args0 about1 = true := code_word (m := ⟨7, 8⟩) (meth := k7m8) (c := k7c8) (by decide +kernel) rfl rfl rfl (by decide +kernel)
set_option maxRecDepth 65536 in
theorem w_c25 : (Jvm.Cond.code ({ cls := "java/lang/StringLatin1", name := "charAt", desc := "([BI)C" } : Jvm.MethodName) jdk_43_method_2_code (2 : Nat) (Option.some Jvm.ClassFile.FieldType.char)).before args0 about1 = true := code_word (m := ⟨16, 1⟩) (meth := k16m1) (c := k16c1) (by decide +kernel) rfl rfl rfl (by decide +kernel)
set_option maxRecDepth 65536 in
theorem w_c26 : (Jvm.Cond.code ({ cls := "java/lang/String", name := "checkIndex", desc := "(II)V" } : Jvm.MethodName) jdk_42_method_155_code (2 : Nat) (Option.none : Option Jvm.ClassFile.FieldType)).before args0 about1 = true := code_word (m := ⟨7, 9⟩) (meth := k7m9) (c := k7c9) (by decide +kernel) rfl rfl rfl (by decide +kernel)
set_option maxRecDepth 65536 in
theorem w_c27 : (Jvm.Cond.code ({ cls := "jdk/internal/util/Preconditions", name := "checkIndex", desc := "(IILjava/util/function/BiFunction;)I" } : Jvm.MethodName) jdk_41_method_11_code (3 : Nat) (Option.some Jvm.ClassFile.FieldType.int)).before args0 about1 = true := code_word (m := ⟨17, 1⟩) (meth := k17m1) (c := k17c1) (by decide +kernel) rfl rfl rfl (by decide +kernel)
set_option maxRecDepth 65536 in
theorem w_c28 : (Jvm.Cond.code ({ cls := "java/lang/StringBuilder", name := "append", desc := "(C)Ljava/lang/StringBuilder;" } : Jvm.MethodName) jdk_67_method_14_code (2 : Nat) (Option.some (Jvm.ClassFile.FieldType.object "java/lang/StringBuilder"))).before args0 about1 = true := code_word (m := ⟨11, 2⟩) (meth := k11m2) (c := k11c2) (by decide +kernel) rfl rfl rfl (by decide +kernel)
set_option maxRecDepth 65536 in
theorem w_c29 : (Jvm.Cond.code ({ cls := "java/lang/AbstractStringBuilder", name := "append", desc := "(C)Ljava/lang/AbstractStringBuilder;" } : Jvm.MethodName) jdk_68_method_31_code (2 : Nat) (Option.some (Jvm.ClassFile.FieldType.object "java/lang/AbstractStringBuilder"))).before args0 about1 = true := code_word (m := ⟨10, 4⟩) (meth := k10m4) (c := k10c4) (by decide +kernel) rfl rfl rfl (by decide +kernel)
set_option maxRecDepth 65536 in
theorem w_c30 : (Jvm.Cond.code ({ cls := "java/lang/AbstractStringBuilder", name := "ensureCapacityInternal", desc := "(I)V" } : Jvm.MethodName) jdk_68_method_9_code (3 : Nat) (Option.none : Option Jvm.ClassFile.FieldType)).before args0 about1 = true := code_word (m := ⟨10, 3⟩) (meth := k10m3) (c := k10c3) (by decide +kernel) rfl rfl rfl (by decide +kernel)
set_option maxRecDepth 65536 in
theorem w_c31 : (Jvm.Cond.code ({ cls := "java/lang/StringLatin1", name := "canEncode", desc := "(C)Z" } : Jvm.MethodName) jdk_43_method_3_code (1 : Nat) (Option.some Jvm.ClassFile.FieldType.boolean)).before args0 about1 = true := code_word (m := ⟨16, 2⟩) (meth := k16m2) (c := k16c2) (by decide +kernel) rfl rfl rfl (by decide +kernel)
set_option maxRecDepth 65536 in
theorem w_c32 : (Jvm.Cond.code ({ cls := "com/example/tabane/tabane/http/RequestHeadQueryFormPinLaw", name := "width", desc := "(C)I" } : Jvm.MethodName) method_3_code (1 : Nat) (Option.some Jvm.ClassFile.FieldType.int)).before args0 about1 = true := code_word (m := ⟨1, 2⟩) (meth := k1m2) (c := k1c2) (by decide +kernel) rfl rfl rfl (by decide +kernel)
set_option maxRecDepth 65536 in
theorem w_c33 : (Jvm.Cond.code ({ cls := "com/example/tabane/tabane/http/RequestHeadQueryFormPinLaw", name := "at", desc := "(Ljava/lang/String;IC)Z" } : Jvm.MethodName) method_5_code (3 : Nat) (Option.some Jvm.ClassFile.FieldType.boolean)).before args0 about1 = true := code_word (m := ⟨1, 4⟩) (meth := k1m4) (c := k1c4) (by decide +kernel) rfl rfl rfl (by decide +kernel)
set_option maxRecDepth 65536 in
theorem w_c34 : (Jvm.Cond.code ({ cls := "com/example/tabane/tabane/http/RequestHead", name := "appendEscape", desc := "(Ljava/lang/StringBuilder;C)V" } : Jvm.MethodName) prog_24_method_11_code (2 : Nat) (Option.none : Option Jvm.ClassFile.FieldType)).before args0 about1 = true := code_word (m := ⟨8, 1⟩) (meth := k8m1) (c := k8c1) (by decide +kernel) rfl rfl rfl (by decide +kernel)
set_option maxRecDepth 65536 in
theorem w_c35 : (Jvm.Cond.code ({ cls := "com/example/tabane/tabane/http/RequestHeadQueryFormPinLaw", name := "hex", desc := "(I)C" } : Jvm.MethodName) method_4_code (1 : Nat) (Option.some Jvm.ClassFile.FieldType.char)).before args0 about1 = true := code_word (m := ⟨1, 3⟩) (meth := k1m3) (c := k1c3) (by decide +kernel) rfl rfl rfl (by decide +kernel)
def codes1 : List Jvm.Cond := [Jvm.Cond.code x code maxLocals ret, Jvm.Cond.code ({ cls := "java/lang/String", name := "<init>", desc := "([C)V" } : Jvm.MethodName) jdk_42_method_3_code (2 : Nat) (Option.none : Option Jvm.ClassFile.FieldType), Jvm.Cond.code ({ cls := "java/lang/String", name := "<init>", desc := "([CIILjava/lang/Void;)V" } : Jvm.MethodName) jdk_42_method_149_code (6 : Nat) (Option.none : Option Jvm.ClassFile.FieldType), Jvm.Cond.code ({ cls := "java/lang/Object", name := "<init>", desc := "()V" } : Jvm.MethodName) object_method_1_code (1 : Nat) (Option.none : Option Jvm.ClassFile.FieldType), Jvm.Cond.code ({ cls := "com/example/tabane/tabane/http/RequestHead", name := "queryForm", desc := "(Ljava/lang/String;)Ljava/lang/String;" } : Jvm.MethodName) prog_24_method_10_code (4 : Nat) (Option.some (Jvm.ClassFile.FieldType.object "java/lang/String")), Jvm.Cond.code ({ cls := "java/lang/String", name := "length", desc := "()I" } : Jvm.MethodName) jdk_42_method_54_code (1 : Nat) (Option.some Jvm.ClassFile.FieldType.int), Jvm.Cond.code ({ cls := "java/lang/String", name := "coder", desc := "()B" } : Jvm.MethodName) jdk_42_method_152_code (1 : Nat) (Option.some Jvm.ClassFile.FieldType.byte), Jvm.Cond.code ({ cls := "java/lang/StringBuilder", name := "<init>", desc := "(I)V" } : Jvm.MethodName) jdk_67_method_2_code (2 : Nat) (Option.none : Option Jvm.ClassFile.FieldType), Jvm.Cond.code ({ cls := "java/lang/AbstractStringBuilder", name := "<init>", desc := "(I)V" } : Jvm.MethodName) jdk_68_method_2_code (2 : Nat) (Option.none : Option Jvm.ClassFile.FieldType), Jvm.Cond.code ({ cls := "java/lang/StringBuilder", name := "toString", desc := "()Ljava/lang/String;" } : Jvm.MethodName) jdk_67_method_42_code (1 : Nat) (Option.some (Jvm.ClassFile.FieldType.object "java/lang/String")), Jvm.Cond.code ({ cls := "java/lang/String", name := "<init>", desc := "(Ljava/lang/StringBuilder;)V" } : Jvm.MethodName) jdk_42_method_53_code (2 : Nat) (Option.none : Option Jvm.ClassFile.FieldType), Jvm.Cond.code ({ cls := "java/lang/String", name := "<init>", desc := "(Ljava/lang/AbstractStringBuilder;Ljava/lang/Void;)V" } : Jvm.MethodName) jdk_42_method_150_code (5 : Nat) (Option.none : Option Jvm.ClassFile.FieldType), Jvm.Cond.code ({ cls := "java/lang/AbstractStringBuilder", name := "getValue", desc := "()[B" } : Jvm.MethodName) jdk_68_method_64_code (1 : Nat) (Option.some (Jvm.ClassFile.FieldType.array Jvm.ClassFile.FieldType.byte)), Jvm.Cond.code ({ cls := "java/lang/StringBuilder", name := "length", desc := "()I" } : Jvm.MethodName) jdk_67_method_93_code (1 : Nat) (Option.some Jvm.ClassFile.FieldType.int), Jvm.Cond.code ({ cls := "java/lang/AbstractStringBuilder", name := "length", desc := "()I" } : Jvm.MethodName) jdk_68_method_6_code (1 : Nat) (Option.some Jvm.ClassFile.FieldType.int), Jvm.Cond.code ({ cls := "java/lang/AbstractStringBuilder", name := "isLatin1", desc := "()Z" } : Jvm.MethodName) jdk_68_method_68_code (1 : Nat) (Option.some Jvm.ClassFile.FieldType.boolean), Jvm.Cond.code ({ cls := "java/util/Arrays", name := "copyOfRange", desc := "([BII)[B" } : Jvm.MethodName) jdk_65_method_132_code (3 : Nat) (Option.some (Jvm.ClassFile.FieldType.array Jvm.ClassFile.FieldType.byte)), Jvm.Cond.code ({ cls := "java/util/Arrays", name := "copyOfRangeByte", desc := "([BII)[B" } : Jvm.MethodName) jdk_65_method_133_code (5 : Nat) (Option.some (Jvm.ClassFile.FieldType.array Jvm.ClassFile.FieldType.byte)), Jvm.Cond.code ({ cls := "java/util/Arrays", name := "checkLength", desc := "(II)V" } : Jvm.MethodName) jdk_65_method_131_code (2 : Nat) (Option.none : Option Jvm.ClassFile.FieldType), Jvm.Cond.code ({ cls := "java/lang/Math", name := "min", desc := "(II)I" } : Jvm.MethodName) jdk_29_method_69_code (2 : Nat) (Option.some Jvm.ClassFile.FieldType.int), Jvm.Cond.code ({ cls := "java/lang/StringUTF16", name := "compress", desc := "([CII)[B" } : Jvm.MethodName) jdk_52_method_16_code (6 : Nat) (Option.some (Jvm.ClassFile.FieldType.array Jvm.ClassFile.FieldType.byte)), Jvm.Cond.code ({ cls := "java/lang/StringUTF16", name := "compress", desc := "([CI[BII)I" } : Jvm.MethodName) jdk_52_method_21_code (7 : Nat) (Option.some Jvm.ClassFile.FieldType.int), Jvm.Cond.code ({ cls := "java/lang/StringUTF16", name := "coderFromArrayLen", desc := "([BI)B" } : Jvm.MethodName) jdk_52_method_15_code (2 : Nat) (Option.some Jvm.ClassFile.FieldType.byte), Jvm.Cond.code ({ cls := "java/lang/String", name := "charAt", desc := "(I)C" } : Jvm.MethodName) jdk_42_method_56_code (2 : Nat) (Option.some Jvm.ClassFile.FieldType.char), Jvm.Cond.code ({ cls := "java/lang/String", name := "isLatin1", desc := "()Z" } : Jvm.MethodName) jdk_42_method_154_code (1 : Nat) (Option.some Jvm.ClassFile.FieldType.boolean), Jvm.Cond.code ({ cls := "java/lang/StringLatin1", name := "charAt", desc := "([BI)C" } : Jvm.MethodName) jdk_43_method_2_code (2 : Nat) (Option.some Jvm.ClassFile.FieldType.char), Jvm.Cond.code ({ cls := "java/lang/String", name := "checkIndex", desc := "(II)V" } : Jvm.MethodName) jdk_42_method_155_code (2 : Nat) (Option.none : Option Jvm.ClassFile.FieldType), Jvm.Cond.code ({ cls := "jdk/internal/util/Preconditions", name := "checkIndex", desc := "(IILjava/util/function/BiFunction;)I" } : Jvm.MethodName) jdk_41_method_11_code (3 : Nat) (Option.some Jvm.ClassFile.FieldType.int), Jvm.Cond.code ({ cls := "java/lang/StringBuilder", name := "append", desc := "(C)Ljava/lang/StringBuilder;" } : Jvm.MethodName) jdk_67_method_14_code (2 : Nat) (Option.some (Jvm.ClassFile.FieldType.object "java/lang/StringBuilder")), Jvm.Cond.code ({ cls := "java/lang/AbstractStringBuilder", name := "append", desc := "(C)Ljava/lang/AbstractStringBuilder;" } : Jvm.MethodName) jdk_68_method_31_code (2 : Nat) (Option.some (Jvm.ClassFile.FieldType.object "java/lang/AbstractStringBuilder")), Jvm.Cond.code ({ cls := "java/lang/AbstractStringBuilder", name := "ensureCapacityInternal", desc := "(I)V" } : Jvm.MethodName) jdk_68_method_9_code (3 : Nat) (Option.none : Option Jvm.ClassFile.FieldType), Jvm.Cond.code ({ cls := "java/lang/StringLatin1", name := "canEncode", desc := "(C)Z" } : Jvm.MethodName) jdk_43_method_3_code (1 : Nat) (Option.some Jvm.ClassFile.FieldType.boolean), Jvm.Cond.code ({ cls := "com/example/tabane/tabane/http/RequestHeadQueryFormPinLaw", name := "width", desc := "(C)I" } : Jvm.MethodName) method_3_code (1 : Nat) (Option.some Jvm.ClassFile.FieldType.int), Jvm.Cond.code ({ cls := "com/example/tabane/tabane/http/RequestHeadQueryFormPinLaw", name := "at", desc := "(Ljava/lang/String;IC)Z" } : Jvm.MethodName) method_5_code (3 : Nat) (Option.some Jvm.ClassFile.FieldType.boolean), Jvm.Cond.code ({ cls := "com/example/tabane/tabane/http/RequestHead", name := "appendEscape", desc := "(Ljava/lang/StringBuilder;C)V" } : Jvm.MethodName) prog_24_method_11_code (2 : Nat) (Option.none : Option Jvm.ClassFile.FieldType), Jvm.Cond.code ({ cls := "com/example/tabane/tabane/http/RequestHeadQueryFormPinLaw", name := "hex", desc := "(I)C" } : Jvm.MethodName) method_4_code (1 : Nat) (Option.some Jvm.ClassFile.FieldType.char)]
set_option maxRecDepth 65536 in
theorem codes_eq : words1.filter isCode = codes1 := rfl
theorem w_codes : ∀ c ∈ words1.filter isCode, c.before args0 about1 = true := by
  rw [codes_eq]
  intro c hc
  simp only [codes1, List.mem_cons, List.not_mem_nil, or_false] at hc
  rcases hc with rfl | rfl | rfl | rfl | rfl | rfl | rfl | rfl | rfl | rfl | rfl | rfl | rfl | rfl | rfl | rfl | rfl | rfl | rfl | rfl | rfl | rfl | rfl | rfl | rfl | rfl | rfl | rfl | rfl | rfl | rfl | rfl | rfl | rfl | rfl | rfl
  · exact w_c0
  · exact w_c1
  · exact w_c2
  · exact w_c3
  · exact w_c4
  · exact w_c5
  · exact w_c6
  · exact w_c7
  · exact w_c8
  · exact w_c9
  · exact w_c10
  · exact w_c11
  · exact w_c12
  · exact w_c13
  · exact w_c14
  · exact w_c15
  · exact w_c16
  · exact w_c17
  · exact w_c18
  · exact w_c19
  · exact w_c20
  · exact w_c21
  · exact w_c22
  · exact w_c23
  · exact w_c24
  · exact w_c25
  · exact w_c26
  · exact w_c27
  · exact w_c28
  · exact w_c29
  · exact w_c30
  · exact w_c31
  · exact w_c32
  · exact w_c33
  · exact w_c34
  · exact w_c35
set_option maxRecDepth 65536 in
theorem w_t1 : (words1.take 24).all (fun c => isCode c || c.before args0 about1) = true := by decide +kernel
set_option maxRecDepth 65536 in
theorem w_t2 : ((words1.drop 24).take 24).all (fun c => isCode c || c.before args0 about1) = true := by decide +kernel
set_option maxRecDepth 65536 in
theorem w_t3 : (((words1.drop 24).drop 24).take 24).all (fun c => isCode c || c.before args0 about1) = true := by decide +kernel
set_option maxRecDepth 65536 in
theorem w_t4 : ((((words1.drop 24).drop 24).drop 24).take 24).all (fun c => isCode c || c.before args0 about1) = true := by decide +kernel
set_option maxRecDepth 65536 in
theorem w_t5 : (((((words1.drop 24).drop 24).drop 24).drop 24).take 24).all (fun c => isCode c || c.before args0 about1) = true := by decide +kernel
set_option maxRecDepth 65536 in
theorem w_t6 : ((((((words1.drop 24).drop 24).drop 24).drop 24).drop 24).take 24).all (fun c => isCode c || c.before args0 about1) = true := by decide +kernel
set_option maxRecDepth 65536 in
theorem w_t7 : (((((((words1.drop 24).drop 24).drop 24).drop 24).drop 24).drop 24).take 24).all (fun c => isCode c || c.before args0 about1) = true := by decide +kernel
set_option maxRecDepth 65536 in
theorem w_t8 : (((((((words1.drop 24).drop 24).drop 24).drop 24).drop 24).drop 24).drop 24).all (fun c => isCode c || c.before args0 about1) = true := by decide +kernel
theorem w_tables : (allAtoms (Jvm.Cond.code x code maxLocals ret :: tables_1)).before args0 about1 = true := by
  rw [allAtoms_all]
  show words1.all (fun c => c.before args0 about1) = true
  refine all_split ?_ w_codes
  rw [← List.take_append_drop 24 words1, List.all_append, w_t1, ← List.take_append_drop 24 (words1.drop 24), List.all_append, w_t2, ← List.take_append_drop 24 ((words1.drop 24).drop 24), List.all_append, w_t3, ← List.take_append_drop 24 (((words1.drop 24).drop 24).drop 24), List.all_append, w_t4, ← List.take_append_drop 24 ((((words1.drop 24).drop 24).drop 24).drop 24), List.all_append, w_t5, ← List.take_append_drop 24 (((((words1.drop 24).drop 24).drop 24).drop 24).drop 24), List.all_append, w_t6, ← List.take_append_drop 24 ((((((words1.drop 24).drop 24).drop 24).drop 24).drop 24).drop 24), List.all_append, w_t7, w_t8]
  rfl
set_option maxRecDepth 65536 in
theorem w_rest : rest_1_c.before args0 about1 = true := by decide +kernel
set_option maxRecDepth 65536 in
theorem w_case : (Jvm.Cond.and given_1 narrow_1).before args0 about1 = true := by decide +kernel
set_option maxRecDepth 65536 in
theorem w_consts : constsHeld consts_1 about1 := Jvm.Lit.constsHeldB_iff.mp (by decide +kernel)
theorem w_applies : (headSpec (Jvm.Cond.code x code maxLocals ret :: tables_1) room_1).applies x e0.platform about1 = true :=
  (Spec.applies_iff w_frames).mpr ⟨w_running, w_runnable, w_alone, w_named, w_hears, w_ripe, w_room, w_tables⟩
theorem atStart : AtStart classFile x code maxLocals ret World_1 tables_1 room_1 Calls_1 rest_1 Pre_1 launch0 p0 e0 about1 theMethod args0 below0 :=
  ⟨lists_1, trivial, launch0.admits_env _ _ _, launch0.least_env, fairChoices_fair.cas, fairChoices_fair.clock, w_frames, w_args, w_heap, w_applies, ⟨w_consts, trivial⟩, w_rest, w_case⟩
end start1
theorem witness_1 : WitnessClaimed_1 := ⟨start1.p0, start1.e0, start1.about1, start1.theMethod, start1.args0, start1.below0, start1.atStart⟩
end Jvm.Pilot.@@N@@
