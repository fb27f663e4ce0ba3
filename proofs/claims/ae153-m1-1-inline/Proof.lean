import JvmDerived
import JvmDerived.Pilot.@@N@@Statement
import JvmDerived.Pilot.@@N@@Code
set_option linter.unusedVariables false
set_option linter.unusedSimpArgs false
/-! OWN FRAMEWORK, part 1: a walk as one predicate 'Go' (the machine's state hidden), contracts 'Met'. -/
namespace Jvm.Pilot.@@N@@
namespace Own
open Jvm Jvm.ClassFile Sem Op Lib Jvm.Free Jvm.Stand Jvm.LawKit Jvm.RoadKit
/-- what one run of a body fixes: program, env, start, method id, arguments, frames below, method, code -/
abbrev Cx := Program × Env × State × MethodId × Array Value × List Frame × Method × Code
abbrev QT := Option Value → Heap → List Addr → Prop
/-- the words of the sheet, of the start Z -/
def Wd (Z : State) (a0 : Array Value) : Prop := (∀ d ∈ tables_1, d.before a0 Z = true) ∧ EW Z a0 consts_1 ∧ (∀ a ∈ Bundle.stringAtoms, a.before a0 Z = true) ∧ (∃ cz : Int32, Sta Z Z.heap "java/lang/String" "COMPACT_STRINGS" "Z" (.int cz) ∧ ¬ cz = 0) ∧ (∃ fm : Value, Sta Z Z.heap "jdk/internal/util/Preconditions" "SIOOBE_FORMATTER" "Ljava/util/function/BiFunction;" fm ∧ fm.isRef = true) ∧ (∀ d ∈ jdkStatics_1, d.before a0 Z = true)
/-- made since the law began, and no cell of a booked literal -/
def Mine (Z : State) (vm : Vm) (h : Heap) (x : Addr) : Prop := Z.heap.size ≤ x ∧ x < h.size ∧ Safe Z consts_1 vm h x
def St (l : Launch) (Z : State) (K : Cx) (own mn : String) (b : ByteArray) (ml : Nat) (rt : Option FieldType) (R : Room) (T : State) (h : Heap) (F : List Addr) (c s : Nat) : Prop :=
  ∃ (vm : Vm) (k : Nat) (locs : List Loc), Stand K.1 l K.2.1 R (K.2.2.1.setVm vm) K.2.2.2.1 K.2.2.2.2.1 K.2.2.2.2.2.1 K.2.2.2.2.2.2.1 K.2.2.2.2.2.2.2 T locs c s ∧ T.heap = h ∧
    K.2.2.1.Since vm k ∧ k ≤ h.size ∧ Z.Warmed39 vm ∧ vm.findClass own = some K.2.2.2.1.cls ∧ Fr Z.heap.size locs ∧ CHr Z consts_1 K.2.2.1.vm K.2.2.1.heap vm h ∧ (∀ x ∈ F, Mine Z vm h x) ∧ Old Z Z.heap.size h ∧
    K.1.tables.exec = Jvm.exec ∧ K.2.2.2.2.2.2.2.code = b ∧ K.2.2.2.2.2.2.2.maxLocals = ml ∧ K.2.2.2.2.2.2.1.sig.returnType = rt ∧ K.2.2.2.2.2.2.1.name = mn ∧ K.2.2.2.2.2.2.1.locks = false
def End (Z : State) (s : State) (R : Room) (Q : QT) (o : Outcome) (U : State) : Prop :=
  ∃ v L G, o = .returned v ∧ Q v U.heap G ∧ Fr Z.heap.size L ∧ (∀ x ∈ G, Mine Z U.vm U.heap x) ∧ CHr Z consts_1 s.vm s.heap U.vm U.heap ∧ Old Z Z.heap.size U.heap ∧ ReturnedEndW s o U L R.cells R.slots
def Go (l : Launch) (Z : State) (K : Cx) (own mn : String) (b : ByteArray) (ml : Nat) (rt : Option FieldType) (R : Room) (Q : QT) (h : Heap) (F : List Addr) (c s : Nat) (pc : Nat) (L : Array Slot) (S : List Value) : Prop :=
  ∀ T, St l Z K own mn b ml rt R T h F c s → ∃ s₂ o, Steps K.1.tables K.2.1 K.2.2.2.2.2.1 (T.setTop (mkF K.2.2.2.1 pc L S)) s₂ ∧ s₂.status = .running ∧ Ended s₂ K.2.2.2.2.2.1 o ∧ End Z K.2.2.1 R Q o s₂
/-- a body's contract -/
def Met (l : Launch) (Z : State) (y : MethodName) (b : ByteArray) (ml : Nat) (rt : Option FieldType) (R : Room) (h0 : Heap) (F : List Addr) (as : Array Value) (Q : QT) : Prop :=
  MetFree l y (head1 [Cond.code y b ml rt] R) (fun a U => a = as ∧ Z.Warmed39 U.vm ∧ U.heap = h0 ∧ CHv Z consts_1 U.vm h0 ∧ (∀ x ∈ F, Mine Z U.vm h0 x) ∧ Old Z Z.heap.size h0) (fun _ _ _ _ _ => True) (fun _ U o U' => End Z U R Q o U')
section G
variable {l : Launch} {Z : State} {a0 : Array Value} {K : Cx} {own mn : String} {b : ByteArray} {ml : Nat} {rt : Option FieldType} {R : Room} {Q : QT} {h h' : Heap} {F : List Addr} {c s pc q : Nat} {L L' : Array Slot} {S S' : List Value}
theorem Met.mk {y : MethodName} {as : Array Value} (hp : plainFor y = true) (he : ∀ m, entryFrame m as ml = mkF m 0 L []) (w : ∀ K, Go l Z K y.cls y.name b ml rt R Q h F 0 0 0 L []) : Met l Z y b ml rt R h F as Q := by
  refine MetFree.of_bodySF hp hisR ?_
  intro p e s m args below meth c s₁ Bd hml hP hK
  obtain ⟨rfl, hZ, hh, hC, hF, hO⟩ := hP
  have hst : s₁.heap = h := by rw [← hh, Bd.state]; rfl
  have X0 : Stand p l e R s m args below meth c s₁ [] 0 0 := Stand.of_body Bd
  obtain ⟨s₂, o, h1, h2, h3, h4⟩ := w (p, e, s, m, args, below, meth, c) s₁ ⟨s.vm, 0, [], X0, hst, ⟨State.Warmed39.refl _, (State.WarmedH.refl s).no_new_pair _⟩, Nat.zero_le _, hZ, findClass_of_methodNamed Bd.named, Fr.nil _, by
    show CHr Z consts_1 s.vm s.heap s.vm h
    rw [hh]; exact CHr.refl hC, hF, hO, Bd.exec, Bd.bytes, hml, Bd.returns, (name_of_methodNamed Bd.named Bd.method).1, Bd.notSynchronized⟩
  exact ⟨s₂, o, by rw [he]; exact h1, h2, h3, h4⟩
/-- the law's own contract, over the sheet's words -/
def MetL (l : Launch) (Z : State) (y : MethodName) (b : ByteArray) (ml : Nat) (rt : Option FieldType) (R : Room) (h0 : Heap) (F : List Addr) (as : Array Value) (Q : QT) : Prop :=
  MetFree l y (head1 (Cond.code y b ml rt :: tables_1) R) (fun a U => a = as ∧ Z.Warmed39 U.vm ∧ U.heap = h0 ∧ CHv Z consts_1 U.vm h0 ∧ (∀ x ∈ F, Mine Z U.vm h0 x) ∧ Old Z Z.heap.size h0) (fun _ _ _ _ _ => True) (fun _ U o U' => End Z U R Q o U')
theorem MetL.mk {y : MethodName} {as : Array Value} (hp : plainFor y = true) (he : ∀ m, entryFrame m as ml = mkF m 0 L []) (w : ∀ K, Go l Z K y.cls y.name b ml rt R Q h F 0 0 0 L []) : MetL l Z y b ml rt R h F as Q := by
  refine MetFree.of_bodySF hp hisR ?_
  intro p e s m args below meth c s₁ Bd hml hP hK
  obtain ⟨rfl, hZ, hh, hC, hF, hO⟩ := hP
  have hst : s₁.heap = h := by rw [← hh, Bd.state]; rfl
  have X0 : Stand p l e R s m args below meth c s₁ [] 0 0 := Stand.of_body Bd
  obtain ⟨s₂, o, h1, h2, h3, h4⟩ := w (p, e, s, m, args, below, meth, c) s₁ ⟨s.vm, 0, [], X0, hst, ⟨State.Warmed39.refl _, (State.WarmedH.refl s).no_new_pair _⟩, Nat.zero_le _, hZ, findClass_of_methodNamed Bd.named, Fr.nil _, by
    show CHr Z consts_1 s.vm s.heap s.vm h
    rw [hh]; exact CHr.refl hC, hF, hO, Bd.exec, Bd.bytes, hml, Bd.returns, (name_of_methodNamed Bd.named Bd.method).1, Bd.notSynchronized⟩
  exact ⟨s₂, o, by rw [he]; exact h1, h2, h3, h4⟩
theorem go_of (st : ∀ T, St l Z K own mn b ml rt R T h F c s → ∀ t, Steps K.1.tables K.2.1 K.2.2.2.2.2.1 (T.setTop (mkF K.2.2.2.1 q L' S')) t → Steps K.1.tables K.2.1 K.2.2.2.2.2.1 (T.setTop (mkF K.2.2.2.1 pc L S)) t)
    (n : Go l Z K own mn b ml rt R Q h F c s q L' S') : Go l Z K own mn b ml rt R Q h F c s pc L S := fun T X => by
  obtain ⟨s₂, o, a, r⟩ := n T X
  exact ⟨s₂, o, st T X _ a, r⟩
/-- the facts at hand may be fewer; the counts higher -/
theorem go_less {F' : List Addr} {c' s' : Nat} (hF : ∀ x ∈ F', x ∈ F) (hc : c ≤ c') (hs : s ≤ s') (n : Go l Z K own mn b ml rt R Q h F' c' s' pc L S) : Go l Z K own mn b ml rt R Q h F c s pc L S := fun T X => by
  obtain ⟨vm, k, locs, Y, r1, r2, r3, r4, r5, r6, r7, r8, r9⟩ := X
  exact n T ⟨vm, k, locs, Y.mono hc hs, r1, r2, r3, r4, r5, r6, r7, fun x hx => r8 x (hF x hx), r9⟩
/-- an object of a class of its own, made since the law began, may be written -/
theorem go_claim {x : Addr} {C : String} (E : Exa Z h x C) (hC : C ≠ "java/lang/String" ∧ C ≠ "[B") (hx : Z.heap.size ≤ x) (n : Go l Z K own mn b ml rt R Q h (x :: F) c s pc L S) : Go l Z K own mn b ml rt R Q h F c s pc L S := fun T X => by
  obtain ⟨vm, k, locs, Y, r1, r2, r3, r4, r5, r6, r7, r8, r9⟩ := X
  exact n T ⟨vm, k, locs, Y, r1, r2, r3, r4, r5, r6, r7, allS ⟨hx, E.lt, Safe.exa r4.alike E hC.1 hC.2⟩ r8, r9⟩
theorem go_claimA {x : Addr} {k : ClassId} {ty : FieldType} {z : Int32} {vs : List Value} {dv : Value} (E : Arv Z h x k ty z vs dv) (hC : ty ≠ .byte) (hx : Z.heap.size ≤ x) (n : Go l Z K own mn b ml rt R Q h (x :: F) c s pc L S) : Go l Z K own mn b ml rt R Q h F c s pc L S := fun T X => by
  obtain ⟨vm, k, locs, Y, r1, r2, r3, r4, r5, r6, r7, r8, r9⟩ := X
  obtain ⟨cl, A, -⟩ := id E
  exact n T ⟨vm, k, locs, Y, r1, r2, r3, r4, r5, r6, r7, allS ⟨hx, E.lt, Safe.arr r4.alike A hC⟩ r8, r9⟩
/-- what is mine lies in the heap and above the start -/
theorem go_mine (n : (∀ x ∈ F, Z.heap.size ≤ x ∧ x < h.size) → Old Z Z.heap.size h → Go l Z K own mn b ml rt R Q h F c s pc L S) : Go l Z K own mn b ml rt R Q h F c s pc L S := fun T X => by
  obtain ⟨vm, k, locs, Y, r1, r2, r3, r4, r5, r6, r7, r8, r9⟩ := id X
  exact n (fun x hx => ⟨(r8 x hx).1, (r8 x hx).2.1⟩) r9.1 T X
/-! ### the plain steps -/
theorem go_aloadN {k : Fin 4} {v : Value} (hd : decode b pc = .ok (.aload_n k, 1)) (hl : L[k.val]? = some (.val v)) (hv : v.isRef = true) (hq : pc + 1 = q) (n : Go l Z K own mn b ml rt R Q h F c s q L (v :: S)) : Go l Z K own mn b ml rt R Q h F c s pc L S := by
  subst hq; exact go_of (fun T X t st => by obtain ⟨vm, k, locs, Y, r1, r2, r3, r4, r5, r6, r7, r8, r9, hx, hb', r⟩ := X; exact XS.aloadN Y.here hx rfl (hb hb' hd) hl hv st) n
theorem go_aload {k : Nat} {v : Value} (hd : decode b pc = .ok (.aload k, 2)) (hl : L[k]? = some (.val v)) (hv : v.isRef = true) (hq : pc + 2 = q) (n : Go l Z K own mn b ml rt R Q h F c s q L (v :: S)) : Go l Z K own mn b ml rt R Q h F c s pc L S := by
  subst hq; exact go_of (fun T X t st => by obtain ⟨vm, k, locs, Y, r1, r2, r3, r4, r5, r6, r7, r8, r9, hx, hb', r⟩ := X; exact XS.aload Y.here hx rfl (hb hb' hd) hl hv st) n
theorem go_iloadN {k : Fin 4} {v : Int32} (hd : decode b pc = .ok (.iload_n k, 1)) (hl : L[k.val]? = some (.val (.int v))) (hq : pc + 1 = q) (n : Go l Z K own mn b ml rt R Q h F c s q L (.int v :: S)) : Go l Z K own mn b ml rt R Q h F c s pc L S := by
  subst hq; exact go_of (fun T X t st => by obtain ⟨vm, k, locs, Y, r1, r2, r3, r4, r5, r6, r7, r8, r9, hx, hb', r⟩ := X; exact XS.iloadN Y.here hx rfl (hb hb' hd) hl st) n
theorem go_iload {k : Nat} {v : Int32} (hd : decode b pc = .ok (.iload k, 2)) (hl : L[k]? = some (.val (.int v))) (hq : pc + 2 = q) (n : Go l Z K own mn b ml rt R Q h F c s q L (.int v :: S)) : Go l Z K own mn b ml rt R Q h F c s pc L S := by
  subst hq; exact go_of (fun T X t st => by obtain ⟨vm, k, locs, Y, r1, r2, r3, r4, r5, r6, r7, r8, r9, hx, hb', r⟩ := X; exact XS.iload Y.here hx rfl (hb hb' hd) hl st) n
theorem go_lloadN {k : Fin 4} {v : Int64} (hd : decode b pc = .ok (.lload_n k, 1)) (hl : L[k.val]? = some (.val (.long v))) (hq : pc + 1 = q) (n : Go l Z K own mn b ml rt R Q h F c s q L (.long v :: S)) : Go l Z K own mn b ml rt R Q h F c s pc L S := by
  subst hq; exact go_of (fun T X t st => by obtain ⟨vm, k, locs, Y, r1, r2, r3, r4, r5, r6, r7, r8, r9, hx, hb', r⟩ := X; exact XS.lloadN Y.here hx rfl (hb hb' hd) hl st) n
theorem go_lload {k : Nat} {v : Int64} (hd : decode b pc = .ok (.lload k, 2)) (hl : L[k]? = some (.val (.long v))) (hq : pc + 2 = q) (n : Go l Z K own mn b ml rt R Q h F c s q L (.long v :: S)) : Go l Z K own mn b ml rt R Q h F c s pc L S := by
  subst hq; exact go_of (fun T X t st => by obtain ⟨vm, k, locs, Y, r1, r2, r3, r4, r5, r6, r7, r8, r9, hx, hb', r⟩ := X; exact XS.lload Y.here hx rfl (hb hb' hd) hl st) n
theorem go_iconst {i : Int} {x : Int32} (hd : decode b pc = .ok (.iconst i, 1)) (hv : Int32.ofInt i = x) (hq : pc + 1 = q) (n : Go l Z K own mn b ml rt R Q h F c s q L (.int x :: S)) : Go l Z K own mn b ml rt R Q h F c s pc L S := by
  subst hq hv; exact go_of (fun T X t st => by obtain ⟨vm, k, locs, Y, r1, r2, r3, r4, r5, r6, r7, r8, r9, hx, hb', r⟩ := X; exact XS.iconst Y.here hx rfl (hb hb' hd) st) n
theorem go_bipush {i : Int} {x : Int32} (hd : decode b pc = .ok (.bipush i, 2)) (hv : (Int8.ofInt i).toInt32 = x) (hq : pc + 2 = q) (n : Go l Z K own mn b ml rt R Q h F c s q L (.int x :: S)) : Go l Z K own mn b ml rt R Q h F c s pc L S := by
  subst hq hv; exact go_of (fun T X t st => by obtain ⟨vm, k, locs, Y, r1, r2, r3, r4, r5, r6, r7, r8, r9, hx, hb', r⟩ := X; exact XS.bipush Y.here hx rfl (hb hb' hd) st) n
theorem go_sipush {i : Int} {x : Int32} (hd : decode b pc = .ok (.sipush i, 3)) (hv : (Int16.ofInt i).toInt32 = x) (hq : pc + 3 = q) (n : Go l Z K own mn b ml rt R Q h F c s q L (.int x :: S)) : Go l Z K own mn b ml rt R Q h F c s pc L S := by
  subst hq hv; exact go_of (fun T X t st => by obtain ⟨vm, k, locs, Y, r1, r2, r3, r4, r5, r6, r7, r8, r9, hx, hb', r⟩ := X; exact XS.sipush Y.here hx rfl (hb hb' hd) st) n
theorem go_lconst {k : Fin 2} {x : Int64} (hd : decode b pc = .ok (.lconst k, 1)) (hv : Int64.ofNat k = x) (hq : pc + 1 = q) (n : Go l Z K own mn b ml rt R Q h F c s q L (.long x :: S)) : Go l Z K own mn b ml rt R Q h F c s pc L S := by
  subst hq hv; exact go_of (fun T X t st => by obtain ⟨vm, k, locs, Y, r1, r2, r3, r4, r5, r6, r7, r8, r9, hx, hb', r⟩ := X; exact XS.lconst Y.here hx rfl (hb hb' hd) st) n
theorem go_null (hd : decode b pc = .ok (.aconst_null, 1)) (hq : pc + 1 = q) (n : Go l Z K own mn b ml rt R Q h F c s q L (.null :: S)) : Go l Z K own mn b ml rt R Q h F c s pc L S := by
  subst hq; exact go_of (fun T X t st => by obtain ⟨vm, k, locs, Y, r1, r2, r3, r4, r5, r6, r7, r8, r9, hx, hb', r⟩ := X; exact XS.aconstNull Y.here hx rfl (hb hb' hd) st) n
theorem go_iadd {x : Int32} {y : Int32} {r : Int32} (hd : decode b pc = .ok (.iadd, 1)) (hr : x + y = r) (hq : pc + 1 = q) (n : Go l Z K own mn b ml rt R Q h F c s q L (.int r :: S)) : Go l Z K own mn b ml rt R Q h F c s pc L (.int y :: .int x :: S) := by
  subst hq hr; exact go_of (fun T X t st => by obtain ⟨vm, k, locs, Y, r1, r2, r3, r4, r5, r6, r7, r8, r9, hx, hb', rr⟩ := X; exact XS.iadd Y.here hx rfl (hb hb' hd) rfl st) n
theorem go_isub {x : Int32} {y : Int32} {r : Int32} (hd : decode b pc = .ok (.isub, 1)) (hr : x - y = r) (hq : pc + 1 = q) (n : Go l Z K own mn b ml rt R Q h F c s q L (.int r :: S)) : Go l Z K own mn b ml rt R Q h F c s pc L (.int y :: .int x :: S) := by
  subst hq hr; exact go_of (fun T X t st => by obtain ⟨vm, k, locs, Y, r1, r2, r3, r4, r5, r6, r7, r8, r9, hx, hb', rr⟩ := X; exact XS.isub Y.here hx rfl (hb hb' hd) rfl st) n
theorem go_iand {x : Int32} {y : Int32} {r : Int32} (hd : decode b pc = .ok (.iand, 1)) (hr : x &&& y = r) (hq : pc + 1 = q) (n : Go l Z K own mn b ml rt R Q h F c s q L (.int r :: S)) : Go l Z K own mn b ml rt R Q h F c s pc L (.int y :: .int x :: S) := by
  subst hq hr; exact go_of (fun T X t st => by obtain ⟨vm, k, locs, Y, r1, r2, r3, r4, r5, r6, r7, r8, r9, hx, hb', rr⟩ := X; exact XS.iand Y.here hx rfl (hb hb' hd) rfl st) n
theorem go_imul {x : Int32} {y : Int32} {r : Int32} (hd : decode b pc = .ok (.imul, 1)) (hr : x * y = r) (hq : pc + 1 = q) (n : Go l Z K own mn b ml rt R Q h F c s q L (.int r :: S)) : Go l Z K own mn b ml rt R Q h F c s pc L (.int y :: .int x :: S) := by
  subst hq hr; exact go_of (fun T X t st => by obtain ⟨vm, k, locs, Y, r1, r2, r3, r4, r5, r6, r7, r8, r9, hx, hb', rr⟩ := X; exact XS.imul Y.here hx rfl (hb hb' hd) rfl st) n
theorem go_ixor {x : Int32} {y : Int32} {r : Int32} (hd : decode b pc = .ok (.ixor, 1)) (hr : x ^^^ y = r) (hq : pc + 1 = q) (n : Go l Z K own mn b ml rt R Q h F c s q L (.int r :: S)) : Go l Z K own mn b ml rt R Q h F c s pc L (.int y :: .int x :: S) := by
  subst hq hr; exact go_of (fun T X t st => by obtain ⟨vm, k, locs, Y, r1, r2, r3, r4, r5, r6, r7, r8, r9, hx, hb', rr⟩ := X; exact XT.ixor Y.here hx rfl (hb hb' hd) rfl st) n
theorem go_ior {x : Int32} {y : Int32} {r : Int32} (hd : decode b pc = .ok (.ior, 1)) (hr : x ||| y = r) (hq : pc + 1 = q) (n : Go l Z K own mn b ml rt R Q h F c s q L (.int r :: S)) : Go l Z K own mn b ml rt R Q h F c s pc L (.int y :: .int x :: S) := by
  subst hq hr; exact go_of (fun T X t st => by obtain ⟨vm, k, locs, Y, r1, r2, r3, r4, r5, r6, r7, r8, r9, hx, hb', rr⟩ := X; exact XT.ior Y.here hx rfl (hb hb' hd) rfl st) n
theorem go_ishl {x : Int32} {y : Int32} {r : Int32} (hd : decode b pc = .ok (.ishl, 1)) (hr : x <<< (y &&& 31) = r) (hq : pc + 1 = q) (n : Go l Z K own mn b ml rt R Q h F c s q L (.int r :: S)) : Go l Z K own mn b ml rt R Q h F c s pc L (.int y :: .int x :: S) := by
  subst hq hr; exact go_of (fun T X t st => by obtain ⟨vm, k, locs, Y, r1, r2, r3, r4, r5, r6, r7, r8, r9, hx, hb', rr⟩ := X; exact XT.ishl Y.here hx rfl (hb hb' hd) rfl st) n
theorem go_ishr {x : Int32} {y : Int32} {r : Int32} (hd : decode b pc = .ok (.ishr, 1)) (hr : x >>> (y &&& 31) = r) (hq : pc + 1 = q) (n : Go l Z K own mn b ml rt R Q h F c s q L (.int r :: S)) : Go l Z K own mn b ml rt R Q h F c s pc L (.int y :: .int x :: S) := by
  subst hq hr; exact go_of (fun T X t st => by obtain ⟨vm, k, locs, Y, r1, r2, r3, r4, r5, r6, r7, r8, r9, hx, hb', rr⟩ := X; exact XT.ishr Y.here hx rfl (hb hb' hd) rfl st) n
theorem go_iushr {x : Int32} {y : Int32} {r : Int32} (hd : decode b pc = .ok (.iushr, 1)) (hr : XT.ushr x y = r) (hq : pc + 1 = q) (n : Go l Z K own mn b ml rt R Q h F c s q L (.int r :: S)) : Go l Z K own mn b ml rt R Q h F c s pc L (.int y :: .int x :: S) := by
  subst hq hr; exact go_of (fun T X t st => by obtain ⟨vm, k, locs, Y, r1, r2, r3, r4, r5, r6, r7, r8, r9, hx, hb', rr⟩ := X; exact XT.iushr Y.here hx rfl (hb hb' hd) rfl st) n
theorem go_idiv {x : Int32} {y : Int32} {r : Int32} (hd : decode b pc = .ok (.idiv, 1)) (hy : y ≠ 0) (hr : x / y = r) (hq : pc + 1 = q) (n : Go l Z K own mn b ml rt R Q h F c s q L (.int r :: S)) : Go l Z K own mn b ml rt R Q h F c s pc L (.int y :: .int x :: S) := by
  subst hq hr; exact go_of (fun T X t st => by obtain ⟨vm, k, locs, Y, r1, r2, r3, r4, r5, r6, r7, r8, r9, hx, hb', rr⟩ := X; exact XS.idiv Y.here hx rfl (hb hb' hd) rfl hy st) n
theorem go_irem0 {x : Int32} {y : Int32} {r : Int32} (hd : decode b pc = .ok (.irem, 1)) (hy : y ≠ 0) (hr : x - (x / y) * y = r) (hq : pc + 1 = q) (n : Go l Z K own mn b ml rt R Q h F c s q L (.int r :: S)) : Go l Z K own mn b ml rt R Q h F c s pc L (.int y :: .int x :: S) := by
  subst hq hr; exact go_of (fun T X t st => by obtain ⟨vm, k, locs, Y, r1, r2, r3, r4, r5, r6, r7, r8, r9, hx, hb', rr⟩ := X; exact XS.irem Y.here hx rfl (hb hb' hd) rfl hy st) n
theorem go_ladd {x : Int64} {y : Int64} {r : Int64} (hd : decode b pc = .ok (.ladd, 1)) (hr : x + y = r) (hq : pc + 1 = q) (n : Go l Z K own mn b ml rt R Q h F c s q L (.long r :: S)) : Go l Z K own mn b ml rt R Q h F c s pc L (.long y :: .long x :: S) := by
  subst hq hr; exact go_of (fun T X t st => by obtain ⟨vm, k, locs, Y, r1, r2, r3, r4, r5, r6, r7, r8, r9, hx, hb', rr⟩ := X; exact XT.ladd Y.here hx rfl (hb hb' hd) rfl st) n
theorem go_lsub {x : Int64} {y : Int64} {r : Int64} (hd : decode b pc = .ok (.lsub, 1)) (hr : x - y = r) (hq : pc + 1 = q) (n : Go l Z K own mn b ml rt R Q h F c s q L (.long r :: S)) : Go l Z K own mn b ml rt R Q h F c s pc L (.long y :: .long x :: S) := by
  subst hq hr; exact go_of (fun T X t st => by obtain ⟨vm, k, locs, Y, r1, r2, r3, r4, r5, r6, r7, r8, r9, hx, hb', rr⟩ := X; exact XT.lsub Y.here hx rfl (hb hb' hd) rfl st) n
theorem go_lmul {x : Int64} {y : Int64} {r : Int64} (hd : decode b pc = .ok (.lmul, 1)) (hr : x * y = r) (hq : pc + 1 = q) (n : Go l Z K own mn b ml rt R Q h F c s q L (.long r :: S)) : Go l Z K own mn b ml rt R Q h F c s pc L (.long y :: .long x :: S) := by
  subst hq hr; exact go_of (fun T X t st => by obtain ⟨vm, k, locs, Y, r1, r2, r3, r4, r5, r6, r7, r8, r9, hx, hb', rr⟩ := X; exact XT.lmul Y.here hx rfl (hb hb' hd) rfl st) n
theorem go_land {x : Int64} {y : Int64} {r : Int64} (hd : decode b pc = .ok (.land, 1)) (hr : x &&& y = r) (hq : pc + 1 = q) (n : Go l Z K own mn b ml rt R Q h F c s q L (.long r :: S)) : Go l Z K own mn b ml rt R Q h F c s pc L (.long y :: .long x :: S) := by
  subst hq hr; exact go_of (fun T X t st => by obtain ⟨vm, k, locs, Y, r1, r2, r3, r4, r5, r6, r7, r8, r9, hx, hb', rr⟩ := X; exact XT.land Y.here hx rfl (hb hb' hd) rfl st) n
theorem go_lor {x : Int64} {y : Int64} {r : Int64} (hd : decode b pc = .ok (.lor, 1)) (hr : x ||| y = r) (hq : pc + 1 = q) (n : Go l Z K own mn b ml rt R Q h F c s q L (.long r :: S)) : Go l Z K own mn b ml rt R Q h F c s pc L (.long y :: .long x :: S) := by
  subst hq hr; exact go_of (fun T X t st => by obtain ⟨vm, k, locs, Y, r1, r2, r3, r4, r5, r6, r7, r8, r9, hx, hb', rr⟩ := X; exact XT.lor Y.here hx rfl (hb hb' hd) rfl st) n
theorem go_lxor {x : Int64} {y : Int64} {r : Int64} (hd : decode b pc = .ok (.lxor, 1)) (hr : x ^^^ y = r) (hq : pc + 1 = q) (n : Go l Z K own mn b ml rt R Q h F c s q L (.long r :: S)) : Go l Z K own mn b ml rt R Q h F c s pc L (.long y :: .long x :: S) := by
  subst hq hr; exact go_of (fun T X t st => by obtain ⟨vm, k, locs, Y, r1, r2, r3, r4, r5, r6, r7, r8, r9, hx, hb', rr⟩ := X; exact XT.lxor Y.here hx rfl (hb hb' hd) rfl st) n
theorem go_ldiv {x : Int64} {y : Int64} {r : Int64} (hd : decode b pc = .ok (.ldiv, 1)) (hy : y ≠ 0) (hr : x / y = r) (hq : pc + 1 = q) (n : Go l Z K own mn b ml rt R Q h F c s q L (.long r :: S)) : Go l Z K own mn b ml rt R Q h F c s pc L (.long y :: .long x :: S) := by
  subst hq hr; exact go_of (fun T X t st => by obtain ⟨vm, k, locs, Y, r1, r2, r3, r4, r5, r6, r7, r8, r9, hx, hb', rr⟩ := X; exact XT.ldiv Y.here hx rfl (hb hb' hd) rfl hy st) n
theorem go_lrem0 {x : Int64} {y : Int64} {r : Int64} (hd : decode b pc = .ok (.lrem, 1)) (hy : y ≠ 0) (hr : x - (x / y) * y = r) (hq : pc + 1 = q) (n : Go l Z K own mn b ml rt R Q h F c s q L (.long r :: S)) : Go l Z K own mn b ml rt R Q h F c s pc L (.long y :: .long x :: S) := by
  subst hq hr; exact go_of (fun T X t st => by obtain ⟨vm, k, locs, Y, r1, r2, r3, r4, r5, r6, r7, r8, r9, hx, hb', rr⟩ := X; exact XT.lrem Y.here hx rfl (hb hb' hd) rfl hy st) n
theorem go_lcmp {x : Int64} {y : Int64} {r : Int32} (hd : decode b pc = .ok (.lcmp, 1)) (hr : XT.cmpL x y = r) (hq : pc + 1 = q) (n : Go l Z K own mn b ml rt R Q h F c s q L (.int r :: S)) : Go l Z K own mn b ml rt R Q h F c s pc L (.long y :: .long x :: S) := by
  subst hq hr; exact go_of (fun T X t st => by obtain ⟨vm, k, locs, Y, r1, r2, r3, r4, r5, r6, r7, r8, r9, hx, hb', rr⟩ := X; exact XT.lcmp Y.here hx rfl (hb hb' hd) rfl st) n
theorem go_lshl {x : Int64} {y : Int32} {r : Int64} (hd : decode b pc = .ok (.lshl, 1)) (hr : x <<< (y.toInt64 &&& 63) = r) (hq : pc + 1 = q) (n : Go l Z K own mn b ml rt R Q h F c s q L (.long r :: S)) : Go l Z K own mn b ml rt R Q h F c s pc L (.int y :: .long x :: S) := by
  subst hq hr; exact go_of (fun T X t st => by obtain ⟨vm, k, locs, Y, r1, r2, r3, r4, r5, r6, r7, r8, r9, hx, hb', rr⟩ := X; exact XT.lshl Y.here hx rfl (hb hb' hd) rfl st) n
theorem go_lshr {x : Int64} {y : Int32} {r : Int64} (hd : decode b pc = .ok (.lshr, 1)) (hr : x >>> (y.toInt64 &&& 63) = r) (hq : pc + 1 = q) (n : Go l Z K own mn b ml rt R Q h F c s q L (.long r :: S)) : Go l Z K own mn b ml rt R Q h F c s pc L (.int y :: .long x :: S) := by
  subst hq hr; exact go_of (fun T X t st => by obtain ⟨vm, k, locs, Y, r1, r2, r3, r4, r5, r6, r7, r8, r9, hx, hb', rr⟩ := X; exact XT.lshr Y.here hx rfl (hb hb' hd) rfl st) n
theorem go_lushr {x : Int64} {y : Int32} {r : Int64} (hd : decode b pc = .ok (.lushr, 1)) (hr : XT.ushrL x y = r) (hq : pc + 1 = q) (n : Go l Z K own mn b ml rt R Q h F c s q L (.long r :: S)) : Go l Z K own mn b ml rt R Q h F c s pc L (.int y :: .long x :: S) := by
  subst hq hr; exact go_of (fun T X t st => by obtain ⟨vm, k, locs, Y, r1, r2, r3, r4, r5, r6, r7, r8, r9, hx, hb', rr⟩ := X; exact XT.lushr Y.here hx rfl (hb hb' hd) rfl st) n
theorem go_ineg {x : Int32} {r : Int32} (hd : decode b pc = .ok (.ineg, 1)) (hr : -x = r) (hq : pc + 1 = q) (n : Go l Z K own mn b ml rt R Q h F c s q L (.int r :: S)) : Go l Z K own mn b ml rt R Q h F c s pc L (.int x :: S) := by
  subst hq hr; exact go_of (fun T X t st => by obtain ⟨vm, k, locs, Y, r1, r2, r3, r4, r5, r6, r7, r8, r9, hx, hb', rr⟩ := X; exact XS.ineg Y.here hx rfl (hb hb' hd) rfl st) n
theorem go_lneg {x : Int64} {r : Int64} (hd : decode b pc = .ok (.lneg, 1)) (hr : -x = r) (hq : pc + 1 = q) (n : Go l Z K own mn b ml rt R Q h F c s q L (.long r :: S)) : Go l Z K own mn b ml rt R Q h F c s pc L (.long x :: S) := by
  subst hq hr; exact go_of (fun T X t st => by obtain ⟨vm, k, locs, Y, r1, r2, r3, r4, r5, r6, r7, r8, r9, hx, hb', rr⟩ := X; exact XT.lneg Y.here hx rfl (hb hb' hd) rfl st) n
theorem go_i2l {x : Int32} {r : Int64} (hd : decode b pc = .ok (.i2l, 1)) (hr : x.toInt64 = r) (hq : pc + 1 = q) (n : Go l Z K own mn b ml rt R Q h F c s q L (.long r :: S)) : Go l Z K own mn b ml rt R Q h F c s pc L (.int x :: S) := by
  subst hq hr; exact go_of (fun T X t st => by obtain ⟨vm, k, locs, Y, r1, r2, r3, r4, r5, r6, r7, r8, r9, hx, hb', rr⟩ := X; exact XT.i2l Y.here hx rfl (hb hb' hd) rfl st) n
theorem go_l2i {x : Int64} {r : Int32} (hd : decode b pc = .ok (.l2i, 1)) (hr : x.toInt32 = r) (hq : pc + 1 = q) (n : Go l Z K own mn b ml rt R Q h F c s q L (.int r :: S)) : Go l Z K own mn b ml rt R Q h F c s pc L (.long x :: S) := by
  subst hq hr; exact go_of (fun T X t st => by obtain ⟨vm, k, locs, Y, r1, r2, r3, r4, r5, r6, r7, r8, r9, hx, hb', rr⟩ := X; exact XT.l2i Y.here hx rfl (hb hb' hd) rfl st) n
theorem go_i2b {x : Int32} {r : Int32} (hd : decode b pc = .ok (.i2b, 1)) (hr : x.toInt8.toInt32 = r) (hq : pc + 1 = q) (n : Go l Z K own mn b ml rt R Q h F c s q L (.int r :: S)) : Go l Z K own mn b ml rt R Q h F c s pc L (.int x :: S) := by
  subst hq hr; exact go_of (fun T X t st => by obtain ⟨vm, k, locs, Y, r1, r2, r3, r4, r5, r6, r7, r8, r9, hx, hb', rr⟩ := X; exact XT.i2b Y.here hx rfl (hb hb' hd) rfl st) n
theorem go_i2c {x : Int32} {r : Int32} (hd : decode b pc = .ok (.i2c, 1)) (hr : x.toUInt32.toUInt16.toUInt32.toInt32 = r) (hq : pc + 1 = q) (n : Go l Z K own mn b ml rt R Q h F c s q L (.int r :: S)) : Go l Z K own mn b ml rt R Q h F c s pc L (.int x :: S) := by
  subst hq hr; exact go_of (fun T X t st => by obtain ⟨vm, k, locs, Y, r1, r2, r3, r4, r5, r6, r7, r8, r9, hx, hb', rr⟩ := X; exact XT.i2c Y.here hx rfl (hb hb' hd) rfl st) n
theorem go_i2s {x : Int32} {r : Int32} (hd : decode b pc = .ok (.i2s, 1)) (hr : x.toInt16.toInt32 = r) (hq : pc + 1 = q) (n : Go l Z K own mn b ml rt R Q h F c s q L (.int r :: S)) : Go l Z K own mn b ml rt R Q h F c s pc L (.int x :: S) := by
  subst hq hr; exact go_of (fun T X t st => by obtain ⟨vm, k, locs, Y, r1, r2, r3, r4, r5, r6, r7, r8, r9, hx, hb', rr⟩ := X; exact XT.i2s Y.here hx rfl (hb hb' hd) rfl st) n
theorem go_istoreN {k : Fin 4} {x : Int32} (hd : decode b pc = .ok (.istore_n k, 1)) (hl : storeLocals L k.val (.int x) = some L') (hq : pc + 1 = q) (n : Go l Z K own mn b ml rt R Q h F c s q L' S) : Go l Z K own mn b ml rt R Q h F c s pc L (.int x :: S) := by
  subst hq; exact go_of (fun T X t st => by obtain ⟨vm, k, locs, Y, r1, r2, r3, r4, r5, r6, r7, r8, r9, hx, hb', rr⟩ := X; exact XS.istoreN Y.here hx rfl (hb hb' hd) rfl hl st) n
theorem go_istore {k : Nat} {x : Int32} (hd : decode b pc = .ok (.istore k, 2)) (hl : storeLocals L k (.int x) = some L') (hq : pc + 2 = q) (n : Go l Z K own mn b ml rt R Q h F c s q L' S) : Go l Z K own mn b ml rt R Q h F c s pc L (.int x :: S) := by
  subst hq; exact go_of (fun T X t st => by obtain ⟨vm, k, locs, Y, r1, r2, r3, r4, r5, r6, r7, r8, r9, hx, hb', rr⟩ := X; exact XS.istore Y.here hx rfl (hb hb' hd) rfl hl st) n
theorem go_lstoreN {k : Fin 4} {x : Int64} (hd : decode b pc = .ok (.lstore_n k, 1)) (hl : storeLocals L k.val (.long x) = some L') (hq : pc + 1 = q) (n : Go l Z K own mn b ml rt R Q h F c s q L' S) : Go l Z K own mn b ml rt R Q h F c s pc L (.long x :: S) := by
  subst hq; exact go_of (fun T X t st => by obtain ⟨vm, k, locs, Y, r1, r2, r3, r4, r5, r6, r7, r8, r9, hx, hb', rr⟩ := X; exact XT.lstoreN Y.here hx rfl (hb hb' hd) rfl hl st) n
theorem go_lstore {k : Nat} {x : Int64} (hd : decode b pc = .ok (.lstore k, 2)) (hl : storeLocals L k (.long x) = some L') (hq : pc + 2 = q) (n : Go l Z K own mn b ml rt R Q h F c s q L' S) : Go l Z K own mn b ml rt R Q h F c s pc L (.long x :: S) := by
  subst hq; exact go_of (fun T X t st => by obtain ⟨vm, k, locs, Y, r1, r2, r3, r4, r5, r6, r7, r8, r9, hx, hb', rr⟩ := X; exact XT.lstore Y.here hx rfl (hb hb' hd) rfl hl st) n
theorem go_astoreN {k : Fin 4} {x : Value} (hd : decode b pc = .ok (.astore_n k, 1)) (hv : x.isRef = true) (hl : storeLocals L k.val (x) = some L') (hq : pc + 1 = q) (n : Go l Z K own mn b ml rt R Q h F c s q L' S) : Go l Z K own mn b ml rt R Q h F c s pc L (x :: S) := by
  subst hq; exact go_of (fun T X t st => by obtain ⟨vm, k, locs, Y, r1, r2, r3, r4, r5, r6, r7, r8, r9, hx, hb', rr⟩ := X; exact XS.astoreN Y.here hx rfl (hb hb' hd) rfl hv hl st) n
theorem go_astore {k : Nat} {x : Value} (hd : decode b pc = .ok (.astore k, 2)) (hv : x.isRef = true) (hl : storeLocals L k (x) = some L') (hq : pc + 2 = q) (n : Go l Z K own mn b ml rt R Q h F c s q L' S) : Go l Z K own mn b ml rt R Q h F c s pc L (x :: S) := by
  subst hq; exact go_of (fun T X t st => by obtain ⟨vm, k, locs, Y, r1, r2, r3, r4, r5, r6, r7, r8, r9, hx, hb', rr⟩ := X; exact XS.astore Y.here hx rfl (hb hb' hd) rfl hv hl st) n
theorem go_iinc {k : Nat} {i : Int} {x y : Int32} (hd : decode b pc = .ok (.iinc k i, 3)) (hl : L[k]? = some (.val (.int x))) (hy : x + Int32.ofInt i = y) (hl' : storeLocals L k (.int y) = some L') (hq : pc + 3 = q) (n : Go l Z K own mn b ml rt R Q h F c s q L' S) : Go l Z K own mn b ml rt R Q h F c s pc L S := by
  subst hq hy; exact go_of (fun T X t st => by obtain ⟨vm, k, locs, Y, r1, r2, r3, r4, r5, r6, r7, r8, r9, hx, hb', rr⟩ := X; exact XS.iinc Y.here hx rfl (hb hb' hd) hl hl' st) n
theorem go_dup {x : Value} (hd : decode b pc = .ok (.dup, 1)) (hc : x.category = 1) (hq : pc + 1 = q) (n : Go l Z K own mn b ml rt R Q h F c s q L (x :: x :: S)) : Go l Z K own mn b ml rt R Q h F c s pc L (x :: S) := by
  subst hq; exact go_of (fun T X t st => by obtain ⟨vm, k, locs, Y, r1, r2, r3, r4, r5, r6, r7, r8, r9, hx, hb', rr⟩ := X; exact XS.dup Y.here hx rfl (hb hb' hd) rfl hc st) n
theorem go_pop {x : Value} (hd : decode b pc = .ok (.pop, 1)) (hc : x.category = 1) (hq : pc + 1 = q) (n : Go l Z K own mn b ml rt R Q h F c s q L S) : Go l Z K own mn b ml rt R Q h F c s pc L (x :: S) := by
  subst hq; exact go_of (fun T X t st => by obtain ⟨vm, k, locs, Y, r1, r2, r3, r4, r5, r6, r7, r8, r9, hx, hb', rr⟩ := X; exact XT.pop Y.here hx rfl (hb hb' hd) rfl hc st) n
theorem go_dupX1 {x y : Value} (hd : decode b pc = .ok (.dup_x1, 1)) (hc : x.category = 1) (hc' : y.category = 1) (hq : pc + 1 = q) (n : Go l Z K own mn b ml rt R Q h F c s q L (x :: y :: x :: S)) : Go l Z K own mn b ml rt R Q h F c s pc L (x :: y :: S) := by
  subst hq; exact go_of (fun T X t st => by obtain ⟨vm, k, locs, Y, r1, r2, r3, r4, r5, r6, r7, r8, r9, hx, hb', rr⟩ := X; exact XT.dupX1 Y.here hx rfl (hb hb' hd) rfl hc hc' st) n
theorem go_dup2 {x y : Value} (hd : decode b pc = .ok (.dup2, 1)) (hc : x.category = 1) (hc' : y.category = 1) (hq : pc + 1 = q) (n : Go l Z K own mn b ml rt R Q h F c s q L (x :: y :: x :: y :: S)) : Go l Z K own mn b ml rt R Q h F c s pc L (x :: y :: S) := by
  subst hq; exact go_of (fun T X t st => by obtain ⟨vm, k, locs, Y, r1, r2, r3, r4, r5, r6, r7, r8, r9, hx, hb', rr⟩ := X; exact XT.dup2 Y.here hx rfl (hb hb' hd) rfl hc hc' st) n
theorem go_goto {o : Int} (hd : decode b pc = .ok (.goto o, 3)) (ho : 0 ≤ (pc : Int) + o) (hp : ((pc : Int) + o).toNat = q) (n : Go l Z K own mn b ml rt R Q h F c s q L S) : Go l Z K own mn b ml rt R Q h F c s pc L S := by
  exact go_of (fun T X t st => by obtain ⟨vm, k, locs, Y, r1, r2, r3, r4, r5, r6, r7, r8, r9, hx, hb', rr⟩ := X; exact XS.goto Y.here hx rfl rfl (hb hb' hd) ho hp st) n
/-- the condition as a plain proposition: taken, not taken -/
abbrev cY : ClassFile.Cond → Int32 → Int32 → Prop
  | .eq, x, y => x = y
  | .ne, x, y => ¬ x = y
  | .lt, x, y => x < y
  | .ge, x, y => ¬ x < y
  | .gt, x, y => y < x
  | .le, x, y => ¬ y < x
abbrev cN : ClassFile.Cond → Int32 → Int32 → Prop
  | .eq, x, y => ¬ x = y
  | .ne, x, y => x = y
  | .lt, x, y => ¬ x < y
  | .ge, x, y => x < y
  | .gt, x, y => ¬ y < x
  | .le, x, y => y < x
theorem cY_holds {cd : ClassFile.Cond} {x y : Int32} (h : cY cd x y) : if_icmp.holds cd x y = true := by
  cases cd with
  | eq => exact (teq h).1
  | ne => exact (feq h).2
  | lt => exact (tlt h).1
  | ge => exact (flt h).2.1
  | gt => exact (tlt h).2.2.1
  | le => exact (flt h).2.2.2
theorem cN_holds {cd : ClassFile.Cond} {x y : Int32} (h : cN cd x y) : if_icmp.holds cd x y = false := by
  cases cd with
  | eq => exact (feq h).1
  | ne => exact (teq h).2
  | lt => exact (flt h).1
  | ge => exact (tlt h).2.1
  | gt => exact (flt h).2.2.1
  | le => exact (tlt h).2.2.2
theorem go_ifY {cd : ClassFile.Cond} {x : Int32} {o : Int} (hd : decode b pc = .ok (.ifCond cd o, 3)) (hc : cY cd x 0) (ho : 0 ≤ (pc : Int) + o) (hp : ((pc : Int) + o).toNat = q) (n : Go l Z K own mn b ml rt R Q h F c s q L S) : Go l Z K own mn b ml rt R Q h F c s pc L (.int x :: S) := by
  exact go_of (fun T X t st => by obtain ⟨vm, k, locs, Y, r1, r2, r3, r4, r5, r6, r7, r8, r9, hx, hb', rr⟩ := X; exact XS.ifYes Y.here hx rfl rfl (hb hb' hd) rfl ((if0 _ _).trans (cY_holds hc)) ho hp st) n
theorem go_ifN {cd : ClassFile.Cond} {x : Int32} {o : Int} (hd : decode b pc = .ok (.ifCond cd o, 3)) (hc : cN cd x 0) (hq : pc + 3 = q) (n : Go l Z K own mn b ml rt R Q h F c s q L S) : Go l Z K own mn b ml rt R Q h F c s pc L (.int x :: S) := by
  subst hq; exact go_of (fun T X t st => by obtain ⟨vm, k, locs, Y, r1, r2, r3, r4, r5, r6, r7, r8, r9, hx, hb', rr⟩ := X; exact XS.ifNo Y.here hx rfl (hb hb' hd) rfl ((if0 _ _).trans (cN_holds hc)) st) n
theorem go_icY {cd : ClassFile.Cond} {x y : Int32} {o : Int} (hd : decode b pc = .ok (.if_icmp cd o, 3)) (hc : cY cd x y) (ho : 0 ≤ (pc : Int) + o) (hp : ((pc : Int) + o).toNat = q) (n : Go l Z K own mn b ml rt R Q h F c s q L S) : Go l Z K own mn b ml rt R Q h F c s pc L (.int y :: .int x :: S) := by
  exact go_of (fun T X t st => by obtain ⟨vm, k, locs, Y, r1, r2, r3, r4, r5, r6, r7, r8, r9, hx, hb', rr⟩ := X; exact XS.icmpYes Y.here hx rfl rfl (hb hb' hd) rfl (cY_holds hc) ho hp st) n
theorem go_icN {cd : ClassFile.Cond} {x y : Int32} {o : Int} (hd : decode b pc = .ok (.if_icmp cd o, 3)) (hc : cN cd x y) (hq : pc + 3 = q) (n : Go l Z K own mn b ml rt R Q h F c s q L S) : Go l Z K own mn b ml rt R Q h F c s pc L (.int y :: .int x :: S) := by
  subst hq; exact go_of (fun T X t st => by obtain ⟨vm, k, locs, Y, r1, r2, r3, r4, r5, r6, r7, r8, r9, hx, hb', rr⟩ := X; exact XS.icmpNo Y.here hx rfl (hb hb' hd) rfl (cN_holds hc) st) n
theorem go_nullY {o : Int} (hd : decode b pc = .ok (.ifnull o, 3)) (ho : 0 ≤ (pc : Int) + o) (hp : ((pc : Int) + o).toNat = q) (n : Go l Z K own mn b ml rt R Q h F c s q L S) : Go l Z K own mn b ml rt R Q h F c s pc L (.null :: S) := by
  exact go_of (fun T X t st => by obtain ⟨vm, k, locs, Y, r1, r2, r3, r4, r5, r6, r7, r8, r9, hx, hb', rr⟩ := X; exact XS.ifnullYes Y.here hx rfl rfl (hb hb' hd) rfl ho hp st) n
theorem go_nullN {a : Addr} {o : Int} (hd : decode b pc = .ok (.ifnull o, 3)) (hq : pc + 3 = q) (n : Go l Z K own mn b ml rt R Q h F c s q L S) : Go l Z K own mn b ml rt R Q h F c s pc L (.ref a :: S) := by
  subst hq; exact go_of (fun T X t st => by obtain ⟨vm, k, locs, Y, r1, r2, r3, r4, r5, r6, r7, r8, r9, hx, hb', rr⟩ := X; exact XS.ifnullNo Y.here hx rfl (hb hb' hd) rfl st) n
theorem go_nnY {a : Addr} {o : Int} (hd : decode b pc = .ok (.ifnonnull o, 3)) (ho : 0 ≤ (pc : Int) + o) (hp : ((pc : Int) + o).toNat = q) (n : Go l Z K own mn b ml rt R Q h F c s q L S) : Go l Z K own mn b ml rt R Q h F c s pc L (.ref a :: S) := by
  exact go_of (fun T X t st => by obtain ⟨vm, k, locs, Y, r1, r2, r3, r4, r5, r6, r7, r8, r9, hx, hb', rr⟩ := X; exact XT.ifnonnullYes Y.here hx rfl rfl (hb hb' hd) rfl ho hp st) n
theorem go_nnN {o : Int} (hd : decode b pc = .ok (.ifnonnull o, 3)) (hq : pc + 3 = q) (n : Go l Z K own mn b ml rt R Q h F c s q L S) : Go l Z K own mn b ml rt R Q h F c s pc L (.null :: S) := by
  subst hq; exact go_of (fun T X t st => by obtain ⟨vm, k, locs, Y, r1, r2, r3, r4, r5, r6, r7, r8, r9, hx, hb', rr⟩ := X; exact XT.ifnonnullNo Y.here hx rfl (hb hb' hd) rfl st) n
theorem go_acY {cd : ClassFile.ACond} {x y : Value} {o : Int} (hd : decode b pc = .ok (.if_acmp cd o, 3)) (h1 : x.isRef = true) (h2 : y.isRef = true) (hc : XT.acmp cd x y = true) (ho : 0 ≤ (pc : Int) + o) (hp : ((pc : Int) + o).toNat = q) (n : Go l Z K own mn b ml rt R Q h F c s q L S) : Go l Z K own mn b ml rt R Q h F c s pc L (y :: x :: S) := by
  exact go_of (fun T X t st => by obtain ⟨vm, k, locs, Y, r1, r2, r3, r4, r5, r6, r7, r8, r9, hx, hb', rr⟩ := X; exact XT.acmpYes Y.here hx rfl rfl (hb hb' hd) rfl h1 h2 hc ho hp st) n
theorem go_acN {cd : ClassFile.ACond} {x y : Value} {o : Int} (hd : decode b pc = .ok (.if_acmp cd o, 3)) (h1 : x.isRef = true) (h2 : y.isRef = true) (hc : XT.acmp cd x y = false) (hq : pc + 3 = q) (n : Go l Z K own mn b ml rt R Q h F c s q L S) : Go l Z K own mn b ml rt R Q h F c s pc L (y :: x :: S) := by
  subst hq; exact go_of (fun T X t st => by obtain ⟨vm, k, locs, Y, r1, r2, r3, r4, r5, r6, r7, r8, r9, hx, hb', rr⟩ := X; exact XT.acmpNo Y.here hx rfl (hb hb' hd) rfl h1 h2 hc st) n
theorem go_irem {x y r : Int32} (hd : decode b pc = .ok (.irem, 1)) (hy : y ≠ 0) (hr : x % y = r) (hq : pc + 1 = q) (n : Go l Z K own mn b ml rt R Q h F c s q L (.int r :: S)) : Go l Z K own mn b ml rt R Q h F c s pc L (.int y :: .int x :: S) := by
  subst hq hr; exact go_of (fun T X t st => by obtain ⟨vm, k, locs, Y, r1, r2, r3, r4, r5, r6, r7, r8, r9, hx, hb', r⟩ := X; exact iremM Y hx rfl (hb hb' hd) rfl hy st) n
theorem go_lrem {x y r : Int64} (hd : decode b pc = .ok (.lrem, 1)) (hy : y ≠ 0) (hr : x % y = r) (hq : pc + 1 = q) (n : Go l Z K own mn b ml rt R Q h F c s q L (.long r :: S)) : Go l Z K own mn b ml rt R Q h F c s pc L (.long y :: .long x :: S) := go_lrem0 hd hy ((lrem_mod x y).trans hr) hq n
end G
end Own
end Jvm.Pilot.@@N@@
/-! OWN FRAMEWORK, part 2: steps that touch the heap, returns, calls. -/
namespace Jvm.Pilot.@@N@@
namespace Own
open Jvm Jvm.ClassFile Sem Op Lib Jvm.Free Jvm.Stand Jvm.LawKit Jvm.RoadKit
section G
variable {l : Launch} {Z : State} {a0 : Array Value} {K : Cx} {own mn : String} {b : ByteArray} {ml : Nat} {rt : Option FieldType} {R : Room} {Q : QT} {h h' : Heap} {F : List Addr} {c s pc q c' s' : Nat} {L L' : Array Slot} {S S' : List Value}
theorem go_getfield {index : Nat} {R0 O n d : String} {a : Addr} {v : Value} (w : (Cond.fieldLink own index R0 n d).before a0 Z = true) (via : Via Z R0 O n d) (Fv : Fld Z h a O n d v) (hd : decode b pc = .ok (.getfield index, 3)) (hq : pc + 3 = q)
    (nx : Go l Z K own mn b ml rt R Q h F c s q L (v :: S)) : Go l Z K own mn b ml rt R Q h F c s pc L (.ref a :: S) := fun T X => by
  subst hq
  obtain ⟨vm, k, locs, Y, eT, hS, hk, hZ, hown, N, C, M, O, hx, hb', r⟩ := X
  obtain ⟨T', Y', e', st⟩ := getF Y hx hZ hown (host := "") (Or.inl w) via eT Fv (g := mkF K.2.2.2.1 pc L (.ref a :: S)) rfl rfl (hb hb' hd)
  obtain ⟨s₂, o, x, r'⟩ := nx T' ⟨vm, k, locs, Y', e', hS, hk, hZ, hown, N, C, M, O, hx, hb', r⟩
  exact ⟨s₂, o, st _ x, r'⟩
theorem go_getstatic {index : Nat} {R0 O n d : String} {v : Value} (w : (Cond.fieldLink own index R0 n d).before a0 Z = true) (via : Via Z R0 O n d) (Fv : Sta Z Z.heap O n d v) (hd : decode b pc = .ok (.getstatic index, 3)) (hq : pc + 3 = q)
    (nx : Go l Z K own mn b ml rt R Q h F c s q L (v :: S)) : Go l Z K own mn b ml rt R Q h F c s pc L S := fun T X => by
  subst hq
  obtain ⟨vm, k, locs, Y, eT, hS, hk, hZ, hown, N, C, M, O, hx, hb', r⟩ := X
  obtain ⟨T', Y', e', st⟩ := getS2 Y hx hZ hown (host := "") (Or.inl w) via eT (Fv.ext O.2) (g := mkF K.2.2.2.1 pc L S) rfl (hb hb' hd)
  obtain ⟨s₂, o, x, r'⟩ := nx T' ⟨vm, k, locs, Y', e', hS, hk, hZ, hown, N, C, M, O, hx, hb', r⟩
  exact ⟨s₂, o, st _ x, r'⟩
theorem St.wrote {vm : Vm} {k sl : Nat} {locs : List Loc} {T' : State} {a : Addr} {v : Value} (W : Wr h h' a sl v) (ha : a ∈ F) (Y : Stand K.1 l K.2.1 R (K.2.2.1.setVm vm) K.2.2.2.1 K.2.2.2.2.1 K.2.2.2.2.2.1 K.2.2.2.2.2.2.1 K.2.2.2.2.2.2.2 T' (locs ++ [⟨a, sl⟩]) c s) (e' : T'.heap = h')
    (hS : K.2.2.1.Since vm k) (hk : k ≤ h.size) (hZ : Z.Warmed39 vm) (hown : vm.findClass own = some K.2.2.2.1.cls) (N : Fr Z.heap.size locs) (C : CHr Z consts_1 K.2.2.1.vm K.2.2.1.heap vm h) (M : ∀ x ∈ F, Mine Z vm h x) (O : Old Z Z.heap.size h)
    (r : K.1.tables.exec = Jvm.exec ∧ K.2.2.2.2.2.2.2.code = b ∧ K.2.2.2.2.2.2.2.maxLocals = ml ∧ K.2.2.2.2.2.2.1.sig.returnType = rt ∧ K.2.2.2.2.2.2.1.name = mn ∧ K.2.2.2.2.2.2.1.locks = false) : St l Z K own mn b ml rt R T' h' F c s :=
  ⟨vm, k, _, Y, e', hS, by rw [W.size]; exact hk, hZ, hown, Fr.snoc Y N (M a ha).1, C.trans (CHr.wr W (M a ha).2.2 C.1), fun x hx => ⟨(M x hx).1, by rw [W.size]; exact (M x hx).2.1, Safe.wr W (M a ha).2.2 C.1 (M x hx).2.2⟩, O.wr W (M a ha).1, r⟩
theorem go_putfield {index kk : Nat} {R0 O n d C : String} {ty : FieldType} {a : Addr} {v old : Value} (w : (Cond.fieldLink own index R0 n d).before a0 Z = true) (via : Via Z R0 O n d) (Fv : Fld Z h a O n d old) (E : Exa Z h a C)
    (Ly : (Cond.lays C O n d).before a0 Z = true ∨ ((Cond.laysFinal C O n d).before a0 Z = true ∧ own = O ∧ mn = "<init>")) (wi : (Cond.instantiable C kk).before a0 Z = true) (hty : parseFieldDescriptor d = some ty) (hn : narrow ty v = v) (hf : fits ty v = true) (ha : a ∈ F)
    (hd : decode b pc = .ok (.putfield index, 3)) (hq : pc + 3 = q) (nx : ∀ h', Wr h h' a (RoadKit.slotOf Z O n d) v → Go l Z K own mn b ml rt R Q h' F c s q L S) : Go l Z K own mn b ml rt R Q h F c s pc L (v :: .ref a :: S) := fun T X => by
  subst hq
  obtain ⟨vm, k, locs, Y, eT, hS, hk, hZ, hown, N, C, M, O, hx, hb', r1, r2, r3, r4⟩ := X
  obtain ⟨T', h', Y', e', W, st⟩ := putF Y hx hZ hown (host := "") (Or.inl w) via eT Fv E (Ly.imp id fun z => ⟨z.1, z.2.1, r3.trans z.2.2⟩) wi hty hn hf (g := mkF K.2.2.2.1 pc L (v :: .ref a :: S)) rfl rfl (hb hb' hd)
  obtain ⟨s₂, o, x, r'⟩ := nx h' W T' (St.wrote W ha Y' e' hS hk hZ hown N C M O ⟨hx, hb', r1, r2, r3, r4⟩)
  exact ⟨s₂, o, st _ x, r'⟩
theorem St.grew {vm : Vm} {k : Nat} {locs : List Loc} {T' : State} (E : Ext h h') {F' : List Addr} (hF : ∀ x ∈ F', x ∈ F ∨ (h.size ≤ x ∧ x < h'.size)) (Y : Stand K.1 l K.2.1 R (K.2.2.1.setVm vm) K.2.2.2.1 K.2.2.2.2.1 K.2.2.2.2.2.1 K.2.2.2.2.2.2.1 K.2.2.2.2.2.2.2 T' locs c s) (e' : T'.heap = h')
    (hS : K.2.2.1.Since vm k) (hk : k ≤ h.size) (hZ : Z.Warmed39 vm) (hown : vm.findClass own = some K.2.2.2.1.cls) (N : Fr Z.heap.size locs) (C : CHr Z consts_1 K.2.2.1.vm K.2.2.1.heap vm h) (M : ∀ x ∈ F, Mine Z vm h x) (O : Old Z Z.heap.size h)
    (r : K.1.tables.exec = Jvm.exec ∧ K.2.2.2.2.2.2.2.code = b ∧ K.2.2.2.2.2.2.2.maxLocals = ml ∧ K.2.2.2.2.2.2.1.sig.returnType = rt ∧ K.2.2.2.2.2.2.1.name = mn ∧ K.2.2.2.2.2.2.1.locks = false) : St l Z K own mn b ml rt R T' h' F' c s :=
  ⟨vm, k, _, Y, e', hS, Nat.le_trans hk E.1, hZ, hown, N, C.trans (CHr.ext E C.1), fun x hx => by
    rcases hF x hx with q | ⟨q1, q2⟩
    · exact ⟨(M x q).1, Nat.lt_of_lt_of_le (M x q).2.1 E.1, Safe.ext E C.1 (M x q).2.2⟩
    · exact ⟨Nat.le_trans O.2.1 q1, q2, Safe.ext E C.1 (Safe.new q1)⟩, O.ext E, r⟩
theorem go_new {index n : Nat} {C : String} (w : (Cond.classLink own index C).before a0 Z = true) (wi : (Cond.instantiable C n).before a0 Z = true) (wz : (Cond.initialized C).before a0 Z = true) (hd : decode b pc = .ok (.new index, 3)) (hq : pc + 3 = q) (hc : c + 1 = c') (hs : s + n = s') (hc' : c' ≤ R.cells) (hs' : s' ≤ R.slots)
    (nx : ∀ h' a, a = h.size → Ext h h' → Exa Z h' a C → (∀ {O nm d : String} {ty : FieldType}, Laid Z a0 C O nm d → parseFieldDescriptor d = some ty → Fld Z h' a O nm d (defaultValue ty)) → Go l Z K own mn b ml rt R Q h' (a :: F) c' s' q L (.ref a :: S)) : Go l Z K own mn b ml rt R Q h F c s pc L S := fun T X => by
  subst hq hc hs
  obtain ⟨vm, k, locs, Y, eT, hS, hk, hZ, hown, N, C, M, O, r⟩ := X
  obtain ⟨T', h', Y', e', E, A, D, -, st⟩ := newO Y r.1 hZ hown w wi wz eT (g := mkF K.2.2.2.1 pc L S) rfl (hb r.2.1 hd) hc' hs'
  obtain ⟨s₂, o, x, r'⟩ := nx h' _ rfl E A D T' (St.grew E (fun x hx => by rcases List.mem_cons.mp hx with rfl | hx; exact Or.inr ⟨Nat.le_refl _, A.lt⟩; exact Or.inl hx) Y' e' hS hk hZ hown N C M O r)
  exact ⟨s₂, o, st _ x, r'⟩
/-- 'new', and the fresh cell as the exception laws want it -/
theorem go_newU {index n : Nat} {C : String} (w : (Cond.classLink own index C).before a0 Z = true) (wi : (Cond.instantiable C n).before a0 Z = true) (wz : (Cond.initialized C).before a0 Z = true) (hd : decode b pc = .ok (.new index, 3)) (hq : pc + 3 = q) (hc : c + 1 = c') (hs : s + n = s') (hc' : c' ≤ R.cells) (hs' : s' ≤ R.slots)
    (nx : ∀ h' a, a = h.size → Ext h h' → Exa Z h' a C → Unt h' a → (∀ {O nm d : String} {ty : FieldType}, Laid Z a0 C O nm d → parseFieldDescriptor d = some ty → Fld Z h' a O nm d (defaultValue ty)) → Go l Z K own mn b ml rt R Q h' (a :: F) c' s' q L (.ref a :: S)) : Go l Z K own mn b ml rt R Q h F c s pc L S := fun T X => by
  subst hq hc hs
  obtain ⟨vm, k, locs, Y, eT, hS, hk, hZ, hown, N, C, M, O, r⟩ := X
  obtain ⟨T', h', Y', e', E, A, D, U, st⟩ := newO Y r.1 hZ hown w wi wz eT (g := mkF K.2.2.2.1 pc L S) rfl (hb r.2.1 hd) hc' hs'
  obtain ⟨s₂, o, x, r'⟩ := nx h' _ rfl E A U D T' (St.grew E (fun x hx => by rcases List.mem_cons.mp hx with rfl | hx; exact Or.inr ⟨Nat.le_refl _, A.lt⟩; exact Or.inl hx) Y' e' hS hk hZ hown N C M O r)
  exact ⟨s₂, o, st _ x, r'⟩
theorem go_newarray {aty : ArrayType} {z : Int32} {cap n : Nat} {ad : String} {ty : FieldType} {dv : Value} (hty : newarray.typeOf aty = ty) (hdv : defaultValue ty = dv) (hzn : z.toNatClampNeg = n) (w : (Cond.arrayClass ty).before a0 Z = true) (hd : decode b pc = .ok (.newarray aty, 2)) (hz : ¬ z < 0) (hcap : n ≤ cap) (hbig : cap * 8 ≤ 536870912) (had : "[" ++ ty.toString = ad) (hq : pc + 2 = q) (hc : c + 1 = c') (hs : s + cap = s') (hc' : c' ≤ R.cells) (hs' : s' ≤ R.slots)
    (nx : ∀ h' a k, a = h.size → Ext h h' → Arv Z h' a k ty z (List.replicate n dv) dv → Exa Z h' a ad → Go l Z K own mn b ml rt R Q h' (a :: F) c' s' q L (.ref a :: S)) : Go l Z K own mn b ml rt R Q h F c s pc L (.int z :: S) := fun T X => by
  subst hq hc hs hty hdv hzn
  obtain ⟨vm, k, locs, Y, eT, hS, hk, hZ, hown, N, C, M, O, r⟩ := X
  obtain ⟨T', h', cA, Y', e', E, A, Ex, st⟩ := newPE Y r.1 hZ w eT (g := mkF K.2.2.2.1 pc L (.int z :: S)) rfl (hb r.2.1 hd) rfl hz hcap hbig hc' hs' had
  have V := (Arv.new A hz).pad (vs' := List.replicate z.toNatClampNeg (defaultValue (newarray.typeOf aty))) (fun i => by
    have := pad_rep [] (defaultValue (newarray.typeOf aty)) z.toNatClampNeg i
    simpa using this)
  obtain ⟨s₂, o, x, r'⟩ := nx h' _ _ rfl E V Ex T' (St.grew E (fun x hx => by rcases List.mem_cons.mp hx with rfl | hx; exact Or.inr ⟨Nat.le_refl _, A.lt⟩; exact Or.inl hx) Y' e' hS hk hZ hown N C M O r)
  exact ⟨s₂, o, st _ x, r'⟩
theorem go_anewarray {index : Nat} {C : String} {z : Int32} {cap : Nat} {ad : String} (w : (Cond.classLink own index C).before a0 Z = true) (w2 : (Cond.arrayOver (.object C)).before a0 Z = true) (hd : decode b pc = .ok (.anewarray index, 3)) (hz : ¬ z < 0) (hcap : z.toNatClampNeg ≤ cap) (hbig : cap * 8 ≤ 536870912) (had : "[" ++ (FieldType.object C).toString = ad) (hq : pc + 3 = q) (hc : c + 1 = c') (hs : s + cap = s') (hc' : c' ≤ R.cells) (hs' : s' ≤ R.slots)
    (nx : ∀ h' a k, a = h.size → Ext h h' → Arv Z h' a k (.object C) z (List.replicate z.toNatClampNeg .null) .null → Exa Z h' a ad → Ovr Z k C → Go l Z K own mn b ml rt R Q h' (a :: F) c' s' q L (.ref a :: S)) : Go l Z K own mn b ml rt R Q h F c s pc L (.int z :: S) := fun T X => by
  subst hq hc hs
  obtain ⟨vm, k, locs, Y, eT, hS, hk, hZ, hown, N, C, M, O, r⟩ := X
  obtain ⟨T', h', cA, Y', e', E, A, Ex, Ov, st⟩ := newRE Y r.1 hZ hown w w2 eT (g := mkF K.2.2.2.1 pc L (.int z :: S)) rfl (hb r.2.1 hd) rfl hz hcap hbig hc' hs' had
  have V0 : Arv Z h' h.size cA (.object _) z [] .null := Arv.new A hz
  have V := V0.pad (vs' := List.replicate z.toNatClampNeg .null) (fun i => by
    have := pad_rep [] .null z.toNatClampNeg i
    simpa using this)
  obtain ⟨s₂, o, x, r'⟩ := nx h' _ _ rfl E V Ex Ov T' (St.grew E (fun x hx => by rcases List.mem_cons.mp hx with rfl | hx; exact Or.inr ⟨Nat.le_refl _, A.lt⟩; exact Or.inl hx) Y' e' hS hk hZ hown N C M O r)
  exact ⟨s₂, o, st _ x, r'⟩
theorem fits_nar_byte (x : Int32) : fits .byte (.int (nar .byte x)) = true := Jvm.Free.SBG.fits_of_int8 _
theorem go_castore {a : Addr} {k : ClassId} {z j x y : Int32} {vs : List Value} {dv : Value} {i : Nat} (A : Arv Z h a k .char z vs dv) (hj : ¬ j < 0 ∧ j < z) (hi : j.toNatClampNeg = i) (hl : i < vs.length) (ha : a ∈ F) (hy : nar .char x = y) (hd : decode b pc = .ok (.castore, 1)) (hq : pc + 1 = q)
    (nx : ∀ h', Keep h h' [a] → h'.size = h.size → Arv Z h' a k .char z (vs.set i (.int y)) dv → Go l Z K own mn b ml rt R Q h' F c s q L S) : Go l Z K own mn b ml rt R Q h F c s pc L (.int x :: .int j :: .ref a :: S) := fun T X => by
  subst hq hy
  obtain ⟨vm, k, locs, Y, eT, hS, hk, hZ, hown, N, C, M, O, r⟩ := X
  obtain ⟨cl, Ar, q1, q2, q3, q4, q5⟩ := A
  have hin := inb_of q2 hj
  obtain ⟨T', h', Y', e', W, st⟩ := stC Y r.1 hZ eT Ar hin (g := mkF K.2.2.2.1 pc L (.int x :: .int j :: .ref a :: S)) rfl rfl (hb r.2.1 hd)
  obtain ⟨s₂, o, x, r'⟩ := nx h' (Keep.of_wr W) W.size (Arv.set Ar q1 q2 q3 q4 q5 (fits_nar_char x) W i hi hl) T' (St.wrote W ha Y' e' hS hk hZ hown N C M O r)
  exact ⟨s₂, o, st _ x, r'⟩
theorem go_bastore {a : Addr} {k : ClassId} {z j x y : Int32} {vs : List Value} {dv : Value} {i : Nat} (A : Arv Z h a k .byte z vs dv) (hj : ¬ j < 0 ∧ j < z) (hi : j.toNatClampNeg = i) (hl : i < vs.length) (ha : a ∈ F) (hy : nar .byte x = y) (hd : decode b pc = .ok (.bastore, 1)) (hq : pc + 1 = q)
    (nx : ∀ h', Keep h h' [a] → h'.size = h.size → Arv Z h' a k .byte z (vs.set i (.int y)) dv → Go l Z K own mn b ml rt R Q h' F c s q L S) : Go l Z K own mn b ml rt R Q h F c s pc L (.int x :: .int j :: .ref a :: S) := fun T X => by
  subst hq hy
  obtain ⟨vm, k, locs, Y, eT, hS, hk, hZ, hown, N, C, M, O, r⟩ := X
  obtain ⟨cl, Ar, q1, q2, q3, q4, q5⟩ := A
  have hin := inb_of q2 hj
  obtain ⟨T', h', Y', e', W, st⟩ := stB Y r.1 hZ eT Ar hin (g := mkF K.2.2.2.1 pc L (.int x :: .int j :: .ref a :: S)) rfl rfl (hb r.2.1 hd)
  obtain ⟨s₂, o, x, r'⟩ := nx h' (Keep.of_wr W) W.size (Arv.set Ar q1 q2 q3 q4 q5 (fits_nar_byte x) W i hi hl) T' (St.wrote W ha Y' e' hS hk hZ hown N C M O r)
  exact ⟨s₂, o, st _ x, r'⟩
theorem go_lastore {a : Addr} {k : ClassId} {z j : Int32} {x : Int64} {vs : List Value} {dv : Value} {i : Nat} (A : Arv Z h a k .long z vs dv) (hj : ¬ j < 0 ∧ j < z) (hi : j.toNatClampNeg = i) (hl : i < vs.length) (ha : a ∈ F) (hd : decode b pc = .ok (.lastore, 1)) (hq : pc + 1 = q)
    (nx : ∀ h', Keep h h' [a] → h'.size = h.size → Arv Z h' a k .long z (vs.set i (.long x)) dv → Go l Z K own mn b ml rt R Q h' F c s q L S) : Go l Z K own mn b ml rt R Q h F c s pc L (.long x :: .int j :: .ref a :: S) := fun T X => by
  subst hq
  obtain ⟨vm, k, locs, Y, eT, hS, hk, hZ, hown, N, C, M, O, r⟩ := X
  obtain ⟨cl, Ar, q1, q2, q3, q4, q5⟩ := A
  have hin := inb_of q2 hj
  obtain ⟨T', h', Y', e', W, st⟩ := stJ Y r.1 hZ eT Ar hin (g := mkF K.2.2.2.1 pc L (.long x :: .int j :: .ref a :: S)) rfl rfl (hb r.2.1 hd)
  obtain ⟨s₂, o, x, r'⟩ := nx h' (Keep.of_wr W) W.size (Arv.set Ar q1 q2 q3 q4 q5 rfl W i hi hl) T' (St.wrote W ha Y' e' hS hk hZ hown N C M O r)
  exact ⟨s₂, o, st _ x, r'⟩
theorem go_arraylength {a : Addr} {k : ClassId} {ty : FieldType} {z : Int32} {vs : List Value} {dv : Value} (A : Arv Z h a k ty z vs dv) (hd : decode b pc = .ok (.arraylength, 1)) (hq : pc + 1 = q)
    (nx : Go l Z K own mn b ml rt R Q h F c s q L (.int z :: S)) : Go l Z K own mn b ml rt R Q h F c s pc L (.ref a :: S) := by
  subst hq
  exact go_of (fun T X t st => by
    obtain ⟨vm, k, locs, Y, eT, hS, hk, hZ, hown, N, C, M, O, r⟩ := X
    obtain ⟨cl, Ar, q1, q2, q3, q4, q5⟩ := A
    refine Y.arraylength r.1 (by rw [eT]; exact Ar.1) (State.isArrayOf_alike hZ.alike Ar.2.1) (g := mkF K.2.2.2.1 pc L (.ref a :: S)) rfl rfl (hb r.2.1 hd) _ ?_
    rw [len_of q2 q3]; exact st) nx
theorem go_caload {a : Addr} {k : ClassId} {z j : Int32} {vs : List Value} {dv v : Value} (A : Arv Z h a k .char z vs dv) (hj : ¬ j < 0 ∧ j < z) (hv : vs.getD j.toNatClampNeg dv = v) (hd : decode b pc = .ok (.caload, 1)) (hq : pc + 1 = q)
    (nx : Go l Z K own mn b ml rt R Q h F c s q L (v :: S)) : Go l Z K own mn b ml rt R Q h F c s pc L (.int j :: .ref a :: S) := by
  subst hq
  exact go_of (fun T X t st => by
    obtain ⟨vm, k, locs, Y, eT, hS, hk, hZ, hown, N, C, M, O, r⟩ := X
    obtain ⟨cl, Ar, q1, q2, q3, q4, q5⟩ := A
    exact Y.caload r.1 (by rw [eT]; exact Ar.1) (State.isArrayOf_alike hZ.alike Ar.2.1) Ar.2.2 (inb_of q2 hj) (q4.at (inb_of q2 hj) hv) (g := mkF K.2.2.2.1 pc L (.int j :: .ref a :: S)) rfl rfl (hb r.2.1 hd) _ st) nx
theorem go_baload {a : Addr} {k : ClassId} {z j : Int32} {vs : List Value} {dv v : Value} (A : Arv Z h a k .byte z vs dv) (hj : ¬ j < 0 ∧ j < z) (hv : vs.getD j.toNatClampNeg dv = v) (hd : decode b pc = .ok (.baload, 1)) (hq : pc + 1 = q)
    (nx : Go l Z K own mn b ml rt R Q h F c s q L (v :: S)) : Go l Z K own mn b ml rt R Q h F c s pc L (.int j :: .ref a :: S) := by
  subst hq
  exact go_of (fun T X t st => by
    obtain ⟨vm, k, locs, Y, eT, hS, hk, hZ, hown, N, C, M, O, r⟩ := X
    obtain ⟨cl, Ar, q1, q2, q3, q4, q5⟩ := A
    exact Y.baloadBytes r.1 (by rw [eT]; exact Ar.1) (State.isArrayOf_alike hZ.alike Ar.2.1) Ar.2.2 (inb_of q2 hj) (q4.at (inb_of q2 hj) hv) (g := mkF K.2.2.2.1 pc L (.int j :: .ref a :: S)) rfl rfl (hb r.2.1 hd) _ st) nx
theorem go_laload {a : Addr} {k : ClassId} {z j : Int32} {vs : List Value} {dv v : Value} (A : Arv Z h a k .long z vs dv) (hj : ¬ j < 0 ∧ j < z) (hv : vs.getD j.toNatClampNeg dv = v) (hd : decode b pc = .ok (.laload, 1)) (hq : pc + 1 = q)
    (nx : Go l Z K own mn b ml rt R Q h F c s q L (v :: S)) : Go l Z K own mn b ml rt R Q h F c s pc L (.int j :: .ref a :: S) := by
  subst hq
  exact go_of (fun T X t st => by
    obtain ⟨vm, k, locs, Y, eT, hS, hk, hZ, hown, N, C, M, O, r⟩ := X
    obtain ⟨cl, Ar, q1, q2, q3, q4, q5⟩ := A
    exact Y.laload r.1 (by rw [eT]; exact Ar.1) (State.isArrayOf_alike hZ.alike Ar.2.1) Ar.2.2 (inb_of q2 hj) (q4.at (inb_of q2 hj) hv) (g := mkF K.2.2.2.1 pc L (.int j :: .ref a :: S)) rfl rfl (hb r.2.1 hd) _ st) nx
theorem go_aaload {a : Addr} {k : ClassId} {ty : FieldType} {z j : Int32} {vs : List Value} {dv v : Value} (A : Arv Z h a k ty z vs dv) (hty : ty.isReference = true) (hj : ¬ j < 0 ∧ j < z) (hv : vs.getD j.toNatClampNeg dv = v) (hd : decode b pc = .ok (.aaload, 1)) (hq : pc + 1 = q)
    (nx : Go l Z K own mn b ml rt R Q h F c s q L (v :: S)) : Go l Z K own mn b ml rt R Q h F c s pc L (.int j :: .ref a :: S) := by
  subst hq
  exact go_of (fun T X t st => by
    obtain ⟨vm, k, locs, Y, eT, hS, hk, hZ, hown, N, C, M, O, r⟩ := X
    obtain ⟨cl, Ar, q1, q2, q3, q4, q5⟩ := A
    exact Y.aaload r.1 (by rw [eT]; exact Ar.1) (State.isArrayOf_alike hZ.alike Ar.2.1) hty Ar.2.2 (inb_of q2 hj) (q4.at (inb_of q2 hj) hv) (g := mkF K.2.2.2.1 pc L (.int j :: .ref a :: S)) rfl rfl (hb r.2.1 hd) _ st) nx
theorem go_checkcast {index : Nat} {C : String} {a : Addr} (w : (Cond.classLink own index C).before a0 Z = true) (I : Ins Z h a C true) (hd : decode b pc = .ok (.checkcast index, 3)) (hq : pc + 3 = q)
    (nx : Go l Z K own mn b ml rt R Q h F c s q L (.ref a :: S)) : Go l Z K own mn b ml rt R Q h F c s pc L (.ref a :: S) := fun T X => by
  subst hq
  obtain ⟨vm, k, locs, Y, eT, hS, hk, hZ, hown, N, C, M, O, r⟩ := X
  obtain ⟨T', Y', e', st⟩ := castY Y r.1 hZ hown w eT I (g := mkF K.2.2.2.1 pc L (.ref a :: S)) rfl rfl (hb r.2.1 hd)
  obtain ⟨s₂, o, x, r'⟩ := nx T' ⟨vm, k, locs, Y', e', hS, hk, hZ, hown, N, C, M, O, r⟩
  exact ⟨s₂, o, st _ x, r'⟩
theorem go_instY {index : Nat} {C : String} {a : Addr} (w : (Cond.classLink own index C).before a0 Z = true) (I : Ins Z h a C true) (hd : decode b pc = .ok (.instanceof index, 3)) (hq : pc + 3 = q)
    (nx : Go l Z K own mn b ml rt R Q h F c s q L (.int 1 :: S)) : Go l Z K own mn b ml rt R Q h F c s pc L (.ref a :: S) := fun T X => by
  subst hq
  obtain ⟨vm, k, locs, Y, eT, hS, hk, hZ, hown, N, C, M, O, r⟩ := X
  obtain ⟨T', Y', e', st⟩ := instY Y r.1 hZ hown w eT I (g := mkF K.2.2.2.1 pc L (.ref a :: S)) rfl rfl (hb r.2.1 hd)
  obtain ⟨s₂, o, x, r'⟩ := nx T' ⟨vm, k, locs, Y', e', hS, hk, hZ, hown, N, C, M, O, r⟩
  exact ⟨s₂, o, st _ x, r'⟩
theorem go_instNo {index : Nat} {C D : String} {a : Addr} (w : (Cond.classLink own index D).before a0 Z = true) (E : Exa Z h a C) (Fn : ∃ c t, Z.vm.findClass C = some c ∧ Z.vm.findClass D = some t ∧ Z.vm.assignable c t = false) (hd : decode b pc = .ok (.instanceof index, 3)) (hq : pc + 3 = q)
    (nx : Go l Z K own mn b ml rt R Q h F c s q L (.int 0 :: S)) : Go l Z K own mn b ml rt R Q h F c s pc L (.ref a :: S) := fun T X => by
  subst hq
  obtain ⟨vm, k, locs, Y, eT, hS, hk, hZ, hown, N, C, M, O, r⟩ := X
  obtain ⟨T', Y', e', st⟩ := instNo Y r.1 hZ hown w eT E Fn (g := mkF K.2.2.2.1 pc L (.ref a :: S)) rfl rfl (hb r.2.1 hd)
  obtain ⟨s₂, o, x, r'⟩ := nx T' ⟨vm, k, locs, Y', e', hS, hk, hZ, hown, N, C, M, O, r⟩
  exact ⟨s₂, o, st _ x, r'⟩
theorem go_ldcInt {index : Nat} {v : Int32} (w : (Cond.constant own index v).before a0 Z = true) (hd : decode b pc = .ok (.ldc index, 2)) (hq : pc + 2 = q) (nx : Go l Z K own mn b ml rt R Q h F c s q L (.int v :: S)) : Go l Z K own mn b ml rt R Q h F c s pc L S := by
  subst hq
  exact go_of (fun T X t st => by
    obtain ⟨vm, k, locs, Y, eT, hS, hk, hZ, hown, N, C, M, O, r⟩ := X
    exact Y.ldcInt r.1 hown (mvT (s := K.2.2.1.setVm vm) hZ w) (g := mkF K.2.2.2.1 pc L S) rfl (hb r.2.1 hd) _ st) nx
theorem go_ldc2 {index : Nat} {v : Int64} (w : (Cond.constantLong own index v).before a0 Z = true) (hd : decode b pc = .ok (.ldc2_w index, 3)) (hq : pc + 3 = q) (nx : Go l Z K own mn b ml rt R Q h F c s q L (.long v :: S)) : Go l Z K own mn b ml rt R Q h F c s pc L S := by
  subst hq
  exact go_of (fun T X t st => by
    obtain ⟨vm, k, locs, Y, eT, hS, hk, hZ, hown, N, C, M, O, r⟩ := X
    exact Y.ldc2Long r.1 hown (mvT (s := K.2.2.1.setVm vm) hZ w) (g := mkF K.2.2.2.1 pc L S) rfl (hb r.2.1 hd) _ st) nx
/-- ldc of a String constant, read -/
theorem go_ldcS (H : Wd Z a0) {index : Nat} {text : String} (w : (Cond.stringLink own index text).before a0 Z = true) (hm : (own, index) ∈ consts_1) {vs : List Value} {z : Int32} (ht : (∀ c ∈ text.toList, c.toNat < 256) ∧ text.toList.map (fun c => Value.int (Jvm.Lit.byteI c.toNat.toUInt16)) = vs) (hz : ¬ z < 0) (hl : z.toNatClampNeg = vs.length)
    (hd : decode b pc = .ok (.ldc index, 2)) {n : Nat} (hn : 4 * text.toList.length ≤ n) (hbig : n ≤ 536870912) (hq : pc + 2 = q) (hc : c + 2 = c') (hs : s + (n + 4) = s') (hc' : c' ≤ R.cells) (hs' : s' ≤ R.slots)
    (nx : ∀ h' a bb k, Ext h h' → Exa Z h' a "java/lang/String" → Fld Z h' a "java/lang/String" "coder" "B" (.int 0) → Fld Z h' a "java/lang/String" "value" "[B" (.ref bb) → Arv Z h' bb k .byte z vs (.int 0) → (∀ x ∈ F, x ≠ a ∧ x ≠ bb) → Go l Z K own mn b ml rt R Q h' F c' s' q L (.ref a :: S)) : Go l Z K own mn b ml rt R Q h F c s pc L S := fun T X => by
  subst hq hc hs
  obtain ⟨vm, k, locs, Y, eT, hS, hk, hZ, hown, N, C, M, O, r⟩ := X
  obtain ⟨a, T', h', k1, bb, kc, Y', e', E, hS', hk', hZ', hown', A, Fc, Fv, V, -, -, C', -, Sf, st⟩ := ldcCH Y r.1 hZ hown w H.2.2.1 eT hS hk H.2.1 hm C.1 ht hz hl (g := mkF K.2.2.2.1 pc L S) rfl (hb r.2.1 hd) hn hbig hc' hs'
  have M' : ∀ x ∈ F, Mine Z T'.vm h' x := fun x hx => ⟨(M x hx).1, Nat.lt_of_lt_of_le (M x hx).2.1 E.1, C'.safe (M x hx).2.1 (M x hx).2.2⟩
  obtain ⟨s₂, o, x, r'⟩ := nx h' a bb kc E A Fc Fv V (fun x hx => Sf x (M' x hx).2.2) T' ⟨T'.vm, k1, locs, Y', e', hS', hk', hZ', hown', N, C.trans C', M', O.ext E, r⟩
  exact ⟨s₂, o, st _ x, r'⟩
theorem go_initO {index : Nat} {a : Addr} (w1 : (Cond.methodLink own index Lib.objectInit).before a0 Z = true) (w2 : (Cond.instanceMethod Lib.objectInit).before a0 Z = true) (w3 : (Cond.code Lib.objectInit ⟨#[0xb1]⟩ 1 none).before a0 Z = true) (hL : L.size = ml) (hd : decode b pc = .ok (.invokespecial index, 3)) (hq : pc + 3 = q) (hf : 1 ≤ R.frames) (hlo : (S.map fun v => v.category).sum + 12 ≤ R.locals)
    (nx : Go l Z K own mn b ml rt R Q h F c s q L S) : Go l Z K own mn b ml rt R Q h F c s pc L (.ref a :: S) := fun T X => by
  subst hq
  obtain ⟨vm, k, locs, Y, eT, hS, hk, hZ, hown, N, C, M, O, r⟩ := X
  obtain ⟨T', Y', e', st⟩ := initO Y r.1 hZ hown w1 w2 w3 eT (g := mkF K.2.2.2.1 pc L (.ref a :: S)) rfl (by rw [r.2.2.1]; exact hL) rfl (hb r.2.1 hd) hf (W := (S.map fun v => v.category).sum) (by show 2 * 0 + _ ≤ _; omega) hlo
  obtain ⟨s₂, o, x, r'⟩ := nx T' ⟨vm, k, locs, Y', e', hS, hk, hZ, hown, N, C, M, O, r⟩
  exact ⟨s₂, o, st _ x, r'⟩
/-! ### returns -/
theorem St.end_ (H : Wd Z a0) {T : State} (X : St l Z K own mn b ml rt R T h F c s) {G : List Addr} {v : Option Value} (hq : Q v h G) (hG : ∀ x ∈ G, x ∈ F) (hc : c ≤ R.cells) (hs : s ≤ R.slots) (hv : rt = none → v = none) :
    ∃ fs, (∀ (f : JFrame) (acts : List Action), f.method = K.2.2.2.1 → f.locked = none → f.entered = [] → (doReturn K.2.1 (T.setTop f) acts v).1 = T.setFrames fs) ∧ (T.setFrames fs).status = .running ∧ Ended (T.setFrames fs) K.2.2.2.2.2.1 (.returned v) ∧ End Z K.2.2.1 R Q (.returned v) (T.setFrames fs) := by
  obtain ⟨vm, k, locs, Y, eT, hS, hk, hZ, hown, N, C, M, O, hx, hb', r1, r2, r3, r4⟩ := X
  obtain ⟨fs, h1, h2, h3, h4⟩ := Y.leaveW hS (by rw [eT]; exact hk) (v := v) (fun e => hv (r2.symm.trans e)) r4
  have A := CHv.at Y hZ H.2.1 C.1
  refine ⟨fs, h1, h2, h3, v, locs, G, rfl, by show Q v T.heap G; rw [eT]; exact hq, N, fun x hx => ?_, by show CHr Z consts_1 _ _ T.vm T.heap; rw [eT]; exact C.trans A, by show Old Z _ T.heap; rw [eT]; exact O, h4.1, h4.2.1, h4.2.2.1, h4.2.2.2.mono hc hs⟩
  have m := M x (hG x hx)
  exact ⟨m.1, by show x < T.heap.size; rw [eT]; exact m.2.1, by show Safe Z consts_1 T.vm T.heap x; rw [eT]; exact A.safe m.2.1 m.2.2⟩
theorem go_return (H : Wd Z a0) {G : List Addr} (hr : rt = none) (hd : decode b pc = .ok (.return_, 1)) (hc : c ≤ R.cells) (hs : s ≤ R.slots) (hG : ∀ x ∈ G, x ∈ F) (hq : Q none h G) : Go l Z K own mn b ml rt R Q h F c s pc L [] := fun T X => by
  obtain ⟨fs, h1, h2, h3, h4⟩ := X.end_ H hq hG hc hs (fun _ => rfl)
  obtain ⟨vm, k, locs, Y, eT, hS, hk, hZ, hown, N, C, M, O, hx, hb', r1, r2, r3, r4⟩ := X
  exact ⟨_, _, Y.returnOut hx (r2.trans hr) (hb hb' hd) h1, h2, h3, h4⟩
theorem go_areturn (H : Wd Z a0) {G : List Addr} {w : Value} {t : FieldType} (hr : rt = some t) (ht : t.isReference = true) (hw : w.isRef = true) (hd : decode b pc = .ok (.areturn, 1)) (hc : c ≤ R.cells) (hs : s ≤ R.slots) (hG : ∀ x ∈ G, x ∈ F) (hq : Q (some w) h G) : Go l Z K own mn b ml rt R Q h F c s pc L (w :: S) := fun T X => by
  obtain ⟨fs, h1, h2, h3, h4⟩ := X.end_ H hq hG hc hs (fun e => by rw [hr] at e; cases e)
  obtain ⟨vm, k, locs, Y, eT, hS, hk, hZ, hown, N, C, M, O, hx, hb', r1, r2, r3, r4⟩ := X
  have hn : narrow t w = w := by cases t <;> cases w <;> simp_all [narrow, Value.isRef, FieldType.isReference]
  exact ⟨_, _, retOut Y hx (r2.trans hr) hn (Or.inr (Or.inr (Or.inr (Or.inr ⟨rfl, ht, hw⟩)))) (hb hb' hd) h1, h2, h3, h4⟩
theorem go_ireturn (H : Wd Z a0) {G : List Addr} {x : Int32} {t : FieldType} (hr : rt = some t) (ht : t = .int ∨ t = .boolean ∨ t = .byte ∨ t = .char ∨ t = .short) (hn : narrow t (.int x) = .int x) (hd : decode b pc = .ok (.ireturn, 1)) (hc : c ≤ R.cells) (hs : s ≤ R.slots) (hG : ∀ x ∈ G, x ∈ F) (hq : Q (some (.int x)) h G) : Go l Z K own mn b ml rt R Q h F c s pc L (.int x :: S) := fun T X => by
  obtain ⟨fs, h1, h2, h3, h4⟩ := X.end_ H hq hG hc hs (fun e => by rw [hr] at e; cases e)
  obtain ⟨vm, k, locs, Y, eT, hS, hk, hZ, hown, N, C, M, O, hx, hb', r1, r2, r3, r4⟩ := X
  exact ⟨_, _, retOut Y hx (r2.trans hr) hn (Or.inl ⟨rfl, ht, x, rfl⟩) (hb hb' hd) h1, h2, h3, h4⟩
theorem go_lreturn (H : Wd Z a0) {G : List Addr} {x : Int64} (hr : rt = some .long) (hd : decode b pc = .ok (.lreturn, 1)) (hc : c ≤ R.cells) (hs : s ≤ R.slots) (hG : ∀ x ∈ G, x ∈ F) (hq : Q (some (.long x)) h G) : Go l Z K own mn b ml rt R Q h F c s pc L (.long x :: S) := fun T X => by
  obtain ⟨fs, h1, h2, h3, h4⟩ := X.end_ H hq hG hc hs (fun e => by rw [hr] at e; cases e)
  obtain ⟨vm, k, locs, Y, eT, hS, hk, hZ, hown, N, C, M, O, hx, hb', r1, r2, r3, r4⟩ := X
  exact ⟨_, _, retOut Y hx (r2.trans hr) rfl (Or.inr (Or.inl ⟨rfl, rfl, x, rfl⟩)) (hb hb' hd) h1, h2, h3, h4⟩
/-! ### calls -/
/-- what a callee leaves, as the caller's law sees it -/
def Left (Z : State) (vm0 : Vm) (h : Heap) (R' : Room) (Q' : QT) (A : Pt) (v : Option Value) (B : Pt) : Prop :=
  ∃ L G, Q' v B.U.heap G ∧ Fr Z.heap.size L ∧ (∀ x ∈ G, Mine Z B.U.vm B.U.heap x) ∧ CHr Z consts_1 vm0 h B.U.vm B.U.heap ∧ Old Z Z.heap.size B.U.heap ∧ B.locs = A.locs ++ L ∧ B.cells = A.cells + R'.cells ∧ B.slots = A.slots + R'.slots
theorem Met.back {y : MethodName} {b' : ByteArray} {ml' : Nat} {rt' : Option FieldType} {R' : Room} {F' : List Addr} {as : Array Value} {Q' : QT} {len W : Nat} {vm0 : Vm} {p : Program} {e : Env} {below : List Frame} {s : State} {args : Array Value} (H : Wd Z a0) (M : Met l Z y b' ml' rt' R' h F' as Q') (hZ : Z.Warmed39 vm0)
    (wc : (Cond.code y b' ml' rt').before a0 Z = true) (wz : (Cond.initialized y.cls).before a0 Z = true) (hf : R'.frames + 1 ≤ R.frames) (hl : W + (ml' + 11) + R'.locals ≤ R.locals) (C : CHv Z consts_1 vm0 h) (hM : ∀ x ∈ F', Mine Z vm0 h x) (hO : Old Z Z.heap.size h) :
    BackS l R p e below (s.setVm vm0) args y len W (fun A a => a = as ∧ A.U.heap = h ∧ A.cells + R'.cells ≤ R.cells ∧ A.slots + R'.slots ≤ R.slots) (fun A _ v B => Left Z vm0 h R' Q' A v B) :=
  BackS.of_freeW (bytes := b') (maxL := ml') (ret := rt') (E := fun _ first o t L k n => k = R'.cells ∧ n = R'.slots ∧ ∃ v G, o = .returned v ∧ Q' v t.heap G ∧ Fr Z.heap.size L ∧ (∀ x ∈ G, Mine Z t.vm t.heap x) ∧ CHr Z consts_1 first.vm first.heap t.vm t.heap ∧ Old Z Z.heap.size t.heap) M hf hl
    (fun m meth c A a Y hp => have hU : Z.Warmed39 A.U.vm := wtrans (s := s.setVm vm0) hZ Y.warmed
      ⟨by show (Cond.and _ .tt).before a A.U = true; rw [Cond.before_and, mv hU wc]; rfl, mv hU wc, mv hU wz, hp.2.2.1, hp.2.2.2⟩)
    (fun m meth c A a g mk Y hp => ⟨hp.1, wtrans (s := s.setVm vm0) hZ Y.warmed, hp.2.1, (CHv.at Y hZ H.2.1 C).1, fun x hx => ⟨(hM x hx).1, (hM x hx).2.1, (CHv.at Y hZ H.2.1 C).safe (hM x hx).2.1 (hM x hx).2.2⟩, hO⟩) (fun _ _ _ _ _ _ _ _ _ => trivial)
    (fun _ _ _ _ ⟨v, L, G, h1, h2, h3, h4, h5, h6, h7⟩ => ⟨L, _, _, h7, rfl, rfl, v, G, h1, h2, h3, h4, h5, h6⟩)
    (fun m meth c A a g mk v t L k n Y hp _ _ ⟨e1, e2, v', G, e3, e4, e5, e6, e7, e8⟩ => by
      cases e3; subst e1 e2
      refine ⟨L, G, e4, e5, e6, (CHv.at Y hZ H.2.1 C).trans ?_, e8, rfl, rfl, rfl⟩
      rw [← hp.2.1]; exact e7)
/-- behind a call -/
theorem St.came {vm : Vm} {k : Nat} {locs : List Loc} {T : State} {R' : Room} {Q' : QT} {v : Option Value} {vm₁ : Vm} {B : Pt} (Y : Stand K.1 l K.2.1 R (K.2.2.1.setVm vm) K.2.2.2.1 K.2.2.2.2.1 K.2.2.2.2.2.1 K.2.2.2.2.2.2.1 K.2.2.2.2.2.2.2 T locs c s) (eT : T.heap = h) (hS : K.2.2.1.Since vm k) (hk : k ≤ h.size)
    (hZ : Z.Warmed39 vm) (hown : vm.findClass own = some K.2.2.2.1.cls) (N : Fr Z.heap.size locs) (C : CHr Z consts_1 K.2.2.1.vm K.2.2.1.heap vm h) (M : ∀ x ∈ F, Mine Z vm h x)
    (r : K.1.tables.exec = Jvm.exec ∧ K.2.2.2.2.2.2.2.code = b ∧ K.2.2.2.2.2.2.2.maxLocals = ml ∧ K.2.2.2.2.2.2.1.sig.returnType = rt ∧ K.2.2.2.2.2.2.1.name = mn ∧ K.2.2.2.2.2.2.1.locks = false)
    (Y' : Stand K.1 l K.2.1 R ((K.2.2.1.setVm vm).setVm B.U.vm) K.2.2.2.1 K.2.2.2.2.1 K.2.2.2.2.2.1 K.2.2.2.2.2.2.1 K.2.2.2.2.2.2.2 B.U B.locs B.cells B.slots) (hS' : (K.2.2.1.setVm vm).Since B.U.vm B.U.heap.size) (hg : T.heap.size ≤ B.U.heap.size) (P : Left Z vm h R' Q' ⟨T.setVm vm₁, locs, c, s⟩ v B) :
    ∃ G, Q' v B.U.heap G ∧ (∀ F2, (∀ x ∈ F2, x ∈ G ∨ x ∈ F) → St l Z K own mn b ml rt R B.U B.U.heap F2 (c + R'.cells) (s + R'.slots)) := by
  obtain ⟨Lc, G, q1, q2, q3, q4, q5, q6, q7, q8⟩ := P
  have hkT : k ≤ T.heap.size := by rw [eT]; exact hk
  obtain ⟨w1, w2, w3, w4⟩ := rebS hS hkT Y' hS' hg hZ hown
  try dsimp only at q6 q7 q8
  rw [q6, q7, q8] at w1
  exact ⟨G, q1, fun F2 hF => ⟨B.U.vm, _, _, w1, rfl, w2, Nat.le_refl _, w3, w4, N.app q2, C.trans q4, fun x hx => by
    rcases hF x hx with z | z
    · exact q3 x z
    · have m := M x z
      exact ⟨m.1, Nat.lt_of_lt_of_le m.2.1 (by rw [← eT]; exact hg), q4.safe m.2.1 m.2.2⟩, q5, r⟩⟩
theorem decl_of {y : MethodName} {b' : ByteArray} {ml' : Nat} {rt' : Option FieldType} (w1 : (Cond.instanceMethod y).before a0 Z = true) (w2 : (Cond.code y b' ml' rt').before a0 Z = true) : (Cond.declares y).before a0 Z = true := by
  obtain ⟨mk, methM, hn, hm, hst, -⟩ := Cond.instanceMethod_spec w1
  obtain ⟨m2, cM, q1, -, -, -, -, -, -, hsig⟩ := Cond.code_spec hn w2
  cases hm.symm.trans q1
  simp [Cond.before, Cond.holds, Cond.value, hn, hm, hst, hsig]
theorem nf_mate {y w : MethodName} {C : String} (hc : w.cls = y.cls) (hs : (Cond.selects C w w).before a0 Z = true) : ∀ s : State, Z.Warmed39 s.vm → NotFace s y := fun s hZ r0 h0 => by
  obtain ⟨c, r, m, q1, q2, q3, q4, mk, q5, q6⟩ := Cond.selects_spec (mvT (s := s) (args := #[]) hZ hs)
  have e1 := findClass_of_methodNamed q3
  have e2 := findClass_of_methodNamed h0
  rw [hc] at e1
  have e3 : m.cls = r0.cls := Option.some.inj (e1.symm.trans e2)
  exact ⟨mk, by rw [← e3]; exact q5, q6⟩
theorem same_of {y w : MethodName} {C : String} (hc : w.cls = y.cls) (hs : (Cond.selects C w w).before a0 Z = true) (hd : (Cond.declares y).before a0 Z = true) (hy : y.cls ≠ "java/lang/invoke/MethodHandle" ∧ y.cls ≠ "java/lang/invoke/VarHandle") : (Cond.sameMethod y.cls y.cls y.name y.desc).before a0 Z = true := by
  obtain ⟨r0, r, hn, hrm, -, -⟩ := Cond.declares_spec hd
  obtain ⟨k, hk, hi⟩ := nf_mate hc hs Z (State.Warmed39.refl Z) r0 hn
  have hf := State.methodFound?_of_named hn hy
  have hcn := findClass_of_methodNamed hn
  have hn' : Z.methodNamed? ⟨y.cls, y.name, y.desc⟩ = some r0 := hn
  simp [Cond.before, Cond.holds, Cond.value, hcn, hf, hn', hk, hi]
section Calls
variable {index : Nat} {y : MethodName} {b' : ByteArray} {ml' : Nat} {rt' : Option FieldType} {R' : Room} {F' : List Addr} {as : Array Value} {Q' : QT} {argsL : List Value}
theorem go_static (H : Wd Z a0) (w1 : (Cond.methodLink own index y).before a0 Z = true) (w2 : (Cond.static y).before a0 Z = true) (w3 : (Cond.initialized y.cls).before a0 Z = true) (w4 : (Cond.code y b' ml' rt').before a0 Z = true) (hy : y.cls ≠ "java/lang/invoke/MethodHandle" ∧ y.cls ≠ "java/lang/invoke/VarHandle") (M' : Met l Z y b' ml' rt' R' h F' as Q')
    (ha : argsL.toArray = as) (hst : S' = argsL.reverse ++ S) (hlen : ∀ sig, parseMethodDescriptor y.desc = some sig → argsL.length = sig.parameters.length) (hF : ∀ x ∈ F', x ∈ F) (hL : L.size = ml) (hfr : R'.frames + 1 ≤ R.frames) (hlo : (S.map fun v => v.category).sum + (ml' + 11) + R'.locals ≤ R.locals) (hc : c + R'.cells = c') (hs : s + R'.slots = s') (hc' : c' ≤ R.cells) (hs' : s' ≤ R.slots)
    (hd : decode b pc = .ok (.invokestatic index, 3)) (hq : pc + 3 = q) (nx : ∀ v h' G, h.size ≤ h'.size → Q' v h' G → ∃ F2, (∀ x ∈ F2, x ∈ G ∨ x ∈ F) ∧ Go l Z K own mn b ml rt R Q h' F2 c' s' q L (v.toList ++ S)) : Go l Z K own mn b ml rt R Q h F c s pc L S' := fun T X => by
  subst hq hc hs hst ha
  obtain ⟨vm, k, locs, Y, eT, hS, hk, hZ, hown, N, C, M, O, r⟩ := X
  obtain ⟨v, vm₁, B, -, Y', hS', hg, P, st⟩ := callSS Y r.1 hown (mvT (s := K.2.2.1.setVm vm) hZ w1) (mvT (s := K.2.2.1.setVm vm) hZ w2) (mvT (s := K.2.2.1.setVm vm) hZ w3) (mvT (s := K.2.2.1.setVm vm) hZ w4) hy (W := (S.map fun v => v.category).sum) (M'.back H hZ w4 w3 hfr hlo C.1 (fun x hx => M x (hF x hx)) O) (g := mkF K.2.2.2.1 pc L (argsL.reverse ++ S)) rfl (by rw [r.2.2.1]; exact hL) (argsL := argsL) (rest := S) hlen rfl (by show 2 * 0 + _ ≤ _; omega) (hb r.2.1 hd) (fun _ _ => ⟨rfl, eT, hc', hs'⟩)
  obtain ⟨G, q1, q2⟩ := St.came Y eT hS hk hZ hown N C M r Y' hS' hg P
  obtain ⟨F2, f1, f2⟩ := nx v B.U.heap G (by rw [← eT]; exact hg) q1
  obtain ⟨s₂, o, x, r'⟩ := f2 B.U (q2 F2 f1)
  exact ⟨s₂, o, st.trans x, r'⟩
theorem go_special (H : Wd Z a0) {a : Addr} (hy1 : y.name = "<init>") (w1 : (Cond.methodLink own index y).before a0 Z = true) (w2 : (Cond.instanceMethod y).before a0 Z = true) (w3 : (Cond.initialized y.cls).before a0 Z = true) (w4 : (Cond.code y b' ml' none).before a0 Z = true) (hy : y.cls ≠ "java/lang/invoke/MethodHandle" ∧ y.cls ≠ "java/lang/invoke/VarHandle") (M' : Met l Z y b' ml' none R' h F' as Q')
    (ha : (.ref a :: argsL).toArray = as) (hst : S' = argsL.reverse ++ .ref a :: S) (hlen : ∀ sig, parseMethodDescriptor y.desc = some sig → argsL.length = sig.parameters.length) (hF : ∀ x ∈ F', x ∈ F) (hL : L.size = ml) (hfr : R'.frames + 1 ≤ R.frames) (hlo : (S.map fun v => v.category).sum + (ml' + 11) + R'.locals ≤ R.locals) (hc : c + R'.cells = c') (hs : s + R'.slots = s') (hc' : c' ≤ R.cells) (hs' : s' ≤ R.slots)
    (hd : decode b pc = .ok (.invokespecial index, 3)) (hq : pc + 3 = q) (nx : ∀ v h' G, h.size ≤ h'.size → Q' v h' G → ∃ F2, (∀ x ∈ F2, x ∈ G ∨ x ∈ F) ∧ Go l Z K own mn b ml rt R Q h' F2 c' s' q L (v.toList ++ S)) : Go l Z K own mn b ml rt R Q h F c s pc L S' := fun T X => by
  subst hq hc hs hst ha
  obtain ⟨vm, k, locs, Y, eT, hS, hk, hZ, hown, N, C, M, O, r⟩ := X
  obtain ⟨v, vm₁, B, -, Y', hS', hg, P, st⟩ := Y.specialBackS r.1 hy1 hown (mvT (s := K.2.2.1.setVm vm) hZ w1) (mvT (s := K.2.2.1.setVm vm) hZ w2) (mvT (s := K.2.2.1.setVm vm) hZ w4) hy (W := (S.map fun v => v.category).sum) (M'.back H hZ w4 w3 hfr hlo C.1 (fun x hx => M x (hF x hx)) O) (g := mkF K.2.2.2.1 pc L (argsL.reverse ++ .ref a :: S)) rfl (by rw [r.2.2.1]; exact hL) (Steps.refl _) (argsL := argsL) (rest := S) hlen rfl (by show 2 * 0 + _ ≤ _; omega) (hb r.2.1 hd) (fun _ _ => ⟨rfl, eT, hc', hs'⟩)
  obtain ⟨G, q1, q2⟩ := St.came Y eT hS hk hZ hown N C M r Y' hS' hg P
  obtain ⟨F2, f1, f2⟩ := nx v B.U.heap G (by rw [← eT]; exact hg) q1
  obtain ⟨s₂, o, x, r'⟩ := f2 B.U (q2 F2 f1)
  exact ⟨s₂, o, st.trans x, r'⟩
/-- invokevirtual of y on an object exactly of class C: the body is z's -/
theorem go_virtual (H : Wd Z a0) {a : Addr} {C : String} {z : MethodName} (w1 : (Cond.methodLink own index y).before a0 Z = true) (w2 : (Cond.declares y).before a0 Z = true) (wnf : ∀ s : State, Z.Warmed39 s.vm → NotFace s y) (w3 : (Cond.selects C y z).before a0 Z = true) (w4 : (Cond.instanceMethod z).before a0 Z = true) (w5 : (Cond.initialized z.cls).before a0 Z = true) (w6 : (Cond.code z b' ml' rt').before a0 Z = true)
    (hy : y.cls ≠ "java/lang/invoke/MethodHandle" ∧ y.cls ≠ "java/lang/invoke/VarHandle") (E : Exa Z h a C) (M' : Met l Z z b' ml' rt' R' h F' as Q')
    (ha : (.ref a :: argsL).toArray = as) (hst : S' = argsL.reverse ++ .ref a :: S) (hlen : ∀ sig, parseMethodDescriptor y.desc = some sig → argsL.length = sig.parameters.length) (hF : ∀ x ∈ F', x ∈ F) (hL : L.size = ml) (hfr : R'.frames + 1 ≤ R.frames) (hlo : (S.map fun v => v.category).sum + (ml' + 11) + R'.locals ≤ R.locals) (hc : c + R'.cells = c') (hs : s + R'.slots = s') (hc' : c' ≤ R.cells) (hs' : s' ≤ R.slots)
    (hd : decode b pc = .ok (.invokevirtual index, 3)) (hq : pc + 3 = q) (nx : ∀ v h' G, h.size ≤ h'.size → Q' v h' G → ∃ F2, (∀ x ∈ F2, x ∈ G ∨ x ∈ F) ∧ Go l Z K own mn b ml rt R Q h' F2 c' s' q L (v.toList ++ S)) : Go l Z K own mn b ml rt R Q h F c s pc L S' := fun T X => by
  subst hq hc hs hst ha
  obtain ⟨vm, k, locs, Y, eT, hS, hk, hZ, hown, N, C, M, O, r⟩ := X
  obtain ⟨cB, kB, g1, g2, g3⟩ := isOf (s := K.2.2.1.setVm vm) hZ eT E
  obtain ⟨v, vm₁, B, -, Y', hS', hg, P, st⟩ := Y.virtualBackS r.1 hown (mvT (s := K.2.2.1.setVm vm) hZ w1) (mvT (s := K.2.2.1.setVm vm) hZ w2) (wnf (K.2.2.1.setVm vm) hZ) (mvT (s := K.2.2.1.setVm vm) hZ w3) (mvT (s := K.2.2.1.setVm vm) hZ w4) hy (W := (S.map fun v => v.category).sum) (M'.back H hZ w6 w5 hfr hlo C.1 (fun x hx => M x (hF x hx)) O) g1 g3 (g := mkF K.2.2.2.1 pc L (argsL.reverse ++ .ref a :: S)) rfl (by rw [r.2.2.1]; exact hL) (Steps.refl _) (argsL := argsL) (rest := S) hlen rfl (by show 2 * 0 + _ ≤ _; omega) (hb r.2.1 hd) (fun _ _ => ⟨rfl, eT, hc', hs'⟩)
  obtain ⟨G, q1, q2⟩ := St.came Y eT hS hk hZ hown N C M r Y' hS' hg P
  obtain ⟨F2, f1, f2⟩ := nx v B.U.heap G (by rw [← eT]; exact hg) q1
  obtain ⟨s₂, o, x, r'⟩ := f2 B.U (q2 F2 f1)
  exact ⟨s₂, o, st.trans x, r'⟩
theorem go_interface (H : Wd Z a0) {a : Addr} {C : String} {z : MethodName} {count : Nat} (w1 : (Cond.methodLink own index y).before a0 Z = true) (w2 : (Cond.declares y).before a0 Z = true) (w3 : ∀ (s : State) (args : Array Value), Z.Warmed39 s.vm → (Cond.interfaceMethod y.cls y.cls y.name y.desc).before args s = true) (w4 : (Cond.selects C y z).before a0 Z = true) (w5 : (Cond.instanceMethod z).before a0 Z = true) (w6 : (Cond.publicMethod z).before a0 Z = true) (w7 : (Cond.unhidden C y.name y.desc).before a0 Z = true) (w8 : (Cond.castable C y.cls).before a0 Z = true) (w9 : (Cond.initialized z.cls).before a0 Z = true) (w10 : (Cond.code z b' ml' rt').before a0 Z = true)
    (hy : y.cls ≠ "java/lang/invoke/MethodHandle" ∧ y.cls ≠ "java/lang/invoke/VarHandle") (E : Exa Z h a C) (M' : Met l Z z b' ml' rt' R' h F' as Q')
    (ha : (.ref a :: argsL).toArray = as) (hst : S' = argsL.reverse ++ .ref a :: S) (hlen : ∀ sig, parseMethodDescriptor y.desc = some sig → argsL.length = sig.parameters.length) (hF : ∀ x ∈ F', x ∈ F) (hL : L.size = ml) (hfr : R'.frames + 1 ≤ R.frames) (hlo : (S.map fun v => v.category).sum + (ml' + 11) + R'.locals ≤ R.locals) (hc : c + R'.cells = c') (hs : s + R'.slots = s') (hc' : c' ≤ R.cells) (hs' : s' ≤ R.slots)
    (hd : decode b pc = .ok (.invokeinterface index count, 5)) (hq : pc + 5 = q) (nx : ∀ v h' G, h.size ≤ h'.size → Q' v h' G → ∃ F2, (∀ x ∈ F2, x ∈ G ∨ x ∈ F) ∧ Go l Z K own mn b ml rt R Q h' F2 c' s' q L (v.toList ++ S)) : Go l Z K own mn b ml rt R Q h F c s pc L S' := fun T X => by
  subst hq hc hs hst ha
  obtain ⟨vm, k, locs, Y, eT, hS, hk, hZ, hown, N, C, M, O, r⟩ := X
  obtain ⟨cB, kB, g1, g2, g3⟩ := isOf (s := K.2.2.1.setVm vm) hZ eT E
  obtain ⟨v, vm₁, B, -, Y', hS', hg, P, st⟩ := Y.interfaceBackS r.1 hown (mvT (s := K.2.2.1.setVm vm) hZ w1) (mvT (s := K.2.2.1.setVm vm) hZ w2) (w3 (K.2.2.1.setVm vm) _ hZ) (mvT (s := K.2.2.1.setVm vm) hZ w4) (mvT (s := K.2.2.1.setVm vm) hZ w5) (mvT (s := K.2.2.1.setVm vm) hZ w6) (mvT (s := K.2.2.1.setVm vm) hZ w7) (mvT (s := K.2.2.1.setVm vm) hZ w8) hy (W := (S.map fun v => v.category).sum) (M'.back H hZ w10 w9 hfr hlo C.1 (fun x hx => M x (hF x hx)) O) g1 g2 g3 (g := mkF K.2.2.2.1 pc L (argsL.reverse ++ .ref a :: S)) rfl (by rw [r.2.2.1]; exact hL) (Steps.refl _) (argsL := argsL) (rest := S) hlen rfl (by show 2 * 0 + _ ≤ _; omega) (hb r.2.1 hd) (fun _ _ => ⟨rfl, eT, hc', hs'⟩)
  obtain ⟨G, q1, q2⟩ := St.came Y eT hS hk hZ hown N C M r Y' hS' hg P
  obtain ⟨F2, f1, f2⟩ := nx v B.U.heap G (by rw [← eT]; exact hg) q1
  obtain ⟨s₂, o, x, r'⟩ := f2 B.U (q2 F2 f1)
  exact ⟨s₂, o, st.trans x, r'⟩
/-- invokespecial of the superclass's own method -/
theorem go_super (H : Wd Z a0) {a : Addr} {C : String} (w1 : (Cond.methodLink own index y).before a0 Z = true) (w2 : (Cond.sameMethod y.cls y.cls y.name y.desc).before a0 Z = true) (w3 : (Cond.instanceMethod y).before a0 Z = true) (w4 : (Cond.superclass own y.cls).before a0 Z = true) (w5 : (Cond.initialized y.cls).before a0 Z = true) (w6 : (Cond.code y b' ml' rt').before a0 Z = true) (hni : y.name ≠ "<init>") (E : Exa Z h a C) (M' : Met l Z y b' ml' rt' R' h F' as Q')
    (ha : (.ref a :: argsL).toArray = as) (hst : S' = argsL.reverse ++ .ref a :: S) (hlen : ∀ sig, parseMethodDescriptor y.desc = some sig → argsL.length = sig.parameters.length) (hF : ∀ x ∈ F', x ∈ F) (hL : L.size = ml) (hfr : R'.frames + 1 ≤ R.frames) (hlo : (S.map fun v => v.category).sum + (ml' + 11) + R'.locals ≤ R.locals) (hc : c + R'.cells = c') (hs : s + R'.slots = s') (hc' : c' ≤ R.cells) (hs' : s' ≤ R.slots)
    (hd : decode b pc = .ok (.invokespecial index, 3)) (hq : pc + 3 = q) (nx : ∀ v h' G, h.size ≤ h'.size → Q' v h' G → ∃ F2, (∀ x ∈ F2, x ∈ G ∨ x ∈ F) ∧ Go l Z K own mn b ml rt R Q h' F2 c' s' q L (v.toList ++ S)) : Go l Z K own mn b ml rt R Q h F c s pc L S' := fun T X => by
  subst hq hc hs hst ha
  obtain ⟨vm, k, locs, Y, eT, hS, hk, hZ, hown, N, C, M, O, r⟩ := X
  obtain ⟨v, vm₁, B, -, Y', hS', hg, P, st⟩ := superBackS Y r.1 (show Z.Warmed39 (K.2.2.1.setVm vm).vm from hZ) hown w1 w2 w3 w4 hni (W := (S.map fun v => v.category).sum) (M'.back H hZ w6 w5 hfr hlo C.1 (fun x hx => M x (hF x hx)) O) eT (Ins.self E) (g := mkF K.2.2.2.1 pc L (argsL.reverse ++ .ref a :: S)) rfl (by rw [r.2.2.1]; exact hL) w6 (argsL := argsL) (rest := S) hlen rfl (by show 2 * 0 + _ ≤ _; omega) (hb r.2.1 hd) (fun _ _ => ⟨rfl, eT, hc', hs'⟩)
  obtain ⟨G, q1, q2⟩ := St.came Y eT hS hk hZ hown N C M r Y' hS' hg P
  obtain ⟨F2, f1, f2⟩ := nx v B.U.heap G (by rw [← eT]; exact hg) q1
  obtain ⟨s₂, o, x, r'⟩ := f2 B.U (q2 F2 f1)
  exact ⟨s₂, o, st.trans x, r'⟩
/-- System.arraycopy of bytes -/
theorem go_arraycopy {a d : Addr} {ka kd : ClassId} {ty : FieldType} {z z' sp dp nn : Int32} {vs vd us : List Value} {dv dd : Value} (w1 : (Cond.methodLink own index Jvm.Stand.acN).before a0 Z = true) (w2 : (Cond.native Jvm.Stand.acN).before a0 Z = true) (w3 : (Cond.static Jvm.Stand.acN).before a0 Z = true) (w4 : (Cond.initialized "java/lang/System").before a0 Z = true)
    (A : Arv Z h a ka ty z vs dv) (B : Arv Z h d kd ty z' vd dd) (hty : refKind ty = false) (h1 : ¬ sp < 0) (h2 : ¬ dp < 0) (h3 : ¬ nn < 0) (h4 : sp.toNatClampNeg + nn.toNatClampNeg ≤ z.toNatClampNeg) (h5 : dp.toNatClampNeg + nn.toNatClampNeg ≤ z'.toNatClampNeg) (hus : us = (List.range nn.toNatClampNeg).map fun i => vs.getD (sp.toNatClampNeg + i) dv) (hl : dp.toNatClampNeg + nn.toNatClampNeg ≤ vd.length) (ha : d ∈ F)
    (hL : L.size = ml) (hfr : 1 ≤ R.frames) (hlo : (S.map fun v => v.category).sum + (nativeFrameWords "java/lang/System" "arraycopy" 5 + 11) ≤ R.locals) (hd : decode b pc = .ok (.invokestatic index, 3)) (hq : pc + 3 = q)
    (nx : ∀ h', Keep h h' [d] → Arv Z h' d kd ty z' (vd.take dp.toNatClampNeg ++ us ++ vd.drop (dp.toNatClampNeg + nn.toNatClampNeg)) dd → Go l Z K own mn b ml rt R Q h' F c s q L S) : Go l Z K own mn b ml rt R Q h F c s pc L (.int nn :: .int dp :: .ref d :: .int sp :: .ref a :: S) := fun T X => by
  subst hq
  obtain ⟨vm, k, locs, Y, eT, hS, hk, hZ, hown, N, C, M, O, r⟩ := X
  obtain ⟨T', h', L', Y', e', N', Kp, V, st⟩ := cpA Y r.1 (show Z.Warmed39 (K.2.2.1.setVm vm).vm from hZ) hown w1 w2 w3 w4 eT A B (Or.inl ⟨rfl, hty⟩) h1 h2 h3 h4 h5 hus hl N (M d ha).1 (g := mkF K.2.2.2.1 pc L (.int nn :: .int dp :: .ref d :: .int sp :: .ref a :: S)) rfl (by rw [r.2.2.1]; exact hL) (rest := S) rfl (hb r.2.1 hd) hfr (W := (S.map fun v => v.category).sum) (by show 2 * 0 + _ ≤ _; omega) hlo
  have hsf : ∀ x ∈ [d], Safe Z consts_1 vm h x := fun x hx => by cases List.mem_singleton.mp hx; exact (M d ha).2.2
  obtain ⟨s₂, o, x, r'⟩ := nx h' Kp V T' ⟨vm, k, L', Y', e', hS, Nat.le_trans hk Kp.1, hZ, hown, N', C.trans (CHr.keep Kp hsf C.1), fun x hx => ⟨(M x hx).1, Nat.lt_of_lt_of_le (M x hx).2.1 Kp.1, Safe.keep Kp hsf C.1 (M x hx).2.2⟩, O.keep Kp (fun x hx => by cases List.mem_singleton.mp hx; exact (M d ha).1), r⟩
  exact ⟨s₂, o, st _ x, r'⟩
theorem nf_self {C : String} (w3 : (Cond.selects C y y).before a0 Z = true) : ∀ s : State, Z.Warmed39 s.vm → NotFace s y := fun s hZ => notFace_of_selects (args := #[]) (mvT hZ w3)
/-- the plain end of a call: nothing more to write -/
theorem nx_ {v : Option Value} {G : List Addr} (n : Go l Z K own mn b ml rt R Q h F c s pc L S) : ∃ F2, (∀ x ∈ F2, x ∈ G ∨ x ∈ F) ∧ Go l Z K own mn b ml rt R Q h F2 c s pc L S := ⟨F, fun _ q => Or.inr q, n⟩
end Calls
end G
end Own
end Jvm.Pilot.@@N@@
/-! OWN FRAMEWORK, part 3: Strings of Latin-1 chars. -/
namespace Jvm.Pilot.@@N@@
namespace Own
open Jvm Jvm.ClassFile Sem Op Lib Jvm.Free Jvm.Stand Jvm.LawKit Jvm.RoadKit
abbrev ST : String := "java/lang/String"
abbrev bts (cs : List Int32) : List Value := cs.map fun c => .int c.toInt8.toInt32
abbrev ints (cs : List Int32) : List Value := cs.map fun c => .int c
def Lat (cs : List Int32) : Prop := cs.length ≤ 4096 ∧ ∀ c ∈ cs, ¬ c < 0 ∧ ¬ 255 < c
/-- the String at a spells cs; its cells are none of F -/
def Str (Z : State) (h : Heap) (F : List Addr) (a : Addr) (cs : List Int32) : Prop :=
  Exa Z h a ST ∧ Fld Z h a ST "coder" "B" (.int 0) ∧ a ∉ F ∧ Lat cs ∧ ∃ bb k, bb ∉ F ∧ Fld Z h a ST "value" "[B" (.ref bb) ∧ Arv Z h bb k .byte (Int32.ofNat cs.length) (bts cs) (.int 0)
theorem toInt_ofNat {n : Nat} (h : n < 2147483648) : (Int32.ofNat n).toInt = n := by
  rw [Int32.toInt_ofNat_of_lt (by simpa using h)]
theorem cl_ofNat {n : Nat} (h : n < 2147483648) : (Int32.ofNat n).toNatClampNeg = n := by
  simp only [Int32.toNatClampNeg, toInt_ofNat h]; omega
theorem nn_ofNat {n : Nat} (h : n < 2147483648) : ¬ Int32.ofNat n < 0 := by
  rw [Int32.lt_iff_toInt_lt, toInt_ofNat h, show (0 : Int32).toInt = 0 from rfl]; omega
theorem lt_ofNat {i n : Nat} (hi : i < 2147483648) (hn : n < 2147483648) : Int32.ofNat i < Int32.ofNat n ↔ i < n := by
  rw [Int32.lt_iff_toInt_lt, toInt_ofNat hi, toInt_ofNat hn]; omega
theorem eq_ofNat {i n : Nat} (hi : i < 2147483648) (hn : n < 2147483648) : Int32.ofNat i = Int32.ofNat n ↔ i = n := by
  rw [← Int32.toInt_inj, toInt_ofNat hi, toInt_ofNat hn]; omega
theorem add1_ofNat {i : Nat} : Int32.ofNat i + Int32.ofInt 1 = Int32.ofNat (i + 1) := by
  rw [Int32.ofNat_add]; rfl
section
variable {Z : State} {h h' : Heap} {F F' : List Addr} {a : Addr} {cs : List Int32} {ws : List Addr}
theorem Str.exa (S : Str Z h F a cs) : Exa Z h a ST := S.1
theorem Str.lat (S : Str Z h F a cs) : Lat cs := S.2.2.2.1
theorem Str.lt (S : Str Z h F a cs) : a < h.size := S.1.lt
theorem Str.keep (S : Str Z h F a cs) (K : Keep h h' ws) (hw : ∀ x ∈ ws, x ∈ F ∨ h.size ≤ x) : Str Z h' F a cs := by
  obtain ⟨E, C, ha, hl, bb, k, hb, V, A⟩ := S
  have na : a ∉ ws := fun q => (hw a q).elim ha fun z => absurd E.lt (Nat.not_lt.mpr z)
  have nb : bb ∉ ws := fun q => (hw bb q).elim hb fun z => absurd A.lt (Nat.not_lt.mpr z)
  exact ⟨E.keep K, C.keep K na, ha, hl, bb, k, hb, V.keep K na, A.keep K nb⟩
theorem Str.keep0 (S : Str Z h F a cs) (K : Keep h h' []) : Str Z h' F a cs := S.keep K (fun _ q => nomatch q)
theorem Str.ext (S : Str Z h F a cs) (E : Ext h h') : Str Z h' F a cs := S.keep0 ((Keep.refl h []).ext E)
theorem Str.grow (S : Str Z h F a cs) (hF : ∀ x ∈ F', x ∈ F ∨ h.size ≤ x) : Str Z h F' a cs := by
  obtain ⟨E, C, ha, hl, bb, k, hb, V, A⟩ := S
  exact ⟨E, C, fun q => (hF a q).elim ha fun z => absurd E.lt (Nat.not_lt.mpr z), hl, bb, k, fun q => (hF bb q).elim hb fun z => absurd A.lt (Nat.not_lt.mpr z), V, A⟩
theorem Str.less (S : Str Z h F a cs) (hF : ∀ x ∈ F', x ∈ F) : Str Z h F' a cs := S.grow fun x q => Or.inl (hF x q)
theorem Str.nil (S : Str Z h F a cs) : Str Z h [] a cs := S.less (fun _ q => nomatch q)
theorem Str.ins (S : Str Z h F a cs) : Ins Z h a ST true := Ins.self S.1
end
theorem kless {h h' : Heap} {ws ws' : List Addr} (K : Keep h h' ws) (q : ∀ x ∈ ws, x ∈ ws') : Keep h h' ws' := ⟨K.1, fun x c e n => K.2.1 x c e fun m => n (q x m), K.2.2⟩
theorem kfresh {h h1 h2 : Heap} {a : Addr} (K : Keep h h1 []) (K' : Keep h1 h2 [a]) (q : h.size ≤ a) : Keep h h2 [] := K.trans K' fun x e => by cases List.mem_singleton.mp e; exact Or.inr q
theorem nref {t : FieldType} {v : Value} (ht : t.isReference = true) (hv : v.isRef = true) : narrow t v = v := by cases t <;> cases v <;> simp_all [narrow, Value.isRef, FieldType.isReference]
theorem fref {t : FieldType} {v : Value} (ht : t.isReference = true) (hv : v.isRef = true) : fits t v = true := by cases t <;> cases v <;> simp_all [fits, Value.isRef, FieldType.isReference]
theorem shr0 (z : Int32) : z >>> ((0 : Int32) &&& 31) = z := by
  rw [← Int32.toInt_inj, c_ishr z 0 0 rfl]; simp
theorem nar_char {x : Int32} (h0 : ¬ x < 0) (h1 : ¬ 255 < x) : nar .char x = x := by
  have h := c_i2c x
  rw [Int32.lt_iff_toInt_lt] at h0 h1
  have e0 : (0 : Int32).toInt = 0 := rfl
  have e1 : (255 : Int32).toInt = 255 := rfl
  rw [← Int32.toInt_inj]
  show x.toUInt32.toUInt16.toUInt32.toInt32.toInt = _
  omega
theorem msk (x : Int32) : ¬ (x &&& 255) < 0 ∧ ¬ 255 < (x &&& 255) := by
  have h := c_and x 255 (by decide)
  rw [Int32.lt_iff_toInt_lt, Int32.lt_iff_toInt_lt]
  have e0 : (0 : Int32).toInt = 0 := rfl
  have e1 : (255 : Int32).toInt = 255 := rfl
  omega
theorem i2c_msk (x : Int32) : (x &&& 255).toUInt32.toUInt16.toUInt32.toInt32 = x &&& 255 := nar_char (msk x).1 (msk x).2
theorem b_inj {x y : Int32} (hx : ¬ x < 0 ∧ ¬ 255 < x) (hy : ¬ y < 0 ∧ ¬ 255 < y) (h : x.toInt8.toInt32 = y.toInt8.toInt32) : x = y := by
  have h1 := c_i2b x; have h2 := c_i2b y
  rw [h] at h1
  rw [Int32.lt_iff_toInt_lt, Int32.lt_iff_toInt_lt] at hx hy
  have e0 : (0 : Int32).toInt = 0 := rfl
  have e1 : (255 : Int32).toInt = 255 := rfl
  rw [← Int32.toInt_inj]; omega
theorem b_and {x : Int32} (hx : ¬ x < 0 ∧ ¬ 255 < x) : x.toInt8.toInt32 &&& 255 = x := by
  have h1 := c_i2b x
  have h2 := c_mask (x.toInt8.toInt32) 255 8 (by decide) (by decide)
  rw [Int32.lt_iff_toInt_lt, Int32.lt_iff_toInt_lt] at hx
  have e0 : (0 : Int32).toInt = 0 := rfl
  have e1 : (255 : Int32).toInt = 255 := rfl
  rw [← Int32.toInt_inj, h2]; omega
theorem bts_at {cs : List Int32} {i : Nat} (hi : i < cs.length) : (bts cs).getD i (.int 0) = .int (cs[i].toInt8.toInt32) := by simp [bts, hi]
theorem Str.same {Z : State} {h : Heap} {F F' : List Addr} {a : Addr} {cs ds : List Int32} (S : Str Z h F a cs) (S2 : Str Z h F' a ds) : cs = ds := by
  obtain ⟨E, C, ha, hl, bb, k, hb, V, A⟩ := S
  obtain ⟨E2, C2, ha2, hl2, bb2, k2, hb2, V2, A2⟩ := S2
  obtain rfl : bb = bb2 := by
    by_cases e : bb = bb2
    · exact e
    · exact absurd rfl (V.ne V2 (by simpa using e))
  obtain ⟨c1, r1, q1, s1, n1, H1, G1⟩ := A
  obtain ⟨c2, r2, q2, s2, n2, H2, G2⟩ := A2
  obtain rfl : c1 = c2 := Option.some.inj (r1.1.symm.trans r2.1)
  have l1 := hl.1; have l2 := hl2.1
  rw [cl_ofNat (by omega)] at s1 s2
  have hlen : cs.length = ds.length := s1.symm.trans s2
  refine List.ext_getElem hlen fun i h1 h2 => ?_
  have e1 := H1 i (by omega)
  have e2 := H2 i (by omega)
  rw [bts_at h1] at e1; rw [bts_at h2] at e2
  have e3 := e1.symm.trans e2
  simp only [Option.some.injEq, Value.int.injEq] at e3
  exact b_inj (hl.2 _ (List.getElem_mem h1)) (hl2.2 _ (List.getElem_mem h2)) e3
section G
variable {l : Launch} {Z : State} {a0 : Array Value} {K : Cx} {own mn : String} {b : ByteArray} {ml : Nat} {rt : Option FieldType} {R : Room} {Q : QT} {h h' : Heap} {F : List Addr} {c s pc q c' s' : Nat} {L L' : Array Slot} {S S' : List Value}
theorem go_istoreO {k : Nat} {x : Int32} {o : Slot} (hd : decode b pc = .ok (.istore k, 2)) (hold : L[k]? = some o) (ho : One o) (hL : L.setIfInBounds k (.val (.int x)) = L') (hq : pc + 2 = q) (n : Go l Z K own mn b ml rt R Q h F c s q L' S) : Go l Z K own mn b ml rt R Q h F c s pc L (.int x :: S) := by
  subst hq hL; exact go_of (fun T X t st => by obtain ⟨vm, k, locs, Y, r1, r2, r3, r4, r5, r6, r7, r8, r9, hx, hb', rr⟩ := X; exact XS.istoreS Y.here hx rfl (hb hb' hd) rfl hold ho st) n
theorem go_istoreNO {k : Fin 4} {x : Int32} {o : Slot} (hd : decode b pc = .ok (.istore_n k, 1)) (hold : L[k.val]? = some o) (ho : One o) (hL : L.setIfInBounds k.val (.val (.int x)) = L') (hq : pc + 1 = q) (n : Go l Z K own mn b ml rt R Q h F c s q L' S) : Go l Z K own mn b ml rt R Q h F c s pc L (.int x :: S) := by
  subst hq hL; exact go_of (fun T X t st => by obtain ⟨vm, k, locs, Y, r1, r2, r3, r4, r5, r6, r7, r8, r9, hx, hb', rr⟩ := X; exact XS.istoreNS Y.here hx rfl (hb hb' hd) rfl hold ho st) n
/-- ldc of a Latin-1 constant -/
theorem go_lit (H : Wd Z a0) {index : Nat} {text : String} {cs : List Int32} {n : Nat} (w : (Cond.stringLink own index text).before a0 Z = true) (hm : (own, index) ∈ consts_1) (ht1 : ∀ c ∈ text.toList, c.toNat < 256) (ht2 : text.toList.map (fun c => Value.int (Jvm.Lit.byteI c.toNat.toUInt16)) = bts cs) (h1 : cs.length ≤ 4096) (h2 : ∀ c ∈ cs, ¬ c < 0 ∧ ¬ 255 < c)
    (hd : decode b pc = .ok (.ldc index, 2)) (hn : 4 * text.toList.length ≤ n) (hbig : n ≤ 536870912) (hq : pc + 2 = q) (hc : c + 2 = c') (hs : s + (n + 4) = s') (hc' : c' ≤ R.cells) (hs' : s' ≤ R.slots)
    (nx : ∀ h' a, Ext h h' → Str Z h' F a cs → Go l Z K own mn b ml rt R Q h' F c' s' q L (.ref a :: S)) : Go l Z K own mn b ml rt R Q h F c s pc L S :=
  go_ldcS H w hm ⟨ht1, ht2⟩ (nn_ofNat (n := cs.length) (by omega)) (by rw [cl_ofNat (by omega)]; simp) hd hn hbig hq hc hs hc' hs' fun h' a bb k E A Fc Fv V ne => nx h' a E ⟨A, Fc, fun q => (ne a q).1 rfl, ⟨h1, h2⟩, bb, k, fun q => (ne bb q).2 rfl, Fv, V⟩
end G
end Own
end Jvm.Pilot.@@N@@
/-! OWN FRAMEWORK, part 4: StringBuilder. -/
namespace Jvm.Pilot.@@N@@
namespace Own
open Jvm Jvm.ClassFile Sem Op Lib Jvm.Free Jvm.Stand Jvm.LawKit Jvm.RoadKit
abbrev SBN : String := "java/lang/StringBuilder"
abbrev ABN : String := "java/lang/AbstractStringBuilder"
abbrev zs (n : Nat) : List Value := List.replicate n (.int 0)
/-- the builder x, whose array is v (cap bytes), spells cs -/
def SBd (Z : State) (h : Heap) (x v : Addr) (cap : Nat) (cs : List Int32) : Prop :=
  Exa Z h x SBN ∧ Fld Z h x ABN "value" "[B" (.ref v) ∧ Fld Z h x ABN "coder" "B" (.int 0) ∧ Fld Z h x ABN "count" "I" (.int (Int32.ofNat cs.length)) ∧ Lat cs ∧ cs.length ≤ cap ∧ cap ≤ 4096 ∧ ∃ k, Arv Z h v k .byte (Int32.ofNat cap) (bts cs ++ zs (cap - cs.length)) (.int 0)
section
variable {Z : State} {h h' : Heap} {x v : Addr} {cap : Nat} {cs ds : List Int32} {ws : List Addr}
theorem SBd.keep (S : SBd Z h x v cap cs) (K : Keep h h' ws) (nx : x ∉ ws) (nv : v ∉ ws) : SBd Z h' x v cap cs := by
  obtain ⟨E, V, C, N, L, l1, l2, k, A⟩ := S
  exact ⟨E.keep K, V.keep K nx, C.keep K nx, N.keep K nx, L, l1, l2, k, A.keep K nv⟩
theorem SBd.keep0 (S : SBd Z h x v cap cs) (K : Keep h h' []) : SBd Z h' x v cap cs := S.keep K nin0 nin0
theorem SBd.ext (S : SBd Z h x v cap cs) (E : Ext h h') : SBd Z h' x v cap cs := S.keep0 ((Keep.refl h []).ext E)
theorem SBd.exa (S : SBd Z h x v cap cs) : Exa Z h x SBN := S.1
theorem SBd.lat (S : SBd Z h x v cap cs) : Lat cs := S.2.2.2.2.1
theorem SBd.le (S : SBd Z h x v cap cs) : cs.length ≤ cap := S.2.2.2.2.2.1
theorem bts_len (cs : List Int32) : (bts cs).length = cs.length := by simp [bts]
theorem us_eq (ds : List Int32) : (List.range ds.length).map (fun i => (bts ds).getD i (.int 0)) = bts ds := by
  refine List.ext_getElem (by simp [bts]) fun i h1 h2 => ?_
  simp only [bts_len] at h2
  simp [bts, h2]
theorem cat_eq {n : Nat} (h1 : cs.length + ds.length ≤ n) : (bts cs ++ zs (n - cs.length)).take cs.length ++ bts ds ++ (bts cs ++ zs (n - cs.length)).drop (cs.length + ds.length) = bts (cs ++ ds) ++ zs (n - (cs ++ ds).length) := by
  have e1 : (bts cs ++ zs (n - cs.length)).take cs.length = bts cs := by
    rw [List.take_append_of_le_length (by rw [bts_len]; exact Nat.le_refl _), List.take_of_length_le (by rw [bts_len]; exact Nat.le_refl _)]
  have e2 : (bts cs ++ zs (n - cs.length)).drop (cs.length + ds.length) = zs (n - (cs ++ ds).length) := by
    rw [List.drop_append, List.drop_of_length_le (by rw [bts_len]; omega), List.nil_append, bts_len, List.drop_replicate, List.length_append]
    congr 1; omega
  rw [e1, e2]
  simp [bts]
theorem Lat.app (h1 : Lat cs) (h2 : Lat ds) (h : cs.length + ds.length ≤ 4096) : Lat (cs ++ ds) := ⟨by simpa using h, fun c hc => (List.mem_append.mp hc).elim (h1.2 c) (h2.2 c)⟩
theorem add_ofNat (i j : Nat) : Int32.ofNat i + Int32.ofNat j = Int32.ofNat (i + j) := (Int32.ofNat_add i j).symm
theorem shl0 (z : Int32) : z <<< ((0 : Int32) &&& 31) = z := by
  rw [show (0 : Int32) &&& 31 = 0 from by decide]; exact Int32.shiftLeft_zero
theorem sub_ofNat {i j : Nat} (hi : i < 2147483648) (hj : j < 2147483648) : (Int32.ofNat i - Int32.ofNat j).toInt = (i : Int) - j := by
  have h := c_isub (Int32.ofNat i) (Int32.ofNat j)
  rw [toInt_ofNat hi, toInt_ofNat hj] at h
  have h3 := (Int32.ofNat i - Int32.ofNat j).le_toInt; have h4 := (Int32.ofNat i - Int32.ofNat j).toInt_lt
  omega
theorem subNat {i j : Nat} (hj : j ≤ i) (hi : i < 2147483648) : Int32.ofNat i - Int32.ofNat j = Int32.ofNat (i - j) := by
  rw [← Int32.toInt_inj, sub_ofNat hi (by omega), toInt_ofNat (by omega)]; omega
theorem not_pos_sub {i j : Nat} (h : i ≤ j) (hj : j < 2147483648) : ¬ (0 : Int32) < Int32.ofNat i - Int32.ofNat j := by
  rw [Int32.lt_iff_toInt_lt, sub_ofNat (by omega) hj, show (0 : Int32).toInt = 0 from rfl]; omega
end
end Own
end Jvm.Pilot.@@N@@
/-! OWN FRAMEWORK, part 5: arrays of references, ArrayList. -/
namespace Jvm.Pilot.@@N@@
namespace Own
open Jvm Jvm.ClassFile Sem Op Lib Jvm.Free Jvm.Stand Jvm.LawKit Jvm.RoadKit
section G
variable {l : Launch} {Z : State} {a0 : Array Value} {K : Cx} {own mn : String} {b : ByteArray} {ml : Nat} {rt : Option FieldType} {R : Room} {Q : QT} {h h' : Heap} {F : List Addr} {c s pc q c' s' : Nat} {L L' : Array Slot} {S S' : List Value}
theorem go_aastore {a y : Addr} {k : ClassId} {C : String} {z j : Int32} {vs : List Value} {dv : Value} {i : Nat} (A : Arv Z h a k (.object C) z vs dv) (Ov : Ovr Z k C) (I : Ins Z h y C true) (hj : ¬ j < 0 ∧ j < z) (hi : j.toNatClampNeg = i) (hl : i < vs.length) (ha : a ∈ F) (hd : decode b pc = .ok (.aastore, 1)) (hq : pc + 1 = q)
    (nx : ∀ h', Keep h h' [a] → h'.size = h.size → Arv Z h' a k (.object C) z (vs.set i (.ref y)) dv → Go l Z K own mn b ml rt R Q h' F c s q L S) : Go l Z K own mn b ml rt R Q h F c s pc L (.ref y :: .int j :: .ref a :: S) := fun T X => by
  subst hq
  obtain ⟨vm, k, locs, Y, eT, hS, hk, hZ, hown, N, C, M, O, r⟩ := X
  obtain ⟨cl, Ar, q1, q2, q3, q4, q5⟩ := A
  have hin := inb_of q2 hj
  obtain ⟨T', h', Y', e', W, st⟩ := stR Y r.1 hZ eT Ar hin rfl (Sto.ofV Ar q1 Ov I) (g := mkF K.2.2.2.1 pc L (.ref y :: .int j :: .ref a :: S)) rfl rfl (hb r.2.1 hd)
  obtain ⟨s₂, o, x, r'⟩ := nx h' (Keep.of_wr W) W.size (Arv.set Ar q1 q2 q3 q4 q5 rfl W i hi hl) T' (St.wrote W ha Y' e' hS hk hZ hown N C M O r)
  exact ⟨s₂, o, st _ x, r'⟩
theorem go_getstaticN {index : Nat} {R0 O n d host : String} {v : Value} (w : (Cond.fieldLinkNest own index R0 n d host).before a0 Z = true) (via : Via Z R0 O n d) (Fv : Sta Z Z.heap O n d v) (hd : decode b pc = .ok (.getstatic index, 3)) (hq : pc + 3 = q)
    (nx : Go l Z K own mn b ml rt R Q h F c s q L (v :: S)) : Go l Z K own mn b ml rt R Q h F c s pc L S := fun T X => by
  subst hq
  obtain ⟨vm, k, locs, Y, eT, hS, hk, hZ, hown, N, C, M, O, hx, hb', r⟩ := X
  obtain ⟨T', Y', e', st⟩ := getS2 Y hx hZ hown (host := host) (Or.inr w) via eT (Fv.ext O.2) (g := mkF K.2.2.2.1 pc L S) rfl (hb hb' hd)
  obtain ⟨s₂, o, x, r'⟩ := nx T' ⟨vm, k, locs, Y', e', hS, hk, hZ, hown, N, C, M, O, hx, hb', r⟩
  exact ⟨s₂, o, st _ x, r'⟩
theorem go_instNull {index : Nat} (hd : decode b pc = .ok (.instanceof index, 3)) (hq : pc + 3 = q) (nx : Go l Z K own mn b ml rt R Q h F c s q L (.int 0 :: S)) : Go l Z K own mn b ml rt R Q h F c s pc L (.null :: S) := by
  subst hq
  exact go_of (fun T X t st => by
    obtain ⟨vm, k, locs, Y, eT, hS, hk, hZ, hown, N, C, M, O, r⟩ := X
    exact Y.instanceofNull r.1 (g := mkF K.2.2.2.1 pc L (.null :: S)) rfl rfl (hb r.2.1 hd) _ st) nx
/-- clone of an array -/
theorem go_clone {index cap : Nat} {a : Addr} {ad : String} {k : ClassId} {ty : FieldType} {z : Int32} {vs : List Value} {dv : Value} (w1 : (Cond.methodLink own index ⟨ad, "clone", "()Ljava/lang/Object;"⟩).before a0 Z = true) (w2 : (Cond.sameMethod ad "java/lang/Object" "clone" "()Ljava/lang/Object;").before a0 Z = true) (w3 : (Cond.native ⟨"java/lang/Object", "clone", "()Ljava/lang/Object;"⟩).before a0 Z = true)
    (w4 : (Cond.instanceMethod ⟨"java/lang/Object", "clone", "()Ljava/lang/Object;"⟩).before a0 Z = true) (w5 : (Cond.selects ad ⟨ad, "clone", "()Ljava/lang/Object;"⟩ ⟨"java/lang/Object", "clone", "()Ljava/lang/Object;"⟩).before a0 Z = true) (w6 : (Cond.castable ad "java/lang/Cloneable").before a0 Z = true)
    (V : Arv Z h a k ty z vs dv) (E : Exa Z h a ad) (hL : L.size = ml) (hfr : 1 ≤ R.frames) (hlo : (S.map fun v => v.category).sum + 14 ≤ R.locals) (hcap : z.toNatClampNeg ≤ cap) (hd : decode b pc = .ok (.invokevirtual index, 3)) (hq : pc + 3 = q) (hc : c + 1 = c') (hs : s + cap = s') (hc' : c' ≤ R.cells) (hs' : s' ≤ R.slots)
    (nx : ∀ h' d, d = h.size → Ext h h' → Arv Z h' d k ty z vs dv → Exa Z h' d ad → Go l Z K own mn b ml rt R Q h' (d :: F) c' s' q L (.ref d :: S)) : Go l Z K own mn b ml rt R Q h F c s pc L (.ref a :: S) := fun T X => by
  subst hq hc hs
  obtain ⟨vm, k, locs, Y, eT, hS, hk, hZ, hown, N, C, M, O, r⟩ := X
  obtain ⟨cl, A, q1, q2, q3, H, G⟩ := V
  have FC : FitC Z cl := fitC_of A fun i hi v hv => by rw [H i hi] at hv; cases hv; exact G i hi
  obtain ⟨T', h', Y', e', Ex, A', E', st⟩ := cloneA Y r.1 (show Z.Warmed39 (K.2.2.1.setVm vm).vm from hZ) hown w1 w2 w3 w4 w5 w6 eT A E FC (g := mkF K.2.2.2.1 pc L (.ref a :: S)) rfl (by rw [r.2.2.1]; exact hL) (rest := S) rfl (hb r.2.1 hd) hfr (W := (S.map fun v => v.category).sum) (by show 2 * 0 + _ ≤ _; omega) hlo (by rw [q2]; exact hcap) hc' hs'
  obtain ⟨s₂, o, x, r'⟩ := nx h' _ rfl Ex ⟨cloneOf cl, A', q1, q2, q3, H, G⟩ E' T' (St.grew Ex (fun x hx => by rcases List.mem_cons.mp hx with rfl | hx; exact Or.inr ⟨Nat.le_refl _, A'.lt⟩; exact Or.inl hx) Y' e' hS hk hZ hown N C M O r)
  exact ⟨s₂, o, st _ x, r'⟩
section Calls
variable {index : Nat} {y : MethodName} {b' : ByteArray} {ml' : Nat} {rt' : Option FieldType} {R' : Room} {F' : List Addr} {as : Array Value} {Q' : QT} {argsL : List Value}
/-- invokevirtual of a method that the named class inherits -/
theorem go_virtualUp (H : Wd Z a0) {a : Addr} {C owner : String} {z : MethodName} (w1 : (Cond.methodLink own index y).before a0 Z = true) (w2 : (Cond.sameMethod y.cls owner y.name y.desc).before a0 Z = true) (w2' : (Cond.declares ⟨owner, y.name, y.desc⟩).before a0 Z = true) (how : owner ≠ "java/lang/invoke/MethodHandle" ∧ owner ≠ "java/lang/invoke/VarHandle") (w3 : (Cond.selects C y z).before a0 Z = true) (w4 : (Cond.instanceMethod z).before a0 Z = true) (w5 : (Cond.initialized z.cls).before a0 Z = true) (w6 : (Cond.code z b' ml' rt').before a0 Z = true)
    (E : Exa Z h a C) (M' : Met l Z z b' ml' rt' R' h F' as Q')
    (ha : (.ref a :: argsL).toArray = as) (hst : S' = argsL.reverse ++ .ref a :: S) (hlen : ∀ sig, parseMethodDescriptor y.desc = some sig → argsL.length = sig.parameters.length) (hF : ∀ x ∈ F', x ∈ F) (hL : L.size = ml) (hfr : R'.frames + 1 ≤ R.frames) (hlo : (S.map fun v => v.category).sum + (ml' + 11) + R'.locals ≤ R.locals) (hc : c + R'.cells = c') (hs : s + R'.slots = s') (hc' : c' ≤ R.cells) (hs' : s' ≤ R.slots)
    (hd : decode b pc = .ok (.invokevirtual index, 3)) (hq : pc + 3 = q) (nx : ∀ v h' G, h.size ≤ h'.size → Q' v h' G → ∃ F2, (∀ x ∈ F2, x ∈ G ∨ x ∈ F) ∧ Go l Z K own mn b ml rt R Q h' F2 c' s' q L (v.toList ++ S)) : Go l Z K own mn b ml rt R Q h F c s pc L S' := fun T X => by
  subst hq hc hs hst ha
  obtain ⟨vm, k, locs, Y, eT, hS, hk, hZ, hown, N, C, M, O, r⟩ := X
  obtain ⟨cB, kB, g1, g2, g3⟩ := isOf (s := K.2.2.1.setVm vm) hZ eT E
  obtain ⟨v, vm₁, B, -, Y', hS', hg, P, st⟩ := Y.virtualBackUpS r.1 hown (mvT (s := K.2.2.1.setVm vm) hZ w1) (mvT (s := K.2.2.1.setVm vm) hZ w2) (mvT (s := K.2.2.1.setVm vm) hZ w2') how (mvT (s := K.2.2.1.setVm vm) hZ w3) (mvT (s := K.2.2.1.setVm vm) hZ w4) (W := (S.map fun v => v.category).sum) (M'.back H hZ w6 w5 hfr hlo C.1 (fun x hx => M x (hF x hx)) O) g1 g3 (g := mkF K.2.2.2.1 pc L (argsL.reverse ++ .ref a :: S)) rfl (by rw [r.2.2.1]; exact hL) (Steps.refl _) (argsL := argsL) (rest := S) hlen rfl (by show 2 * 0 + _ ≤ _; omega) (hb r.2.1 hd) (fun _ _ => ⟨rfl, eT, hc', hs'⟩)
  obtain ⟨G, q1, q2⟩ := St.came Y eT hS hk hZ hown N C M r Y' hS' hg P
  obtain ⟨F2, f1, f2⟩ := nx v B.U.heap G (by rw [← eT]; exact hg) q1
  obtain ⟨s₂, o, x, r'⟩ := f2 B.U (q2 F2 f1)
  exact ⟨s₂, o, st.trans x, r'⟩
end Calls
end G
abbrev ALN : String := "java/util/ArrayList"
abbrev ABL : String := "java/util/AbstractList"
abbrev OBJ : String := "java/lang/Object"
abbrev OA : String := "[Ljava/lang/Object;"
/-- the shared empty array of a new ArrayList -/
def Dfl (Z : State) (de : Addr) : Prop := Sta Z Z.heap ALN "DEFAULTCAPACITY_EMPTY_ELEMENTDATA" OA (.ref de) ∧ ∃ k, Arv Z Z.heap de k (.object OBJ) 0 [] .null
/-- the ArrayList x: its array, size, modCount -/
def ALf (Z : State) (h : Heap) (x : Addr) (d : Value) (n m : Int32) : Prop := Exa Z h x ALN ∧ Fld Z h x ALN "elementData" OA d ∧ Fld Z h x ALN "size" "I" (.int n) ∧ Fld Z h x ABL "modCount" "I" (.int m)
/-- an array of ten references -/
def Ten (Z : State) (h : Heap) (d : Addr) (vs : List Value) : Prop := vs.length = 10 ∧ ∃ k, Ovr Z k OBJ ∧ Arv Z h d k (.object OBJ) 10 vs .null
section
variable {Z : State} {h h' : Heap} {x d : Addr} {v : Value} {n m : Int32} {vs : List Value} {ws : List Addr}
theorem ALf.keep (A : ALf Z h x v n m) (K : Keep h h' ws) (q : x ∉ ws) : ALf Z h' x v n m := ⟨A.1.keep K, A.2.1.keep K q, A.2.2.1.keep K q, A.2.2.2.keep K q⟩
theorem ALf.ext (A : ALf Z h x v n m) (E : Ext h h') : ALf Z h' x v n m := A.keep ((Keep.refl h []).ext E) nin0
theorem Ten.keep (A : Ten Z h d vs) (K : Keep h h' ws) (q : d ∉ ws) : Ten Z h' d vs := by
  obtain ⟨h1, k, O, V⟩ := A; exact ⟨h1, k, O, V.keep K q⟩
theorem Ten.ext (A : Ten Z h d vs) (E : Ext h h') : Ten Z h' d vs := A.keep ((Keep.refl h []).ext E) nin0
end
end Own
end Jvm.Pilot.@@N@@
/-! OWN FRAMEWORK, part 6: decimal digits. -/
namespace Jvm.Pilot.@@N@@
namespace Own
open Jvm Jvm.ClassFile Sem Op Lib Jvm.Free Jvm.Stand Jvm.LawKit Jvm.RoadKit
/-- how many digits -/
def ndg (q : Nat) : Nat := if q < 10 then 1 else if q < 100 then 2 else if q < 1000 then 3 else if q < 10000 then 4 else if q < 100000 then 5 else if q < 1000000 then 6 else if q < 10000000 then 7 else if q < 100000000 then 8 else if q < 1000000000 then 9 else 10
theorem nd_100 {q : Nat} (h : 100 ≤ q) (h2 : q ≤ 2147483648) : ndg q = ndg (q / 100) + 2 := by
  unfold ndg
  rw [if_neg (show ¬ q < 10 by omega), if_neg (show ¬ q < 100 by omega)]
  by_cases c3 : q < 1000
  · rw [if_pos c3, if_pos (show q / 100 < 10 by omega)]
  rw [if_neg c3, if_neg (show ¬ q / 100 < 10 by omega)]
  by_cases c4 : q < 10000
  · rw [if_pos c4, if_pos (show q / 100 < 100 by omega)]
  rw [if_neg c4, if_neg (show ¬ q / 100 < 100 by omega)]
  by_cases c5 : q < 100000
  · rw [if_pos c5, if_pos (show q / 100 < 1000 by omega)]
  rw [if_neg c5, if_neg (show ¬ q / 100 < 1000 by omega)]
  by_cases c6 : q < 1000000
  · rw [if_pos c6, if_pos (show q / 100 < 10000 by omega)]
  rw [if_neg c6, if_neg (show ¬ q / 100 < 10000 by omega)]
  by_cases c7 : q < 10000000
  · rw [if_pos c7, if_pos (show q / 100 < 100000 by omega)]
  rw [if_neg c7, if_neg (show ¬ q / 100 < 100000 by omega)]
  by_cases c8 : q < 100000000
  · rw [if_pos c8, if_pos (show q / 100 < 1000000 by omega)]
  rw [if_neg c8, if_neg (show ¬ q / 100 < 1000000 by omega)]
  by_cases c9 : q < 1000000000
  · rw [if_pos c9, if_pos (show q / 100 < 10000000 by omega)]
  rw [if_neg c9, if_neg (show ¬ q / 100 < 10000000 by omega)]
  rw [if_pos (show q / 100 < 100000000 by omega)]
theorem nd_le (q : Nat) : 1 ≤ ndg q ∧ ndg q ≤ 10 := by
  unfold ndg
  repeat' split
  all_goals omega
theorem nd_lo {q : Nat} (h : q < 10) : ndg q = 1 := by unfold ndg; rw [if_pos h]
theorem nd_mid {q : Nat} (h0 : ¬ q < 10) (h : q < 100) : ndg q = 2 := by unfold ndg; rw [if_neg h0, if_pos h]
def dig (m k : Nat) : Int32 := Int32.ofNat (48 + m / 10 ^ k % 10)
/-- the last k digits -/
def dgs (m : Nat) : Nat → List Int32
  | 0 => []
  | k + 1 => dig m k :: dgs m k
theorem dgs_len (m k : Nat) : (dgs m k).length = k := by
  induction k with
  | zero => rfl
  | succ n ih => simp [dgs, ih]
theorem dgs_at (m : Nat) : ∀ {k j : Nat}, j < k → (dgs m k)[j]? = some (dig m (k - 1 - j))
  | 0, _, h => absurd h (Nat.not_lt_zero _)
  | k + 1, 0, _ => by simp [dgs]
  | k + 1, j + 1, h => by
    have e := dgs_at m (k := k) (j := j) (by omega)
    rw [dgs, List.getElem?_cons_succ, e, show k + 1 - 1 - (j + 1) = k - 1 - j by omega]
theorem dig_ok (m k : Nat) : ¬ dig m k < 0 ∧ ¬ 255 < dig m k := by
  have h0 : m / 10 ^ k % 10 < 10 := Nat.mod_lt _ (by decide)
  have h : 48 + m / 10 ^ k % 10 < 2147483648 := by omega
  exact ⟨nn_ofNat h, fun q => absurd ((lt_ofNat (i := 255) (by decide) h).mp q) (by omega)⟩
theorem dgs_ok (m : Nat) : ∀ k, ∀ c ∈ dgs m k, ¬ c < 0 ∧ ¬ 255 < c
  | 0 => fun c h => nomatch h
  | k + 1 => fun c h => by
    rcases List.mem_cons.mp h with rfl | h
    · exact dig_ok m k
    · exact dgs_ok m k c h
def mag (x : Int32) : Nat := x.toInt.natAbs
def sgn (x : Int32) : Nat := if x < 0 then 1 else 0
def decS (sg m : Nat) : List Int32 := List.replicate sg 45 ++ dgs m (ndg m)
def dec (x : Int32) : List Int32 := decS (sgn x) (mag x)
theorem mag_le (x : Int32) : mag x ≤ 2147483648 := by
  have h1 := x.le_toInt; have h2 := x.toInt_lt
  unfold mag; omega
theorem sgn_le (x : Int32) : sgn x ≤ 1 := by unfold sgn; split <;> omega
theorem decS_len (sg m : Nat) : (decS sg m).length = ndg m + sg := by
  rw [decS, List.length_append, List.length_replicate, dgs_len]; omega
theorem dec_len (x : Int32) : (dec x).length = ndg (mag x) + sgn x := decS_len _ _
theorem dec_le (x : Int32) : 1 ≤ (dec x).length ∧ (dec x).length ≤ 11 := by
  have h1 := nd_le (mag x); have h2 := sgn_le x
  rw [dec_len]; omega
theorem decS_ok (sg m : Nat) : ∀ c ∈ decS sg m, ¬ c < 0 ∧ ¬ 255 < c := fun c h => by
  rcases List.mem_append.mp h with h | h
  · rw [List.eq_of_mem_replicate h]; decide
  · exact dgs_ok _ _ c h
theorem dec_lat (x : Int32) : Lat (dec x) := ⟨by have := dec_le x; omega, decS_ok _ _⟩
def negI (m : Nat) : Int32 := Int32.ofInt (-(m : Int))
theorem ti_neg {m : Nat} (h : m ≤ 2147483648) : (negI m).toInt = -(m : Int) := by
  unfold negI; rw [Int32.toInt_ofInt_of_le (by omega) (by omega)]
theorem neg_lt {a b : Nat} (ha : a ≤ 2147483648) (hb : b ≤ 2147483648) : negI a < negI b ↔ b < a := by
  rw [Int32.lt_iff_toInt_lt, ti_neg ha, ti_neg hb]; omega
theorem neg_div {q : Nat} (h : q ≤ 2147483648) : negI q / 100 = negI (q / 100) := by
  have h1 := c_idiv (negI q) 100 100 rfl (by decide)
  rw [ti_neg h] at h1
  rw [← Int32.toInt_inj, ti_neg (by omega)]
  by_cases q0 : q = 0
  · have := h1.1 (by omega); subst q0; omega
  · have := h1.2 (by omega); omega
theorem neg_rem {q : Nat} (h : q ≤ 2147483648) : negI (q / 100) * 100 - negI q = Int32.ofNat (q % 100) := by
  have h1 := c_imul (negI (q / 100)) 100
  have h2 := c_isub (negI (q / 100) * 100) (negI q)
  rw [ti_neg (by omega), show (100 : Int32).toInt = 100 from rfl] at h1
  rw [ti_neg h] at h2
  have h3 := (negI (q / 100) * 100 - negI q).le_toInt; have h4 := (negI (q / 100) * 100 - negI q).toInt_lt
  rw [← Int32.toInt_inj, toInt_ofNat (by omega)]
  omega
theorem neg_neg' {q : Nat} (h : q < 2147483648) : -negI q = Int32.ofNat q := by
  have h1 := c_ineg (negI q)
  rw [ti_neg (by omega)] at h1
  have h3 := (-negI q).le_toInt; have h4 := (-negI q).toInt_lt
  rw [← Int32.toInt_inj, toInt_ofNat h]; omega
theorem mag_neg {x : Int32} (h : x < 0) : x = negI (mag x) := by
  rw [Int32.lt_iff_toInt_lt, show (0 : Int32).toInt = 0 from rfl] at h
  rw [← Int32.toInt_inj, ti_neg (mag_le x)]; unfold mag; omega
theorem mag_pos {x : Int32} (h : ¬ x < 0) : -x = negI (mag x) := by
  rw [Int32.lt_iff_toInt_lt, show (0 : Int32).toInt = 0 from rfl] at h
  have h1 := c_ineg x; have h3 := (-x).le_toInt; have h4 := (-x).toInt_lt; have h5 := x.toInt_lt
  rw [← Int32.toInt_inj, ti_neg (mag_le x)]; unfold mag; omega
theorem dec1 (i : Nat) : Int32.ofNat (i + 1) + Int32.ofInt (-1) = Int32.ofNat i := by
  rw [Int32.ofNat_add, Int32.add_assoc, show Int32.ofNat 1 + Int32.ofInt (-1) = 0 from by decide, Int32.add_zero]
theorem zs_set {p : Nat} {t : List Value} {v : Value} : (zs (p + 1) ++ t).set p v = zs p ++ v :: t := by
  rw [show zs (p + 1) = zs p ++ [.int 0] from List.replicate_succ', List.append_assoc, List.set_append_right _ _ (by simp)]
  simp
theorem bts_dgs {m k : Nat} {t : List Value} : (.int (dig m k).toInt8.toInt32 :: (bts (dgs m k) ++ t) : List Value) = bts (dgs m (k + 1)) ++ t := rfl
theorem fin0 {m : Nat} {t : List Value} : zs 0 ++ (bts (dgs m (ndg m)) ++ t) = bts (decS 0 m) ++ t := by simp [decS]
theorem fin1 {m : Nat} {t : List Value} : zs 0 ++ (.int (45 : Int32).toInt8.toInt32 :: (bts (dgs m (ndg m)) ++ t)) = bts (decS 1 m) ++ t := by simp [decS]
def tabF (F : Nat → Nat) : List Value := (List.range 100).map fun r => .int (Int32.ofNat (F r))
def Tabs (Z : State) : Prop := (∃ d k, Sta Z Z.heap "java/lang/Integer" "DigitOnes" "[B" (.ref d) ∧ Arv Z Z.heap d k .byte 100 (tabF fun r => 48 + r % 10) (.int 0)) ∧ (∃ d k, Sta Z Z.heap "java/lang/Integer" "DigitTens" "[B" (.ref d) ∧ Arv Z Z.heap d k .byte 100 (tabF fun r => 48 + r / 10) (.int 0))
theorem tab_at {F : Nat → Nat} {r : Nat} (h : r < 100) : (tabF F).getD (Int32.ofNat r).toNatClampNeg (.int 0) = .int (Int32.ofNat (F r)) := by
  rw [cl_ofNat (by omega)]; simp [tabF, h]
theorem tab_start {args : Array Value} {s : State} {T rhs : Term} {F : Nat → Nat} (hf : Fit s) (hT : ∀ idx, T.eval args s none idx s = T.eval args s none [] s) (harr : (Jvm.Cond.arrayClass .byte).before args s = true) (n1 : (Jvm.Cond.exactly T "[B").before args s = true) (n2 : (Jvm.Cond.eq (Jvm.Term.length T) (Jvm.Term.int 100)).value args s none s [] = some true)
    (n3 : (Jvm.Cond.all T (Jvm.Cond.eq (Jvm.Term.elem T (Jvm.Term.index 0)) rhs)).value args s none s [] = some true) (hr : ∀ r, r < 100 → rhs.eval args s none [r] s = some (.int (Int32.ofNat (F r)))) : ∃ (a : Addr) (k : ClassId), T.eval args s none [] s = some (.ref a) ∧ Arv s s.heap a k .byte 100 (tabF F) (.int 0) := by
  obtain ⟨a, cB, D, kB, ev, hfcB, hcell, hkB, hst, hcls, -⟩ := Cond.exactly_spec n1
  obtain ⟨cB', kB', comp, hnm, hkB', hkind⟩ := Cond.arrayClass_spec harr
  rw [show "[" ++ FieldType.toString .byte = "[B" from by decide] at hnm
  cases hfcB.symm.trans hnm
  cases hkB.symm.trans hkB'
  cases hat : s.arrayAt? a with
  | none => simp [Jvm.Cond.value, Term.eval, ev, hat] at n2
  | some cl =>
    obtain ⟨hc2, hkn, -, -⟩ := State.arrayAt?_spec hat
    cases hcell.symm.trans hc2
    have A : Arr s s.heap a D .byte := ⟨hcell, ⟨(fun q h => by rw [h] at hst; cases hst), kB, (by rw [hcls]; exact hkB), comp, hkind⟩, hkn⟩
    have q2 : D.slots.size < 2 ^ 31 ∧ D.slots.size.toInt32 = 100 := by
      by_cases q : D.slots.size < 2 ^ 31
      · refine ⟨q, ?_⟩
        have q' : D.slots.size < 2147483648 := q
        simpa [Jvm.Cond.value, Term.eval, ev, hat, q'] using n2
      · have q' : ¬ D.slots.size < 2147483648 := q
        simp [Jvm.Cond.value, Term.eval, ev, hat, q'] at n2
    have hsz : D.slots.size = 100 := by
      have h1 := q2.2
      have h3 : D.slots.size.toInt32.toInt = (100 : Int32).toInt := by rw [h1]
      rw [len_toInt q2.1] at h3
      have : (100 : Int32).toInt = 100 := rfl
      omega
    have hel : ∀ r, r < 100 → D.slots[r]? = some (.int (Int32.ofNat (F r))) := fun r hr' => by
      have h := Cond.all_elim ev hat n3 r (by omega)
      have hge : D.slots[r]? = some D.slots[r] := Array.getElem?_eq_getElem (by omega)
      have c1 : ¬ Nat.toInt32 r < 0 := nn_ofNat (by omega)
      have c2 : (Nat.toInt32 r).toNatClampNeg = r := cl_ofNat (by omega)
      simp only [Jvm.Cond.value, hr r hr', Term.eval, hT, ev, hat] at h
      simp [c1, c2, hge] at h
      cases hv : D.slots[r] with
      | int w => rw [hge, hv]; simp [hat, hge, hv] at h; rw [h]
      | _ => simp [hat, hge, hv] at h
    have hH : ∀ i, i < D.slots.size → D.slots[i]? = some ((tabF F).getD i (.int 0)) := fun i hi => by
      rw [hel i (by omega)]; simp [tabF, show i < 100 by omega]
    refine ⟨a, D.cls, ev, D, A, rfl, by rw [hsz]; rfl, by decide, hH, fun j hj => ?_⟩
    have e1 : (Nat.toInt32 j).toNatClampNeg = j := cl_ofNat (by omega)
    exact elem_fits (j := Nat.toInt32 j) hf A (idx_in hj q2.1) (by rw [e1]; exact hH j hj)
/-! longs -/
theorem ti64 {n : Nat} (h : n < 9223372036854775808) : (Int64.ofNat n).toInt = n := by
  rw [Int64.toInt_ofNat_of_lt (by simpa using h)]
theorem lt64 {a b : Nat} (ha : a < 9223372036854775808) (hb : b < 9223372036854775808) : Int64.ofNat a < Int64.ofNat b ↔ a < b := by
  rw [Int64.lt_iff_toInt_lt, ti64 ha, ti64 hb]; omega
theorem cmp_lt {a b : Nat} (ha : a < 9223372036854775808) (hb : b < 9223372036854775808) : XT.cmpL (Int64.ofNat a) (Int64.ofNat b) < 0 ↔ a < b := by
  unfold XT.cmpL
  by_cases h1 : Int64.ofNat b < Int64.ofNat a
  · rw [if_pos h1]; have := (lt64 hb ha).mp h1
    exact ⟨fun q => absurd q (by decide), fun q => by omega⟩
  · rw [if_neg h1]; have g1 : ¬ b < a := fun q => h1 ((lt64 hb ha).mpr q)
    by_cases h2 : Int64.ofNat a = Int64.ofNat b
    · rw [if_pos h2]
      have : a = b := by have := congrArg Int64.toInt h2; rw [ti64 ha, ti64 hb] at this; omega
      exact ⟨fun q => absurd q (by decide), fun q => by omega⟩
    · rw [if_neg h2]
      have : a ≠ b := fun e => h2 (by rw [e])
      exact ⟨fun _ => by omega, fun _ => by decide⟩
theorem div64 {a b : Nat} (ha : a < 9223372036854775808) (hb : b < 9223372036854775808) (h1 : Int64.ofNat b ≠ -1) : Int64.ofNat a / Int64.ofNat b = Int64.ofNat (a / b) := by
  have h := (c_ldiv (Int64.ofNat a) (Int64.ofNat b) b (ti64 hb) h1).1 (by rw [ti64 ha]; omega)
  have hl : a / b ≤ a := Nat.div_le_self _ _
  rw [← Int64.toInt_inj, h, ti64 ha, ti64 (by omega)]; exact (Int.natCast_ediv a b).symm ▸ rfl
theorem rem64 {a : Nat} (ha : a < 9223372036854775808) : Int64.ofNat a % 10 = Int64.ofNat (a % 10) := by
  have h := (c_lrem (Int64.ofNat a) 10 10 rfl).1 (by rw [ti64 ha]; omega)
  rw [lrem_mod] at h
  rw [← Int64.toInt_inj, h, ti64 ha, ti64 (by omega)]; omega
theorem l2i64 {a : Nat} (ha : a < 2147483648) : (Int64.ofNat a).toInt32 = Int32.ofNat a := by
  have h := c_l2i (Int64.ofNat a)
  rw [ti64 (by omega)] at h
  have h3 := (Int64.ofNat a).toInt32.le_toInt; have h4 := (Int64.ofNat a).toInt32.toInt_lt
  rw [← Int32.toInt_inj, toInt_ofNat ha]; omega
theorem abs_pos {x : Int32} (h : ¬ x < 0) : x.toInt64 = Int64.ofNat (mag x) := by
  rw [Int32.lt_iff_toInt_lt, show (0 : Int32).toInt = 0 from rfl] at h
  have hm := mag_le x
  rw [← Int64.toInt_inj, c_i2l, ti64 (by omega)]; unfold mag; omega
theorem abs_neg {x : Int32} (h : x < 0) : -x.toInt64 = Int64.ofNat (mag x) := by
  rw [Int32.lt_iff_toInt_lt, show (0 : Int32).toInt = 0 from rfl] at h
  have hm := mag_le x
  have h1 := c_lneg x.toInt64
  rw [c_i2l] at h1
  have h3 := (-x.toInt64).le_toInt; have h4 := (-x.toInt64).toInt_lt; have h5 := x.le_toInt
  rw [← Int64.toInt_inj, ti64 (by omega)]; unfold mag; omega
theorem i2l_lt {x : Int32} : XT.cmpL x.toInt64 0 < 0 ↔ x < 0 := by
  have e : (x.toInt64 < (0 : Int64)) ↔ x < 0 := by rw [Int64.lt_iff_toInt_lt, c_i2l, Int32.lt_iff_toInt_lt]; rfl
  unfold XT.cmpL
  by_cases h1 : (0 : Int64) < x.toInt64
  · rw [if_pos h1]; exact ⟨fun q => absurd q (by decide), fun q => absurd (e.mpr q) (fun z => absurd (Int64.lt_trans h1 z) (Int64.lt_irrefl))⟩
  · rw [if_neg h1]
    by_cases h2 : x.toInt64 = 0
    · rw [if_pos h2]; exact ⟨fun q => absurd q (by decide), fun q => absurd (e.mpr q) (by rw [h2]; exact Int64.lt_irrefl)⟩
    · rw [if_neg h2]
      refine ⟨fun _ => e.mp ?_, fun _ => by decide⟩
      rw [Int64.lt_iff_toInt_lt] at h1 ⊢
      have : x.toInt64.toInt ≠ (0 : Int64).toInt := fun q => h2 (Int64.toInt_inj.mp q)
      omega
theorem at_mid {pre es post : List Int32} {v : Int32} {i : Nat} (h : es[i]? = some v) : (pre ++ (es ++ post))[pre.length + i]? = some v := by
  have hi : i < es.length := (List.getElem?_eq_some_iff.mp h).1
  rw [List.getElem?_append_right (by omega), show pre.length + i - pre.length = i by omega, List.getElem?_append_left hi]; exact h
theorem at_end {pre es post : List Int32} {i : Nat} : (pre ++ (es ++ post))[pre.length + es.length + i]? = post[i]? := by
  rw [List.getElem?_append_right (by omega), List.getElem?_append_right (by omega), show pre.length + es.length + i - pre.length - es.length = i by omega]
theorem range_all (vs : List Value) (dv : Value) : (List.range vs.length).map (fun i => vs.getD i dv) = vs := by
  refine List.ext_getElem (by simp) fun i h1 h2 => ?_
  simp [h2]
end Own
end Jvm.Pilot.@@N@@
namespace Jvm.Pilot.@@N@@
namespace Own
open Jvm Jvm.ClassFile Sem Op Lib Jvm.Free Jvm.Stand Jvm.LawKit Jvm.RoadKit
theorem us_pre (cs : List Int32) (t : List Value) : (List.range cs.length).map (fun i => (bts cs ++ t).getD i (.int 0)) = bts cs := by
  refine List.ext_getElem (by simp [bts]) fun i h1 h2 => ?_
  simp only [bts_len] at h2
  simp [bts, h2, List.getElem?_append]
abbrev SUN : String := "com/example/saga/saga/server/SurfaceUris"
abbrev SDs : String := "Ljava/lang/String;"
/-- what pageNumber answers -/
def pnl (p : Int32) : List Int32 := if p = 1 then [] else dec p ++ [47]
theorem pnl_1 {p : Int32} (h : p = 1) : pnl p = [] := if_pos h
theorem pnl_n {p : Int32} (h : ¬ p = 1) : pnl p = dec p ++ [47] := if_neg h
theorem pnl_le (p : Int32) : (pnl p).length ≤ 12 := by
  by_cases h : p = 1
  · rw [pnl_1 h]; exact Nat.zero_le _
  · rw [pnl_n h, List.length_append]; have := dec_le p; show (dec p).length + 1 ≤ 12; omega
theorem subK {n k : Nat} (h : n + k < 2147483648) : Int32.ofNat (n + k) - Int32.ofNat k = Int32.ofNat n := by
  rw [subNat (by omega) h, Nat.add_sub_cancel]
theorem pow9 {e : Nat} (h : e ≤ 9) : 0 < 10 ^ e ∧ 10 ^ e ≤ 1000000000 := ⟨Nat.pow_pos (by decide), Nat.le_trans (Nat.pow_le_pow_right (by decide) h) (by decide)⟩
theorem pw_ne {e : Nat} (h : e ≤ 9) : Int64.ofNat (10 ^ e) ≠ 0 ∧ Int64.ofNat (10 ^ e) ≠ -1 := by
  have p := pow9 h
  have t := ti64 (n := 10 ^ e) (by omega)
  constructor
  · intro q; rw [q, show (0 : Int64).toInt = 0 from rfl] at t; omega
  · intro q; rw [q, show (-1 : Int64).toInt = -1 from rfl] at t; omega
theorem dig64 {m e : Nat} (hm : m ≤ 2147483648) (h : e ≤ 9) : Int64.ofNat m / Int64.ofNat (10 ^ e) = Int64.ofNat (m / 10 ^ e) ∧ Int64.ofNat (m / 10 ^ e) % 10 = Int64.ofNat (m / 10 ^ e % 10) ∧ (Int64.ofNat (m / 10 ^ e % 10)).toInt32 = Int32.ofNat (m / 10 ^ e % 10) := by
  have p := pow9 h
  have hl : m / 10 ^ e ≤ m := Nat.div_le_self _ _
  have hr : m / 10 ^ e % 10 < 10 := Nat.mod_lt _ (by decide)
  exact ⟨div64 (by omega) (by omega) (pw_ne h).2, rem64 (by omega), l2i64 (by omega)⟩
abbrev P22 (a : Int32) : List Int32 := [104, 116, 116, 112, 58, 47, 47, a, 47, 116, 105, 109, 101, 109, 97, 112, 47, 106, 115, 111, 110, 47]
theorem w_0 {Z : State} {a0 : Array Value} (H : Wd Z a0) : ((Jvm.Cond.methodLink "com/example/saga/saga/server/SurfaceUrisJsonTimeMapPinLaw" (47 : Nat) ({ cls := "java/lang/String", name := "valueOf", desc := "(C)Ljava/lang/String;" } : Jvm.MethodName)) : Jvm.Cond).before a0 Z = true := H.1 _ (List.mem_of_getElem? (i := 0) rfl)
theorem w_1 {Z : State} {a0 : Array Value} (H : Wd Z a0) : ((Jvm.Cond.static ({ cls := "java/lang/String", name := "valueOf", desc := "(C)Ljava/lang/String;" } : Jvm.MethodName)) : Jvm.Cond).before a0 Z = true := H.1 _ (List.mem_of_getElem? (i := 1) rfl)
theorem w_2 {Z : State} {a0 : Array Value} (H : Wd Z a0) : ((Jvm.Cond.initialized "java/lang/String") : Jvm.Cond).before a0 Z = true := H.1 _ (List.mem_of_getElem? (i := 2) rfl)
theorem w_3 {Z : State} {a0 : Array Value} (H : Wd Z a0) : ((Jvm.Cond.code ({ cls := "java/lang/String", name := "valueOf", desc := "(C)Ljava/lang/String;" } : Jvm.MethodName) jdk_42_method_139_code (1 : Nat) (Option.some (Jvm.ClassFile.FieldType.object "java/lang/String"))) : Jvm.Cond).before a0 Z = true := H.1 _ (List.mem_of_getElem? (i := 3) rfl)
theorem w_4 {Z : State} {a0 : Array Value} (H : Wd Z a0) : ((Jvm.Cond.fieldLink "java/lang/String" (38 : Nat) "java/lang/String" "COMPACT_STRINGS" "Z") : Jvm.Cond).before a0 Z = true := H.1 _ (List.mem_of_getElem? (i := 4) rfl)
theorem w_5 {Z : State} {a0 : Array Value} (H : Wd Z a0) : ((Jvm.Cond.methodLink "java/lang/String" (1015 : Nat) ({ cls := "java/lang/StringLatin1", name := "canEncode", desc := "(C)Z" } : Jvm.MethodName)) : Jvm.Cond).before a0 Z = true := H.1 _ (List.mem_of_getElem? (i := 5) rfl)
theorem w_6 {Z : State} {a0 : Array Value} (H : Wd Z a0) : ((Jvm.Cond.static ({ cls := "java/lang/StringLatin1", name := "canEncode", desc := "(C)Z" } : Jvm.MethodName)) : Jvm.Cond).before a0 Z = true := H.1 _ (List.mem_of_getElem? (i := 6) rfl)
theorem w_7 {Z : State} {a0 : Array Value} (H : Wd Z a0) : ((Jvm.Cond.initialized "java/lang/StringLatin1") : Jvm.Cond).before a0 Z = true := H.1 _ (List.mem_of_getElem? (i := 7) rfl)
theorem w_8 {Z : State} {a0 : Array Value} (H : Wd Z a0) : ((Jvm.Cond.code ({ cls := "java/lang/StringLatin1", name := "canEncode", desc := "(C)Z" } : Jvm.MethodName) jdk_43_method_3_code (1 : Nat) (Option.some Jvm.ClassFile.FieldType.boolean)) : Jvm.Cond).before a0 Z = true := H.1 _ (List.mem_of_getElem? (i := 8) rfl)
theorem w_9 {Z : State} {a0 : Array Value} (H : Wd Z a0) : ((Jvm.Cond.classLink "java/lang/String" (10 : Nat) "java/lang/String") : Jvm.Cond).before a0 Z = true := H.1 _ (List.mem_of_getElem? (i := 9) rfl)
theorem w_10 {Z : State} {a0 : Array Value} (H : Wd Z a0) : ((Jvm.Cond.instantiable "java/lang/String" (4 : Nat)) : Jvm.Cond).before a0 Z = true := H.1 _ (List.mem_of_getElem? (i := 10) rfl)
theorem w_11 {Z : State} {a0 : Array Value} (H : Wd Z a0) : ((Jvm.Cond.methodLink "java/lang/String" (1018 : Nat) ({ cls := "java/lang/StringLatin1", name := "toBytes", desc := "(C)[B" } : Jvm.MethodName)) : Jvm.Cond).before a0 Z = true := H.1 _ (List.mem_of_getElem? (i := 11) rfl)
theorem w_12 {Z : State} {a0 : Array Value} (H : Wd Z a0) : ((Jvm.Cond.static ({ cls := "java/lang/StringLatin1", name := "toBytes", desc := "(C)[B" } : Jvm.MethodName)) : Jvm.Cond).before a0 Z = true := H.1 _ (List.mem_of_getElem? (i := 12) rfl)
theorem w_13 {Z : State} {a0 : Array Value} (H : Wd Z a0) : ((Jvm.Cond.code ({ cls := "java/lang/StringLatin1", name := "toBytes", desc := "(C)[B" } : Jvm.MethodName) jdk_43_method_46_code (1 : Nat) (Option.some (Jvm.ClassFile.FieldType.array Jvm.ClassFile.FieldType.byte))) : Jvm.Cond).before a0 Z = true := H.1 _ (List.mem_of_getElem? (i := 13) rfl)
theorem w_14 {Z : State} {a0 : Array Value} (H : Wd Z a0) : ((Jvm.Cond.arrayClass Jvm.ClassFile.FieldType.byte) : Jvm.Cond).before a0 Z = true := H.1 _ (List.mem_of_getElem? (i := 14) rfl)
theorem w_15 {Z : State} {a0 : Array Value} (H : Wd Z a0) : ((Jvm.Cond.methodLink "java/lang/String" (209 : Nat) ({ cls := "java/lang/String", name := "<init>", desc := "([BB)V" } : Jvm.MethodName)) : Jvm.Cond).before a0 Z = true := H.1 _ (List.mem_of_getElem? (i := 15) rfl)
theorem w_16 {Z : State} {a0 : Array Value} (H : Wd Z a0) : ((Jvm.Cond.instanceMethod ({ cls := "java/lang/String", name := "<init>", desc := "([BB)V" } : Jvm.MethodName)) : Jvm.Cond).before a0 Z = true := H.1 _ (List.mem_of_getElem? (i := 16) rfl)
theorem w_18 {Z : State} {a0 : Array Value} (H : Wd Z a0) : ((Jvm.Cond.code ({ cls := "java/lang/String", name := "<init>", desc := "([BB)V" } : Jvm.MethodName) jdk_42_method_151_code (3 : Nat) (Option.none : Option Jvm.ClassFile.FieldType)) : Jvm.Cond).before a0 Z = true := H.1 _ (List.mem_of_getElem? (i := 18) rfl)
theorem w_19 {Z : State} {a0 : Array Value} (H : Wd Z a0) : ((Jvm.Cond.methodLink "java/lang/String" (1 : Nat) ({ cls := "java/lang/Object", name := "<init>", desc := "()V" } : Jvm.MethodName)) : Jvm.Cond).before a0 Z = true := H.1 _ (List.mem_of_getElem? (i := 19) rfl)
theorem w_20 {Z : State} {a0 : Array Value} (H : Wd Z a0) : ((Jvm.Cond.instanceMethod ({ cls := "java/lang/Object", name := "<init>", desc := "()V" } : Jvm.MethodName)) : Jvm.Cond).before a0 Z = true := H.1 _ (List.mem_of_getElem? (i := 20) rfl)
theorem w_21 {Z : State} {a0 : Array Value} (H : Wd Z a0) : ((Jvm.Cond.code ({ cls := "java/lang/Object", name := "<init>", desc := "()V" } : Jvm.MethodName) object_method_1_code (1 : Nat) (Option.none : Option Jvm.ClassFile.FieldType)) : Jvm.Cond).before a0 Z = true := H.1 _ (List.mem_of_getElem? (i := 21) rfl)
theorem w_22 {Z : State} {a0 : Array Value} (H : Wd Z a0) : ((Jvm.Cond.fieldLink "java/lang/String" (9 : Nat) "java/lang/String" "value" "[B") : Jvm.Cond).before a0 Z = true := H.1 _ (List.mem_of_getElem? (i := 22) rfl)
theorem w_23 {Z : State} {a0 : Array Value} (H : Wd Z a0) : ((Jvm.Cond.laysFinal "java/lang/String" "java/lang/String" "value" "[B") : Jvm.Cond).before a0 Z = true := H.1 _ (List.mem_of_getElem? (i := 23) rfl)
theorem w_24 {Z : State} {a0 : Array Value} (H : Wd Z a0) : ((Jvm.Cond.fieldLink "java/lang/String" (15 : Nat) "java/lang/String" "coder" "B") : Jvm.Cond).before a0 Z = true := H.1 _ (List.mem_of_getElem? (i := 24) rfl)
theorem w_25 {Z : State} {a0 : Array Value} (H : Wd Z a0) : ((Jvm.Cond.laysFinal "java/lang/String" "java/lang/String" "coder" "B") : Jvm.Cond).before a0 Z = true := H.1 _ (List.mem_of_getElem? (i := 25) rfl)
theorem w_26 {Z : State} {a0 : Array Value} (H : Wd Z a0) : ((Jvm.Cond.classLink "com/example/saga/saga/server/SurfaceUrisJsonTimeMapPinLaw" (38 : Nat) "java/lang/String") : Jvm.Cond).before a0 Z = true := H.1 _ (List.mem_of_getElem? (i := 26) rfl)
theorem w_27 {Z : State} {a0 : Array Value} (H : Wd Z a0) : ((Jvm.Cond.arrayClass Jvm.ClassFile.FieldType.char) : Jvm.Cond).before a0 Z = true := H.1 _ (List.mem_of_getElem? (i := 27) rfl)
theorem w_28 {Z : State} {a0 : Array Value} (H : Wd Z a0) : ((Jvm.Cond.methodLink "com/example/saga/saga/server/SurfaceUrisJsonTimeMapPinLaw" (51 : Nat) ({ cls := "java/lang/String", name := "<init>", desc := "([C)V" } : Jvm.MethodName)) : Jvm.Cond).before a0 Z = true := H.1 _ (List.mem_of_getElem? (i := 28) rfl)
theorem w_29 {Z : State} {a0 : Array Value} (H : Wd Z a0) : ((Jvm.Cond.instanceMethod ({ cls := "java/lang/String", name := "<init>", desc := "([C)V" } : Jvm.MethodName)) : Jvm.Cond).before a0 Z = true := H.1 _ (List.mem_of_getElem? (i := 29) rfl)
theorem w_30 {Z : State} {a0 : Array Value} (H : Wd Z a0) : ((Jvm.Cond.code ({ cls := "java/lang/String", name := "<init>", desc := "([C)V" } : Jvm.MethodName) jdk_42_method_3_code (2 : Nat) (Option.none : Option Jvm.ClassFile.FieldType)) : Jvm.Cond).before a0 Z = true := H.1 _ (List.mem_of_getElem? (i := 30) rfl)
theorem w_31 {Z : State} {a0 : Array Value} (H : Wd Z a0) : ((Jvm.Cond.methodLink "java/lang/String" (27 : Nat) ({ cls := "java/lang/String", name := "<init>", desc := "([CIILjava/lang/Void;)V" } : Jvm.MethodName)) : Jvm.Cond).before a0 Z = true := H.1 _ (List.mem_of_getElem? (i := 31) rfl)
theorem w_32 {Z : State} {a0 : Array Value} (H : Wd Z a0) : ((Jvm.Cond.instanceMethod ({ cls := "java/lang/String", name := "<init>", desc := "([CIILjava/lang/Void;)V" } : Jvm.MethodName)) : Jvm.Cond).before a0 Z = true := H.1 _ (List.mem_of_getElem? (i := 32) rfl)
theorem w_33 {Z : State} {a0 : Array Value} (H : Wd Z a0) : ((Jvm.Cond.code ({ cls := "java/lang/String", name := "<init>", desc := "([CIILjava/lang/Void;)V" } : Jvm.MethodName) jdk_42_method_149_code (6 : Nat) (Option.none : Option Jvm.ClassFile.FieldType)) : Jvm.Cond).before a0 Z = true := H.1 _ (List.mem_of_getElem? (i := 33) rfl)
theorem w_34 {Z : State} {a0 : Array Value} (H : Wd Z a0) : ((Jvm.Cond.methodLink "java/lang/String" (177 : Nat) ({ cls := "java/lang/StringUTF16", name := "compress", desc := "([CII)[B" } : Jvm.MethodName)) : Jvm.Cond).before a0 Z = true := H.1 _ (List.mem_of_getElem? (i := 34) rfl)
theorem w_35 {Z : State} {a0 : Array Value} (H : Wd Z a0) : ((Jvm.Cond.static ({ cls := "java/lang/StringUTF16", name := "compress", desc := "([CII)[B" } : Jvm.MethodName)) : Jvm.Cond).before a0 Z = true := H.1 _ (List.mem_of_getElem? (i := 35) rfl)
theorem w_36 {Z : State} {a0 : Array Value} (H : Wd Z a0) : ((Jvm.Cond.initialized "java/lang/StringUTF16") : Jvm.Cond).before a0 Z = true := H.1 _ (List.mem_of_getElem? (i := 36) rfl)
theorem w_37 {Z : State} {a0 : Array Value} (H : Wd Z a0) : ((Jvm.Cond.code ({ cls := "java/lang/StringUTF16", name := "compress", desc := "([CII)[B" } : Jvm.MethodName) jdk_52_method_16_code (6 : Nat) (Option.some (Jvm.ClassFile.FieldType.array Jvm.ClassFile.FieldType.byte))) : Jvm.Cond).before a0 Z = true := H.1 _ (List.mem_of_getElem? (i := 37) rfl)
theorem w_38 {Z : State} {a0 : Array Value} (H : Wd Z a0) : ((Jvm.Cond.methodLink "java/lang/StringUTF16" (115 : Nat) ({ cls := "java/lang/StringUTF16", name := "compress", desc := "([CI[BII)I" } : Jvm.MethodName)) : Jvm.Cond).before a0 Z = true := H.1 _ (List.mem_of_getElem? (i := 38) rfl)
theorem w_39 {Z : State} {a0 : Array Value} (H : Wd Z a0) : ((Jvm.Cond.static ({ cls := "java/lang/StringUTF16", name := "compress", desc := "([CI[BII)I" } : Jvm.MethodName)) : Jvm.Cond).before a0 Z = true := H.1 _ (List.mem_of_getElem? (i := 39) rfl)
theorem w_40 {Z : State} {a0 : Array Value} (H : Wd Z a0) : ((Jvm.Cond.code ({ cls := "java/lang/StringUTF16", name := "compress", desc := "([CI[BII)I" } : Jvm.MethodName) jdk_52_method_21_code (7 : Nat) (Option.some Jvm.ClassFile.FieldType.int)) : Jvm.Cond).before a0 Z = true := H.1 _ (List.mem_of_getElem? (i := 40) rfl)
theorem w_41 {Z : State} {a0 : Array Value} (H : Wd Z a0) : ((Jvm.Cond.methodLink "java/lang/String" (47 : Nat) ({ cls := "java/lang/StringUTF16", name := "coderFromArrayLen", desc := "([BI)B" } : Jvm.MethodName)) : Jvm.Cond).before a0 Z = true := H.1 _ (List.mem_of_getElem? (i := 41) rfl)
theorem w_42 {Z : State} {a0 : Array Value} (H : Wd Z a0) : ((Jvm.Cond.static ({ cls := "java/lang/StringUTF16", name := "coderFromArrayLen", desc := "([BI)B" } : Jvm.MethodName)) : Jvm.Cond).before a0 Z = true := H.1 _ (List.mem_of_getElem? (i := 42) rfl)
theorem w_43 {Z : State} {a0 : Array Value} (H : Wd Z a0) : ((Jvm.Cond.code ({ cls := "java/lang/StringUTF16", name := "coderFromArrayLen", desc := "([BI)B" } : Jvm.MethodName) jdk_52_method_15_code (2 : Nat) (Option.some Jvm.ClassFile.FieldType.byte)) : Jvm.Cond).before a0 Z = true := H.1 _ (List.mem_of_getElem? (i := 43) rfl)
theorem w_44 {Z : State} {a0 : Array Value} (H : Wd Z a0) : ((Jvm.Cond.classLink "com/example/saga/saga/server/SurfaceUrisJsonTimeMapPinLaw" (54 : Nat) "com/example/saga/saga/server/SurfaceUris") : Jvm.Cond).before a0 Z = true := H.1 _ (List.mem_of_getElem? (i := 44) rfl)
theorem w_45 {Z : State} {a0 : Array Value} (H : Wd Z a0) : ((Jvm.Cond.instantiable "com/example/saga/saga/server/SurfaceUris" (1 : Nat)) : Jvm.Cond).before a0 Z = true := H.1 _ (List.mem_of_getElem? (i := 45) rfl)
theorem w_46 {Z : State} {a0 : Array Value} (H : Wd Z a0) : ((Jvm.Cond.initialized "com/example/saga/saga/server/SurfaceUris") : Jvm.Cond).before a0 Z = true := H.1 _ (List.mem_of_getElem? (i := 46) rfl)
theorem w_47 {Z : State} {a0 : Array Value} (H : Wd Z a0) : ((Jvm.Cond.methodLink "com/example/saga/saga/server/SurfaceUrisJsonTimeMapPinLaw" (56 : Nat) ({ cls := "com/example/saga/saga/server/SurfaceUris", name := "<init>", desc := "(Ljava/lang/String;)V" } : Jvm.MethodName)) : Jvm.Cond).before a0 Z = true := H.1 _ (List.mem_of_getElem? (i := 47) rfl)
theorem w_48 {Z : State} {a0 : Array Value} (H : Wd Z a0) : ((Jvm.Cond.instanceMethod ({ cls := "com/example/saga/saga/server/SurfaceUris", name := "<init>", desc := "(Ljava/lang/String;)V" } : Jvm.MethodName)) : Jvm.Cond).before a0 Z = true := H.1 _ (List.mem_of_getElem? (i := 48) rfl)
theorem w_49 {Z : State} {a0 : Array Value} (H : Wd Z a0) : ((Jvm.Cond.code ({ cls := "com/example/saga/saga/server/SurfaceUris", name := "<init>", desc := "(Ljava/lang/String;)V" } : Jvm.MethodName) prog_12_method_1_code (2 : Nat) (Option.none : Option Jvm.ClassFile.FieldType)) : Jvm.Cond).before a0 Z = true := H.1 _ (List.mem_of_getElem? (i := 49) rfl)
theorem w_50 {Z : State} {a0 : Array Value} (H : Wd Z a0) : ((Jvm.Cond.methodLink "com/example/saga/saga/server/SurfaceUris" (1 : Nat) ({ cls := "java/lang/Object", name := "<init>", desc := "()V" } : Jvm.MethodName)) : Jvm.Cond).before a0 Z = true := H.1 _ (List.mem_of_getElem? (i := 50) rfl)
theorem w_51 {Z : State} {a0 : Array Value} (H : Wd Z a0) : ((Jvm.Cond.classLink "com/example/saga/saga/server/SurfaceUris" (7 : Nat) "java/lang/StringBuilder") : Jvm.Cond).before a0 Z = true := H.1 _ (List.mem_of_getElem? (i := 51) rfl)
theorem w_52 {Z : State} {a0 : Array Value} (H : Wd Z a0) : ((Jvm.Cond.instantiable "java/lang/StringBuilder" (4 : Nat)) : Jvm.Cond).before a0 Z = true := H.1 _ (List.mem_of_getElem? (i := 52) rfl)
theorem w_53 {Z : State} {a0 : Array Value} (H : Wd Z a0) : ((Jvm.Cond.initialized "java/lang/StringBuilder") : Jvm.Cond).before a0 Z = true := H.1 _ (List.mem_of_getElem? (i := 53) rfl)
theorem w_54 {Z : State} {a0 : Array Value} (H : Wd Z a0) : ((Jvm.Cond.methodLink "com/example/saga/saga/server/SurfaceUris" (9 : Nat) ({ cls := "java/lang/StringBuilder", name := "<init>", desc := "()V" } : Jvm.MethodName)) : Jvm.Cond).before a0 Z = true := H.1 _ (List.mem_of_getElem? (i := 54) rfl)
theorem w_55 {Z : State} {a0 : Array Value} (H : Wd Z a0) : ((Jvm.Cond.instanceMethod ({ cls := "java/lang/StringBuilder", name := "<init>", desc := "()V" } : Jvm.MethodName)) : Jvm.Cond).before a0 Z = true := H.1 _ (List.mem_of_getElem? (i := 55) rfl)
theorem w_56 {Z : State} {a0 : Array Value} (H : Wd Z a0) : ((Jvm.Cond.code ({ cls := "java/lang/StringBuilder", name := "<init>", desc := "()V" } : Jvm.MethodName) jdk_67_method_1_code (1 : Nat) (Option.none : Option Jvm.ClassFile.FieldType)) : Jvm.Cond).before a0 Z = true := H.1 _ (List.mem_of_getElem? (i := 56) rfl)
theorem w_57 {Z : State} {a0 : Array Value} (H : Wd Z a0) : ((Jvm.Cond.methodLink "java/lang/StringBuilder" (1 : Nat) ({ cls := "java/lang/AbstractStringBuilder", name := "<init>", desc := "(I)V" } : Jvm.MethodName)) : Jvm.Cond).before a0 Z = true := H.1 _ (List.mem_of_getElem? (i := 57) rfl)
theorem w_58 {Z : State} {a0 : Array Value} (H : Wd Z a0) : ((Jvm.Cond.instanceMethod ({ cls := "java/lang/AbstractStringBuilder", name := "<init>", desc := "(I)V" } : Jvm.MethodName)) : Jvm.Cond).before a0 Z = true := H.1 _ (List.mem_of_getElem? (i := 58) rfl)
theorem w_61 {Z : State} {a0 : Array Value} (H : Wd Z a0) : ((Jvm.Cond.initialized "java/lang/AbstractStringBuilder") : Jvm.Cond).before a0 Z = true := H.1 _ (List.mem_of_getElem? (i := 61) rfl)
theorem w_62 {Z : State} {a0 : Array Value} (H : Wd Z a0) : ((Jvm.Cond.code ({ cls := "java/lang/AbstractStringBuilder", name := "<init>", desc := "(I)V" } : Jvm.MethodName) jdk_68_method_2_code (2 : Nat) (Option.none : Option Jvm.ClassFile.FieldType)) : Jvm.Cond).before a0 Z = true := H.1 _ (List.mem_of_getElem? (i := 62) rfl)
theorem w_63 {Z : State} {a0 : Array Value} (H : Wd Z a0) : ((Jvm.Cond.methodLink "java/lang/AbstractStringBuilder" (3 : Nat) ({ cls := "java/lang/Object", name := "<init>", desc := "()V" } : Jvm.MethodName)) : Jvm.Cond).before a0 Z = true := H.1 _ (List.mem_of_getElem? (i := 63) rfl)
theorem w_64 {Z : State} {a0 : Array Value} (H : Wd Z a0) : ((Jvm.Cond.fieldLink "java/lang/AbstractStringBuilder" (18 : Nat) "java/lang/String" "COMPACT_STRINGS" "Z") : Jvm.Cond).before a0 Z = true := H.1 _ (List.mem_of_getElem? (i := 64) rfl)
theorem w_65 {Z : State} {a0 : Array Value} (H : Wd Z a0) : ((Jvm.Cond.fieldLink "java/lang/AbstractStringBuilder" (15 : Nat) "java/lang/AbstractStringBuilder" "value" "[B") : Jvm.Cond).before a0 Z = true := H.1 _ (List.mem_of_getElem? (i := 65) rfl)
theorem w_66 {Z : State} {a0 : Array Value} (H : Wd Z a0) : ((Jvm.Cond.lays "java/lang/StringBuilder" "java/lang/AbstractStringBuilder" "value" "[B") : Jvm.Cond).before a0 Z = true := H.1 _ (List.mem_of_getElem? (i := 66) rfl)
theorem w_67 {Z : State} {a0 : Array Value} (H : Wd Z a0) : ((Jvm.Cond.fieldLink "java/lang/AbstractStringBuilder" (22 : Nat) "java/lang/AbstractStringBuilder" "coder" "B") : Jvm.Cond).before a0 Z = true := H.1 _ (List.mem_of_getElem? (i := 67) rfl)
theorem w_68 {Z : State} {a0 : Array Value} (H : Wd Z a0) : ((Jvm.Cond.lays "java/lang/StringBuilder" "java/lang/AbstractStringBuilder" "coder" "B") : Jvm.Cond).before a0 Z = true := H.1 _ (List.mem_of_getElem? (i := 68) rfl)
theorem w_69 {Z : State} {a0 : Array Value} (H : Wd Z a0) : ((Jvm.Cond.stringLink "com/example/saga/saga/server/SurfaceUris" (10 : Nat) "http://") : Jvm.Cond).before a0 Z = true := H.1 _ (List.mem_of_getElem? (i := 69) rfl)
theorem w_70 {Z : State} {a0 : Array Value} (H : Wd Z a0) : ((Jvm.Cond.soleField "java/lang/String" "value") : Jvm.Cond).before a0 Z = true := H.1 _ (List.mem_of_getElem? (i := 70) rfl)
theorem w_71 {Z : State} {a0 : Array Value} (H : Wd Z a0) : ((Jvm.Cond.soleField "java/lang/String" "coder") : Jvm.Cond).before a0 Z = true := H.1 _ (List.mem_of_getElem? (i := 71) rfl)
theorem w_72 {Z : State} {a0 : Array Value} (H : Wd Z a0) : ((Jvm.Cond.methodLink "com/example/saga/saga/server/SurfaceUris" (12 : Nat) ({ cls := "java/lang/StringBuilder", name := "append", desc := "(Ljava/lang/String;)Ljava/lang/StringBuilder;" } : Jvm.MethodName)) : Jvm.Cond).before a0 Z = true := H.1 _ (List.mem_of_getElem? (i := 72) rfl)
theorem w_73 {Z : State} {a0 : Array Value} (H : Wd Z a0) : ((Jvm.Cond.declares ({ cls := "java/lang/StringBuilder", name := "append", desc := "(Ljava/lang/String;)Ljava/lang/StringBuilder;" } : Jvm.MethodName)) : Jvm.Cond).before a0 Z = true := H.1 _ (List.mem_of_getElem? (i := 73) rfl)
theorem w_74 {Z : State} {a0 : Array Value} (H : Wd Z a0) : ((Jvm.Cond.instanceMethod ({ cls := "java/lang/StringBuilder", name := "append", desc := "(Ljava/lang/String;)Ljava/lang/StringBuilder;" } : Jvm.MethodName)) : Jvm.Cond).before a0 Z = true := H.1 _ (List.mem_of_getElem? (i := 74) rfl)
theorem w_75 {Z : State} {a0 : Array Value} (H : Wd Z a0) : ((Jvm.Cond.selects "java/lang/StringBuilder" ({ cls := "java/lang/StringBuilder", name := "append", desc := "(Ljava/lang/String;)Ljava/lang/StringBuilder;" } : Jvm.MethodName) ({ cls := "java/lang/StringBuilder", name := "append", desc := "(Ljava/lang/String;)Ljava/lang/StringBuilder;" } : Jvm.MethodName)) : Jvm.Cond).before a0 Z = true := H.1 _ (List.mem_of_getElem? (i := 75) rfl)
theorem w_76 {Z : State} {a0 : Array Value} (H : Wd Z a0) : ((Jvm.Cond.code ({ cls := "java/lang/StringBuilder", name := "append", desc := "(Ljava/lang/String;)Ljava/lang/StringBuilder;" } : Jvm.MethodName) jdk_67_method_7_code (2 : Nat) (Option.some (Jvm.ClassFile.FieldType.object "java/lang/StringBuilder"))) : Jvm.Cond).before a0 Z = true := H.1 _ (List.mem_of_getElem? (i := 76) rfl)
theorem w_77 {Z : State} {a0 : Array Value} (H : Wd Z a0) : ((Jvm.Cond.methodLink "java/lang/StringBuilder" (29 : Nat) ({ cls := "java/lang/AbstractStringBuilder", name := "append", desc := "(Ljava/lang/String;)Ljava/lang/AbstractStringBuilder;" } : Jvm.MethodName)) : Jvm.Cond).before a0 Z = true := H.1 _ (List.mem_of_getElem? (i := 77) rfl)
theorem w_78 {Z : State} {a0 : Array Value} (H : Wd Z a0) : ((Jvm.Cond.instanceMethod ({ cls := "java/lang/AbstractStringBuilder", name := "append", desc := "(Ljava/lang/String;)Ljava/lang/AbstractStringBuilder;" } : Jvm.MethodName)) : Jvm.Cond).before a0 Z = true := H.1 _ (List.mem_of_getElem? (i := 78) rfl)
theorem w_79 {Z : State} {a0 : Array Value} (H : Wd Z a0) : ((Jvm.Cond.superclass "java/lang/StringBuilder" "java/lang/AbstractStringBuilder") : Jvm.Cond).before a0 Z = true := H.1 _ (List.mem_of_getElem? (i := 79) rfl)
theorem w_80 {Z : State} {a0 : Array Value} (H : Wd Z a0) : ((Jvm.Cond.declares ({ cls := "java/lang/AbstractStringBuilder", name := "append", desc := "(Ljava/lang/String;)Ljava/lang/AbstractStringBuilder;" } : Jvm.MethodName)) : Jvm.Cond).before a0 Z = true := H.1 _ (List.mem_of_getElem? (i := 80) rfl)
theorem w_81 {Z : State} {a0 : Array Value} (H : Wd Z a0) : ((Jvm.Cond.code ({ cls := "java/lang/AbstractStringBuilder", name := "append", desc := "(Ljava/lang/String;)Ljava/lang/AbstractStringBuilder;" } : Jvm.MethodName) jdk_68_method_22_code (3 : Nat) (Option.some (Jvm.ClassFile.FieldType.object "java/lang/AbstractStringBuilder"))) : Jvm.Cond).before a0 Z = true := H.1 _ (List.mem_of_getElem? (i := 81) rfl)
theorem w_82 {Z : State} {a0 : Array Value} (H : Wd Z a0) : ((Jvm.Cond.methodLink "java/lang/AbstractStringBuilder" (32 : Nat) ({ cls := "java/lang/String", name := "length", desc := "()I" } : Jvm.MethodName)) : Jvm.Cond).before a0 Z = true := H.1 _ (List.mem_of_getElem? (i := 82) rfl)
theorem w_83 {Z : State} {a0 : Array Value} (H : Wd Z a0) : ((Jvm.Cond.declares ({ cls := "java/lang/String", name := "length", desc := "()I" } : Jvm.MethodName)) : Jvm.Cond).before a0 Z = true := H.1 _ (List.mem_of_getElem? (i := 83) rfl)
theorem w_84 {Z : State} {a0 : Array Value} (H : Wd Z a0) : ((Jvm.Cond.instanceMethod ({ cls := "java/lang/String", name := "length", desc := "()I" } : Jvm.MethodName)) : Jvm.Cond).before a0 Z = true := H.1 _ (List.mem_of_getElem? (i := 84) rfl)
theorem w_85 {Z : State} {a0 : Array Value} (H : Wd Z a0) : ((Jvm.Cond.selects "java/lang/String" ({ cls := "java/lang/String", name := "length", desc := "()I" } : Jvm.MethodName) ({ cls := "java/lang/String", name := "length", desc := "()I" } : Jvm.MethodName)) : Jvm.Cond).before a0 Z = true := H.1 _ (List.mem_of_getElem? (i := 85) rfl)
theorem w_86 {Z : State} {a0 : Array Value} (H : Wd Z a0) : ((Jvm.Cond.code ({ cls := "java/lang/String", name := "length", desc := "()I" } : Jvm.MethodName) jdk_42_method_54_code (1 : Nat) (Option.some Jvm.ClassFile.FieldType.int)) : Jvm.Cond).before a0 Z = true := H.1 _ (List.mem_of_getElem? (i := 86) rfl)
theorem w_87 {Z : State} {a0 : Array Value} (H : Wd Z a0) : ((Jvm.Cond.methodLink "java/lang/String" (335 : Nat) ({ cls := "java/lang/String", name := "coder", desc := "()B" } : Jvm.MethodName)) : Jvm.Cond).before a0 Z = true := H.1 _ (List.mem_of_getElem? (i := 87) rfl)
theorem w_88 {Z : State} {a0 : Array Value} (H : Wd Z a0) : ((Jvm.Cond.declares ({ cls := "java/lang/String", name := "coder", desc := "()B" } : Jvm.MethodName)) : Jvm.Cond).before a0 Z = true := H.1 _ (List.mem_of_getElem? (i := 88) rfl)
theorem w_89 {Z : State} {a0 : Array Value} (H : Wd Z a0) : ((Jvm.Cond.instanceMethod ({ cls := "java/lang/String", name := "coder", desc := "()B" } : Jvm.MethodName)) : Jvm.Cond).before a0 Z = true := H.1 _ (List.mem_of_getElem? (i := 89) rfl)
theorem w_90 {Z : State} {a0 : Array Value} (H : Wd Z a0) : ((Jvm.Cond.selects "java/lang/String" ({ cls := "java/lang/String", name := "coder", desc := "()B" } : Jvm.MethodName) ({ cls := "java/lang/String", name := "coder", desc := "()B" } : Jvm.MethodName)) : Jvm.Cond).before a0 Z = true := H.1 _ (List.mem_of_getElem? (i := 90) rfl)
theorem w_91 {Z : State} {a0 : Array Value} (H : Wd Z a0) : ((Jvm.Cond.code ({ cls := "java/lang/String", name := "coder", desc := "()B" } : Jvm.MethodName) jdk_42_method_152_code (1 : Nat) (Option.some Jvm.ClassFile.FieldType.byte)) : Jvm.Cond).before a0 Z = true := H.1 _ (List.mem_of_getElem? (i := 91) rfl)
theorem w_92 {Z : State} {a0 : Array Value} (H : Wd Z a0) : ((Jvm.Cond.fieldLink "java/lang/AbstractStringBuilder" (79 : Nat) "java/lang/AbstractStringBuilder" "count" "I") : Jvm.Cond).before a0 Z = true := H.1 _ (List.mem_of_getElem? (i := 92) rfl)
theorem w_93 {Z : State} {a0 : Array Value} (H : Wd Z a0) : ((Jvm.Cond.lays "java/lang/StringBuilder" "java/lang/AbstractStringBuilder" "count" "I") : Jvm.Cond).before a0 Z = true := H.1 _ (List.mem_of_getElem? (i := 93) rfl)
theorem w_94 {Z : State} {a0 : Array Value} (H : Wd Z a0) : ((Jvm.Cond.methodLink "java/lang/AbstractStringBuilder" (100 : Nat) ({ cls := "java/lang/AbstractStringBuilder", name := "ensureCapacityInternal", desc := "(I)V" } : Jvm.MethodName)) : Jvm.Cond).before a0 Z = true := H.1 _ (List.mem_of_getElem? (i := 94) rfl)
theorem w_95 {Z : State} {a0 : Array Value} (H : Wd Z a0) : ((Jvm.Cond.instanceMethod ({ cls := "java/lang/AbstractStringBuilder", name := "ensureCapacityInternal", desc := "(I)V" } : Jvm.MethodName)) : Jvm.Cond).before a0 Z = true := H.1 _ (List.mem_of_getElem? (i := 95) rfl)
theorem w_97 {Z : State} {a0 : Array Value} (H : Wd Z a0) : ((Jvm.Cond.selects "java/lang/StringBuilder" ({ cls := "java/lang/AbstractStringBuilder", name := "ensureCapacityInternal", desc := "(I)V" } : Jvm.MethodName) ({ cls := "java/lang/AbstractStringBuilder", name := "ensureCapacityInternal", desc := "(I)V" } : Jvm.MethodName)) : Jvm.Cond).before a0 Z = true := H.1 _ (List.mem_of_getElem? (i := 97) rfl)
theorem w_98 {Z : State} {a0 : Array Value} (H : Wd Z a0) : ((Jvm.Cond.code ({ cls := "java/lang/AbstractStringBuilder", name := "ensureCapacityInternal", desc := "(I)V" } : Jvm.MethodName) jdk_68_method_9_code (3 : Nat) (Option.none : Option Jvm.ClassFile.FieldType)) : Jvm.Cond).before a0 Z = true := H.1 _ (List.mem_of_getElem? (i := 98) rfl)
theorem w_99 {Z : State} {a0 : Array Value} (H : Wd Z a0) : ((Jvm.Cond.methodLink "java/lang/AbstractStringBuilder" (208 : Nat) ({ cls := "java/lang/AbstractStringBuilder", name := "putStringAt", desc := "(ILjava/lang/String;)V" } : Jvm.MethodName)) : Jvm.Cond).before a0 Z = true := H.1 _ (List.mem_of_getElem? (i := 99) rfl)
theorem w_100 {Z : State} {a0 : Array Value} (H : Wd Z a0) : ((Jvm.Cond.instanceMethod ({ cls := "java/lang/AbstractStringBuilder", name := "putStringAt", desc := "(ILjava/lang/String;)V" } : Jvm.MethodName)) : Jvm.Cond).before a0 Z = true := H.1 _ (List.mem_of_getElem? (i := 100) rfl)
theorem w_102 {Z : State} {a0 : Array Value} (H : Wd Z a0) : ((Jvm.Cond.selects "java/lang/StringBuilder" ({ cls := "java/lang/AbstractStringBuilder", name := "putStringAt", desc := "(ILjava/lang/String;)V" } : Jvm.MethodName) ({ cls := "java/lang/AbstractStringBuilder", name := "putStringAt", desc := "(ILjava/lang/String;)V" } : Jvm.MethodName)) : Jvm.Cond).before a0 Z = true := H.1 _ (List.mem_of_getElem? (i := 102) rfl)
theorem w_103 {Z : State} {a0 : Array Value} (H : Wd Z a0) : ((Jvm.Cond.code ({ cls := "java/lang/AbstractStringBuilder", name := "putStringAt", desc := "(ILjava/lang/String;)V" } : Jvm.MethodName) jdk_68_method_73_code (3 : Nat) (Option.none : Option Jvm.ClassFile.FieldType)) : Jvm.Cond).before a0 Z = true := H.1 _ (List.mem_of_getElem? (i := 103) rfl)
theorem w_104 {Z : State} {a0 : Array Value} (H : Wd Z a0) : ((Jvm.Cond.methodLink "java/lang/AbstractStringBuilder" (397 : Nat) ({ cls := "java/lang/AbstractStringBuilder", name := "inflateIfNeededFor", desc := "(Ljava/lang/String;)V" } : Jvm.MethodName)) : Jvm.Cond).before a0 Z = true := H.1 _ (List.mem_of_getElem? (i := 104) rfl)
theorem w_105 {Z : State} {a0 : Array Value} (H : Wd Z a0) : ((Jvm.Cond.instanceMethod ({ cls := "java/lang/AbstractStringBuilder", name := "inflateIfNeededFor", desc := "(Ljava/lang/String;)V" } : Jvm.MethodName)) : Jvm.Cond).before a0 Z = true := H.1 _ (List.mem_of_getElem? (i := 105) rfl)
theorem w_107 {Z : State} {a0 : Array Value} (H : Wd Z a0) : ((Jvm.Cond.selects "java/lang/StringBuilder" ({ cls := "java/lang/AbstractStringBuilder", name := "inflateIfNeededFor", desc := "(Ljava/lang/String;)V" } : Jvm.MethodName) ({ cls := "java/lang/AbstractStringBuilder", name := "inflateIfNeededFor", desc := "(Ljava/lang/String;)V" } : Jvm.MethodName)) : Jvm.Cond).before a0 Z = true := H.1 _ (List.mem_of_getElem? (i := 107) rfl)
theorem w_108 {Z : State} {a0 : Array Value} (H : Wd Z a0) : ((Jvm.Cond.code ({ cls := "java/lang/AbstractStringBuilder", name := "inflateIfNeededFor", desc := "(Ljava/lang/String;)V" } : Jvm.MethodName) jdk_68_method_71_code (2 : Nat) (Option.none : Option Jvm.ClassFile.FieldType)) : Jvm.Cond).before a0 Z = true := H.1 _ (List.mem_of_getElem? (i := 108) rfl)
theorem w_109 {Z : State} {a0 : Array Value} (H : Wd Z a0) : ((Jvm.Cond.methodLink "java/lang/AbstractStringBuilder" (40 : Nat) ({ cls := "java/lang/String", name := "coder", desc := "()B" } : Jvm.MethodName)) : Jvm.Cond).before a0 Z = true := H.1 _ (List.mem_of_getElem? (i := 109) rfl)
theorem w_110 {Z : State} {a0 : Array Value} (H : Wd Z a0) : ((Jvm.Cond.methodLink "java/lang/AbstractStringBuilder" (399 : Nat) ({ cls := "java/lang/String", name := "getBytes", desc := "([BIB)V" } : Jvm.MethodName)) : Jvm.Cond).before a0 Z = true := H.1 _ (List.mem_of_getElem? (i := 110) rfl)
theorem w_111 {Z : State} {a0 : Array Value} (H : Wd Z a0) : ((Jvm.Cond.declares ({ cls := "java/lang/String", name := "getBytes", desc := "([BIB)V" } : Jvm.MethodName)) : Jvm.Cond).before a0 Z = true := H.1 _ (List.mem_of_getElem? (i := 111) rfl)
theorem w_112 {Z : State} {a0 : Array Value} (H : Wd Z a0) : ((Jvm.Cond.instanceMethod ({ cls := "java/lang/String", name := "getBytes", desc := "([BIB)V" } : Jvm.MethodName)) : Jvm.Cond).before a0 Z = true := H.1 _ (List.mem_of_getElem? (i := 112) rfl)
theorem w_113 {Z : State} {a0 : Array Value} (H : Wd Z a0) : ((Jvm.Cond.selects "java/lang/String" ({ cls := "java/lang/String", name := "getBytes", desc := "([BIB)V" } : Jvm.MethodName) ({ cls := "java/lang/String", name := "getBytes", desc := "([BIB)V" } : Jvm.MethodName)) : Jvm.Cond).before a0 Z = true := H.1 _ (List.mem_of_getElem? (i := 113) rfl)
theorem w_114 {Z : State} {a0 : Array Value} (H : Wd Z a0) : ((Jvm.Cond.code ({ cls := "java/lang/String", name := "getBytes", desc := "([BIB)V" } : Jvm.MethodName) jdk_42_method_147_code (4 : Nat) (Option.none : Option Jvm.ClassFile.FieldType)) : Jvm.Cond).before a0 Z = true := H.1 _ (List.mem_of_getElem? (i := 114) rfl)
theorem w_115 {Z : State} {a0 : Array Value} (H : Wd Z a0) : ((Jvm.Cond.methodLink "java/lang/String" (212 : Nat) ({ cls := "java/lang/System", name := "arraycopy", desc := "(Ljava/lang/Object;ILjava/lang/Object;II)V" } : Jvm.MethodName)) : Jvm.Cond).before a0 Z = true := H.1 _ (List.mem_of_getElem? (i := 115) rfl)
theorem w_116 {Z : State} {a0 : Array Value} (H : Wd Z a0) : ((Jvm.Cond.static ({ cls := "java/lang/System", name := "arraycopy", desc := "(Ljava/lang/Object;ILjava/lang/Object;II)V" } : Jvm.MethodName)) : Jvm.Cond).before a0 Z = true := H.1 _ (List.mem_of_getElem? (i := 116) rfl)
theorem w_117 {Z : State} {a0 : Array Value} (H : Wd Z a0) : ((Jvm.Cond.initialized "java/lang/System") : Jvm.Cond).before a0 Z = true := H.1 _ (List.mem_of_getElem? (i := 117) rfl)
theorem w_118 {Z : State} {a0 : Array Value} (H : Wd Z a0) : ((Jvm.Cond.native ({ cls := "java/lang/System", name := "arraycopy", desc := "(Ljava/lang/Object;ILjava/lang/Object;II)V" } : Jvm.MethodName)) : Jvm.Cond).before a0 Z = true := H.1 _ (List.mem_of_getElem? (i := 118) rfl)
theorem w_119 {Z : State} {a0 : Array Value} (H : Wd Z a0) : ((Jvm.Cond.methodLink "com/example/saga/saga/server/SurfaceUris" (16 : Nat) ({ cls := "java/lang/StringBuilder", name := "toString", desc := "()Ljava/lang/String;" } : Jvm.MethodName)) : Jvm.Cond).before a0 Z = true := H.1 _ (List.mem_of_getElem? (i := 119) rfl)
theorem w_120 {Z : State} {a0 : Array Value} (H : Wd Z a0) : ((Jvm.Cond.declares ({ cls := "java/lang/StringBuilder", name := "toString", desc := "()Ljava/lang/String;" } : Jvm.MethodName)) : Jvm.Cond).before a0 Z = true := H.1 _ (List.mem_of_getElem? (i := 120) rfl)
theorem w_121 {Z : State} {a0 : Array Value} (H : Wd Z a0) : ((Jvm.Cond.instanceMethod ({ cls := "java/lang/StringBuilder", name := "toString", desc := "()Ljava/lang/String;" } : Jvm.MethodName)) : Jvm.Cond).before a0 Z = true := H.1 _ (List.mem_of_getElem? (i := 121) rfl)
theorem w_122 {Z : State} {a0 : Array Value} (H : Wd Z a0) : ((Jvm.Cond.selects "java/lang/StringBuilder" ({ cls := "java/lang/StringBuilder", name := "toString", desc := "()Ljava/lang/String;" } : Jvm.MethodName) ({ cls := "java/lang/StringBuilder", name := "toString", desc := "()Ljava/lang/String;" } : Jvm.MethodName)) : Jvm.Cond).before a0 Z = true := H.1 _ (List.mem_of_getElem? (i := 122) rfl)
theorem w_123 {Z : State} {a0 : Array Value} (H : Wd Z a0) : ((Jvm.Cond.code ({ cls := "java/lang/StringBuilder", name := "toString", desc := "()Ljava/lang/String;" } : Jvm.MethodName) jdk_67_method_42_code (1 : Nat) (Option.some (Jvm.ClassFile.FieldType.object "java/lang/String"))) : Jvm.Cond).before a0 Z = true := H.1 _ (List.mem_of_getElem? (i := 123) rfl)
theorem w_124 {Z : State} {a0 : Array Value} (H : Wd Z a0) : ((Jvm.Cond.classLink "java/lang/StringBuilder" (18 : Nat) "java/lang/String") : Jvm.Cond).before a0 Z = true := H.1 _ (List.mem_of_getElem? (i := 124) rfl)
theorem w_125 {Z : State} {a0 : Array Value} (H : Wd Z a0) : ((Jvm.Cond.methodLink "java/lang/StringBuilder" (137 : Nat) ({ cls := "java/lang/String", name := "<init>", desc := "(Ljava/lang/StringBuilder;)V" } : Jvm.MethodName)) : Jvm.Cond).before a0 Z = true := H.1 _ (List.mem_of_getElem? (i := 125) rfl)
theorem w_126 {Z : State} {a0 : Array Value} (H : Wd Z a0) : ((Jvm.Cond.instanceMethod ({ cls := "java/lang/String", name := "<init>", desc := "(Ljava/lang/StringBuilder;)V" } : Jvm.MethodName)) : Jvm.Cond).before a0 Z = true := H.1 _ (List.mem_of_getElem? (i := 126) rfl)
theorem w_127 {Z : State} {a0 : Array Value} (H : Wd Z a0) : ((Jvm.Cond.code ({ cls := "java/lang/String", name := "<init>", desc := "(Ljava/lang/StringBuilder;)V" } : Jvm.MethodName) jdk_42_method_53_code (2 : Nat) (Option.none : Option Jvm.ClassFile.FieldType)) : Jvm.Cond).before a0 Z = true := H.1 _ (List.mem_of_getElem? (i := 127) rfl)
theorem w_128 {Z : State} {a0 : Array Value} (H : Wd Z a0) : ((Jvm.Cond.methodLink "java/lang/String" (489 : Nat) ({ cls := "java/lang/String", name := "<init>", desc := "(Ljava/lang/AbstractStringBuilder;Ljava/lang/Void;)V" } : Jvm.MethodName)) : Jvm.Cond).before a0 Z = true := H.1 _ (List.mem_of_getElem? (i := 128) rfl)
theorem w_129 {Z : State} {a0 : Array Value} (H : Wd Z a0) : ((Jvm.Cond.instanceMethod ({ cls := "java/lang/String", name := "<init>", desc := "(Ljava/lang/AbstractStringBuilder;Ljava/lang/Void;)V" } : Jvm.MethodName)) : Jvm.Cond).before a0 Z = true := H.1 _ (List.mem_of_getElem? (i := 129) rfl)
theorem w_130 {Z : State} {a0 : Array Value} (H : Wd Z a0) : ((Jvm.Cond.code ({ cls := "java/lang/String", name := "<init>", desc := "(Ljava/lang/AbstractStringBuilder;Ljava/lang/Void;)V" } : Jvm.MethodName) jdk_42_method_150_code (5 : Nat) (Option.none : Option Jvm.ClassFile.FieldType)) : Jvm.Cond).before a0 Z = true := H.1 _ (List.mem_of_getElem? (i := 130) rfl)
theorem w_131 {Z : State} {a0 : Array Value} (H : Wd Z a0) : ((Jvm.Cond.methodLink "java/lang/String" (552 : Nat) ({ cls := "java/lang/AbstractStringBuilder", name := "getValue", desc := "()[B" } : Jvm.MethodName)) : Jvm.Cond).before a0 Z = true := H.1 _ (List.mem_of_getElem? (i := 131) rfl)
theorem w_132 {Z : State} {a0 : Array Value} (H : Wd Z a0) : ((Jvm.Cond.declares ({ cls := "java/lang/AbstractStringBuilder", name := "getValue", desc := "()[B" } : Jvm.MethodName)) : Jvm.Cond).before a0 Z = true := H.1 _ (List.mem_of_getElem? (i := 132) rfl)
theorem w_133 {Z : State} {a0 : Array Value} (H : Wd Z a0) : ((Jvm.Cond.instanceMethod ({ cls := "java/lang/AbstractStringBuilder", name := "getValue", desc := "()[B" } : Jvm.MethodName)) : Jvm.Cond).before a0 Z = true := H.1 _ (List.mem_of_getElem? (i := 133) rfl)
theorem w_134 {Z : State} {a0 : Array Value} (H : Wd Z a0) : ((Jvm.Cond.selects "java/lang/StringBuilder" ({ cls := "java/lang/AbstractStringBuilder", name := "getValue", desc := "()[B" } : Jvm.MethodName) ({ cls := "java/lang/AbstractStringBuilder", name := "getValue", desc := "()[B" } : Jvm.MethodName)) : Jvm.Cond).before a0 Z = true := H.1 _ (List.mem_of_getElem? (i := 134) rfl)
theorem w_135 {Z : State} {a0 : Array Value} (H : Wd Z a0) : ((Jvm.Cond.code ({ cls := "java/lang/AbstractStringBuilder", name := "getValue", desc := "()[B" } : Jvm.MethodName) jdk_68_method_64_code (1 : Nat) (Option.some (Jvm.ClassFile.FieldType.array Jvm.ClassFile.FieldType.byte))) : Jvm.Cond).before a0 Z = true := H.1 _ (List.mem_of_getElem? (i := 135) rfl)
theorem w_136 {Z : State} {a0 : Array Value} (H : Wd Z a0) : ((Jvm.Cond.methodLink "java/lang/String" (549 : Nat) ({ cls := "java/lang/AbstractStringBuilder", name := "length", desc := "()I" } : Jvm.MethodName)) : Jvm.Cond).before a0 Z = true := H.1 _ (List.mem_of_getElem? (i := 136) rfl)
theorem w_137 {Z : State} {a0 : Array Value} (H : Wd Z a0) : ((Jvm.Cond.declares ({ cls := "java/lang/AbstractStringBuilder", name := "length", desc := "()I" } : Jvm.MethodName)) : Jvm.Cond).before a0 Z = true := H.1 _ (List.mem_of_getElem? (i := 137) rfl)
theorem w_138 {Z : State} {a0 : Array Value} (H : Wd Z a0) : ((Jvm.Cond.instanceMethod ({ cls := "java/lang/AbstractStringBuilder", name := "length", desc := "()I" } : Jvm.MethodName)) : Jvm.Cond).before a0 Z = true := H.1 _ (List.mem_of_getElem? (i := 138) rfl)
theorem w_139 {Z : State} {a0 : Array Value} (H : Wd Z a0) : ((Jvm.Cond.selects "java/lang/StringBuilder" ({ cls := "java/lang/AbstractStringBuilder", name := "length", desc := "()I" } : Jvm.MethodName) ({ cls := "java/lang/StringBuilder", name := "length", desc := "()I" } : Jvm.MethodName)) : Jvm.Cond).before a0 Z = true := H.1 _ (List.mem_of_getElem? (i := 139) rfl)
theorem w_140 {Z : State} {a0 : Array Value} (H : Wd Z a0) : ((Jvm.Cond.instanceMethod ({ cls := "java/lang/StringBuilder", name := "length", desc := "()I" } : Jvm.MethodName)) : Jvm.Cond).before a0 Z = true := H.1 _ (List.mem_of_getElem? (i := 140) rfl)
theorem w_141 {Z : State} {a0 : Array Value} (H : Wd Z a0) : ((Jvm.Cond.code ({ cls := "java/lang/StringBuilder", name := "length", desc := "()I" } : Jvm.MethodName) jdk_67_method_93_code (1 : Nat) (Option.some Jvm.ClassFile.FieldType.int)) : Jvm.Cond).before a0 Z = true := H.1 _ (List.mem_of_getElem? (i := 141) rfl)
theorem w_142 {Z : State} {a0 : Array Value} (H : Wd Z a0) : ((Jvm.Cond.methodLink "java/lang/StringBuilder" (343 : Nat) ({ cls := "java/lang/AbstractStringBuilder", name := "length", desc := "()I" } : Jvm.MethodName)) : Jvm.Cond).before a0 Z = true := H.1 _ (List.mem_of_getElem? (i := 142) rfl)
theorem w_143 {Z : State} {a0 : Array Value} (H : Wd Z a0) : ((Jvm.Cond.code ({ cls := "java/lang/AbstractStringBuilder", name := "length", desc := "()I" } : Jvm.MethodName) jdk_68_method_6_code (1 : Nat) (Option.some Jvm.ClassFile.FieldType.int)) : Jvm.Cond).before a0 Z = true := H.1 _ (List.mem_of_getElem? (i := 143) rfl)
theorem w_144 {Z : State} {a0 : Array Value} (H : Wd Z a0) : ((Jvm.Cond.methodLink "java/lang/String" (1047 : Nat) ({ cls := "java/lang/AbstractStringBuilder", name := "isLatin1", desc := "()Z" } : Jvm.MethodName)) : Jvm.Cond).before a0 Z = true := H.1 _ (List.mem_of_getElem? (i := 144) rfl)
theorem w_145 {Z : State} {a0 : Array Value} (H : Wd Z a0) : ((Jvm.Cond.declares ({ cls := "java/lang/AbstractStringBuilder", name := "isLatin1", desc := "()Z" } : Jvm.MethodName)) : Jvm.Cond).before a0 Z = true := H.1 _ (List.mem_of_getElem? (i := 145) rfl)
theorem w_146 {Z : State} {a0 : Array Value} (H : Wd Z a0) : ((Jvm.Cond.instanceMethod ({ cls := "java/lang/AbstractStringBuilder", name := "isLatin1", desc := "()Z" } : Jvm.MethodName)) : Jvm.Cond).before a0 Z = true := H.1 _ (List.mem_of_getElem? (i := 146) rfl)
theorem w_147 {Z : State} {a0 : Array Value} (H : Wd Z a0) : ((Jvm.Cond.selects "java/lang/StringBuilder" ({ cls := "java/lang/AbstractStringBuilder", name := "isLatin1", desc := "()Z" } : Jvm.MethodName) ({ cls := "java/lang/AbstractStringBuilder", name := "isLatin1", desc := "()Z" } : Jvm.MethodName)) : Jvm.Cond).before a0 Z = true := H.1 _ (List.mem_of_getElem? (i := 147) rfl)
theorem w_148 {Z : State} {a0 : Array Value} (H : Wd Z a0) : ((Jvm.Cond.code ({ cls := "java/lang/AbstractStringBuilder", name := "isLatin1", desc := "()Z" } : Jvm.MethodName) jdk_68_method_68_code (1 : Nat) (Option.some Jvm.ClassFile.FieldType.boolean)) : Jvm.Cond).before a0 Z = true := H.1 _ (List.mem_of_getElem? (i := 148) rfl)
theorem w_149 {Z : State} {a0 : Array Value} (H : Wd Z a0) : ((Jvm.Cond.methodLink "java/lang/String" (54 : Nat) ({ cls := "java/util/Arrays", name := "copyOfRange", desc := "([BII)[B" } : Jvm.MethodName)) : Jvm.Cond).before a0 Z = true := H.1 _ (List.mem_of_getElem? (i := 149) rfl)
theorem w_150 {Z : State} {a0 : Array Value} (H : Wd Z a0) : ((Jvm.Cond.static ({ cls := "java/util/Arrays", name := "copyOfRange", desc := "([BII)[B" } : Jvm.MethodName)) : Jvm.Cond).before a0 Z = true := H.1 _ (List.mem_of_getElem? (i := 150) rfl)
theorem w_151 {Z : State} {a0 : Array Value} (H : Wd Z a0) : ((Jvm.Cond.initialized "java/util/Arrays") : Jvm.Cond).before a0 Z = true := H.1 _ (List.mem_of_getElem? (i := 151) rfl)
theorem w_152 {Z : State} {a0 : Array Value} (H : Wd Z a0) : ((Jvm.Cond.code ({ cls := "java/util/Arrays", name := "copyOfRange", desc := "([BII)[B" } : Jvm.MethodName) jdk_65_method_132_code (3 : Nat) (Option.some (Jvm.ClassFile.FieldType.array Jvm.ClassFile.FieldType.byte))) : Jvm.Cond).before a0 Z = true := H.1 _ (List.mem_of_getElem? (i := 152) rfl)
theorem w_153 {Z : State} {a0 : Array Value} (H : Wd Z a0) : ((Jvm.Cond.methodLink "java/util/Arrays" (339 : Nat) ({ cls := "java/util/Arrays", name := "copyOfRangeByte", desc := "([BII)[B" } : Jvm.MethodName)) : Jvm.Cond).before a0 Z = true := H.1 _ (List.mem_of_getElem? (i := 153) rfl)
theorem w_154 {Z : State} {a0 : Array Value} (H : Wd Z a0) : ((Jvm.Cond.static ({ cls := "java/util/Arrays", name := "copyOfRangeByte", desc := "([BII)[B" } : Jvm.MethodName)) : Jvm.Cond).before a0 Z = true := H.1 _ (List.mem_of_getElem? (i := 154) rfl)
theorem w_155 {Z : State} {a0 : Array Value} (H : Wd Z a0) : ((Jvm.Cond.code ({ cls := "java/util/Arrays", name := "copyOfRangeByte", desc := "([BII)[B" } : Jvm.MethodName) jdk_65_method_133_code (5 : Nat) (Option.some (Jvm.ClassFile.FieldType.array Jvm.ClassFile.FieldType.byte))) : Jvm.Cond).before a0 Z = true := H.1 _ (List.mem_of_getElem? (i := 155) rfl)
theorem w_156 {Z : State} {a0 : Array Value} (H : Wd Z a0) : ((Jvm.Cond.methodLink "java/util/Arrays" (343 : Nat) ({ cls := "java/util/Arrays", name := "checkLength", desc := "(II)V" } : Jvm.MethodName)) : Jvm.Cond).before a0 Z = true := H.1 _ (List.mem_of_getElem? (i := 156) rfl)
theorem w_157 {Z : State} {a0 : Array Value} (H : Wd Z a0) : ((Jvm.Cond.static ({ cls := "java/util/Arrays", name := "checkLength", desc := "(II)V" } : Jvm.MethodName)) : Jvm.Cond).before a0 Z = true := H.1 _ (List.mem_of_getElem? (i := 157) rfl)
theorem w_158 {Z : State} {a0 : Array Value} (H : Wd Z a0) : ((Jvm.Cond.code ({ cls := "java/util/Arrays", name := "checkLength", desc := "(II)V" } : Jvm.MethodName) jdk_65_method_131_code (2 : Nat) (Option.none : Option Jvm.ClassFile.FieldType)) : Jvm.Cond).before a0 Z = true := H.1 _ (List.mem_of_getElem? (i := 158) rfl)
theorem w_159 {Z : State} {a0 : Array Value} (H : Wd Z a0) : ((Jvm.Cond.methodLink "java/util/Arrays" (304 : Nat) ({ cls := "java/lang/Math", name := "min", desc := "(II)I" } : Jvm.MethodName)) : Jvm.Cond).before a0 Z = true := H.1 _ (List.mem_of_getElem? (i := 159) rfl)
theorem w_160 {Z : State} {a0 : Array Value} (H : Wd Z a0) : ((Jvm.Cond.static ({ cls := "java/lang/Math", name := "min", desc := "(II)I" } : Jvm.MethodName)) : Jvm.Cond).before a0 Z = true := H.1 _ (List.mem_of_getElem? (i := 160) rfl)
theorem w_161 {Z : State} {a0 : Array Value} (H : Wd Z a0) : ((Jvm.Cond.initialized "java/lang/Math") : Jvm.Cond).before a0 Z = true := H.1 _ (List.mem_of_getElem? (i := 161) rfl)
theorem w_162 {Z : State} {a0 : Array Value} (H : Wd Z a0) : ((Jvm.Cond.code ({ cls := "java/lang/Math", name := "min", desc := "(II)I" } : Jvm.MethodName) jdk_29_method_69_code (2 : Nat) (Option.some Jvm.ClassFile.FieldType.int)) : Jvm.Cond).before a0 Z = true := H.1 _ (List.mem_of_getElem? (i := 162) rfl)
theorem w_163 {Z : State} {a0 : Array Value} (H : Wd Z a0) : ((Jvm.Cond.methodLink "java/util/Arrays" (150 : Nat) ({ cls := "java/lang/System", name := "arraycopy", desc := "(Ljava/lang/Object;ILjava/lang/Object;II)V" } : Jvm.MethodName)) : Jvm.Cond).before a0 Z = true := H.1 _ (List.mem_of_getElem? (i := 163) rfl)
theorem w_164 {Z : State} {a0 : Array Value} (H : Wd Z a0) : ((Jvm.Cond.fieldLink "com/example/saga/saga/server/SurfaceUris" (20 : Nat) "com/example/saga/saga/server/SurfaceUris" "base" "Ljava/lang/String;") : Jvm.Cond).before a0 Z = true := H.1 _ (List.mem_of_getElem? (i := 164) rfl)
theorem w_165 {Z : State} {a0 : Array Value} (H : Wd Z a0) : ((Jvm.Cond.laysFinal "com/example/saga/saga/server/SurfaceUris" "com/example/saga/saga/server/SurfaceUris" "base" "Ljava/lang/String;") : Jvm.Cond).before a0 Z = true := H.1 _ (List.mem_of_getElem? (i := 165) rfl)
theorem w_166 {Z : State} {a0 : Array Value} (H : Wd Z a0) : ((Jvm.Cond.methodLink "com/example/saga/saga/server/SurfaceUrisJsonTimeMapPinLaw" (59 : Nat) ({ cls := "com/example/saga/saga/server/SurfaceUris", name := "jsonTimeMap", desc := "(Ljava/lang/String;I)Ljava/lang/String;" } : Jvm.MethodName)) : Jvm.Cond).before a0 Z = true := H.1 _ (List.mem_of_getElem? (i := 166) rfl)
theorem w_167 {Z : State} {a0 : Array Value} (H : Wd Z a0) : ((Jvm.Cond.declares ({ cls := "com/example/saga/saga/server/SurfaceUris", name := "jsonTimeMap", desc := "(Ljava/lang/String;I)Ljava/lang/String;" } : Jvm.MethodName)) : Jvm.Cond).before a0 Z = true := H.1 _ (List.mem_of_getElem? (i := 167) rfl)
theorem w_168 {Z : State} {a0 : Array Value} (H : Wd Z a0) : ((Jvm.Cond.instanceMethod ({ cls := "com/example/saga/saga/server/SurfaceUris", name := "jsonTimeMap", desc := "(Ljava/lang/String;I)Ljava/lang/String;" } : Jvm.MethodName)) : Jvm.Cond).before a0 Z = true := H.1 _ (List.mem_of_getElem? (i := 168) rfl)
theorem w_169 {Z : State} {a0 : Array Value} (H : Wd Z a0) : ((Jvm.Cond.selects "com/example/saga/saga/server/SurfaceUris" ({ cls := "com/example/saga/saga/server/SurfaceUris", name := "jsonTimeMap", desc := "(Ljava/lang/String;I)Ljava/lang/String;" } : Jvm.MethodName) ({ cls := "com/example/saga/saga/server/SurfaceUris", name := "jsonTimeMap", desc := "(Ljava/lang/String;I)Ljava/lang/String;" } : Jvm.MethodName)) : Jvm.Cond).before a0 Z = true := H.1 _ (List.mem_of_getElem? (i := 169) rfl)
theorem w_170 {Z : State} {a0 : Array Value} (H : Wd Z a0) : ((Jvm.Cond.code ({ cls := "com/example/saga/saga/server/SurfaceUris", name := "jsonTimeMap", desc := "(Ljava/lang/String;I)Ljava/lang/String;" } : Jvm.MethodName) prog_12_method_5_code (3 : Nat) (Option.some (Jvm.ClassFile.FieldType.object "java/lang/String"))) : Jvm.Cond).before a0 Z = true := H.1 _ (List.mem_of_getElem? (i := 170) rfl)
theorem w_171 {Z : State} {a0 : Array Value} (H : Wd Z a0) : ((Jvm.Cond.stringLink "com/example/saga/saga/server/SurfaceUris" (39 : Nat) "/timemap/json/") : Jvm.Cond).before a0 Z = true := H.1 _ (List.mem_of_getElem? (i := 171) rfl)
theorem w_172 {Z : State} {a0 : Array Value} (H : Wd Z a0) : ((Jvm.Cond.methodLink "java/lang/AbstractStringBuilder" (104 : Nat) ({ cls := "java/lang/AbstractStringBuilder", name := "newCapacity", desc := "(I)I" } : Jvm.MethodName)) : Jvm.Cond).before a0 Z = true := H.1 _ (List.mem_of_getElem? (i := 172) rfl)
theorem w_173 {Z : State} {a0 : Array Value} (H : Wd Z a0) : ((Jvm.Cond.instanceMethod ({ cls := "java/lang/AbstractStringBuilder", name := "newCapacity", desc := "(I)I" } : Jvm.MethodName)) : Jvm.Cond).before a0 Z = true := H.1 _ (List.mem_of_getElem? (i := 173) rfl)
theorem w_175 {Z : State} {a0 : Array Value} (H : Wd Z a0) : ((Jvm.Cond.selects "java/lang/StringBuilder" ({ cls := "java/lang/AbstractStringBuilder", name := "newCapacity", desc := "(I)I" } : Jvm.MethodName) ({ cls := "java/lang/AbstractStringBuilder", name := "newCapacity", desc := "(I)I" } : Jvm.MethodName)) : Jvm.Cond).before a0 Z = true := H.1 _ (List.mem_of_getElem? (i := 175) rfl)
theorem w_176 {Z : State} {a0 : Array Value} (H : Wd Z a0) : ((Jvm.Cond.code ({ cls := "java/lang/AbstractStringBuilder", name := "newCapacity", desc := "(I)I" } : Jvm.MethodName) jdk_68_method_10_code (6 : Nat) (Option.some Jvm.ClassFile.FieldType.int)) : Jvm.Cond).before a0 Z = true := H.1 _ (List.mem_of_getElem? (i := 176) rfl)
theorem w_177 {Z : State} {a0 : Array Value} (H : Wd Z a0) : ((Jvm.Cond.methodLink "java/lang/AbstractStringBuilder" (114 : Nat) ({ cls := "jdk/internal/util/ArraysSupport", name := "newLength", desc := "(III)I" } : Jvm.MethodName)) : Jvm.Cond).before a0 Z = true := H.1 _ (List.mem_of_getElem? (i := 177) rfl)
theorem w_178 {Z : State} {a0 : Array Value} (H : Wd Z a0) : ((Jvm.Cond.static ({ cls := "jdk/internal/util/ArraysSupport", name := "newLength", desc := "(III)I" } : Jvm.MethodName)) : Jvm.Cond).before a0 Z = true := H.1 _ (List.mem_of_getElem? (i := 178) rfl)
theorem w_179 {Z : State} {a0 : Array Value} (H : Wd Z a0) : ((Jvm.Cond.initialized "jdk/internal/util/ArraysSupport") : Jvm.Cond).before a0 Z = true := H.1 _ (List.mem_of_getElem? (i := 179) rfl)
theorem w_180 {Z : State} {a0 : Array Value} (H : Wd Z a0) : ((Jvm.Cond.code ({ cls := "jdk/internal/util/ArraysSupport", name := "newLength", desc := "(III)I" } : Jvm.MethodName) jdk_48_method_27_code (4 : Nat) (Option.some Jvm.ClassFile.FieldType.int)) : Jvm.Cond).before a0 Z = true := H.1 _ (List.mem_of_getElem? (i := 180) rfl)
theorem w_181 {Z : State} {a0 : Array Value} (H : Wd Z a0) : ((Jvm.Cond.methodLink "jdk/internal/util/ArraysSupport" (194 : Nat) ({ cls := "java/lang/Math", name := "max", desc := "(II)I" } : Jvm.MethodName)) : Jvm.Cond).before a0 Z = true := H.1 _ (List.mem_of_getElem? (i := 181) rfl)
theorem w_182 {Z : State} {a0 : Array Value} (H : Wd Z a0) : ((Jvm.Cond.static ({ cls := "java/lang/Math", name := "max", desc := "(II)I" } : Jvm.MethodName)) : Jvm.Cond).before a0 Z = true := H.1 _ (List.mem_of_getElem? (i := 182) rfl)
theorem w_183 {Z : State} {a0 : Array Value} (H : Wd Z a0) : ((Jvm.Cond.code ({ cls := "java/lang/Math", name := "max", desc := "(II)I" } : Jvm.MethodName) jdk_29_method_65_code (2 : Nat) (Option.some Jvm.ClassFile.FieldType.int)) : Jvm.Cond).before a0 Z = true := H.1 _ (List.mem_of_getElem? (i := 183) rfl)
theorem w_184 {Z : State} {a0 : Array Value} (H : Wd Z a0) : ((Jvm.Cond.constant "jdk/internal/util/ArraysSupport" (200 : Nat) (2147483639 : Int32)) : Jvm.Cond).before a0 Z = true := H.1 _ (List.mem_of_getElem? (i := 184) rfl)
theorem w_185 {Z : State} {a0 : Array Value} (H : Wd Z a0) : ((Jvm.Cond.constant "java/lang/AbstractStringBuilder" (39 : Nat) (2147483647 : Int32)) : Jvm.Cond).before a0 Z = true := H.1 _ (List.mem_of_getElem? (i := 185) rfl)
theorem w_186 {Z : State} {a0 : Array Value} (H : Wd Z a0) : ((Jvm.Cond.methodLink "java/lang/AbstractStringBuilder" (108 : Nat) ({ cls := "java/util/Arrays", name := "copyOf", desc := "([BI)[B" } : Jvm.MethodName)) : Jvm.Cond).before a0 Z = true := H.1 _ (List.mem_of_getElem? (i := 186) rfl)
theorem w_187 {Z : State} {a0 : Array Value} (H : Wd Z a0) : ((Jvm.Cond.static ({ cls := "java/util/Arrays", name := "copyOf", desc := "([BI)[B" } : Jvm.MethodName)) : Jvm.Cond).before a0 Z = true := H.1 _ (List.mem_of_getElem? (i := 187) rfl)
theorem w_188 {Z : State} {a0 : Array Value} (H : Wd Z a0) : ((Jvm.Cond.code ({ cls := "java/util/Arrays", name := "copyOf", desc := "([BI)[B" } : Jvm.MethodName) jdk_65_method_121_code (3 : Nat) (Option.some (Jvm.ClassFile.FieldType.array Jvm.ClassFile.FieldType.byte))) : Jvm.Cond).before a0 Z = true := H.1 _ (List.mem_of_getElem? (i := 188) rfl)
theorem w_189 {Z : State} {a0 : Array Value} (H : Wd Z a0) : ((Jvm.Cond.methodLink "com/example/saga/saga/server/SurfaceUris" (32 : Nat) ({ cls := "com/example/saga/saga/server/SurfaceUris", name := "pageNumber", desc := "(I)Ljava/lang/String;" } : Jvm.MethodName)) : Jvm.Cond).before a0 Z = true := H.1 _ (List.mem_of_getElem? (i := 189) rfl)
theorem w_190 {Z : State} {a0 : Array Value} (H : Wd Z a0) : ((Jvm.Cond.static ({ cls := "com/example/saga/saga/server/SurfaceUris", name := "pageNumber", desc := "(I)Ljava/lang/String;" } : Jvm.MethodName)) : Jvm.Cond).before a0 Z = true := H.1 _ (List.mem_of_getElem? (i := 190) rfl)
theorem w_191 {Z : State} {a0 : Array Value} (H : Wd Z a0) : ((Jvm.Cond.code ({ cls := "com/example/saga/saga/server/SurfaceUris", name := "pageNumber", desc := "(I)Ljava/lang/String;" } : Jvm.MethodName) prog_12_method_8_code (1 : Nat) (Option.some (Jvm.ClassFile.FieldType.object "java/lang/String"))) : Jvm.Cond).before a0 Z = true := H.1 _ (List.mem_of_getElem? (i := 191) rfl)
theorem w_192 {Z : State} {a0 : Array Value} (H : Wd Z a0) : ((Jvm.Cond.stringLink "com/example/saga/saga/server/SurfaceUris" (62 : Nat) "") : Jvm.Cond).before a0 Z = true := H.1 _ (List.mem_of_getElem? (i := 192) rfl)
theorem w_193 {Z : State} {a0 : Array Value} (H : Wd Z a0) : ((Jvm.Cond.methodLink "com/example/saga/saga/server/SurfaceUrisJsonTimeMapPinLaw" (67 : Nat) ({ cls := "java/lang/String", name := "length", desc := "()I" } : Jvm.MethodName)) : Jvm.Cond).before a0 Z = true := H.1 _ (List.mem_of_getElem? (i := 193) rfl)
theorem w_194 {Z : State} {a0 : Array Value} (H : Wd Z a0) : ((Jvm.Cond.methodLink "com/example/saga/saga/server/SurfaceUrisJsonTimeMapPinLaw" (37 : Nat) ({ cls := "java/lang/String", name := "charAt", desc := "(I)C" } : Jvm.MethodName)) : Jvm.Cond).before a0 Z = true := H.1 _ (List.mem_of_getElem? (i := 194) rfl)
theorem w_195 {Z : State} {a0 : Array Value} (H : Wd Z a0) : ((Jvm.Cond.declares ({ cls := "java/lang/String", name := "charAt", desc := "(I)C" } : Jvm.MethodName)) : Jvm.Cond).before a0 Z = true := H.1 _ (List.mem_of_getElem? (i := 195) rfl)
theorem w_196 {Z : State} {a0 : Array Value} (H : Wd Z a0) : ((Jvm.Cond.instanceMethod ({ cls := "java/lang/String", name := "charAt", desc := "(I)C" } : Jvm.MethodName)) : Jvm.Cond).before a0 Z = true := H.1 _ (List.mem_of_getElem? (i := 196) rfl)
theorem w_197 {Z : State} {a0 : Array Value} (H : Wd Z a0) : ((Jvm.Cond.selects "java/lang/String" ({ cls := "java/lang/String", name := "charAt", desc := "(I)C" } : Jvm.MethodName) ({ cls := "java/lang/String", name := "charAt", desc := "(I)C" } : Jvm.MethodName)) : Jvm.Cond).before a0 Z = true := H.1 _ (List.mem_of_getElem? (i := 197) rfl)
theorem w_198 {Z : State} {a0 : Array Value} (H : Wd Z a0) : ((Jvm.Cond.code ({ cls := "java/lang/String", name := "charAt", desc := "(I)C" } : Jvm.MethodName) jdk_42_method_56_code (2 : Nat) (Option.some Jvm.ClassFile.FieldType.char)) : Jvm.Cond).before a0 Z = true := H.1 _ (List.mem_of_getElem? (i := 198) rfl)
theorem w_199 {Z : State} {a0 : Array Value} (H : Wd Z a0) : ((Jvm.Cond.methodLink "java/lang/String" (492 : Nat) ({ cls := "java/lang/String", name := "isLatin1", desc := "()Z" } : Jvm.MethodName)) : Jvm.Cond).before a0 Z = true := H.1 _ (List.mem_of_getElem? (i := 199) rfl)
theorem w_200 {Z : State} {a0 : Array Value} (H : Wd Z a0) : ((Jvm.Cond.declares ({ cls := "java/lang/String", name := "isLatin1", desc := "()Z" } : Jvm.MethodName)) : Jvm.Cond).before a0 Z = true := H.1 _ (List.mem_of_getElem? (i := 200) rfl)
theorem w_201 {Z : State} {a0 : Array Value} (H : Wd Z a0) : ((Jvm.Cond.instanceMethod ({ cls := "java/lang/String", name := "isLatin1", desc := "()Z" } : Jvm.MethodName)) : Jvm.Cond).before a0 Z = true := H.1 _ (List.mem_of_getElem? (i := 201) rfl)
theorem w_202 {Z : State} {a0 : Array Value} (H : Wd Z a0) : ((Jvm.Cond.selects "java/lang/String" ({ cls := "java/lang/String", name := "isLatin1", desc := "()Z" } : Jvm.MethodName) ({ cls := "java/lang/String", name := "isLatin1", desc := "()Z" } : Jvm.MethodName)) : Jvm.Cond).before a0 Z = true := H.1 _ (List.mem_of_getElem? (i := 202) rfl)
theorem w_203 {Z : State} {a0 : Array Value} (H : Wd Z a0) : ((Jvm.Cond.code ({ cls := "java/lang/String", name := "isLatin1", desc := "()Z" } : Jvm.MethodName) jdk_42_method_154_code (1 : Nat) (Option.some Jvm.ClassFile.FieldType.boolean)) : Jvm.Cond).before a0 Z = true := H.1 _ (List.mem_of_getElem? (i := 203) rfl)
theorem w_204 {Z : State} {a0 : Array Value} (H : Wd Z a0) : ((Jvm.Cond.methodLink "java/lang/String" (495 : Nat) ({ cls := "java/lang/StringLatin1", name := "charAt", desc := "([BI)C" } : Jvm.MethodName)) : Jvm.Cond).before a0 Z = true := H.1 _ (List.mem_of_getElem? (i := 204) rfl)
theorem w_205 {Z : State} {a0 : Array Value} (H : Wd Z a0) : ((Jvm.Cond.static ({ cls := "java/lang/StringLatin1", name := "charAt", desc := "([BI)C" } : Jvm.MethodName)) : Jvm.Cond).before a0 Z = true := H.1 _ (List.mem_of_getElem? (i := 205) rfl)
theorem w_206 {Z : State} {a0 : Array Value} (H : Wd Z a0) : ((Jvm.Cond.code ({ cls := "java/lang/StringLatin1", name := "charAt", desc := "([BI)C" } : Jvm.MethodName) jdk_43_method_2_code (2 : Nat) (Option.some Jvm.ClassFile.FieldType.char)) : Jvm.Cond).before a0 Z = true := H.1 _ (List.mem_of_getElem? (i := 206) rfl)
theorem w_207 {Z : State} {a0 : Array Value} (H : Wd Z a0) : ((Jvm.Cond.methodLink "java/lang/StringLatin1" (9 : Nat) ({ cls := "java/lang/String", name := "checkIndex", desc := "(II)V" } : Jvm.MethodName)) : Jvm.Cond).before a0 Z = true := H.1 _ (List.mem_of_getElem? (i := 207) rfl)
theorem w_208 {Z : State} {a0 : Array Value} (H : Wd Z a0) : ((Jvm.Cond.static ({ cls := "java/lang/String", name := "checkIndex", desc := "(II)V" } : Jvm.MethodName)) : Jvm.Cond).before a0 Z = true := H.1 _ (List.mem_of_getElem? (i := 208) rfl)
theorem w_209 {Z : State} {a0 : Array Value} (H : Wd Z a0) : ((Jvm.Cond.code ({ cls := "java/lang/String", name := "checkIndex", desc := "(II)V" } : Jvm.MethodName) jdk_42_method_155_code (2 : Nat) (Option.none : Option Jvm.ClassFile.FieldType)) : Jvm.Cond).before a0 Z = true := H.1 _ (List.mem_of_getElem? (i := 209) rfl)
theorem w_210 {Z : State} {a0 : Array Value} (H : Wd Z a0) : ((Jvm.Cond.fieldLink "java/lang/String" (1053 : Nat) "jdk/internal/util/Preconditions" "SIOOBE_FORMATTER" "Ljava/util/function/BiFunction;") : Jvm.Cond).before a0 Z = true := H.1 _ (List.mem_of_getElem? (i := 210) rfl)
theorem w_211 {Z : State} {a0 : Array Value} (H : Wd Z a0) : ((Jvm.Cond.initialized "jdk/internal/util/Preconditions") : Jvm.Cond).before a0 Z = true := H.1 _ (List.mem_of_getElem? (i := 211) rfl)
theorem w_212 {Z : State} {a0 : Array Value} (H : Wd Z a0) : ((Jvm.Cond.methodLink "java/lang/String" (1059 : Nat) ({ cls := "jdk/internal/util/Preconditions", name := "checkIndex", desc := "(IILjava/util/function/BiFunction;)I" } : Jvm.MethodName)) : Jvm.Cond).before a0 Z = true := H.1 _ (List.mem_of_getElem? (i := 212) rfl)
theorem w_213 {Z : State} {a0 : Array Value} (H : Wd Z a0) : ((Jvm.Cond.static ({ cls := "jdk/internal/util/Preconditions", name := "checkIndex", desc := "(IILjava/util/function/BiFunction;)I" } : Jvm.MethodName)) : Jvm.Cond).before a0 Z = true := H.1 _ (List.mem_of_getElem? (i := 213) rfl)
theorem w_214 {Z : State} {a0 : Array Value} (H : Wd Z a0) : ((Jvm.Cond.code ({ cls := "jdk/internal/util/Preconditions", name := "checkIndex", desc := "(IILjava/util/function/BiFunction;)I" } : Jvm.MethodName) jdk_41_method_11_code (3 : Nat) (Option.some Jvm.ClassFile.FieldType.int)) : Jvm.Cond).before a0 Z = true := H.1 _ (List.mem_of_getElem? (i := 214) rfl)
theorem w_215 {Z : State} {a0 : Array Value} (H : Wd Z a0) : ((Jvm.Cond.methodLink "com/example/saga/saga/server/SurfaceUris" (64 : Nat) ({ cls := "java/lang/StringBuilder", name := "append", desc := "(I)Ljava/lang/StringBuilder;" } : Jvm.MethodName)) : Jvm.Cond).before a0 Z = true := H.1 _ (List.mem_of_getElem? (i := 215) rfl)
theorem w_216 {Z : State} {a0 : Array Value} (H : Wd Z a0) : ((Jvm.Cond.declares ({ cls := "java/lang/StringBuilder", name := "append", desc := "(I)Ljava/lang/StringBuilder;" } : Jvm.MethodName)) : Jvm.Cond).before a0 Z = true := H.1 _ (List.mem_of_getElem? (i := 216) rfl)
theorem w_217 {Z : State} {a0 : Array Value} (H : Wd Z a0) : ((Jvm.Cond.instanceMethod ({ cls := "java/lang/StringBuilder", name := "append", desc := "(I)Ljava/lang/StringBuilder;" } : Jvm.MethodName)) : Jvm.Cond).before a0 Z = true := H.1 _ (List.mem_of_getElem? (i := 217) rfl)
theorem w_218 {Z : State} {a0 : Array Value} (H : Wd Z a0) : ((Jvm.Cond.selects "java/lang/StringBuilder" ({ cls := "java/lang/StringBuilder", name := "append", desc := "(I)Ljava/lang/StringBuilder;" } : Jvm.MethodName) ({ cls := "java/lang/StringBuilder", name := "append", desc := "(I)Ljava/lang/StringBuilder;" } : Jvm.MethodName)) : Jvm.Cond).before a0 Z = true := H.1 _ (List.mem_of_getElem? (i := 218) rfl)
theorem w_219 {Z : State} {a0 : Array Value} (H : Wd Z a0) : ((Jvm.Cond.code ({ cls := "java/lang/StringBuilder", name := "append", desc := "(I)Ljava/lang/StringBuilder;" } : Jvm.MethodName) jdk_67_method_15_code (2 : Nat) (Option.some (Jvm.ClassFile.FieldType.object "java/lang/StringBuilder"))) : Jvm.Cond).before a0 Z = true := H.1 _ (List.mem_of_getElem? (i := 219) rfl)
theorem w_220 {Z : State} {a0 : Array Value} (H : Wd Z a0) : ((Jvm.Cond.methodLink "java/lang/StringBuilder" (53 : Nat) ({ cls := "java/lang/AbstractStringBuilder", name := "append", desc := "(I)Ljava/lang/AbstractStringBuilder;" } : Jvm.MethodName)) : Jvm.Cond).before a0 Z = true := H.1 _ (List.mem_of_getElem? (i := 220) rfl)
theorem w_221 {Z : State} {a0 : Array Value} (H : Wd Z a0) : ((Jvm.Cond.instanceMethod ({ cls := "java/lang/AbstractStringBuilder", name := "append", desc := "(I)Ljava/lang/AbstractStringBuilder;" } : Jvm.MethodName)) : Jvm.Cond).before a0 Z = true := H.1 _ (List.mem_of_getElem? (i := 221) rfl)
theorem w_222 {Z : State} {a0 : Array Value} (H : Wd Z a0) : ((Jvm.Cond.declares ({ cls := "java/lang/AbstractStringBuilder", name := "append", desc := "(I)Ljava/lang/AbstractStringBuilder;" } : Jvm.MethodName)) : Jvm.Cond).before a0 Z = true := H.1 _ (List.mem_of_getElem? (i := 222) rfl)
theorem w_223 {Z : State} {a0 : Array Value} (H : Wd Z a0) : ((Jvm.Cond.code ({ cls := "java/lang/AbstractStringBuilder", name := "append", desc := "(I)Ljava/lang/AbstractStringBuilder;" } : Jvm.MethodName) jdk_68_method_32_code (4 : Nat) (Option.some (Jvm.ClassFile.FieldType.object "java/lang/AbstractStringBuilder"))) : Jvm.Cond).before a0 Z = true := H.1 _ (List.mem_of_getElem? (i := 223) rfl)
theorem w_224 {Z : State} {a0 : Array Value} (H : Wd Z a0) : ((Jvm.Cond.methodLink "java/lang/AbstractStringBuilder" (245 : Nat) ({ cls := "java/lang/Integer", name := "stringSize", desc := "(I)I" } : Jvm.MethodName)) : Jvm.Cond).before a0 Z = true := H.1 _ (List.mem_of_getElem? (i := 224) rfl)
theorem w_225 {Z : State} {a0 : Array Value} (H : Wd Z a0) : ((Jvm.Cond.static ({ cls := "java/lang/Integer", name := "stringSize", desc := "(I)I" } : Jvm.MethodName)) : Jvm.Cond).before a0 Z = true := H.1 _ (List.mem_of_getElem? (i := 225) rfl)
theorem w_226 {Z : State} {a0 : Array Value} (H : Wd Z a0) : ((Jvm.Cond.initialized "java/lang/Integer") : Jvm.Cond).before a0 Z = true := H.1 _ (List.mem_of_getElem? (i := 226) rfl)
theorem w_227 {Z : State} {a0 : Array Value} (H : Wd Z a0) : ((Jvm.Cond.code ({ cls := "java/lang/Integer", name := "stringSize", desc := "(I)I" } : Jvm.MethodName) jdk_33_method_13_code (4 : Nat) (Option.some Jvm.ClassFile.FieldType.int)) : Jvm.Cond).before a0 Z = true := H.1 _ (List.mem_of_getElem? (i := 227) rfl)
theorem w_228 {Z : State} {a0 : Array Value} (H : Wd Z a0) : ((Jvm.Cond.methodLink "java/lang/AbstractStringBuilder" (83 : Nat) ({ cls := "java/lang/AbstractStringBuilder", name := "isLatin1", desc := "()Z" } : Jvm.MethodName)) : Jvm.Cond).before a0 Z = true := H.1 _ (List.mem_of_getElem? (i := 228) rfl)
theorem w_229 {Z : State} {a0 : Array Value} (H : Wd Z a0) : ((Jvm.Cond.methodLink "java/lang/AbstractStringBuilder" (248 : Nat) ({ cls := "java/lang/Integer", name := "getChars", desc := "(II[B)I" } : Jvm.MethodName)) : Jvm.Cond).before a0 Z = true := H.1 _ (List.mem_of_getElem? (i := 229) rfl)
theorem w_230 {Z : State} {a0 : Array Value} (H : Wd Z a0) : ((Jvm.Cond.static ({ cls := "java/lang/Integer", name := "getChars", desc := "(II[B)I" } : Jvm.MethodName)) : Jvm.Cond).before a0 Z = true := H.1 _ (List.mem_of_getElem? (i := 230) rfl)
theorem w_231 {Z : State} {a0 : Array Value} (H : Wd Z a0) : ((Jvm.Cond.code ({ cls := "java/lang/Integer", name := "getChars", desc := "(II[B)I" } : Jvm.MethodName) jdk_33_method_12_code (7 : Nat) (Option.some Jvm.ClassFile.FieldType.int)) : Jvm.Cond).before a0 Z = true := H.1 _ (List.mem_of_getElem? (i := 231) rfl)
theorem w_232 {Z : State} {a0 : Array Value} (H : Wd Z a0) : ((Jvm.Cond.fieldLink "java/lang/Integer" (83 : Nat) "java/lang/Integer" "DigitOnes" "[B") : Jvm.Cond).before a0 Z = true := H.1 _ (List.mem_of_getElem? (i := 232) rfl)
theorem w_233 {Z : State} {a0 : Array Value} (H : Wd Z a0) : ((Jvm.Cond.fieldLink "java/lang/Integer" (87 : Nat) "java/lang/Integer" "DigitTens" "[B") : Jvm.Cond).before a0 Z = true := H.1 _ (List.mem_of_getElem? (i := 233) rfl)
theorem w_234 {Z : State} {a0 : Array Value} (H : Wd Z a0) : ((Jvm.Cond.stringLink "com/example/saga/saga/server/SurfaceUris" (57 : Nat) "/") : Jvm.Cond).before a0 Z = true := H.1 _ (List.mem_of_getElem? (i := 234) rfl)
theorem w_235 {Z : State} {a0 : Array Value} (H : Wd Z a0) : ((Jvm.Cond.methodLink "com/example/saga/saga/server/SurfaceUrisJsonTimeMapPinLaw" (63 : Nat) ({ cls := "com/example/saga/saga/server/SurfaceUrisJsonTimeMapPinLaw", name := "decimalLength", desc := "(I)I" } : Jvm.MethodName)) : Jvm.Cond).before a0 Z = true := H.1 _ (List.mem_of_getElem? (i := 235) rfl)
theorem w_236 {Z : State} {a0 : Array Value} (H : Wd Z a0) : ((Jvm.Cond.static ({ cls := "com/example/saga/saga/server/SurfaceUrisJsonTimeMapPinLaw", name := "decimalLength", desc := "(I)I" } : Jvm.MethodName)) : Jvm.Cond).before a0 Z = true := H.1 _ (List.mem_of_getElem? (i := 236) rfl)
theorem w_237 {Z : State} {a0 : Array Value} (H : Wd Z a0) : ((Jvm.Cond.initialized "com/example/saga/saga/server/SurfaceUrisJsonTimeMapPinLaw") : Jvm.Cond).before a0 Z = true := H.1 _ (List.mem_of_getElem? (i := 237) rfl)
theorem w_238 {Z : State} {a0 : Array Value} (H : Wd Z a0) : ((Jvm.Cond.code ({ cls := "com/example/saga/saga/server/SurfaceUrisJsonTimeMapPinLaw", name := "decimalLength", desc := "(I)I" } : Jvm.MethodName) method_3_code (3 : Nat) (Option.some Jvm.ClassFile.FieldType.int)) : Jvm.Cond).before a0 Z = true := H.1 _ (List.mem_of_getElem? (i := 238) rfl)
theorem w_239 {Z : State} {a0 : Array Value} (H : Wd Z a0) : ((Jvm.Cond.methodLink "com/example/saga/saga/server/SurfaceUrisJsonTimeMapPinLaw" (25 : Nat) ({ cls := "java/lang/Math", name := "abs", desc := "(J)J" } : Jvm.MethodName)) : Jvm.Cond).before a0 Z = true := H.1 _ (List.mem_of_getElem? (i := 239) rfl)
theorem w_240 {Z : State} {a0 : Array Value} (H : Wd Z a0) : ((Jvm.Cond.static ({ cls := "java/lang/Math", name := "abs", desc := "(J)J" } : Jvm.MethodName)) : Jvm.Cond).before a0 Z = true := H.1 _ (List.mem_of_getElem? (i := 240) rfl)
theorem w_241 {Z : State} {a0 : Array Value} (H : Wd Z a0) : ((Jvm.Cond.code ({ cls := "java/lang/Math", name := "abs", desc := "(J)J" } : Jvm.MethodName) jdk_29_method_61_code (2 : Nat) (Option.some Jvm.ClassFile.FieldType.long)) : Jvm.Cond).before a0 Z = true := H.1 _ (List.mem_of_getElem? (i := 241) rfl)
theorem w_242 {Z : State} {a0 : Array Value} (H : Wd Z a0) : ((Jvm.Cond.methodLink "com/example/saga/saga/server/SurfaceUrisJsonTimeMapPinLaw" (31 : Nat) ({ cls := "com/example/saga/saga/server/SurfaceUrisJsonTimeMapPinLaw", name := "digits", desc := "(J)I" } : Jvm.MethodName)) : Jvm.Cond).before a0 Z = true := H.1 _ (List.mem_of_getElem? (i := 242) rfl)
theorem w_243 {Z : State} {a0 : Array Value} (H : Wd Z a0) : ((Jvm.Cond.static ({ cls := "com/example/saga/saga/server/SurfaceUrisJsonTimeMapPinLaw", name := "digits", desc := "(J)I" } : Jvm.MethodName)) : Jvm.Cond).before a0 Z = true := H.1 _ (List.mem_of_getElem? (i := 243) rfl)
theorem w_244 {Z : State} {a0 : Array Value} (H : Wd Z a0) : ((Jvm.Cond.code ({ cls := "com/example/saga/saga/server/SurfaceUrisJsonTimeMapPinLaw", name := "digits", desc := "(J)I" } : Jvm.MethodName) method_2_code (2 : Nat) (Option.some Jvm.ClassFile.FieldType.int)) : Jvm.Cond).before a0 Z = true := H.1 _ (List.mem_of_getElem? (i := 244) rfl)
theorem w_245 {Z : State} {a0 : Array Value} (H : Wd Z a0) : ((Jvm.Cond.constantLong "com/example/saga/saga/server/SurfaceUrisJsonTimeMapPinLaw" (7 : Nat) (10 : Int64)) : Jvm.Cond).before a0 Z = true := H.1 _ (List.mem_of_getElem? (i := 245) rfl)
theorem w_246 {Z : State} {a0 : Array Value} (H : Wd Z a0) : ((Jvm.Cond.constantLong "com/example/saga/saga/server/SurfaceUrisJsonTimeMapPinLaw" (9 : Nat) (100 : Int64)) : Jvm.Cond).before a0 Z = true := H.1 _ (List.mem_of_getElem? (i := 246) rfl)
theorem w_247 {Z : State} {a0 : Array Value} (H : Wd Z a0) : ((Jvm.Cond.methodLink "com/example/saga/saga/server/SurfaceUrisJsonTimeMapPinLaw" (71 : Nat) ({ cls := "com/example/saga/saga/server/SurfaceUrisJsonTimeMapPinLaw", name := "numAt", desc := "(Ljava/lang/String;III)Z" } : Jvm.MethodName)) : Jvm.Cond).before a0 Z = true := H.1 _ (List.mem_of_getElem? (i := 247) rfl)
theorem w_248 {Z : State} {a0 : Array Value} (H : Wd Z a0) : ((Jvm.Cond.static ({ cls := "com/example/saga/saga/server/SurfaceUrisJsonTimeMapPinLaw", name := "numAt", desc := "(Ljava/lang/String;III)Z" } : Jvm.MethodName)) : Jvm.Cond).before a0 Z = true := H.1 _ (List.mem_of_getElem? (i := 248) rfl)
theorem w_249 {Z : State} {a0 : Array Value} (H : Wd Z a0) : ((Jvm.Cond.code ({ cls := "com/example/saga/saga/server/SurfaceUrisJsonTimeMapPinLaw", name := "numAt", desc := "(Ljava/lang/String;III)Z" } : Jvm.MethodName) method_5_code (4 : Nat) (Option.some Jvm.ClassFile.FieldType.boolean)) : Jvm.Cond).before a0 Z = true := H.1 _ (List.mem_of_getElem? (i := 249) rfl)
theorem w_250 {Z : State} {a0 : Array Value} (H : Wd Z a0) : ((Jvm.Cond.methodLink "com/example/saga/saga/server/SurfaceUrisJsonTimeMapPinLaw" (43 : Nat) ({ cls := "com/example/saga/saga/server/SurfaceUrisJsonTimeMapPinLaw", name := "expectedAt", desc := "(II)C" } : Jvm.MethodName)) : Jvm.Cond).before a0 Z = true := H.1 _ (List.mem_of_getElem? (i := 250) rfl)
theorem w_251 {Z : State} {a0 : Array Value} (H : Wd Z a0) : ((Jvm.Cond.static ({ cls := "com/example/saga/saga/server/SurfaceUrisJsonTimeMapPinLaw", name := "expectedAt", desc := "(II)C" } : Jvm.MethodName)) : Jvm.Cond).before a0 Z = true := H.1 _ (List.mem_of_getElem? (i := 251) rfl)
theorem w_252 {Z : State} {a0 : Array Value} (H : Wd Z a0) : ((Jvm.Cond.code ({ cls := "com/example/saga/saga/server/SurfaceUrisJsonTimeMapPinLaw", name := "expectedAt", desc := "(II)C" } : Jvm.MethodName) method_4_code (11 : Nat) (Option.some Jvm.ClassFile.FieldType.char)) : Jvm.Cond).before a0 Z = true := H.1 _ (List.mem_of_getElem? (i := 252) rfl)
theorem w_253 {Z : State} {a0 : Array Value} (H : Wd Z a0) : ((Jvm.Cond.arrayClass Jvm.ClassFile.FieldType.long) : Jvm.Cond).before a0 Z = true := H.1 _ (List.mem_of_getElem? (i := 253) rfl)
theorem w_254 {Z : State} {a0 : Array Value} (H : Wd Z a0) : ((Jvm.Cond.constantLong "com/example/saga/saga/server/SurfaceUrisJsonTimeMapPinLaw" (11 : Nat) (1000 : Int64)) : Jvm.Cond).before a0 Z = true := H.1 _ (List.mem_of_getElem? (i := 254) rfl)
theorem w_255 {Z : State} {a0 : Array Value} (H : Wd Z a0) : ((Jvm.Cond.constantLong "com/example/saga/saga/server/SurfaceUrisJsonTimeMapPinLaw" (13 : Nat) (10000 : Int64)) : Jvm.Cond).before a0 Z = true := H.1 _ (List.mem_of_getElem? (i := 255) rfl)
theorem w_256 {Z : State} {a0 : Array Value} (H : Wd Z a0) : ((Jvm.Cond.constantLong "com/example/saga/saga/server/SurfaceUrisJsonTimeMapPinLaw" (15 : Nat) (100000 : Int64)) : Jvm.Cond).before a0 Z = true := H.1 _ (List.mem_of_getElem? (i := 256) rfl)
theorem w_257 {Z : State} {a0 : Array Value} (H : Wd Z a0) : ((Jvm.Cond.constantLong "com/example/saga/saga/server/SurfaceUrisJsonTimeMapPinLaw" (17 : Nat) (1000000 : Int64)) : Jvm.Cond).before a0 Z = true := H.1 _ (List.mem_of_getElem? (i := 257) rfl)
theorem w_258 {Z : State} {a0 : Array Value} (H : Wd Z a0) : ((Jvm.Cond.constantLong "com/example/saga/saga/server/SurfaceUrisJsonTimeMapPinLaw" (19 : Nat) (10000000 : Int64)) : Jvm.Cond).before a0 Z = true := H.1 _ (List.mem_of_getElem? (i := 258) rfl)
theorem w_259 {Z : State} {a0 : Array Value} (H : Wd Z a0) : ((Jvm.Cond.constantLong "com/example/saga/saga/server/SurfaceUrisJsonTimeMapPinLaw" (21 : Nat) (100000000 : Int64)) : Jvm.Cond).before a0 Z = true := H.1 _ (List.mem_of_getElem? (i := 259) rfl)
theorem w_260 {Z : State} {a0 : Array Value} (H : Wd Z a0) : ((Jvm.Cond.constantLong "com/example/saga/saga/server/SurfaceUrisJsonTimeMapPinLaw" (23 : Nat) (1000000000 : Int64)) : Jvm.Cond).before a0 Z = true := H.1 _ (List.mem_of_getElem? (i := 260) rfl)
theorem w_261 {Z : State} {a0 : Array Value} (H : Wd Z a0) : ((Jvm.Cond.methodLink "java/util/Arrays" (310 : Nat) ({ cls := "[B", name := "clone", desc := "()Ljava/lang/Object;" } : Jvm.MethodName)) : Jvm.Cond).before a0 Z = true := H.1 _ (List.mem_of_getElem? (i := 261) rfl)
theorem w_262 {Z : State} {a0 : Array Value} (H : Wd Z a0) : ((Jvm.Cond.sameMethod "[B" "java/lang/Object" "clone" "()Ljava/lang/Object;") : Jvm.Cond).before a0 Z = true := H.1 _ (List.mem_of_getElem? (i := 262) rfl)
theorem w_264 {Z : State} {a0 : Array Value} (H : Wd Z a0) : ((Jvm.Cond.instanceMethod ({ cls := "java/lang/Object", name := "clone", desc := "()Ljava/lang/Object;" } : Jvm.MethodName)) : Jvm.Cond).before a0 Z = true := H.1 _ (List.mem_of_getElem? (i := 264) rfl)
theorem w_265 {Z : State} {a0 : Array Value} (H : Wd Z a0) : ((Jvm.Cond.selects "[B" ({ cls := "[B", name := "clone", desc := "()Ljava/lang/Object;" } : Jvm.MethodName) ({ cls := "java/lang/Object", name := "clone", desc := "()Ljava/lang/Object;" } : Jvm.MethodName)) : Jvm.Cond).before a0 Z = true := H.1 _ (List.mem_of_getElem? (i := 265) rfl)
theorem w_266 {Z : State} {a0 : Array Value} (H : Wd Z a0) : ((Jvm.Cond.native ({ cls := "java/lang/Object", name := "clone", desc := "()Ljava/lang/Object;" } : Jvm.MethodName)) : Jvm.Cond).before a0 Z = true := H.1 _ (List.mem_of_getElem? (i := 266) rfl)
theorem w_267 {Z : State} {a0 : Array Value} (H : Wd Z a0) : ((Jvm.Cond.castable "[B" "java/lang/Cloneable") : Jvm.Cond).before a0 Z = true := H.1 _ (List.mem_of_getElem? (i := 267) rfl)
theorem w_268 {Z : State} {a0 : Array Value} (H : Wd Z a0) : ((Jvm.Cond.classLink "java/util/Arrays" (311 : Nat) "[B") : Jvm.Cond).before a0 Z = true := H.1 _ (List.mem_of_getElem? (i := 268) rfl)
theorem d0_0 : decode jdk_42_method_139_code 0 = .ok (.getstatic 38, 3) := by decide +kernel
theorem d0_3 : decode jdk_42_method_139_code 3 = .ok (.ifCond .eq 23, 3) := by decide +kernel
theorem d0_6 : decode jdk_42_method_139_code 6 = .ok (.iload_n 0, 1) := by decide +kernel
theorem d0_7 : decode jdk_42_method_139_code 7 = .ok (.invokestatic 1015, 3) := by decide +kernel
theorem d0_10 : decode jdk_42_method_139_code 10 = .ok (.ifCond .eq 16, 3) := by decide +kernel
theorem d0_13 : decode jdk_42_method_139_code 13 = .ok (.new 10, 3) := by decide +kernel
theorem d0_16 : decode jdk_42_method_139_code 16 = .ok (.dup, 1) := by decide +kernel
theorem d0_17 : decode jdk_42_method_139_code 17 = .ok (.iload_n 0, 1) := by decide +kernel
theorem d0_18 : decode jdk_42_method_139_code 18 = .ok (.invokestatic 1018, 3) := by decide +kernel
theorem d0_21 : decode jdk_42_method_139_code 21 = .ok (.iconst 0, 1) := by decide +kernel
theorem d0_22 : decode jdk_42_method_139_code 22 = .ok (.invokespecial 209, 3) := by decide +kernel
theorem d0_25 : decode jdk_42_method_139_code 25 = .ok (.areturn, 1) := by decide +kernel
theorem d1_0 : decode jdk_43_method_3_code 0 = .ok (.iload_n 0, 1) := by decide +kernel
theorem d1_1 : decode jdk_43_method_3_code 1 = .ok (.sipush 255, 3) := by decide +kernel
theorem d1_4 : decode jdk_43_method_3_code 4 = .ok (.if_icmp .gt 7, 3) := by decide +kernel
theorem d1_7 : decode jdk_43_method_3_code 7 = .ok (.iconst 1, 1) := by decide +kernel
theorem d1_8 : decode jdk_43_method_3_code 8 = .ok (.goto 4, 3) := by decide +kernel
theorem d1_12 : decode jdk_43_method_3_code 12 = .ok (.ireturn, 1) := by decide +kernel
theorem d2_0 : decode jdk_43_method_46_code 0 = .ok (.iconst 1, 1) := by decide +kernel
theorem d2_1 : decode jdk_43_method_46_code 1 = .ok (.newarray .byte, 2) := by decide +kernel
theorem d2_3 : decode jdk_43_method_46_code 3 = .ok (.dup, 1) := by decide +kernel
theorem d2_4 : decode jdk_43_method_46_code 4 = .ok (.iconst 0, 1) := by decide +kernel
theorem d2_5 : decode jdk_43_method_46_code 5 = .ok (.iload_n 0, 1) := by decide +kernel
theorem d2_6 : decode jdk_43_method_46_code 6 = .ok (.i2b, 1) := by decide +kernel
theorem d2_7 : decode jdk_43_method_46_code 7 = .ok (.bastore, 1) := by decide +kernel
theorem d2_8 : decode jdk_43_method_46_code 8 = .ok (.areturn, 1) := by decide +kernel
theorem d3_0 : decode jdk_42_method_151_code 0 = .ok (.aload_n 0, 1) := by decide +kernel
theorem d3_1 : decode jdk_42_method_151_code 1 = .ok (.invokespecial 1, 3) := by decide +kernel
theorem d3_4 : decode jdk_42_method_151_code 4 = .ok (.aload_n 0, 1) := by decide +kernel
theorem d3_5 : decode jdk_42_method_151_code 5 = .ok (.aload_n 1, 1) := by decide +kernel
theorem d3_6 : decode jdk_42_method_151_code 6 = .ok (.putfield 9, 3) := by decide +kernel
theorem d3_9 : decode jdk_42_method_151_code 9 = .ok (.aload_n 0, 1) := by decide +kernel
theorem d3_10 : decode jdk_42_method_151_code 10 = .ok (.iload_n 2, 1) := by decide +kernel
theorem d3_11 : decode jdk_42_method_151_code 11 = .ok (.putfield 15, 3) := by decide +kernel
theorem d3_14 : decode jdk_42_method_151_code 14 = .ok (.return_, 1) := by decide +kernel
theorem d5_0 : decode jdk_42_method_3_code 0 = .ok (.aload_n 0, 1) := by decide +kernel
theorem d5_1 : decode jdk_42_method_3_code 1 = .ok (.aload_n 1, 1) := by decide +kernel
theorem d5_2 : decode jdk_42_method_3_code 2 = .ok (.iconst 0, 1) := by decide +kernel
theorem d5_3 : decode jdk_42_method_3_code 3 = .ok (.aload_n 1, 1) := by decide +kernel
theorem d5_4 : decode jdk_42_method_3_code 4 = .ok (.arraylength, 1) := by decide +kernel
theorem d5_5 : decode jdk_42_method_3_code 5 = .ok (.aconst_null, 1) := by decide +kernel
theorem d5_6 : decode jdk_42_method_3_code 6 = .ok (.invokespecial 27, 3) := by decide +kernel
theorem d5_9 : decode jdk_42_method_3_code 9 = .ok (.return_, 1) := by decide +kernel
theorem d6_0 : decode jdk_42_method_149_code 0 = .ok (.aload_n 0, 1) := by decide +kernel
theorem d6_1 : decode jdk_42_method_149_code 1 = .ok (.invokespecial 1, 3) := by decide +kernel
theorem d6_4 : decode jdk_42_method_149_code 4 = .ok (.iload_n 3, 1) := by decide +kernel
theorem d6_5 : decode jdk_42_method_149_code 5 = .ok (.ifCond .ne 22, 3) := by decide +kernel
theorem d6_27 : decode jdk_42_method_149_code 27 = .ok (.getstatic 38, 3) := by decide +kernel
theorem d6_30 : decode jdk_42_method_149_code 30 = .ok (.ifCond .eq 28, 3) := by decide +kernel
theorem d6_33 : decode jdk_42_method_149_code 33 = .ok (.aload_n 1, 1) := by decide +kernel
theorem d6_34 : decode jdk_42_method_149_code 34 = .ok (.iload_n 2, 1) := by decide +kernel
theorem d6_35 : decode jdk_42_method_149_code 35 = .ok (.iload_n 3, 1) := by decide +kernel
theorem d6_36 : decode jdk_42_method_149_code 36 = .ok (.invokestatic 177, 3) := by decide +kernel
theorem d6_39 : decode jdk_42_method_149_code 39 = .ok (.astore 5, 2) := by decide +kernel
theorem d6_41 : decode jdk_42_method_149_code 41 = .ok (.aload_n 0, 1) := by decide +kernel
theorem d6_42 : decode jdk_42_method_149_code 42 = .ok (.aload 5, 2) := by decide +kernel
theorem d6_44 : decode jdk_42_method_149_code 44 = .ok (.iload_n 3, 1) := by decide +kernel
theorem d6_45 : decode jdk_42_method_149_code 45 = .ok (.invokestatic 47, 3) := by decide +kernel
theorem d6_48 : decode jdk_42_method_149_code 48 = .ok (.putfield 15, 3) := by decide +kernel
theorem d6_51 : decode jdk_42_method_149_code 51 = .ok (.aload_n 0, 1) := by decide +kernel
theorem d6_52 : decode jdk_42_method_149_code 52 = .ok (.aload 5, 2) := by decide +kernel
theorem d6_54 : decode jdk_42_method_149_code 54 = .ok (.putfield 9, 3) := by decide +kernel
theorem d6_57 : decode jdk_42_method_149_code 57 = .ok (.return_, 1) := by decide +kernel
theorem d7_0 : decode jdk_52_method_16_code 0 = .ok (.iload_n 2, 1) := by decide +kernel
theorem d7_1 : decode jdk_52_method_16_code 1 = .ok (.newarray .byte, 2) := by decide +kernel
theorem d7_3 : decode jdk_52_method_16_code 3 = .ok (.astore_n 3, 1) := by decide +kernel
theorem d7_4 : decode jdk_52_method_16_code 4 = .ok (.aload_n 0, 1) := by decide +kernel
theorem d7_5 : decode jdk_52_method_16_code 5 = .ok (.iload_n 1, 1) := by decide +kernel
theorem d7_6 : decode jdk_52_method_16_code 6 = .ok (.aload_n 3, 1) := by decide +kernel
theorem d7_7 : decode jdk_52_method_16_code 7 = .ok (.iconst 0, 1) := by decide +kernel
theorem d7_8 : decode jdk_52_method_16_code 8 = .ok (.iload_n 2, 1) := by decide +kernel
theorem d7_9 : decode jdk_52_method_16_code 9 = .ok (.invokestatic 115, 3) := by decide +kernel
theorem d7_12 : decode jdk_52_method_16_code 12 = .ok (.istore 4, 2) := by decide +kernel
theorem d7_14 : decode jdk_52_method_16_code 14 = .ok (.iload 4, 2) := by decide +kernel
theorem d7_16 : decode jdk_52_method_16_code 16 = .ok (.iload_n 2, 1) := by decide +kernel
theorem d7_17 : decode jdk_52_method_16_code 17 = .ok (.if_icmp .eq 40, 3) := by decide +kernel
theorem d7_57 : decode jdk_52_method_16_code 57 = .ok (.aload_n 3, 1) := by decide +kernel
theorem d7_58 : decode jdk_52_method_16_code 58 = .ok (.areturn, 1) := by decide +kernel
theorem d8_0 : decode jdk_52_method_21_code 0 = .ok (.iconst 0, 1) := by decide +kernel
theorem d8_1 : decode jdk_52_method_21_code 1 = .ok (.istore 5, 2) := by decide +kernel
theorem d8_3 : decode jdk_52_method_21_code 3 = .ok (.iload 5, 2) := by decide +kernel
theorem d8_5 : decode jdk_52_method_21_code 5 = .ok (.iload 4, 2) := by decide +kernel
theorem d8_7 : decode jdk_52_method_21_code 7 = .ok (.if_icmp .ge 37, 3) := by decide +kernel
theorem d8_10 : decode jdk_52_method_21_code 10 = .ok (.aload_n 0, 1) := by decide +kernel
theorem d8_11 : decode jdk_52_method_21_code 11 = .ok (.iload_n 1, 1) := by decide +kernel
theorem d8_12 : decode jdk_52_method_21_code 12 = .ok (.caload, 1) := by decide +kernel
theorem d8_13 : decode jdk_52_method_21_code 13 = .ok (.istore 6, 2) := by decide +kernel
theorem d8_15 : decode jdk_52_method_21_code 15 = .ok (.iload 6, 2) := by decide +kernel
theorem d8_17 : decode jdk_52_method_21_code 17 = .ok (.sipush 255, 3) := by decide +kernel
theorem d8_20 : decode jdk_52_method_21_code 20 = .ok (.if_icmp .le 6, 3) := by decide +kernel
theorem d8_26 : decode jdk_52_method_21_code 26 = .ok (.aload_n 2, 1) := by decide +kernel
theorem d8_27 : decode jdk_52_method_21_code 27 = .ok (.iload_n 3, 1) := by decide +kernel
theorem d8_28 : decode jdk_52_method_21_code 28 = .ok (.iload 6, 2) := by decide +kernel
theorem d8_30 : decode jdk_52_method_21_code 30 = .ok (.i2b, 1) := by decide +kernel
theorem d8_31 : decode jdk_52_method_21_code 31 = .ok (.bastore, 1) := by decide +kernel
theorem d8_32 : decode jdk_52_method_21_code 32 = .ok (.iinc 1 1, 3) := by decide +kernel
theorem d8_35 : decode jdk_52_method_21_code 35 = .ok (.iinc 3 1, 3) := by decide +kernel
theorem d8_38 : decode jdk_52_method_21_code 38 = .ok (.iinc 5 1, 3) := by decide +kernel
theorem d8_41 : decode jdk_52_method_21_code 41 = .ok (.goto (-38), 3) := by decide +kernel
theorem d8_44 : decode jdk_52_method_21_code 44 = .ok (.iload 4, 2) := by decide +kernel
theorem d8_46 : decode jdk_52_method_21_code 46 = .ok (.ireturn, 1) := by decide +kernel
theorem d9_0 : decode jdk_52_method_15_code 0 = .ok (.iload_n 1, 1) := by decide +kernel
theorem d9_1 : decode jdk_52_method_15_code 1 = .ok (.aload_n 0, 1) := by decide +kernel
theorem d9_2 : decode jdk_52_method_15_code 2 = .ok (.arraylength, 1) := by decide +kernel
theorem d9_3 : decode jdk_52_method_15_code 3 = .ok (.isub, 1) := by decide +kernel
theorem d9_4 : decode jdk_52_method_15_code 4 = .ok (.bipush 31, 2) := by decide +kernel
theorem d9_6 : decode jdk_52_method_15_code 6 = .ok (.iushr, 1) := by decide +kernel
theorem d9_7 : decode jdk_52_method_15_code 7 = .ok (.i2b, 1) := by decide +kernel
theorem d9_8 : decode jdk_52_method_15_code 8 = .ok (.ireturn, 1) := by decide +kernel
theorem d10_0 : decode prog_12_method_1_code 0 = .ok (.aload_n 0, 1) := by decide +kernel
theorem d10_1 : decode prog_12_method_1_code 1 = .ok (.invokespecial 1, 3) := by decide +kernel
theorem d10_4 : decode prog_12_method_1_code 4 = .ok (.aload_n 0, 1) := by decide +kernel
theorem d10_5 : decode prog_12_method_1_code 5 = .ok (.new 7, 3) := by decide +kernel
theorem d10_8 : decode prog_12_method_1_code 8 = .ok (.dup, 1) := by decide +kernel
theorem d10_9 : decode prog_12_method_1_code 9 = .ok (.invokespecial 9, 3) := by decide +kernel
theorem d10_12 : decode prog_12_method_1_code 12 = .ok (.ldc 10, 2) := by decide +kernel
theorem d10_14 : decode prog_12_method_1_code 14 = .ok (.invokevirtual 12, 3) := by decide +kernel
theorem d10_17 : decode prog_12_method_1_code 17 = .ok (.aload_n 1, 1) := by decide +kernel
theorem d10_18 : decode prog_12_method_1_code 18 = .ok (.invokevirtual 12, 3) := by decide +kernel
theorem d10_21 : decode prog_12_method_1_code 21 = .ok (.invokevirtual 16, 3) := by decide +kernel
theorem d10_24 : decode prog_12_method_1_code 24 = .ok (.putfield 20, 3) := by decide +kernel
theorem d10_27 : decode prog_12_method_1_code 27 = .ok (.return_, 1) := by decide +kernel
theorem d11_0 : decode jdk_67_method_1_code 0 = .ok (.aload_n 0, 1) := by decide +kernel
theorem d11_1 : decode jdk_67_method_1_code 1 = .ok (.bipush 16, 2) := by decide +kernel
theorem d11_3 : decode jdk_67_method_1_code 3 = .ok (.invokespecial 1, 3) := by decide +kernel
theorem d11_6 : decode jdk_67_method_1_code 6 = .ok (.return_, 1) := by decide +kernel
theorem d12_0 : decode jdk_68_method_2_code 0 = .ok (.aload_n 0, 1) := by decide +kernel
theorem d12_1 : decode jdk_68_method_2_code 1 = .ok (.invokespecial 3, 3) := by decide +kernel
theorem d12_4 : decode jdk_68_method_2_code 4 = .ok (.getstatic 18, 3) := by decide +kernel
theorem d12_7 : decode jdk_68_method_2_code 7 = .ok (.ifCond .eq 18, 3) := by decide +kernel
theorem d12_10 : decode jdk_68_method_2_code 10 = .ok (.aload_n 0, 1) := by decide +kernel
theorem d12_11 : decode jdk_68_method_2_code 11 = .ok (.iload_n 1, 1) := by decide +kernel
theorem d12_12 : decode jdk_68_method_2_code 12 = .ok (.newarray .byte, 2) := by decide +kernel
theorem d12_14 : decode jdk_68_method_2_code 14 = .ok (.putfield 15, 3) := by decide +kernel
theorem d12_17 : decode jdk_68_method_2_code 17 = .ok (.aload_n 0, 1) := by decide +kernel
theorem d12_18 : decode jdk_68_method_2_code 18 = .ok (.iconst 0, 1) := by decide +kernel
theorem d12_19 : decode jdk_68_method_2_code 19 = .ok (.putfield 22, 3) := by decide +kernel
theorem d12_22 : decode jdk_68_method_2_code 22 = .ok (.goto 16, 3) := by decide +kernel
theorem d12_38 : decode jdk_68_method_2_code 38 = .ok (.return_, 1) := by decide +kernel
theorem d13_0 : decode jdk_67_method_7_code 0 = .ok (.aload_n 0, 1) := by decide +kernel
theorem d13_1 : decode jdk_67_method_7_code 1 = .ok (.aload_n 1, 1) := by decide +kernel
theorem d13_2 : decode jdk_67_method_7_code 2 = .ok (.invokespecial 29, 3) := by decide +kernel
theorem d13_5 : decode jdk_67_method_7_code 5 = .ok (.pop, 1) := by decide +kernel
theorem d13_6 : decode jdk_67_method_7_code 6 = .ok (.aload_n 0, 1) := by decide +kernel
theorem d13_7 : decode jdk_67_method_7_code 7 = .ok (.areturn, 1) := by decide +kernel
theorem d14_0 : decode jdk_68_method_22_code 0 = .ok (.aload_n 1, 1) := by decide +kernel
theorem d14_1 : decode jdk_68_method_22_code 1 = .ok (.ifnonnull 8, 3) := by decide +kernel
theorem d14_9 : decode jdk_68_method_22_code 9 = .ok (.aload_n 1, 1) := by decide +kernel
theorem d14_10 : decode jdk_68_method_22_code 10 = .ok (.invokevirtual 32, 3) := by decide +kernel
theorem d14_13 : decode jdk_68_method_22_code 13 = .ok (.istore_n 2, 1) := by decide +kernel
theorem d14_14 : decode jdk_68_method_22_code 14 = .ok (.aload_n 0, 1) := by decide +kernel
theorem d14_15 : decode jdk_68_method_22_code 15 = .ok (.aload_n 0, 1) := by decide +kernel
theorem d14_16 : decode jdk_68_method_22_code 16 = .ok (.getfield 79, 3) := by decide +kernel
theorem d14_19 : decode jdk_68_method_22_code 19 = .ok (.iload_n 2, 1) := by decide +kernel
theorem d14_20 : decode jdk_68_method_22_code 20 = .ok (.iadd, 1) := by decide +kernel
theorem d14_21 : decode jdk_68_method_22_code 21 = .ok (.invokevirtual 100, 3) := by decide +kernel
theorem d14_24 : decode jdk_68_method_22_code 24 = .ok (.aload_n 0, 1) := by decide +kernel
theorem d14_25 : decode jdk_68_method_22_code 25 = .ok (.aload_n 0, 1) := by decide +kernel
theorem d14_26 : decode jdk_68_method_22_code 26 = .ok (.getfield 79, 3) := by decide +kernel
theorem d14_29 : decode jdk_68_method_22_code 29 = .ok (.aload_n 1, 1) := by decide +kernel
theorem d14_30 : decode jdk_68_method_22_code 30 = .ok (.invokevirtual 208, 3) := by decide +kernel
theorem d14_33 : decode jdk_68_method_22_code 33 = .ok (.aload_n 0, 1) := by decide +kernel
theorem d14_34 : decode jdk_68_method_22_code 34 = .ok (.dup, 1) := by decide +kernel
theorem d14_35 : decode jdk_68_method_22_code 35 = .ok (.getfield 79, 3) := by decide +kernel
theorem d14_38 : decode jdk_68_method_22_code 38 = .ok (.iload_n 2, 1) := by decide +kernel
theorem d14_39 : decode jdk_68_method_22_code 39 = .ok (.iadd, 1) := by decide +kernel
theorem d14_40 : decode jdk_68_method_22_code 40 = .ok (.putfield 79, 3) := by decide +kernel
theorem d14_43 : decode jdk_68_method_22_code 43 = .ok (.aload_n 0, 1) := by decide +kernel
theorem d14_44 : decode jdk_68_method_22_code 44 = .ok (.areturn, 1) := by decide +kernel
theorem d15_0 : decode jdk_42_method_54_code 0 = .ok (.aload_n 0, 1) := by decide +kernel
theorem d15_1 : decode jdk_42_method_54_code 1 = .ok (.getfield 9, 3) := by decide +kernel
theorem d15_4 : decode jdk_42_method_54_code 4 = .ok (.arraylength, 1) := by decide +kernel
theorem d15_5 : decode jdk_42_method_54_code 5 = .ok (.aload_n 0, 1) := by decide +kernel
theorem d15_6 : decode jdk_42_method_54_code 6 = .ok (.invokevirtual 335, 3) := by decide +kernel
theorem d15_9 : decode jdk_42_method_54_code 9 = .ok (.ishr, 1) := by decide +kernel
theorem d15_10 : decode jdk_42_method_54_code 10 = .ok (.ireturn, 1) := by decide +kernel
theorem d16_0 : decode jdk_42_method_152_code 0 = .ok (.getstatic 38, 3) := by decide +kernel
theorem d16_3 : decode jdk_42_method_152_code 3 = .ok (.ifCond .eq 10, 3) := by decide +kernel
theorem d16_6 : decode jdk_42_method_152_code 6 = .ok (.aload_n 0, 1) := by decide +kernel
theorem d16_7 : decode jdk_42_method_152_code 7 = .ok (.getfield 15, 3) := by decide +kernel
theorem d16_10 : decode jdk_42_method_152_code 10 = .ok (.goto 4, 3) := by decide +kernel
theorem d16_14 : decode jdk_42_method_152_code 14 = .ok (.ireturn, 1) := by decide +kernel
theorem d17_0 : decode jdk_68_method_9_code 0 = .ok (.aload_n 0, 1) := by decide +kernel
theorem d17_1 : decode jdk_68_method_9_code 1 = .ok (.getfield 15, 3) := by decide +kernel
theorem d17_4 : decode jdk_68_method_9_code 4 = .ok (.arraylength, 1) := by decide +kernel
theorem d17_5 : decode jdk_68_method_9_code 5 = .ok (.aload_n 0, 1) := by decide +kernel
theorem d17_6 : decode jdk_68_method_9_code 6 = .ok (.getfield 22, 3) := by decide +kernel
theorem d17_9 : decode jdk_68_method_9_code 9 = .ok (.ishr, 1) := by decide +kernel
theorem d17_10 : decode jdk_68_method_9_code 10 = .ok (.istore_n 2, 1) := by decide +kernel
theorem d17_11 : decode jdk_68_method_9_code 11 = .ok (.iload_n 1, 1) := by decide +kernel
theorem d17_12 : decode jdk_68_method_9_code 12 = .ok (.iload_n 2, 1) := by decide +kernel
theorem d17_13 : decode jdk_68_method_9_code 13 = .ok (.isub, 1) := by decide +kernel
theorem d17_14 : decode jdk_68_method_9_code 14 = .ok (.ifCond .le 24, 3) := by decide +kernel
theorem d17_17 : decode jdk_68_method_9_code 17 = .ok (.aload_n 0, 1) := by decide +kernel
theorem d17_18 : decode jdk_68_method_9_code 18 = .ok (.aload_n 0, 1) := by decide +kernel
theorem d17_19 : decode jdk_68_method_9_code 19 = .ok (.getfield 15, 3) := by decide +kernel
theorem d17_22 : decode jdk_68_method_9_code 22 = .ok (.aload_n 0, 1) := by decide +kernel
theorem d17_23 : decode jdk_68_method_9_code 23 = .ok (.iload_n 1, 1) := by decide +kernel
theorem d17_24 : decode jdk_68_method_9_code 24 = .ok (.invokevirtual 104, 3) := by decide +kernel
theorem d17_27 : decode jdk_68_method_9_code 27 = .ok (.aload_n 0, 1) := by decide +kernel
theorem d17_28 : decode jdk_68_method_9_code 28 = .ok (.getfield 22, 3) := by decide +kernel
theorem d17_31 : decode jdk_68_method_9_code 31 = .ok (.ishl, 1) := by decide +kernel
theorem d17_32 : decode jdk_68_method_9_code 32 = .ok (.invokestatic 108, 3) := by decide +kernel
theorem d17_35 : decode jdk_68_method_9_code 35 = .ok (.putfield 15, 3) := by decide +kernel
theorem d17_38 : decode jdk_68_method_9_code 38 = .ok (.return_, 1) := by decide +kernel
theorem d18_0 : decode jdk_68_method_73_code 0 = .ok (.aload_n 0, 1) := by decide +kernel
theorem d18_1 : decode jdk_68_method_73_code 1 = .ok (.aload_n 2, 1) := by decide +kernel
theorem d18_2 : decode jdk_68_method_73_code 2 = .ok (.invokevirtual 397, 3) := by decide +kernel
theorem d18_5 : decode jdk_68_method_73_code 5 = .ok (.aload_n 2, 1) := by decide +kernel
theorem d18_6 : decode jdk_68_method_73_code 6 = .ok (.aload_n 0, 1) := by decide +kernel
theorem d18_7 : decode jdk_68_method_73_code 7 = .ok (.getfield 15, 3) := by decide +kernel
theorem d18_10 : decode jdk_68_method_73_code 10 = .ok (.iload_n 1, 1) := by decide +kernel
theorem d18_11 : decode jdk_68_method_73_code 11 = .ok (.aload_n 0, 1) := by decide +kernel
theorem d18_12 : decode jdk_68_method_73_code 12 = .ok (.getfield 22, 3) := by decide +kernel
theorem d18_15 : decode jdk_68_method_73_code 15 = .ok (.invokevirtual 399, 3) := by decide +kernel
theorem d18_18 : decode jdk_68_method_73_code 18 = .ok (.return_, 1) := by decide +kernel
theorem d19_0 : decode jdk_68_method_71_code 0 = .ok (.getstatic 18, 3) := by decide +kernel
theorem d19_3 : decode jdk_68_method_71_code 3 = .ok (.ifCond .eq 18, 3) := by decide +kernel
theorem d19_6 : decode jdk_68_method_71_code 6 = .ok (.aload_n 0, 1) := by decide +kernel
theorem d19_7 : decode jdk_68_method_71_code 7 = .ok (.getfield 22, 3) := by decide +kernel
theorem d19_10 : decode jdk_68_method_71_code 10 = .ok (.aload_n 1, 1) := by decide +kernel
theorem d19_11 : decode jdk_68_method_71_code 11 = .ok (.invokevirtual 40, 3) := by decide +kernel
theorem d19_14 : decode jdk_68_method_71_code 14 = .ok (.if_icmp .eq 7, 3) := by decide +kernel
theorem d19_21 : decode jdk_68_method_71_code 21 = .ok (.return_, 1) := by decide +kernel
theorem d20_0 : decode jdk_42_method_147_code 0 = .ok (.aload_n 0, 1) := by decide +kernel
theorem d20_1 : decode jdk_42_method_147_code 1 = .ok (.invokevirtual 335, 3) := by decide +kernel
theorem d20_4 : decode jdk_42_method_147_code 4 = .ok (.iload_n 3, 1) := by decide +kernel
theorem d20_5 : decode jdk_42_method_147_code 5 = .ok (.if_icmp .ne 23, 3) := by decide +kernel
theorem d20_8 : decode jdk_42_method_147_code 8 = .ok (.aload_n 0, 1) := by decide +kernel
theorem d20_9 : decode jdk_42_method_147_code 9 = .ok (.getfield 9, 3) := by decide +kernel
theorem d20_12 : decode jdk_42_method_147_code 12 = .ok (.iconst 0, 1) := by decide +kernel
theorem d20_13 : decode jdk_42_method_147_code 13 = .ok (.aload_n 1, 1) := by decide +kernel
theorem d20_14 : decode jdk_42_method_147_code 14 = .ok (.iload_n 2, 1) := by decide +kernel
theorem d20_15 : decode jdk_42_method_147_code 15 = .ok (.iload_n 3, 1) := by decide +kernel
theorem d20_16 : decode jdk_42_method_147_code 16 = .ok (.ishl, 1) := by decide +kernel
theorem d20_17 : decode jdk_42_method_147_code 17 = .ok (.aload_n 0, 1) := by decide +kernel
theorem d20_18 : decode jdk_42_method_147_code 18 = .ok (.getfield 9, 3) := by decide +kernel
theorem d20_21 : decode jdk_42_method_147_code 21 = .ok (.arraylength, 1) := by decide +kernel
theorem d20_22 : decode jdk_42_method_147_code 22 = .ok (.invokestatic 212, 3) := by decide +kernel
theorem d20_25 : decode jdk_42_method_147_code 25 = .ok (.goto 18, 3) := by decide +kernel
theorem d20_43 : decode jdk_42_method_147_code 43 = .ok (.return_, 1) := by decide +kernel
theorem d21_0 : decode jdk_67_method_42_code 0 = .ok (.new 18, 3) := by decide +kernel
theorem d21_3 : decode jdk_67_method_42_code 3 = .ok (.dup, 1) := by decide +kernel
theorem d21_4 : decode jdk_67_method_42_code 4 = .ok (.aload_n 0, 1) := by decide +kernel
theorem d21_5 : decode jdk_67_method_42_code 5 = .ok (.invokespecial 137, 3) := by decide +kernel
theorem d21_8 : decode jdk_67_method_42_code 8 = .ok (.areturn, 1) := by decide +kernel
theorem d22_0 : decode jdk_42_method_53_code 0 = .ok (.aload_n 0, 1) := by decide +kernel
theorem d22_1 : decode jdk_42_method_53_code 1 = .ok (.aload_n 1, 1) := by decide +kernel
theorem d22_2 : decode jdk_42_method_53_code 2 = .ok (.aconst_null, 1) := by decide +kernel
theorem d22_3 : decode jdk_42_method_53_code 3 = .ok (.invokespecial 489, 3) := by decide +kernel
theorem d22_6 : decode jdk_42_method_53_code 6 = .ok (.return_, 1) := by decide +kernel
theorem d23_0 : decode jdk_42_method_150_code 0 = .ok (.aload_n 0, 1) := by decide +kernel
theorem d23_1 : decode jdk_42_method_150_code 1 = .ok (.invokespecial 1, 3) := by decide +kernel
theorem d23_4 : decode jdk_42_method_150_code 4 = .ok (.aload_n 1, 1) := by decide +kernel
theorem d23_5 : decode jdk_42_method_150_code 5 = .ok (.invokevirtual 552, 3) := by decide +kernel
theorem d23_8 : decode jdk_42_method_150_code 8 = .ok (.astore_n 3, 1) := by decide +kernel
theorem d23_9 : decode jdk_42_method_150_code 9 = .ok (.aload_n 1, 1) := by decide +kernel
theorem d23_10 : decode jdk_42_method_150_code 10 = .ok (.invokevirtual 549, 3) := by decide +kernel
theorem d23_13 : decode jdk_42_method_150_code 13 = .ok (.istore 4, 2) := by decide +kernel
theorem d23_15 : decode jdk_42_method_150_code 15 = .ok (.aload_n 1, 1) := by decide +kernel
theorem d23_16 : decode jdk_42_method_150_code 16 = .ok (.invokevirtual 1047, 3) := by decide +kernel
theorem d23_19 : decode jdk_42_method_150_code 19 = .ok (.ifCond .eq 22, 3) := by decide +kernel
theorem d23_22 : decode jdk_42_method_150_code 22 = .ok (.aload_n 0, 1) := by decide +kernel
theorem d23_23 : decode jdk_42_method_150_code 23 = .ok (.iconst 0, 1) := by decide +kernel
theorem d23_24 : decode jdk_42_method_150_code 24 = .ok (.putfield 15, 3) := by decide +kernel
theorem d23_27 : decode jdk_42_method_150_code 27 = .ok (.aload_n 0, 1) := by decide +kernel
theorem d23_28 : decode jdk_42_method_150_code 28 = .ok (.aload_n 3, 1) := by decide +kernel
theorem d23_29 : decode jdk_42_method_150_code 29 = .ok (.iconst 0, 1) := by decide +kernel
theorem d23_30 : decode jdk_42_method_150_code 30 = .ok (.iload 4, 2) := by decide +kernel
theorem d23_32 : decode jdk_42_method_150_code 32 = .ok (.invokestatic 54, 3) := by decide +kernel
theorem d23_35 : decode jdk_42_method_150_code 35 = .ok (.putfield 9, 3) := by decide +kernel
theorem d23_38 : decode jdk_42_method_150_code 38 = .ok (.goto 59, 3) := by decide +kernel
theorem d23_97 : decode jdk_42_method_150_code 97 = .ok (.return_, 1) := by decide +kernel
theorem d24_0 : decode jdk_68_method_64_code 0 = .ok (.aload_n 0, 1) := by decide +kernel
theorem d24_1 : decode jdk_68_method_64_code 1 = .ok (.getfield 15, 3) := by decide +kernel
theorem d24_4 : decode jdk_68_method_64_code 4 = .ok (.areturn, 1) := by decide +kernel
theorem d25_0 : decode jdk_67_method_93_code 0 = .ok (.aload_n 0, 1) := by decide +kernel
theorem d25_1 : decode jdk_67_method_93_code 1 = .ok (.invokespecial 343, 3) := by decide +kernel
theorem d25_4 : decode jdk_67_method_93_code 4 = .ok (.ireturn, 1) := by decide +kernel
theorem d26_0 : decode jdk_68_method_6_code 0 = .ok (.aload_n 0, 1) := by decide +kernel
theorem d26_1 : decode jdk_68_method_6_code 1 = .ok (.getfield 79, 3) := by decide +kernel
theorem d26_4 : decode jdk_68_method_6_code 4 = .ok (.ireturn, 1) := by decide +kernel
theorem d27_0 : decode jdk_68_method_68_code 0 = .ok (.getstatic 18, 3) := by decide +kernel
theorem d27_3 : decode jdk_68_method_68_code 3 = .ok (.ifCond .eq 14, 3) := by decide +kernel
theorem d27_6 : decode jdk_68_method_68_code 6 = .ok (.aload_n 0, 1) := by decide +kernel
theorem d27_7 : decode jdk_68_method_68_code 7 = .ok (.getfield 22, 3) := by decide +kernel
theorem d27_10 : decode jdk_68_method_68_code 10 = .ok (.ifCond .ne 7, 3) := by decide +kernel
theorem d27_13 : decode jdk_68_method_68_code 13 = .ok (.iconst 1, 1) := by decide +kernel
theorem d27_14 : decode jdk_68_method_68_code 14 = .ok (.goto 4, 3) := by decide +kernel
theorem d27_18 : decode jdk_68_method_68_code 18 = .ok (.ireturn, 1) := by decide +kernel
theorem d28_0 : decode jdk_65_method_132_code 0 = .ok (.iload_n 1, 1) := by decide +kernel
theorem d28_1 : decode jdk_65_method_132_code 1 = .ok (.ifCond .ne 9, 3) := by decide +kernel
theorem d28_4 : decode jdk_65_method_132_code 4 = .ok (.iload_n 2, 1) := by decide +kernel
theorem d28_5 : decode jdk_65_method_132_code 5 = .ok (.aload_n 0, 1) := by decide +kernel
theorem d28_6 : decode jdk_65_method_132_code 6 = .ok (.arraylength, 1) := by decide +kernel
theorem d28_7 : decode jdk_65_method_132_code 7 = .ok (.if_icmp .eq 10, 3) := by decide +kernel
theorem d28_10 : decode jdk_65_method_132_code 10 = .ok (.aload_n 0, 1) := by decide +kernel
theorem d28_11 : decode jdk_65_method_132_code 11 = .ok (.iload_n 1, 1) := by decide +kernel
theorem d28_12 : decode jdk_65_method_132_code 12 = .ok (.iload_n 2, 1) := by decide +kernel
theorem d28_13 : decode jdk_65_method_132_code 13 = .ok (.invokestatic 339, 3) := by decide +kernel
theorem d28_16 : decode jdk_65_method_132_code 16 = .ok (.areturn, 1) := by decide +kernel
theorem d28_17 : decode jdk_65_method_132_code 17 = .ok (.aload_n 0, 1) := by decide +kernel
theorem d28_18 : decode jdk_65_method_132_code 18 = .ok (.invokevirtual 310, 3) := by decide +kernel
theorem d28_21 : decode jdk_65_method_132_code 21 = .ok (.checkcast 311, 3) := by decide +kernel
theorem d28_24 : decode jdk_65_method_132_code 24 = .ok (.areturn, 1) := by decide +kernel
theorem d29_0 : decode jdk_65_method_133_code 0 = .ok (.iload_n 1, 1) := by decide +kernel
theorem d29_1 : decode jdk_65_method_133_code 1 = .ok (.iload_n 2, 1) := by decide +kernel
theorem d29_2 : decode jdk_65_method_133_code 2 = .ok (.invokestatic 343, 3) := by decide +kernel
theorem d29_5 : decode jdk_65_method_133_code 5 = .ok (.iload_n 2, 1) := by decide +kernel
theorem d29_6 : decode jdk_65_method_133_code 6 = .ok (.iload_n 1, 1) := by decide +kernel
theorem d29_7 : decode jdk_65_method_133_code 7 = .ok (.isub, 1) := by decide +kernel
theorem d29_8 : decode jdk_65_method_133_code 8 = .ok (.istore_n 3, 1) := by decide +kernel
theorem d29_9 : decode jdk_65_method_133_code 9 = .ok (.iload_n 3, 1) := by decide +kernel
theorem d29_10 : decode jdk_65_method_133_code 10 = .ok (.newarray .byte, 2) := by decide +kernel
theorem d29_12 : decode jdk_65_method_133_code 12 = .ok (.astore 4, 2) := by decide +kernel
theorem d29_14 : decode jdk_65_method_133_code 14 = .ok (.aload_n 0, 1) := by decide +kernel
theorem d29_15 : decode jdk_65_method_133_code 15 = .ok (.iload_n 1, 1) := by decide +kernel
theorem d29_16 : decode jdk_65_method_133_code 16 = .ok (.aload 4, 2) := by decide +kernel
theorem d29_18 : decode jdk_65_method_133_code 18 = .ok (.iconst 0, 1) := by decide +kernel
theorem d29_19 : decode jdk_65_method_133_code 19 = .ok (.aload_n 0, 1) := by decide +kernel
theorem d29_20 : decode jdk_65_method_133_code 20 = .ok (.arraylength, 1) := by decide +kernel
theorem d29_21 : decode jdk_65_method_133_code 21 = .ok (.iload_n 1, 1) := by decide +kernel
theorem d29_22 : decode jdk_65_method_133_code 22 = .ok (.isub, 1) := by decide +kernel
theorem d29_23 : decode jdk_65_method_133_code 23 = .ok (.iload_n 3, 1) := by decide +kernel
theorem d29_24 : decode jdk_65_method_133_code 24 = .ok (.invokestatic 304, 3) := by decide +kernel
theorem d29_27 : decode jdk_65_method_133_code 27 = .ok (.invokestatic 150, 3) := by decide +kernel
theorem d29_30 : decode jdk_65_method_133_code 30 = .ok (.aload 4, 2) := by decide +kernel
theorem d29_32 : decode jdk_65_method_133_code 32 = .ok (.areturn, 1) := by decide +kernel
theorem d30_0 : decode jdk_65_method_131_code 0 = .ok (.iload_n 1, 1) := by decide +kernel
theorem d30_1 : decode jdk_65_method_131_code 1 = .ok (.iload_n 0, 1) := by decide +kernel
theorem d30_2 : decode jdk_65_method_131_code 2 = .ok (.if_icmp .ge 35, 3) := by decide +kernel
theorem d30_37 : decode jdk_65_method_131_code 37 = .ok (.return_, 1) := by decide +kernel
theorem d31_0 : decode jdk_29_method_69_code 0 = .ok (.iload_n 0, 1) := by decide +kernel
theorem d31_1 : decode jdk_29_method_69_code 1 = .ok (.iload_n 1, 1) := by decide +kernel
theorem d31_2 : decode jdk_29_method_69_code 2 = .ok (.if_icmp .gt 7, 3) := by decide +kernel
theorem d31_5 : decode jdk_29_method_69_code 5 = .ok (.iload_n 0, 1) := by decide +kernel
theorem d31_6 : decode jdk_29_method_69_code 6 = .ok (.goto 4, 3) := by decide +kernel
theorem d31_9 : decode jdk_29_method_69_code 9 = .ok (.iload_n 1, 1) := by decide +kernel
theorem d31_10 : decode jdk_29_method_69_code 10 = .ok (.ireturn, 1) := by decide +kernel
theorem d32_0 : decode prog_12_method_5_code 0 = .ok (.new 7, 3) := by decide +kernel
theorem d32_3 : decode prog_12_method_5_code 3 = .ok (.dup, 1) := by decide +kernel
theorem d32_4 : decode prog_12_method_5_code 4 = .ok (.invokespecial 9, 3) := by decide +kernel
theorem d32_7 : decode prog_12_method_5_code 7 = .ok (.aload_n 0, 1) := by decide +kernel
theorem d32_8 : decode prog_12_method_5_code 8 = .ok (.getfield 20, 3) := by decide +kernel
theorem d32_11 : decode prog_12_method_5_code 11 = .ok (.invokevirtual 12, 3) := by decide +kernel
theorem d32_14 : decode prog_12_method_5_code 14 = .ok (.ldc 39, 2) := by decide +kernel
theorem d32_16 : decode prog_12_method_5_code 16 = .ok (.invokevirtual 12, 3) := by decide +kernel
theorem d32_19 : decode prog_12_method_5_code 19 = .ok (.iload_n 2, 1) := by decide +kernel
theorem d32_20 : decode prog_12_method_5_code 20 = .ok (.invokestatic 32, 3) := by decide +kernel
theorem d32_23 : decode prog_12_method_5_code 23 = .ok (.invokevirtual 12, 3) := by decide +kernel
theorem d32_26 : decode prog_12_method_5_code 26 = .ok (.aload_n 1, 1) := by decide +kernel
theorem d32_27 : decode prog_12_method_5_code 27 = .ok (.invokevirtual 12, 3) := by decide +kernel
theorem d32_30 : decode prog_12_method_5_code 30 = .ok (.invokevirtual 16, 3) := by decide +kernel
theorem d32_33 : decode prog_12_method_5_code 33 = .ok (.areturn, 1) := by decide +kernel
theorem d33_0 : decode jdk_68_method_10_code 0 = .ok (.aload_n 0, 1) := by decide +kernel
theorem d33_1 : decode jdk_68_method_10_code 1 = .ok (.getfield 15, 3) := by decide +kernel
theorem d33_4 : decode jdk_68_method_10_code 4 = .ok (.arraylength, 1) := by decide +kernel
theorem d33_5 : decode jdk_68_method_10_code 5 = .ok (.istore_n 2, 1) := by decide +kernel
theorem d33_6 : decode jdk_68_method_10_code 6 = .ok (.iload_n 1, 1) := by decide +kernel
theorem d33_7 : decode jdk_68_method_10_code 7 = .ok (.aload_n 0, 1) := by decide +kernel
theorem d33_8 : decode jdk_68_method_10_code 8 = .ok (.getfield 22, 3) := by decide +kernel
theorem d33_11 : decode jdk_68_method_10_code 11 = .ok (.ishl, 1) := by decide +kernel
theorem d33_12 : decode jdk_68_method_10_code 12 = .ok (.istore_n 3, 1) := by decide +kernel
theorem d33_13 : decode jdk_68_method_10_code 13 = .ok (.iload_n 3, 1) := by decide +kernel
theorem d33_14 : decode jdk_68_method_10_code 14 = .ok (.iload_n 2, 1) := by decide +kernel
theorem d33_15 : decode jdk_68_method_10_code 15 = .ok (.isub, 1) := by decide +kernel
theorem d33_16 : decode jdk_68_method_10_code 16 = .ok (.istore 4, 2) := by decide +kernel
theorem d33_18 : decode jdk_68_method_10_code 18 = .ok (.iload_n 2, 1) := by decide +kernel
theorem d33_19 : decode jdk_68_method_10_code 19 = .ok (.iload 4, 2) := by decide +kernel
theorem d33_21 : decode jdk_68_method_10_code 21 = .ok (.iload_n 2, 1) := by decide +kernel
theorem d33_22 : decode jdk_68_method_10_code 22 = .ok (.iconst 2, 1) := by decide +kernel
theorem d33_23 : decode jdk_68_method_10_code 23 = .ok (.aload_n 0, 1) := by decide +kernel
theorem d33_24 : decode jdk_68_method_10_code 24 = .ok (.getfield 22, 3) := by decide +kernel
theorem d33_27 : decode jdk_68_method_10_code 27 = .ok (.ishl, 1) := by decide +kernel
theorem d33_28 : decode jdk_68_method_10_code 28 = .ok (.iadd, 1) := by decide +kernel
theorem d33_29 : decode jdk_68_method_10_code 29 = .ok (.invokestatic 114, 3) := by decide +kernel
theorem d33_32 : decode jdk_68_method_10_code 32 = .ok (.istore 5, 2) := by decide +kernel
theorem d33_34 : decode jdk_68_method_10_code 34 = .ok (.iload 5, 2) := by decide +kernel
theorem d33_36 : decode jdk_68_method_10_code 36 = .ok (.ldc 39, 2) := by decide +kernel
theorem d33_38 : decode jdk_68_method_10_code 38 = .ok (.if_icmp .ne 13, 3) := by decide +kernel
theorem d33_51 : decode jdk_68_method_10_code 51 = .ok (.iload 5, 2) := by decide +kernel
theorem d33_53 : decode jdk_68_method_10_code 53 = .ok (.aload_n 0, 1) := by decide +kernel
theorem d33_54 : decode jdk_68_method_10_code 54 = .ok (.getfield 22, 3) := by decide +kernel
theorem d33_57 : decode jdk_68_method_10_code 57 = .ok (.ishr, 1) := by decide +kernel
theorem d33_58 : decode jdk_68_method_10_code 58 = .ok (.ireturn, 1) := by decide +kernel
theorem d34_0 : decode jdk_48_method_27_code 0 = .ok (.iload_n 0, 1) := by decide +kernel
theorem d34_1 : decode jdk_48_method_27_code 1 = .ok (.iload_n 1, 1) := by decide +kernel
theorem d34_2 : decode jdk_48_method_27_code 2 = .ok (.iload_n 2, 1) := by decide +kernel
theorem d34_3 : decode jdk_48_method_27_code 3 = .ok (.invokestatic 194, 3) := by decide +kernel
theorem d34_6 : decode jdk_48_method_27_code 6 = .ok (.iadd, 1) := by decide +kernel
theorem d34_7 : decode jdk_48_method_27_code 7 = .ok (.istore_n 3, 1) := by decide +kernel
theorem d34_8 : decode jdk_48_method_27_code 8 = .ok (.iconst 0, 1) := by decide +kernel
theorem d34_9 : decode jdk_48_method_27_code 9 = .ok (.iload_n 3, 1) := by decide +kernel
theorem d34_10 : decode jdk_48_method_27_code 10 = .ok (.if_icmp .ge 11, 3) := by decide +kernel
theorem d34_13 : decode jdk_48_method_27_code 13 = .ok (.iload_n 3, 1) := by decide +kernel
theorem d34_14 : decode jdk_48_method_27_code 14 = .ok (.ldc 200, 2) := by decide +kernel
theorem d34_16 : decode jdk_48_method_27_code 16 = .ok (.if_icmp .gt 5, 3) := by decide +kernel
theorem d34_19 : decode jdk_48_method_27_code 19 = .ok (.iload_n 3, 1) := by decide +kernel
theorem d34_20 : decode jdk_48_method_27_code 20 = .ok (.ireturn, 1) := by decide +kernel
theorem d35_0 : decode jdk_29_method_65_code 0 = .ok (.iload_n 0, 1) := by decide +kernel
theorem d35_1 : decode jdk_29_method_65_code 1 = .ok (.iload_n 1, 1) := by decide +kernel
theorem d35_2 : decode jdk_29_method_65_code 2 = .ok (.if_icmp .lt 7, 3) := by decide +kernel
theorem d35_5 : decode jdk_29_method_65_code 5 = .ok (.iload_n 0, 1) := by decide +kernel
theorem d35_6 : decode jdk_29_method_65_code 6 = .ok (.goto 4, 3) := by decide +kernel
theorem d35_9 : decode jdk_29_method_65_code 9 = .ok (.iload_n 1, 1) := by decide +kernel
theorem d35_10 : decode jdk_29_method_65_code 10 = .ok (.ireturn, 1) := by decide +kernel
theorem d36_0 : decode jdk_65_method_121_code 0 = .ok (.iload_n 1, 1) := by decide +kernel
theorem d36_1 : decode jdk_65_method_121_code 1 = .ok (.aload_n 0, 1) := by decide +kernel
theorem d36_2 : decode jdk_65_method_121_code 2 = .ok (.arraylength, 1) := by decide +kernel
theorem d36_3 : decode jdk_65_method_121_code 3 = .ok (.if_icmp .ne 11, 3) := by decide +kernel
theorem d36_14 : decode jdk_65_method_121_code 14 = .ok (.iload_n 1, 1) := by decide +kernel
theorem d36_15 : decode jdk_65_method_121_code 15 = .ok (.newarray .byte, 2) := by decide +kernel
theorem d36_17 : decode jdk_65_method_121_code 17 = .ok (.astore_n 2, 1) := by decide +kernel
theorem d36_18 : decode jdk_65_method_121_code 18 = .ok (.aload_n 0, 1) := by decide +kernel
theorem d36_19 : decode jdk_65_method_121_code 19 = .ok (.iconst 0, 1) := by decide +kernel
theorem d36_20 : decode jdk_65_method_121_code 20 = .ok (.aload_n 2, 1) := by decide +kernel
theorem d36_21 : decode jdk_65_method_121_code 21 = .ok (.iconst 0, 1) := by decide +kernel
theorem d36_22 : decode jdk_65_method_121_code 22 = .ok (.aload_n 0, 1) := by decide +kernel
theorem d36_23 : decode jdk_65_method_121_code 23 = .ok (.arraylength, 1) := by decide +kernel
theorem d36_24 : decode jdk_65_method_121_code 24 = .ok (.iload_n 1, 1) := by decide +kernel
theorem d36_25 : decode jdk_65_method_121_code 25 = .ok (.invokestatic 304, 3) := by decide +kernel
theorem d36_28 : decode jdk_65_method_121_code 28 = .ok (.invokestatic 150, 3) := by decide +kernel
theorem d36_31 : decode jdk_65_method_121_code 31 = .ok (.aload_n 2, 1) := by decide +kernel
theorem d36_32 : decode jdk_65_method_121_code 32 = .ok (.areturn, 1) := by decide +kernel
theorem d37_0 : decode prog_12_method_8_code 0 = .ok (.iload_n 0, 1) := by decide +kernel
theorem d37_1 : decode prog_12_method_8_code 1 = .ok (.iconst 1, 1) := by decide +kernel
theorem d37_2 : decode prog_12_method_8_code 2 = .ok (.if_icmp .ne 8, 3) := by decide +kernel
theorem d37_5 : decode prog_12_method_8_code 5 = .ok (.ldc 62, 2) := by decide +kernel
theorem d37_7 : decode prog_12_method_8_code 7 = .ok (.goto 22, 3) := by decide +kernel
theorem d37_10 : decode prog_12_method_8_code 10 = .ok (.new 7, 3) := by decide +kernel
theorem d37_13 : decode prog_12_method_8_code 13 = .ok (.dup, 1) := by decide +kernel
theorem d37_14 : decode prog_12_method_8_code 14 = .ok (.invokespecial 9, 3) := by decide +kernel
theorem d37_17 : decode prog_12_method_8_code 17 = .ok (.iload_n 0, 1) := by decide +kernel
theorem d37_18 : decode prog_12_method_8_code 18 = .ok (.invokevirtual 64, 3) := by decide +kernel
theorem d37_21 : decode prog_12_method_8_code 21 = .ok (.ldc 57, 2) := by decide +kernel
theorem d37_23 : decode prog_12_method_8_code 23 = .ok (.invokevirtual 12, 3) := by decide +kernel
theorem d37_26 : decode prog_12_method_8_code 26 = .ok (.invokevirtual 16, 3) := by decide +kernel
theorem d37_29 : decode prog_12_method_8_code 29 = .ok (.areturn, 1) := by decide +kernel
theorem d38_0 : decode jdk_42_method_56_code 0 = .ok (.aload_n 0, 1) := by decide +kernel
theorem d38_1 : decode jdk_42_method_56_code 1 = .ok (.invokevirtual 492, 3) := by decide +kernel
theorem d38_4 : decode jdk_42_method_56_code 4 = .ok (.ifCond .eq 12, 3) := by decide +kernel
theorem d38_7 : decode jdk_42_method_56_code 7 = .ok (.aload_n 0, 1) := by decide +kernel
theorem d38_8 : decode jdk_42_method_56_code 8 = .ok (.getfield 9, 3) := by decide +kernel
theorem d38_11 : decode jdk_42_method_56_code 11 = .ok (.iload_n 1, 1) := by decide +kernel
theorem d38_12 : decode jdk_42_method_56_code 12 = .ok (.invokestatic 495, 3) := by decide +kernel
theorem d38_15 : decode jdk_42_method_56_code 15 = .ok (.ireturn, 1) := by decide +kernel
theorem d39_0 : decode jdk_42_method_154_code 0 = .ok (.getstatic 38, 3) := by decide +kernel
theorem d39_3 : decode jdk_42_method_154_code 3 = .ok (.ifCond .eq 14, 3) := by decide +kernel
theorem d39_6 : decode jdk_42_method_154_code 6 = .ok (.aload_n 0, 1) := by decide +kernel
theorem d39_7 : decode jdk_42_method_154_code 7 = .ok (.getfield 15, 3) := by decide +kernel
theorem d39_10 : decode jdk_42_method_154_code 10 = .ok (.ifCond .ne 7, 3) := by decide +kernel
theorem d39_13 : decode jdk_42_method_154_code 13 = .ok (.iconst 1, 1) := by decide +kernel
theorem d39_14 : decode jdk_42_method_154_code 14 = .ok (.goto 4, 3) := by decide +kernel
theorem d39_18 : decode jdk_42_method_154_code 18 = .ok (.ireturn, 1) := by decide +kernel
theorem d40_0 : decode jdk_43_method_2_code 0 = .ok (.iload_n 1, 1) := by decide +kernel
theorem d40_1 : decode jdk_43_method_2_code 1 = .ok (.aload_n 0, 1) := by decide +kernel
theorem d40_2 : decode jdk_43_method_2_code 2 = .ok (.arraylength, 1) := by decide +kernel
theorem d40_3 : decode jdk_43_method_2_code 3 = .ok (.invokestatic 9, 3) := by decide +kernel
theorem d40_6 : decode jdk_43_method_2_code 6 = .ok (.aload_n 0, 1) := by decide +kernel
theorem d40_7 : decode jdk_43_method_2_code 7 = .ok (.iload_n 1, 1) := by decide +kernel
theorem d40_8 : decode jdk_43_method_2_code 8 = .ok (.baload, 1) := by decide +kernel
theorem d40_9 : decode jdk_43_method_2_code 9 = .ok (.sipush 255, 3) := by decide +kernel
theorem d40_12 : decode jdk_43_method_2_code 12 = .ok (.iand, 1) := by decide +kernel
theorem d40_13 : decode jdk_43_method_2_code 13 = .ok (.i2c, 1) := by decide +kernel
theorem d40_14 : decode jdk_43_method_2_code 14 = .ok (.ireturn, 1) := by decide +kernel
theorem d41_0 : decode jdk_42_method_155_code 0 = .ok (.iload_n 0, 1) := by decide +kernel
theorem d41_1 : decode jdk_42_method_155_code 1 = .ok (.iload_n 1, 1) := by decide +kernel
theorem d41_2 : decode jdk_42_method_155_code 2 = .ok (.getstatic 1053, 3) := by decide +kernel
theorem d41_5 : decode jdk_42_method_155_code 5 = .ok (.invokestatic 1059, 3) := by decide +kernel
theorem d41_8 : decode jdk_42_method_155_code 8 = .ok (.pop, 1) := by decide +kernel
theorem d41_9 : decode jdk_42_method_155_code 9 = .ok (.return_, 1) := by decide +kernel
theorem d42_0 : decode jdk_41_method_11_code 0 = .ok (.iload_n 0, 1) := by decide +kernel
theorem d42_1 : decode jdk_41_method_11_code 1 = .ok (.ifCond .lt 8, 3) := by decide +kernel
theorem d42_4 : decode jdk_41_method_11_code 4 = .ok (.iload_n 0, 1) := by decide +kernel
theorem d42_5 : decode jdk_41_method_11_code 5 = .ok (.iload_n 1, 1) := by decide +kernel
theorem d42_6 : decode jdk_41_method_11_code 6 = .ok (.if_icmp .lt 10, 3) := by decide +kernel
theorem d42_16 : decode jdk_41_method_11_code 16 = .ok (.iload_n 0, 1) := by decide +kernel
theorem d42_17 : decode jdk_41_method_11_code 17 = .ok (.ireturn, 1) := by decide +kernel
theorem d43_0 : decode jdk_67_method_15_code 0 = .ok (.aload_n 0, 1) := by decide +kernel
theorem d43_1 : decode jdk_67_method_15_code 1 = .ok (.iload_n 1, 1) := by decide +kernel
theorem d43_2 : decode jdk_67_method_15_code 2 = .ok (.invokespecial 53, 3) := by decide +kernel
theorem d43_5 : decode jdk_67_method_15_code 5 = .ok (.pop, 1) := by decide +kernel
theorem d43_6 : decode jdk_67_method_15_code 6 = .ok (.aload_n 0, 1) := by decide +kernel
theorem d43_7 : decode jdk_67_method_15_code 7 = .ok (.areturn, 1) := by decide +kernel
theorem d44_0 : decode jdk_68_method_32_code 0 = .ok (.aload_n 0, 1) := by decide +kernel
theorem d44_1 : decode jdk_68_method_32_code 1 = .ok (.getfield 79, 3) := by decide +kernel
theorem d44_4 : decode jdk_68_method_32_code 4 = .ok (.istore_n 2, 1) := by decide +kernel
theorem d44_5 : decode jdk_68_method_32_code 5 = .ok (.iload_n 2, 1) := by decide +kernel
theorem d44_6 : decode jdk_68_method_32_code 6 = .ok (.iload_n 1, 1) := by decide +kernel
theorem d44_7 : decode jdk_68_method_32_code 7 = .ok (.invokestatic 245, 3) := by decide +kernel
theorem d44_10 : decode jdk_68_method_32_code 10 = .ok (.iadd, 1) := by decide +kernel
theorem d44_11 : decode jdk_68_method_32_code 11 = .ok (.istore_n 3, 1) := by decide +kernel
theorem d44_12 : decode jdk_68_method_32_code 12 = .ok (.aload_n 0, 1) := by decide +kernel
theorem d44_13 : decode jdk_68_method_32_code 13 = .ok (.iload_n 3, 1) := by decide +kernel
theorem d44_14 : decode jdk_68_method_32_code 14 = .ok (.invokevirtual 100, 3) := by decide +kernel
theorem d44_17 : decode jdk_68_method_32_code 17 = .ok (.aload_n 0, 1) := by decide +kernel
theorem d44_18 : decode jdk_68_method_32_code 18 = .ok (.invokevirtual 83, 3) := by decide +kernel
theorem d44_21 : decode jdk_68_method_32_code 21 = .ok (.ifCond .eq 16, 3) := by decide +kernel
theorem d44_24 : decode jdk_68_method_32_code 24 = .ok (.iload_n 1, 1) := by decide +kernel
theorem d44_25 : decode jdk_68_method_32_code 25 = .ok (.iload_n 3, 1) := by decide +kernel
theorem d44_26 : decode jdk_68_method_32_code 26 = .ok (.aload_n 0, 1) := by decide +kernel
theorem d44_27 : decode jdk_68_method_32_code 27 = .ok (.getfield 15, 3) := by decide +kernel
theorem d44_30 : decode jdk_68_method_32_code 30 = .ok (.invokestatic 248, 3) := by decide +kernel
theorem d44_33 : decode jdk_68_method_32_code 33 = .ok (.pop, 1) := by decide +kernel
theorem d44_34 : decode jdk_68_method_32_code 34 = .ok (.goto 14, 3) := by decide +kernel
theorem d44_48 : decode jdk_68_method_32_code 48 = .ok (.aload_n 0, 1) := by decide +kernel
theorem d44_49 : decode jdk_68_method_32_code 49 = .ok (.iload_n 3, 1) := by decide +kernel
theorem d44_50 : decode jdk_68_method_32_code 50 = .ok (.putfield 79, 3) := by decide +kernel
theorem d44_53 : decode jdk_68_method_32_code 53 = .ok (.aload_n 0, 1) := by decide +kernel
theorem d44_54 : decode jdk_68_method_32_code 54 = .ok (.areturn, 1) := by decide +kernel
theorem d45_0 : decode jdk_33_method_13_code 0 = .ok (.iconst 1, 1) := by decide +kernel
theorem d45_1 : decode jdk_33_method_13_code 1 = .ok (.istore_n 1, 1) := by decide +kernel
theorem d45_2 : decode jdk_33_method_13_code 2 = .ok (.iload_n 0, 1) := by decide +kernel
theorem d45_3 : decode jdk_33_method_13_code 3 = .ok (.ifCond .lt 8, 3) := by decide +kernel
theorem d45_6 : decode jdk_33_method_13_code 6 = .ok (.iconst 0, 1) := by decide +kernel
theorem d45_7 : decode jdk_33_method_13_code 7 = .ok (.istore_n 1, 1) := by decide +kernel
theorem d45_8 : decode jdk_33_method_13_code 8 = .ok (.iload_n 0, 1) := by decide +kernel
theorem d45_9 : decode jdk_33_method_13_code 9 = .ok (.ineg, 1) := by decide +kernel
theorem d45_10 : decode jdk_33_method_13_code 10 = .ok (.istore_n 0, 1) := by decide +kernel
theorem d45_11 : decode jdk_33_method_13_code 11 = .ok (.bipush (-10), 2) := by decide +kernel
theorem d45_13 : decode jdk_33_method_13_code 13 = .ok (.istore_n 2, 1) := by decide +kernel
theorem d45_14 : decode jdk_33_method_13_code 14 = .ok (.iconst 1, 1) := by decide +kernel
theorem d45_15 : decode jdk_33_method_13_code 15 = .ok (.istore_n 3, 1) := by decide +kernel
theorem d45_16 : decode jdk_33_method_13_code 16 = .ok (.iload_n 3, 1) := by decide +kernel
theorem d45_17 : decode jdk_33_method_13_code 17 = .ok (.bipush 10, 2) := by decide +kernel
theorem d45_19 : decode jdk_33_method_13_code 19 = .ok (.if_icmp .ge 23, 3) := by decide +kernel
theorem d45_22 : decode jdk_33_method_13_code 22 = .ok (.iload_n 0, 1) := by decide +kernel
theorem d45_23 : decode jdk_33_method_13_code 23 = .ok (.iload_n 2, 1) := by decide +kernel
theorem d45_24 : decode jdk_33_method_13_code 24 = .ok (.if_icmp .le 7, 3) := by decide +kernel
theorem d45_27 : decode jdk_33_method_13_code 27 = .ok (.iload_n 3, 1) := by decide +kernel
theorem d45_28 : decode jdk_33_method_13_code 28 = .ok (.iload_n 1, 1) := by decide +kernel
theorem d45_29 : decode jdk_33_method_13_code 29 = .ok (.iadd, 1) := by decide +kernel
theorem d45_30 : decode jdk_33_method_13_code 30 = .ok (.ireturn, 1) := by decide +kernel
theorem d45_31 : decode jdk_33_method_13_code 31 = .ok (.bipush 10, 2) := by decide +kernel
theorem d45_33 : decode jdk_33_method_13_code 33 = .ok (.iload_n 2, 1) := by decide +kernel
theorem d45_34 : decode jdk_33_method_13_code 34 = .ok (.imul, 1) := by decide +kernel
theorem d45_35 : decode jdk_33_method_13_code 35 = .ok (.istore_n 2, 1) := by decide +kernel
theorem d45_36 : decode jdk_33_method_13_code 36 = .ok (.iinc 3 1, 3) := by decide +kernel
theorem d45_39 : decode jdk_33_method_13_code 39 = .ok (.goto (-23), 3) := by decide +kernel
theorem d45_42 : decode jdk_33_method_13_code 42 = .ok (.bipush 10, 2) := by decide +kernel
theorem d45_44 : decode jdk_33_method_13_code 44 = .ok (.iload_n 1, 1) := by decide +kernel
theorem d45_45 : decode jdk_33_method_13_code 45 = .ok (.iadd, 1) := by decide +kernel
theorem d45_46 : decode jdk_33_method_13_code 46 = .ok (.ireturn, 1) := by decide +kernel
theorem d46_0 : decode jdk_33_method_12_code 0 = .ok (.iload_n 1, 1) := by decide +kernel
theorem d46_1 : decode jdk_33_method_12_code 1 = .ok (.istore 5, 2) := by decide +kernel
theorem d46_3 : decode jdk_33_method_12_code 3 = .ok (.iload_n 0, 1) := by decide +kernel
theorem d46_4 : decode jdk_33_method_12_code 4 = .ok (.ifCond .ge 7, 3) := by decide +kernel
theorem d46_7 : decode jdk_33_method_12_code 7 = .ok (.iconst 1, 1) := by decide +kernel
theorem d46_8 : decode jdk_33_method_12_code 8 = .ok (.goto 4, 3) := by decide +kernel
theorem d46_11 : decode jdk_33_method_12_code 11 = .ok (.iconst 0, 1) := by decide +kernel
theorem d46_12 : decode jdk_33_method_12_code 12 = .ok (.istore 6, 2) := by decide +kernel
theorem d46_14 : decode jdk_33_method_12_code 14 = .ok (.iload 6, 2) := by decide +kernel
theorem d46_16 : decode jdk_33_method_12_code 16 = .ok (.ifCond .ne 6, 3) := by decide +kernel
theorem d46_19 : decode jdk_33_method_12_code 19 = .ok (.iload_n 0, 1) := by decide +kernel
theorem d46_20 : decode jdk_33_method_12_code 20 = .ok (.ineg, 1) := by decide +kernel
theorem d46_21 : decode jdk_33_method_12_code 21 = .ok (.istore_n 0, 1) := by decide +kernel
theorem d46_22 : decode jdk_33_method_12_code 22 = .ok (.iload_n 0, 1) := by decide +kernel
theorem d46_23 : decode jdk_33_method_12_code 23 = .ok (.bipush (-100), 2) := by decide +kernel
theorem d46_25 : decode jdk_33_method_12_code 25 = .ok (.if_icmp .gt 47, 3) := by decide +kernel
theorem d46_28 : decode jdk_33_method_12_code 28 = .ok (.iload_n 0, 1) := by decide +kernel
theorem d46_29 : decode jdk_33_method_12_code 29 = .ok (.bipush 100, 2) := by decide +kernel
theorem d46_31 : decode jdk_33_method_12_code 31 = .ok (.idiv, 1) := by decide +kernel
theorem d46_32 : decode jdk_33_method_12_code 32 = .ok (.istore_n 3, 1) := by decide +kernel
theorem d46_33 : decode jdk_33_method_12_code 33 = .ok (.iload_n 3, 1) := by decide +kernel
theorem d46_34 : decode jdk_33_method_12_code 34 = .ok (.bipush 100, 2) := by decide +kernel
theorem d46_36 : decode jdk_33_method_12_code 36 = .ok (.imul, 1) := by decide +kernel
theorem d46_37 : decode jdk_33_method_12_code 37 = .ok (.iload_n 0, 1) := by decide +kernel
theorem d46_38 : decode jdk_33_method_12_code 38 = .ok (.isub, 1) := by decide +kernel
theorem d46_39 : decode jdk_33_method_12_code 39 = .ok (.istore 4, 2) := by decide +kernel
theorem d46_41 : decode jdk_33_method_12_code 41 = .ok (.iload_n 3, 1) := by decide +kernel
theorem d46_42 : decode jdk_33_method_12_code 42 = .ok (.istore_n 0, 1) := by decide +kernel
theorem d46_43 : decode jdk_33_method_12_code 43 = .ok (.aload_n 2, 1) := by decide +kernel
theorem d46_44 : decode jdk_33_method_12_code 44 = .ok (.iinc 5 (-1), 3) := by decide +kernel
theorem d46_47 : decode jdk_33_method_12_code 47 = .ok (.iload 5, 2) := by decide +kernel
theorem d46_49 : decode jdk_33_method_12_code 49 = .ok (.getstatic 83, 3) := by decide +kernel
theorem d46_52 : decode jdk_33_method_12_code 52 = .ok (.iload 4, 2) := by decide +kernel
theorem d46_54 : decode jdk_33_method_12_code 54 = .ok (.baload, 1) := by decide +kernel
theorem d46_55 : decode jdk_33_method_12_code 55 = .ok (.bastore, 1) := by decide +kernel
theorem d46_56 : decode jdk_33_method_12_code 56 = .ok (.aload_n 2, 1) := by decide +kernel
theorem d46_57 : decode jdk_33_method_12_code 57 = .ok (.iinc 5 (-1), 3) := by decide +kernel
theorem d46_60 : decode jdk_33_method_12_code 60 = .ok (.iload 5, 2) := by decide +kernel
theorem d46_62 : decode jdk_33_method_12_code 62 = .ok (.getstatic 87, 3) := by decide +kernel
theorem d46_65 : decode jdk_33_method_12_code 65 = .ok (.iload 4, 2) := by decide +kernel
theorem d46_67 : decode jdk_33_method_12_code 67 = .ok (.baload, 1) := by decide +kernel
theorem d46_68 : decode jdk_33_method_12_code 68 = .ok (.bastore, 1) := by decide +kernel
theorem d46_69 : decode jdk_33_method_12_code 69 = .ok (.goto (-47), 3) := by decide +kernel
theorem d46_72 : decode jdk_33_method_12_code 72 = .ok (.aload_n 2, 1) := by decide +kernel
theorem d46_73 : decode jdk_33_method_12_code 73 = .ok (.iinc 5 (-1), 3) := by decide +kernel
theorem d46_76 : decode jdk_33_method_12_code 76 = .ok (.iload 5, 2) := by decide +kernel
theorem d46_78 : decode jdk_33_method_12_code 78 = .ok (.getstatic 83, 3) := by decide +kernel
theorem d46_81 : decode jdk_33_method_12_code 81 = .ok (.iload_n 0, 1) := by decide +kernel
theorem d46_82 : decode jdk_33_method_12_code 82 = .ok (.ineg, 1) := by decide +kernel
theorem d46_83 : decode jdk_33_method_12_code 83 = .ok (.baload, 1) := by decide +kernel
theorem d46_84 : decode jdk_33_method_12_code 84 = .ok (.bastore, 1) := by decide +kernel
theorem d46_85 : decode jdk_33_method_12_code 85 = .ok (.iload_n 0, 1) := by decide +kernel
theorem d46_86 : decode jdk_33_method_12_code 86 = .ok (.bipush (-9), 2) := by decide +kernel
theorem d46_88 : decode jdk_33_method_12_code 88 = .ok (.if_icmp .ge 16, 3) := by decide +kernel
theorem d46_91 : decode jdk_33_method_12_code 91 = .ok (.aload_n 2, 1) := by decide +kernel
theorem d46_92 : decode jdk_33_method_12_code 92 = .ok (.iinc 5 (-1), 3) := by decide +kernel
theorem d46_95 : decode jdk_33_method_12_code 95 = .ok (.iload 5, 2) := by decide +kernel
theorem d46_97 : decode jdk_33_method_12_code 97 = .ok (.getstatic 87, 3) := by decide +kernel
theorem d46_100 : decode jdk_33_method_12_code 100 = .ok (.iload_n 0, 1) := by decide +kernel
theorem d46_101 : decode jdk_33_method_12_code 101 = .ok (.ineg, 1) := by decide +kernel
theorem d46_102 : decode jdk_33_method_12_code 102 = .ok (.baload, 1) := by decide +kernel
theorem d46_103 : decode jdk_33_method_12_code 103 = .ok (.bastore, 1) := by decide +kernel
theorem d46_104 : decode jdk_33_method_12_code 104 = .ok (.iload 6, 2) := by decide +kernel
theorem d46_106 : decode jdk_33_method_12_code 106 = .ok (.ifCond .eq 12, 3) := by decide +kernel
theorem d46_109 : decode jdk_33_method_12_code 109 = .ok (.aload_n 2, 1) := by decide +kernel
theorem d46_110 : decode jdk_33_method_12_code 110 = .ok (.iinc 5 (-1), 3) := by decide +kernel
theorem d46_113 : decode jdk_33_method_12_code 113 = .ok (.iload 5, 2) := by decide +kernel
theorem d46_115 : decode jdk_33_method_12_code 115 = .ok (.bipush 45, 2) := by decide +kernel
theorem d46_117 : decode jdk_33_method_12_code 117 = .ok (.bastore, 1) := by decide +kernel
theorem d46_118 : decode jdk_33_method_12_code 118 = .ok (.iload 5, 2) := by decide +kernel
theorem d46_120 : decode jdk_33_method_12_code 120 = .ok (.ireturn, 1) := by decide +kernel
theorem d47_0 : decode method_3_code 0 = .ok (.iload_n 0, 1) := by decide +kernel
theorem d47_1 : decode method_3_code 1 = .ok (.i2l, 1) := by decide +kernel
theorem d47_2 : decode method_3_code 2 = .ok (.invokestatic 25, 3) := by decide +kernel
theorem d47_5 : decode method_3_code 5 = .ok (.lstore_n 1, 1) := by decide +kernel
theorem d47_6 : decode method_3_code 6 = .ok (.lload_n 1, 1) := by decide +kernel
theorem d47_7 : decode method_3_code 7 = .ok (.invokestatic 31, 3) := by decide +kernel
theorem d47_10 : decode method_3_code 10 = .ok (.iload_n 0, 1) := by decide +kernel
theorem d47_11 : decode method_3_code 11 = .ok (.ifCond .ge 7, 3) := by decide +kernel
theorem d47_14 : decode method_3_code 14 = .ok (.iconst 1, 1) := by decide +kernel
theorem d47_15 : decode method_3_code 15 = .ok (.goto 4, 3) := by decide +kernel
theorem d47_18 : decode method_3_code 18 = .ok (.iconst 0, 1) := by decide +kernel
theorem d47_19 : decode method_3_code 19 = .ok (.iadd, 1) := by decide +kernel
theorem d47_20 : decode method_3_code 20 = .ok (.ireturn, 1) := by decide +kernel
theorem d48_0 : decode jdk_29_method_61_code 0 = .ok (.lload_n 0, 1) := by decide +kernel
theorem d48_1 : decode jdk_29_method_61_code 1 = .ok (.lconst 0, 1) := by decide +kernel
theorem d48_2 : decode jdk_29_method_61_code 2 = .ok (.lcmp, 1) := by decide +kernel
theorem d48_3 : decode jdk_29_method_61_code 3 = .ok (.ifCond .ge 8, 3) := by decide +kernel
theorem d48_6 : decode jdk_29_method_61_code 6 = .ok (.lload_n 0, 1) := by decide +kernel
theorem d48_7 : decode jdk_29_method_61_code 7 = .ok (.lneg, 1) := by decide +kernel
theorem d48_8 : decode jdk_29_method_61_code 8 = .ok (.goto 4, 3) := by decide +kernel
theorem d48_11 : decode jdk_29_method_61_code 11 = .ok (.lload_n 0, 1) := by decide +kernel
theorem d48_12 : decode jdk_29_method_61_code 12 = .ok (.lreturn, 1) := by decide +kernel
theorem d49_0 : decode method_2_code 0 = .ok (.lload_n 0, 1) := by decide +kernel
theorem d49_1 : decode method_2_code 1 = .ok (.ldc2_w 7, 3) := by decide +kernel
theorem d49_4 : decode method_2_code 4 = .ok (.lcmp, 1) := by decide +kernel
theorem d49_5 : decode method_2_code 5 = .ok (.ifCond .ge 5, 3) := by decide +kernel
theorem d49_8 : decode method_2_code 8 = .ok (.iconst 1, 1) := by decide +kernel
theorem d49_9 : decode method_2_code 9 = .ok (.ireturn, 1) := by decide +kernel
theorem d49_10 : decode method_2_code 10 = .ok (.lload_n 0, 1) := by decide +kernel
theorem d49_11 : decode method_2_code 11 = .ok (.ldc2_w 9, 3) := by decide +kernel
theorem d49_14 : decode method_2_code 14 = .ok (.lcmp, 1) := by decide +kernel
theorem d49_15 : decode method_2_code 15 = .ok (.ifCond .ge 5, 3) := by decide +kernel
theorem d49_18 : decode method_2_code 18 = .ok (.iconst 2, 1) := by decide +kernel
theorem d49_19 : decode method_2_code 19 = .ok (.ireturn, 1) := by decide +kernel
theorem d49_20 : decode method_2_code 20 = .ok (.lload_n 0, 1) := by decide +kernel
theorem d49_21 : decode method_2_code 21 = .ok (.ldc2_w 11, 3) := by decide +kernel
theorem d49_24 : decode method_2_code 24 = .ok (.lcmp, 1) := by decide +kernel
theorem d49_25 : decode method_2_code 25 = .ok (.ifCond .ge 5, 3) := by decide +kernel
theorem d49_28 : decode method_2_code 28 = .ok (.iconst 3, 1) := by decide +kernel
theorem d49_29 : decode method_2_code 29 = .ok (.ireturn, 1) := by decide +kernel
theorem d49_30 : decode method_2_code 30 = .ok (.lload_n 0, 1) := by decide +kernel
theorem d49_31 : decode method_2_code 31 = .ok (.ldc2_w 13, 3) := by decide +kernel
theorem d49_34 : decode method_2_code 34 = .ok (.lcmp, 1) := by decide +kernel
theorem d49_35 : decode method_2_code 35 = .ok (.ifCond .ge 5, 3) := by decide +kernel
theorem d49_38 : decode method_2_code 38 = .ok (.iconst 4, 1) := by decide +kernel
theorem d49_39 : decode method_2_code 39 = .ok (.ireturn, 1) := by decide +kernel
theorem d49_40 : decode method_2_code 40 = .ok (.lload_n 0, 1) := by decide +kernel
theorem d49_41 : decode method_2_code 41 = .ok (.ldc2_w 15, 3) := by decide +kernel
theorem d49_44 : decode method_2_code 44 = .ok (.lcmp, 1) := by decide +kernel
theorem d49_45 : decode method_2_code 45 = .ok (.ifCond .ge 5, 3) := by decide +kernel
theorem d49_48 : decode method_2_code 48 = .ok (.iconst 5, 1) := by decide +kernel
theorem d49_49 : decode method_2_code 49 = .ok (.ireturn, 1) := by decide +kernel
theorem d49_50 : decode method_2_code 50 = .ok (.lload_n 0, 1) := by decide +kernel
theorem d49_51 : decode method_2_code 51 = .ok (.ldc2_w 17, 3) := by decide +kernel
theorem d49_54 : decode method_2_code 54 = .ok (.lcmp, 1) := by decide +kernel
theorem d49_55 : decode method_2_code 55 = .ok (.ifCond .ge 6, 3) := by decide +kernel
theorem d49_58 : decode method_2_code 58 = .ok (.bipush 6, 2) := by decide +kernel
theorem d49_60 : decode method_2_code 60 = .ok (.ireturn, 1) := by decide +kernel
theorem d49_61 : decode method_2_code 61 = .ok (.lload_n 0, 1) := by decide +kernel
theorem d49_62 : decode method_2_code 62 = .ok (.ldc2_w 19, 3) := by decide +kernel
theorem d49_65 : decode method_2_code 65 = .ok (.lcmp, 1) := by decide +kernel
theorem d49_66 : decode method_2_code 66 = .ok (.ifCond .ge 6, 3) := by decide +kernel
theorem d49_69 : decode method_2_code 69 = .ok (.bipush 7, 2) := by decide +kernel
theorem d49_71 : decode method_2_code 71 = .ok (.ireturn, 1) := by decide +kernel
theorem d49_72 : decode method_2_code 72 = .ok (.lload_n 0, 1) := by decide +kernel
theorem d49_73 : decode method_2_code 73 = .ok (.ldc2_w 21, 3) := by decide +kernel
theorem d49_76 : decode method_2_code 76 = .ok (.lcmp, 1) := by decide +kernel
theorem d49_77 : decode method_2_code 77 = .ok (.ifCond .ge 6, 3) := by decide +kernel
theorem d49_80 : decode method_2_code 80 = .ok (.bipush 8, 2) := by decide +kernel
theorem d49_82 : decode method_2_code 82 = .ok (.ireturn, 1) := by decide +kernel
theorem d49_83 : decode method_2_code 83 = .ok (.lload_n 0, 1) := by decide +kernel
theorem d49_84 : decode method_2_code 84 = .ok (.ldc2_w 23, 3) := by decide +kernel
theorem d49_87 : decode method_2_code 87 = .ok (.lcmp, 1) := by decide +kernel
theorem d49_88 : decode method_2_code 88 = .ok (.ifCond .ge 6, 3) := by decide +kernel
theorem d49_91 : decode method_2_code 91 = .ok (.bipush 9, 2) := by decide +kernel
theorem d49_93 : decode method_2_code 93 = .ok (.ireturn, 1) := by decide +kernel
theorem d49_94 : decode method_2_code 94 = .ok (.bipush 10, 2) := by decide +kernel
theorem d49_96 : decode method_2_code 96 = .ok (.ireturn, 1) := by decide +kernel
theorem d50_0 : decode method_5_code 0 = .ok (.iload_n 3, 1) := by decide +kernel
theorem d50_1 : decode method_5_code 1 = .ok (.iload_n 2, 1) := by decide +kernel
theorem d50_2 : decode method_5_code 2 = .ok (.if_icmp .ge 19, 3) := by decide +kernel
theorem d50_5 : decode method_5_code 5 = .ok (.aload_n 0, 1) := by decide +kernel
theorem d50_6 : decode method_5_code 6 = .ok (.bipush 22, 2) := by decide +kernel
theorem d50_8 : decode method_5_code 8 = .ok (.iload_n 3, 1) := by decide +kernel
theorem d50_9 : decode method_5_code 9 = .ok (.iadd, 1) := by decide +kernel
theorem d50_10 : decode method_5_code 10 = .ok (.invokevirtual 37, 3) := by decide +kernel
theorem d50_13 : decode method_5_code 13 = .ok (.iload_n 1, 1) := by decide +kernel
theorem d50_14 : decode method_5_code 14 = .ok (.iload_n 3, 1) := by decide +kernel
theorem d50_15 : decode method_5_code 15 = .ok (.invokestatic 43, 3) := by decide +kernel
theorem d50_18 : decode method_5_code 18 = .ok (.if_icmp .ne 7, 3) := by decide +kernel
theorem d50_21 : decode method_5_code 21 = .ok (.iconst 1, 1) := by decide +kernel
theorem d50_22 : decode method_5_code 22 = .ok (.goto 4, 3) := by decide +kernel
theorem d50_26 : decode method_5_code 26 = .ok (.ireturn, 1) := by decide +kernel
theorem d51_0 : decode method_4_code 0 = .ok (.iload_n 0, 1) := by decide +kernel
theorem d51_1 : decode method_4_code 1 = .ok (.i2l, 1) := by decide +kernel
theorem d51_2 : decode method_4_code 2 = .ok (.invokestatic 25, 3) := by decide +kernel
theorem d51_5 : decode method_4_code 5 = .ok (.lstore_n 2, 1) := by decide +kernel
theorem d51_6 : decode method_4_code 6 = .ok (.lload_n 2, 1) := by decide +kernel
theorem d51_7 : decode method_4_code 7 = .ok (.invokestatic 31, 3) := by decide +kernel
theorem d51_10 : decode method_4_code 10 = .ok (.istore 4, 2) := by decide +kernel
theorem d51_12 : decode method_4_code 12 = .ok (.iload_n 0, 1) := by decide +kernel
theorem d51_13 : decode method_4_code 13 = .ok (.ifCond .ge 7, 3) := by decide +kernel
theorem d51_16 : decode method_4_code 16 = .ok (.iconst 1, 1) := by decide +kernel
theorem d51_17 : decode method_4_code 17 = .ok (.goto 4, 3) := by decide +kernel
theorem d51_20 : decode method_4_code 20 = .ok (.iconst 0, 1) := by decide +kernel
theorem d51_21 : decode method_4_code 21 = .ok (.istore 5, 2) := by decide +kernel
theorem d51_23 : decode method_4_code 23 = .ok (.iload 5, 2) := by decide +kernel
theorem d51_25 : decode method_4_code 25 = .ok (.iconst 1, 1) := by decide +kernel
theorem d51_26 : decode method_4_code 26 = .ok (.if_icmp .ne 10, 3) := by decide +kernel
theorem d51_29 : decode method_4_code 29 = .ok (.iload_n 1, 1) := by decide +kernel
theorem d51_30 : decode method_4_code 30 = .ok (.ifCond .ne 6, 3) := by decide +kernel
theorem d51_33 : decode method_4_code 33 = .ok (.bipush 45, 2) := by decide +kernel
theorem d51_35 : decode method_4_code 35 = .ok (.ireturn, 1) := by decide +kernel
theorem d51_36 : decode method_4_code 36 = .ok (.iload_n 1, 1) := by decide +kernel
theorem d51_37 : decode method_4_code 37 = .ok (.iload 5, 2) := by decide +kernel
theorem d51_39 : decode method_4_code 39 = .ok (.isub, 1) := by decide +kernel
theorem d51_40 : decode method_4_code 40 = .ok (.istore 6, 2) := by decide +kernel
theorem d51_42 : decode method_4_code 42 = .ok (.iload 4, 2) := by decide +kernel
theorem d51_44 : decode method_4_code 44 = .ok (.iconst 1, 1) := by decide +kernel
theorem d51_45 : decode method_4_code 45 = .ok (.isub, 1) := by decide +kernel
theorem d51_46 : decode method_4_code 46 = .ok (.iload 6, 2) := by decide +kernel
theorem d51_48 : decode method_4_code 48 = .ok (.isub, 1) := by decide +kernel
theorem d51_49 : decode method_4_code 49 = .ok (.istore 7, 2) := by decide +kernel
theorem d51_51 : decode method_4_code 51 = .ok (.iload 7, 2) := by decide +kernel
theorem d51_53 : decode method_4_code 53 = .ok (.ifCond .lt 10, 3) := by decide +kernel
theorem d51_56 : decode method_4_code 56 = .ok (.iload 7, 2) := by decide +kernel
theorem d51_58 : decode method_4_code 58 = .ok (.bipush 9, 2) := by decide +kernel
theorem d51_60 : decode method_4_code 60 = .ok (.if_icmp .le 6, 3) := by decide +kernel
theorem d51_66 : decode method_4_code 66 = .ok (.bipush 10, 2) := by decide +kernel
theorem d51_68 : decode method_4_code 68 = .ok (.newarray .long, 2) := by decide +kernel
theorem d51_70 : decode method_4_code 70 = .ok (.dup, 1) := by decide +kernel
theorem d51_71 : decode method_4_code 71 = .ok (.iconst 0, 1) := by decide +kernel
theorem d51_72 : decode method_4_code 72 = .ok (.lconst 1, 1) := by decide +kernel
theorem d51_73 : decode method_4_code 73 = .ok (.lastore, 1) := by decide +kernel
theorem d51_74 : decode method_4_code 74 = .ok (.dup, 1) := by decide +kernel
theorem d51_75 : decode method_4_code 75 = .ok (.iconst 1, 1) := by decide +kernel
theorem d51_76 : decode method_4_code 76 = .ok (.ldc2_w 7, 3) := by decide +kernel
theorem d51_79 : decode method_4_code 79 = .ok (.lastore, 1) := by decide +kernel
theorem d51_80 : decode method_4_code 80 = .ok (.dup, 1) := by decide +kernel
theorem d51_81 : decode method_4_code 81 = .ok (.iconst 2, 1) := by decide +kernel
theorem d51_82 : decode method_4_code 82 = .ok (.ldc2_w 9, 3) := by decide +kernel
theorem d51_85 : decode method_4_code 85 = .ok (.lastore, 1) := by decide +kernel
theorem d51_86 : decode method_4_code 86 = .ok (.dup, 1) := by decide +kernel
theorem d51_87 : decode method_4_code 87 = .ok (.iconst 3, 1) := by decide +kernel
theorem d51_88 : decode method_4_code 88 = .ok (.ldc2_w 11, 3) := by decide +kernel
theorem d51_91 : decode method_4_code 91 = .ok (.lastore, 1) := by decide +kernel
theorem d51_92 : decode method_4_code 92 = .ok (.dup, 1) := by decide +kernel
theorem d51_93 : decode method_4_code 93 = .ok (.iconst 4, 1) := by decide +kernel
theorem d51_94 : decode method_4_code 94 = .ok (.ldc2_w 13, 3) := by decide +kernel
theorem d51_97 : decode method_4_code 97 = .ok (.lastore, 1) := by decide +kernel
theorem d51_98 : decode method_4_code 98 = .ok (.dup, 1) := by decide +kernel
theorem d51_99 : decode method_4_code 99 = .ok (.iconst 5, 1) := by decide +kernel
theorem d51_100 : decode method_4_code 100 = .ok (.ldc2_w 15, 3) := by decide +kernel
theorem d51_103 : decode method_4_code 103 = .ok (.lastore, 1) := by decide +kernel
theorem d51_104 : decode method_4_code 104 = .ok (.dup, 1) := by decide +kernel
theorem d51_105 : decode method_4_code 105 = .ok (.bipush 6, 2) := by decide +kernel
theorem d51_107 : decode method_4_code 107 = .ok (.ldc2_w 17, 3) := by decide +kernel
theorem d51_110 : decode method_4_code 110 = .ok (.lastore, 1) := by decide +kernel
theorem d51_111 : decode method_4_code 111 = .ok (.dup, 1) := by decide +kernel
theorem d51_112 : decode method_4_code 112 = .ok (.bipush 7, 2) := by decide +kernel
theorem d51_114 : decode method_4_code 114 = .ok (.ldc2_w 19, 3) := by decide +kernel
theorem d51_117 : decode method_4_code 117 = .ok (.lastore, 1) := by decide +kernel
theorem d51_118 : decode method_4_code 118 = .ok (.dup, 1) := by decide +kernel
theorem d51_119 : decode method_4_code 119 = .ok (.bipush 8, 2) := by decide +kernel
theorem d51_121 : decode method_4_code 121 = .ok (.ldc2_w 21, 3) := by decide +kernel
theorem d51_124 : decode method_4_code 124 = .ok (.lastore, 1) := by decide +kernel
theorem d51_125 : decode method_4_code 125 = .ok (.dup, 1) := by decide +kernel
theorem d51_126 : decode method_4_code 126 = .ok (.bipush 9, 2) := by decide +kernel
theorem d51_128 : decode method_4_code 128 = .ok (.ldc2_w 23, 3) := by decide +kernel
theorem d51_131 : decode method_4_code 131 = .ok (.lastore, 1) := by decide +kernel
theorem d51_132 : decode method_4_code 132 = .ok (.astore 8, 2) := by decide +kernel
theorem d51_134 : decode method_4_code 134 = .ok (.lload_n 2, 1) := by decide +kernel
theorem d51_135 : decode method_4_code 135 = .ok (.aload 8, 2) := by decide +kernel
theorem d51_137 : decode method_4_code 137 = .ok (.iload 7, 2) := by decide +kernel
theorem d51_139 : decode method_4_code 139 = .ok (.laload, 1) := by decide +kernel
theorem d51_140 : decode method_4_code 140 = .ok (.ldiv, 1) := by decide +kernel
theorem d51_141 : decode method_4_code 141 = .ok (.ldc2_w 7, 3) := by decide +kernel
theorem d51_144 : decode method_4_code 144 = .ok (.lrem, 1) := by decide +kernel
theorem d51_145 : decode method_4_code 145 = .ok (.lstore 9, 2) := by decide +kernel
theorem d51_147 : decode method_4_code 147 = .ok (.bipush 48, 2) := by decide +kernel
theorem d51_149 : decode method_4_code 149 = .ok (.lload 9, 2) := by decide +kernel
theorem d51_151 : decode method_4_code 151 = .ok (.l2i, 1) := by decide +kernel
theorem d51_152 : decode method_4_code 152 = .ok (.iadd, 1) := by decide +kernel
theorem d51_153 : decode method_4_code 153 = .ok (.i2c, 1) := by decide +kernel
theorem d51_154 : decode method_4_code 154 = .ok (.ireturn, 1) := by decide +kernel
theorem pd_0 : parseMethodDescriptor "()V" = some ⟨[], none⟩ := by decide +kernel
theorem pd_1 : parseMethodDescriptor "(I)Ljava/lang/StringBuilder;" = some ⟨[.int], (some (.object "java/lang/StringBuilder"))⟩ := by decide +kernel
theorem pd_2 : parseMethodDescriptor "(Ljava/lang/String;)Ljava/lang/StringBuilder;" = some ⟨[(.object "java/lang/String")], (some (.object "java/lang/StringBuilder"))⟩ := by decide +kernel
theorem pd_3 : parseMethodDescriptor "()Ljava/lang/String;" = some ⟨[], (some (.object "java/lang/String"))⟩ := by decide +kernel
theorem pd_4 : parseMethodDescriptor "(I)Ljava/lang/String;" = some ⟨[.int], (some (.object "java/lang/String"))⟩ := by decide +kernel
theorem pd_5 : parseMethodDescriptor "()B" = some ⟨[], (some .byte)⟩ := by decide +kernel
theorem pd_6 : parseMethodDescriptor "([CI[BII)I" = some ⟨[(.array .char), .int, (.array .byte), .int, .int], (some .int)⟩ := by decide +kernel
theorem pd_7 : parseMethodDescriptor "([CII)[B" = some ⟨[(.array .char), .int, .int], (some (.array .byte))⟩ := by decide +kernel
theorem pd_8 : parseMethodDescriptor "([BI)B" = some ⟨[(.array .byte), .int], (some .byte)⟩ := by decide +kernel
theorem pd_9 : parseMethodDescriptor "([CIILjava/lang/Void;)V" = some ⟨[(.array .char), .int, .int, (.object "java/lang/Void")], none⟩ := by decide +kernel
theorem pd_10 : parseMethodDescriptor "(C)Z" = some ⟨[.char], (some .boolean)⟩ := by decide +kernel
theorem pd_11 : parseMethodDescriptor "(C)[B" = some ⟨[.char], (some (.array .byte))⟩ := by decide +kernel
theorem pd_12 : parseMethodDescriptor "([BB)V" = some ⟨[(.array .byte), .byte], none⟩ := by decide +kernel
theorem pd_13 : parseMethodDescriptor "(I)V" = some ⟨[.int], none⟩ := by decide +kernel
theorem pd_14 : parseMethodDescriptor "(Ljava/lang/String;)V" = some ⟨[(.object "java/lang/String")], none⟩ := by decide +kernel
theorem pd_15 : parseMethodDescriptor "([BIB)V" = some ⟨[(.array .byte), .int, .byte], none⟩ := by decide +kernel
theorem pd_16 : parseMethodDescriptor "()I" = some ⟨[], (some .int)⟩ := by decide +kernel
theorem pd_17 : parseMethodDescriptor "(ILjava/lang/String;)V" = some ⟨[.int, (.object "java/lang/String")], none⟩ := by decide +kernel
theorem pd_18 : parseMethodDescriptor "(Ljava/lang/String;)Ljava/lang/AbstractStringBuilder;" = some ⟨[(.object "java/lang/String")], (some (.object "java/lang/AbstractStringBuilder"))⟩ := by decide +kernel
theorem pd_19 : parseMethodDescriptor "(II)I" = some ⟨[.int, .int], (some .int)⟩ := by decide +kernel
theorem pd_20 : parseMethodDescriptor "(III)I" = some ⟨[.int, .int, .int], (some .int)⟩ := by decide +kernel
theorem pd_21 : parseMethodDescriptor "(I)I" = some ⟨[.int], (some .int)⟩ := by decide +kernel
theorem pd_22 : parseMethodDescriptor "([BI)[B" = some ⟨[(.array .byte), .int], (some (.array .byte))⟩ := by decide +kernel
theorem pd_23 : parseMethodDescriptor "(II)V" = some ⟨[.int, .int], none⟩ := by decide +kernel
theorem pd_24 : parseMethodDescriptor "([BII)[B" = some ⟨[(.array .byte), .int, .int], (some (.array .byte))⟩ := by decide +kernel
theorem pd_25 : parseMethodDescriptor "()[B" = some ⟨[], (some (.array .byte))⟩ := by decide +kernel
theorem pd_26 : parseMethodDescriptor "()Z" = some ⟨[], (some .boolean)⟩ := by decide +kernel
theorem pd_27 : parseMethodDescriptor "(Ljava/lang/AbstractStringBuilder;Ljava/lang/Void;)V" = some ⟨[(.object "java/lang/AbstractStringBuilder"), (.object "java/lang/Void")], none⟩ := by decide +kernel
theorem pd_28 : parseMethodDescriptor "(Ljava/lang/StringBuilder;)V" = some ⟨[(.object "java/lang/StringBuilder")], none⟩ := by decide +kernel
theorem pd_29 : parseMethodDescriptor "(II[B)I" = some ⟨[.int, .int, (.array .byte)], (some .int)⟩ := by decide +kernel
theorem pd_30 : parseMethodDescriptor "(I)Ljava/lang/AbstractStringBuilder;" = some ⟨[.int], (some (.object "java/lang/AbstractStringBuilder"))⟩ := by decide +kernel
theorem pd_31 : parseMethodDescriptor "(IILjava/util/function/BiFunction;)I" = some ⟨[.int, .int, (.object "java/util/function/BiFunction")], (some .int)⟩ := by decide +kernel
theorem pd_32 : parseMethodDescriptor "([BI)C" = some ⟨[(.array .byte), .int], (some .char)⟩ := by decide +kernel
theorem pd_33 : parseMethodDescriptor "(J)J" = some ⟨[.long], (some .long)⟩ := by decide +kernel
theorem pd_34 : parseMethodDescriptor "(J)I" = some ⟨[.long], (some .int)⟩ := by decide +kernel
theorem pd_35 : parseMethodDescriptor "(I)C" = some ⟨[.int], (some .char)⟩ := by decide +kernel
theorem pd_36 : parseMethodDescriptor "(II)C" = some ⟨[.int, .int], (some .char)⟩ := by decide +kernel
theorem pd_37 : parseMethodDescriptor "(Ljava/lang/String;III)Z" = some ⟨[(.object "java/lang/String"), .int, .int, .int], (some .boolean)⟩ := by decide +kernel
theorem pd_38 : parseMethodDescriptor "(C)Ljava/lang/String;" = some ⟨[.char], (some (.object "java/lang/String"))⟩ := by decide +kernel
theorem pd_39 : parseMethodDescriptor "([C)V" = some ⟨[(.array .char)], none⟩ := by decide +kernel
theorem pd_40 : parseMethodDescriptor "(Ljava/lang/String;I)Ljava/lang/String;" = some ⟨[(.object "java/lang/String"), .int], (some (.object "java/lang/String"))⟩ := by decide +kernel
set_option maxRecDepth 65536 in
set_option maxHeartbeats 4000000 in
theorem rm_coder {l : Launch} {Z : State} {a0 : Array Value} (H : Wd Z a0) {h : Heap} {a : Addr} (C : Fld Z h a ST "coder" "B" (.int 0)) : Met l Z (⟨"java/lang/String", "coder", "()B"⟩ : MethodName) jdk_42_method_152_code 1 (some .byte) ({ frames := 0, cells := 0, slots := 0, locals := 0 } : Room) h [] #[.ref a] (fun v h' G => v = some (.int 0) ∧ h = h') := by
  refine Met.mk (L := #[.val (.ref a)]) (by decide +kernel) (fun m => by first | (simp [entryFrame, mkF, argsToLocals, Value.category]; done) | rfl) (fun K => ?_)
  show Go _ _ K "java/lang/String" "coder" _ _ _ _ _ _ _ _ _ 0 _ _
  obtain ⟨cz, Sz, nz⟩ := H.2.2.2.1
  refine go_getstatic (v := .int cz) (q := 3) (w_4 H) Via.refl Sz d16_0 rfl ?_
  refine go_ifN (q := 6) d16_3 nz rfl ?_
  refine go_aloadN (v := .ref a) (q := 7) d16_6 rfl rfl rfl ?_
  refine go_getfield (v := .int 0) (q := 10) (w_24 H) Via.refl C d16_7 rfl ?_
  refine go_goto (q := 14) d16_10 (by decide) (by decide) ?_
  exact go_ireturn H (G := []) (t := .byte) rfl (by decide) rfl d16_14 (by decide) (by decide) (fun _ q => nomatch q) ⟨rfl, rfl⟩
set_option maxRecDepth 65536 in
set_option maxHeartbeats 4000000 in
theorem rm_len {l : Launch} {Z : State} {a0 : Array Value} (H : Wd Z a0) {h : Heap} {F : List Addr} {a : Addr} {cs : List Int32} (S : Str Z h F a cs) : Met l Z (⟨"java/lang/String", "length", "()I"⟩ : MethodName) jdk_42_method_54_code 1 (some .int) ({ frames := 1, cells := 0, slots := 0, locals := 13 } : Room) h [] #[.ref a] (fun v h' G => v = some (.int (Int32.ofNat cs.length)) ∧ h = h') := by
  refine Met.mk (L := #[.val (.ref a)]) (by decide +kernel) (fun m => by first | (simp [entryFrame, mkF, argsToLocals, Value.category]; done) | rfl) (fun K => ?_)
  show Go _ _ K "java/lang/String" "length" _ _ _ _ _ _ _ _ _ 0 _ _
  obtain ⟨E, C, ha, hl, bb, k, hb, Vv, A⟩ := S
  refine go_aloadN (v := .ref a) (q := 1) d15_0 rfl rfl rfl ?_
  refine go_getfield (v := .ref bb) (q := 4) (w_22 H) Via.refl Vv d15_1 rfl ?_
  refine go_arraylength (z := Int32.ofNat cs.length) (q := 5) A d15_4 rfl ?_
  refine go_aloadN (v := .ref a) (q := 6) d15_5 rfl rfl rfl ?_
  refine go_virtual (c' := 0) (s' := 0) (q := 9) (S := [.int (Int32.ofNat cs.length)]) (argsL := []) H (C := "java/lang/String") (w_87 H) (w_88 H) (nf_self (w_90 H)) (w_90 H) (w_89 H) (w_2 H) (w_91 H) (by decide) E (rm_coder H C) rfl rfl (lenOf pd_5 rfl) (fun _ q => nomatch q) rfl (by decide) (Nat.le_of_ble_eq_true rfl) rfl rfl (by decide) (by decide) d15_6 rfl ?_
  rintro _ _ G - ⟨rfl, rfl⟩
  refine nx_ (v := none) ?_
  show Go _ _ _ _ _ _ _ _ _ _ _ _ _ _ 9 #[.val (.ref a)] [.int 0, .int (Int32.ofNat cs.length)]
  refine go_ishr (r := Int32.ofNat cs.length) (q := 10) d15_9 (shr0 _) rfl ?_
  exact go_ireturn H (G := []) (t := .int) rfl (by decide) rfl d15_10 (by decide) (by decide) (fun _ q => nomatch q) ⟨rfl, rfl⟩
theorem bts_set {cs : List Int32} {i : Nat} (hi : i < cs.length) : (bts (cs.take i) ++ List.replicate (cs.length - i) (Value.int 0)).set i (.int (cs[i].toInt8.toInt32)) = bts (cs.take (i + 1)) ++ List.replicate (cs.length - (i + 1)) (Value.int 0) := by
  have hl : (bts (cs.take i)).length = i := by simp; omega
  rw [List.set_append_right _ _ (by omega), hl, Nat.sub_self]
  obtain ⟨m, hm⟩ : ∃ m, cs.length - i = m + 1 := ⟨cs.length - i - 1, by omega⟩
  rw [hm, show cs.length - (i + 1) = m by omega, List.replicate_succ, List.set_cons_zero, List.take_succ_eq_append_getElem hi]
  simp only [bts, List.map_append, List.map_cons, List.map_nil, List.append_assoc, List.singleton_append]

set_option maxRecDepth 65536 in
set_option maxHeartbeats 4000000 in
theorem lp_cmp5 {l : Launch} {Z : State} {a0 : Array Value} (H : Wd Z a0) {K : Cx} {h : Heap} {ca ba : Addr} {kc kb : ClassId} {cs : List Int32} (A : Arv Z h ca kc .char (Int32.ofNat cs.length) (ints cs) (.int 0)) (hl : Lat cs) (hne : ca ≠ ba) : ∀ (n i : Nat) (x6 : Slot) (h1 : Heap), n + i = cs.length → One x6 → Keep h h1 [ba] → Arv Z h1 ba kb .byte (Int32.ofNat cs.length) (bts (cs.take i) ++ List.replicate (cs.length - i) (.int 0)) (.int 0) → Go l Z K "java/lang/StringUTF16" "compress" jdk_52_method_21_code 7 (some .int) ({ frames := 0, cells := 0, slots := 0, locals := 0 } : Room) (fun v h' G => v = some (.int (Int32.ofNat cs.length)) ∧ Keep h h' [ba] ∧ Arv Z h' ba kb .byte (Int32.ofNat cs.length) (bts cs) (.int 0)) h1 [ba] 0 0 3 #[.val (.ref ca), .val (.int (Int32.ofNat i)), .val (.ref ba), .val (.int (Int32.ofNat i)), .val (.int (Int32.ofNat cs.length)), .val (.int (Int32.ofNat i)), x6] []

  | 0, i, x6, h1, hn, h6, K1, V1 => by
    obtain rfl : i = cs.length := by omega
    refine go_iload (v := (Int32.ofNat cs.length)) (q := 5) d8_3 rfl rfl ?_
    refine go_iload (v := (Int32.ofNat cs.length)) (q := 7) d8_5 rfl rfl ?_
    refine go_icY (q := 44) d8_7 (show ¬ Int32.ofNat cs.length < Int32.ofNat cs.length from Int32.lt_irrefl) (by decide) (by decide) ?_
    refine go_iload (v := (Int32.ofNat cs.length)) (q := 46) d8_44 rfl rfl ?_
    have V1 : Arv Z h1 ba kb .byte (Int32.ofNat cs.length) (bts cs) (.int 0) := by simpa using V1
    exact go_ireturn H (G := []) (t := .int) rfl (by decide) rfl d8_46 (by decide) (by decide) (fun _ q => nomatch q) ⟨rfl, K1, V1⟩
  | n + 1, i, x6, h1, hn, h6, K1, V1 => by
    have hi : i < cs.length := by omega
    have hb := hl.1
    have hc := hl.2 cs[i] (List.getElem_mem hi)
    refine go_iload (v := (Int32.ofNat i)) (q := 5) d8_3 rfl rfl ?_
    refine go_iload (v := (Int32.ofNat cs.length)) (q := 7) d8_5 rfl rfl ?_
    refine go_icN (q := 10) d8_7 ((lt_ofNat (by omega) (by omega)).mpr hi) rfl ?_
    refine go_aloadN (v := .ref ca) (q := 11) d8_10 rfl rfl rfl ?_
    refine go_iloadN (v := (Int32.ofNat i)) (q := 12) d8_11 rfl rfl ?_
    refine go_caload (v := .int (cs[i])) (q := 13) (A.keep K1 (ninS hne nin0)) ⟨nn_ofNat (by omega), (lt_ofNat (by omega) (by omega)).mpr hi⟩ (by rw [cl_ofNat (by omega)]; simp [ints, hi]) d8_12 rfl ?_
    refine go_istoreO (L' := #[.val (.ref ca), .val (.int (Int32.ofNat i)), .val (.ref ba), .val (.int (Int32.ofNat i)), .val (.int (Int32.ofNat cs.length)), .val (.int (Int32.ofNat i)), .val (.int (cs[i]))]) (q := 15) d8_13 rfl h6 rfl rfl ?_
    refine go_iload (v := cs[i]) (q := 17) d8_15 rfl rfl ?_
    refine go_sipush (x := (255 : Int32)) (q := 20) d8_17 rfl rfl ?_
    refine go_icY (q := 26) d8_20 (show ¬ (255 : Int32) < cs[i] from hc.2) (by decide) (by decide) ?_
    refine go_aloadN (v := .ref ba) (q := 27) d8_26 rfl rfl rfl ?_
    refine go_iloadN (v := (Int32.ofNat i)) (q := 28) d8_27 rfl rfl ?_
    refine go_iload (v := cs[i]) (q := 30) d8_28 rfl rfl ?_
    refine go_i2b (r := (cs[i]).toInt8.toInt32) (q := 31) d8_30 rfl rfl ?_
    refine go_bastore (i := i) (y := cs[i].toInt8.toInt32) (q := 32) V1 ⟨nn_ofNat (by omega), (lt_ofNat (by omega) (by omega)).mpr hi⟩ (cl_ofNat (by omega)) (by simp; omega) (by simp) (show (cs[i].toInt8.toInt32).toInt8.toInt32 = cs[i].toInt8.toInt32 by simp) d8_31 rfl ?_
    intro h2 K2 z2 V2
    rw [bts_set hi] at V2
    refine go_iinc (x := (Int32.ofNat i)) (y := (Int32.ofNat (i + 1))) (L' := #[.val (.ref ca), .val (.int (Int32.ofNat (i + 1))), .val (.ref ba), .val (.int (Int32.ofNat i)), .val (.int (Int32.ofNat cs.length)), .val (.int (Int32.ofNat i)), .val (.int (cs[i]))]) (q := 35) d8_32 rfl add1_ofNat rfl rfl ?_
    refine go_iinc (x := (Int32.ofNat i)) (y := (Int32.ofNat (i + 1))) (L' := #[.val (.ref ca), .val (.int (Int32.ofNat (i + 1))), .val (.ref ba), .val (.int (Int32.ofNat (i + 1))), .val (.int (Int32.ofNat cs.length)), .val (.int (Int32.ofNat i)), .val (.int (cs[i]))]) (q := 38) d8_35 rfl add1_ofNat rfl rfl ?_
    refine go_iinc (x := (Int32.ofNat i)) (y := (Int32.ofNat (i + 1))) (L' := #[.val (.ref ca), .val (.int (Int32.ofNat (i + 1))), .val (.ref ba), .val (.int (Int32.ofNat (i + 1))), .val (.int (Int32.ofNat cs.length)), .val (.int (Int32.ofNat (i + 1))), .val (.int (cs[i]))]) (q := 41) d8_38 rfl add1_ofNat rfl rfl ?_
    refine go_goto (q := 3) d8_41 (by decide) (by decide) ?_
    exact lp_cmp5 H A hl hne n (i + 1) _ h2 (by omega) (One.val rfl) (K1.trans K2 (fun x q => Or.inl q)) V2
set_option maxRecDepth 65536 in
set_option maxHeartbeats 4000000 in
theorem rm_cmp5 {l : Launch} {Z : State} {a0 : Array Value} (H : Wd Z a0) {h : Heap} {ca ba : Addr} {kc kb : ClassId} {cs : List Int32} (A : Arv Z h ca kc .char (Int32.ofNat cs.length) (ints cs) (.int 0)) (V : Arv Z h ba kb .byte (Int32.ofNat cs.length) (List.replicate cs.length (.int 0)) (.int 0)) (hl : Lat cs) (hne : ca ≠ ba) : Met l Z (⟨"java/lang/StringUTF16", "compress", "([CI[BII)I"⟩ : MethodName) jdk_52_method_21_code 7 (some .int) ({ frames := 0, cells := 0, slots := 0, locals := 0 } : Room) h [ba] #[.ref ca, .int 0, .ref ba, .int 0, .int (Int32.ofNat cs.length)] (fun v h' G => v = some (.int (Int32.ofNat cs.length)) ∧ Keep h h' [ba] ∧ Arv Z h' ba kb .byte (Int32.ofNat cs.length) (bts cs) (.int 0)) := by
  refine Met.mk (L := #[.val (.ref ca), .val (.int 0), .val (.ref ba), .val (.int 0), .val (.int (Int32.ofNat cs.length)), .unset, .unset]) (by decide +kernel) (fun m => by first | (simp [entryFrame, mkF, argsToLocals, Value.category]; done) | rfl) (fun K => ?_)
  show Go _ _ K "java/lang/StringUTF16" "compress" _ _ _ _ _ _ _ _ _ 0 _ _
  refine go_iconst (x := (0 : Int32)) (q := 1) d8_0 rfl rfl ?_
  refine go_istore (L' := #[.val (.ref ca), .val (.int 0), .val (.ref ba), .val (.int 0), .val (.int (Int32.ofNat cs.length)), .val (.int (0 : Int32)), .unset]) (q := 3) d8_1 rfl rfl ?_
  exact lp_cmp5 H A hl hne cs.length 0 _ h (by omega) One.u (Keep.refl _ _) (by simpa using V)
set_option maxRecDepth 65536 in
set_option maxHeartbeats 4000000 in
theorem rm_cmp3 {l : Launch} {Z : State} {a0 : Array Value} (H : Wd Z a0) {h : Heap} {ca : Addr} {kc : ClassId} {cs : List Int32} (A : Arv Z h ca kc .char (Int32.ofNat cs.length) (ints cs) (.int 0)) (hl : Lat cs) (hn : cs.length ≤ 16) : Met l Z (⟨"java/lang/StringUTF16", "compress", "([CII)[B"⟩ : MethodName) jdk_52_method_16_code 6 (some (.array .byte)) ({ frames := 1, cells := 1, slots := 16, locals := 18 } : Room) h [] #[.ref ca, .int 0, .int (Int32.ofNat cs.length)] (fun v h' G => ∃ ba kb, v = some (.ref ba) ∧ h.size ≤ ba ∧ Keep h h' [] ∧ Arv Z h' ba kb .byte (Int32.ofNat cs.length) (bts cs) (.int 0)) := by
  refine Met.mk (L := #[.val (.ref ca), .val (.int 0), .val (.int (Int32.ofNat cs.length)), .unset, .unset, .unset]) (by decide +kernel) (fun m => by first | (simp [entryFrame, mkF, argsToLocals, Value.category]; done) | rfl) (fun K => ?_)
  show Go _ _ K "java/lang/StringUTF16" "compress" _ _ _ _ _ _ _ _ _ 0 _ _
  refine go_iloadN (v := (Int32.ofNat cs.length)) (q := 1) d7_0 rfl rfl ?_
  refine go_newarray (ty := .byte) (dv := .int 0) (n := cs.length) (cap := 16) (ad := "[B") (c' := 1) (s' := 16) (q := 3) rfl rfl (cl_ofNat (by have := hl.1; omega)) (w_14 H) d7_1 (nn_ofNat (by have := hl.1; omega)) hn (by decide) rfl rfl rfl rfl (by decide) (by decide) ?_
  intro h1 ba kb g1 E1 V1 X1
  refine go_astoreN (L' := #[.val (.ref ca), .val (.int 0), .val (.int (Int32.ofNat cs.length)), .val (.ref ba), .unset, .unset]) (q := 4) d7_3 rfl rfl rfl ?_
  refine go_aloadN (v := .ref ca) (q := 5) d7_4 rfl rfl rfl ?_
  refine go_iloadN (v := 0) (q := 6) d7_5 rfl rfl ?_
  refine go_aloadN (v := .ref ba) (q := 7) d7_6 rfl rfl rfl ?_
  refine go_iconst (x := (0 : Int32)) (q := 8) d7_7 rfl rfl ?_
  refine go_iloadN (v := (Int32.ofNat cs.length)) (q := 9) d7_8 rfl rfl ?_
  have ne : ca ≠ ba := fun q => absurd A.lt (by rw [q, g1]; exact Nat.lt_irrefl _)
  refine go_static (c' := 1) (s' := 16) (q := 12) (S := []) (argsL := [.ref ca, .int 0, .ref ba, .int (0 : Int32), .int (Int32.ofNat cs.length)]) H (w_38 H) (w_39 H) (w_36 H) (w_40 H) (by decide) (rm_cmp5 H (A.ext E1) V1 hl ne) rfl rfl (lenOf pd_6 rfl) (fun _ q => q) rfl (by decide) (Nat.le_of_ble_eq_true rfl) rfl rfl (by decide) (by decide) d7_9 rfl ?_
  rintro _ h2 G - ⟨rfl, K2, V2⟩
  refine nx_ (v := none) ?_
  show Go _ _ _ _ _ _ _ _ _ _ _ _ _ _ 12 #[.val (.ref ca), .val (.int 0), .val (.int (Int32.ofNat cs.length)), .val (.ref ba), .unset, .unset] [.int (Int32.ofNat cs.length)]
  refine go_istore (L' := #[.val (.ref ca), .val (.int 0), .val (.int (Int32.ofNat cs.length)), .val (.ref ba), .val (.int (Int32.ofNat cs.length)), .unset]) (q := 14) d7_12 rfl rfl ?_
  refine go_iload (v := (Int32.ofNat cs.length)) (q := 16) d7_14 rfl rfl ?_
  refine go_iloadN (v := (Int32.ofNat cs.length)) (q := 17) d7_16 rfl rfl ?_
  refine go_icY (q := 57) d7_17 rfl (by decide) (by decide) ?_
  refine go_aloadN (v := .ref ba) (q := 58) d7_57 rfl rfl rfl ?_
  exact go_areturn H (G := []) (t := (.array .byte)) rfl rfl rfl d7_58 (by decide) (by decide) (fun _ q => nomatch q) ⟨ba, kb, rfl, by rw [g1]; exact Nat.le_refl _, ((Keep.refl h []).ext E1).trans K2 (fun x q => by cases List.mem_singleton.mp q; exact Or.inr (by rw [g1]; exact Nat.le_refl _)), V2⟩
set_option maxRecDepth 65536 in
set_option maxHeartbeats 4000000 in
theorem rm_codL {l : Launch} {Z : State} {a0 : Array Value} (H : Wd Z a0) {h : Heap} {ba : Addr} {kb : ClassId} {z : Int32} {vs : List Value} {dv : Value} (A : Arv Z h ba kb .byte z vs dv) : Met l Z (⟨"java/lang/StringUTF16", "coderFromArrayLen", "([BI)B"⟩ : MethodName) jdk_52_method_15_code 2 (some .byte) ({ frames := 0, cells := 0, slots := 0, locals := 0 } : Room) h [] #[.ref ba, .int z] (fun v h' G => v = some (.int 0) ∧ h = h') := by
  refine Met.mk (L := #[.val (.ref ba), .val (.int z)]) (by decide +kernel) (fun m => by first | (simp [entryFrame, mkF, argsToLocals, Value.category]; done) | rfl) (fun K => ?_)
  show Go _ _ K "java/lang/StringUTF16" "coderFromArrayLen" _ _ _ _ _ _ _ _ _ 0 _ _
  refine go_iloadN (v := z) (q := 1) d9_0 rfl rfl ?_
  refine go_aloadN (v := .ref ba) (q := 2) d9_1 rfl rfl rfl ?_
  refine go_arraylength (z := z) (q := 3) A d9_2 rfl ?_
  refine go_isub (r := 0) (q := 4) d9_3 (Int32.sub_self _) rfl ?_
  refine go_bipush (x := (31 : Int32)) (q := 6) d9_4 rfl rfl ?_
  refine go_iushr (r := 0) (q := 7) d9_6 rfl rfl ?_
  refine go_i2b (r := 0) (q := 8) d9_7 rfl rfl ?_
  exact go_ireturn H (G := []) (t := .byte) rfl (by decide) rfl d9_8 (by decide) (by decide) (fun _ q => nomatch q) ⟨rfl, rfl⟩
set_option maxRecDepth 65536 in
set_option maxHeartbeats 4000000 in
theorem rm_new4 {l : Launch} {Z : State} {a0 : Array Value} (H : Wd Z a0) {h : Heap} {F : List Addr} {x ca : Addr} {kc : ClassId} {cs : List Int32} (E : Exa Z h x ST) (C : Fld Z h x ST "coder" "B" (.int 0)) (Vv : Fld Z h x ST "value" "[B" .null) (A : Arv Z h ca kc .char (Int32.ofNat cs.length) (ints cs) (.int 0)) (hl : Lat cs) (hn : cs.length ≤ 16) (hx : x ∉ F) (h0 : ¬ cs.length = 0) : Met l Z (⟨"java/lang/String", "<init>", "([CIILjava/lang/Void;)V"⟩ : MethodName) jdk_42_method_149_code 6 none ({ frames := 2, cells := 4, slots := 16, locals := 35 } : Room) h (x :: F) #[.ref x, .ref ca, .int 0, .int (Int32.ofNat cs.length), .null] (fun v h' G => v = none ∧ Keep h h' [x] ∧ Str Z h' F x cs) := by
  refine Met.mk (L := #[.val (.ref x), .val (.ref ca), .val (.int 0), .val (.int (Int32.ofNat cs.length)), .val (.null), .unset]) (by decide +kernel) (fun m => by first | (simp [entryFrame, mkF, argsToLocals, Value.category]; done) | rfl) (fun K => ?_)
  show Go _ _ K "java/lang/String" "<init>" _ _ _ _ _ _ _ _ _ 0 _ _
  obtain ⟨cz, Sz, nz⟩ := H.2.2.2.1
  have sne : RoadKit.slotOf Z ST "value" "[B" ≠ RoadKit.slotOf Z ST "coder" "B" := slot_ne (C := ST) (Or.inr (w_23 H)) (Or.inr (w_25 H)) (by decide) (t := .array .byte) (t' := .byte) (by decide) (by decide)
  have wiS := (w_10 H)
  refine go_aloadN (v := .ref x) (q := 1) d6_0 rfl rfl rfl ?_
  refine go_initO (q := 4) (w_19 H) (w_20 H) (w_21 H) rfl d6_1 rfl (by decide) (Nat.le_of_ble_eq_true rfl) ?_
  refine go_iloadN (v := (Int32.ofNat cs.length)) (q := 5) d6_4 rfl rfl ?_
  refine go_mine fun hMine hOld => ?_
  refine go_ifY (q := 27) d6_5 (show ¬ _ = _ from fun q => h0 ((eq_ofNat (n := 0) (by have := hl.1; omega) (by decide)).mp q)) (by decide) (by decide) ?_
  refine go_getstatic (v := .int cz) (q := 30) (w_4 H) Via.refl Sz d6_27 rfl ?_
  refine go_ifN (q := 33) d6_30 nz rfl ?_
  refine go_aloadN (v := .ref ca) (q := 34) d6_33 rfl rfl rfl ?_
  refine go_iloadN (v := 0) (q := 35) d6_34 rfl rfl ?_
  refine go_iloadN (v := (Int32.ofNat cs.length)) (q := 36) d6_35 rfl rfl ?_
  refine go_static (c' := 1) (s' := 16) (q := 39) (S := []) (argsL := [.ref ca, .int 0, .int (Int32.ofNat cs.length)]) H (w_34 H) (w_35 H) (w_36 H) (w_37 H) (by decide) (rm_cmp3 H A hl hn) rfl rfl (lenOf pd_7 rfl) (fun _ q => nomatch q) rfl (by decide) (Nat.le_of_ble_eq_true rfl) rfl rfl (by decide) (by decide) d6_36 rfl ?_
  rintro _ h1 G - ⟨ba, kb, rfl, gb, K1, V1⟩
  refine nx_ (v := none) ?_
  show Go _ _ _ _ _ _ _ _ _ _ _ _ _ _ 39 #[.val (.ref x), .val (.ref ca), .val (.int 0), .val (.int (Int32.ofNat cs.length)), .val (.null), .unset] [.ref ba]
  refine go_astore (L' := #[.val (.ref x), .val (.ref ca), .val (.int 0), .val (.int (Int32.ofNat cs.length)), .val (.null), .val (.ref ba)]) (q := 41) d6_39 rfl rfl rfl ?_
  refine go_aloadN (v := .ref x) (q := 42) d6_41 rfl rfl rfl ?_
  refine go_aload (v := .ref ba) (q := 44) d6_42 rfl rfl rfl ?_
  refine go_iloadN (v := (Int32.ofNat cs.length)) (q := 45) d6_44 rfl rfl ?_
  refine go_static (c' := 1) (s' := 16) (q := 48) (S := [.ref x]) (argsL := [.ref ba, .int (Int32.ofNat cs.length)]) H (w_41 H) (w_42 H) (w_36 H) (w_43 H) (by decide) (rm_codL H V1) rfl rfl (lenOf pd_8 rfl) (fun _ q => nomatch q) rfl (by decide) (Nat.le_of_ble_eq_true rfl) rfl rfl (by decide) (by decide) d6_45 rfl ?_
  rintro _ _ G - ⟨rfl, rfl⟩
  refine nx_ (v := none) ?_
  show Go _ _ _ _ _ _ _ _ _ _ _ _ _ _ 48 #[.val (.ref x), .val (.ref ca), .val (.int 0), .val (.int (Int32.ofNat cs.length)), .val (.null), .val (.ref ba)] [.int 0, .ref x]
  refine go_putfield (q := 51) (w_24 H) Via.refl (C.keep K1 nin0) (E.keep K1) (Or.inr ⟨(w_25 H), rfl, rfl⟩) (w_10 H) (ty := .byte) (by decide) rfl rfl (by simp) d6_48 rfl ?_
  intro h2 W2
  have nxb : ba ≠ x := E.keep K1 |>.neArv V1 wiS |>.symm
  refine go_aloadN (v := .ref x) (q := 52) d6_51 rfl rfl rfl ?_
  refine go_aload (v := .ref ba) (q := 54) d6_52 rfl rfl rfl ?_
  refine go_putfield (q := 57) (w_22 H) Via.refl ((Vv.keep K1 nin0).other W2 (Or.inr sne)) ((E.keep K1).wr W2) (Or.inr ⟨(w_23 H), rfl, rfl⟩) (w_10 H) (ty := (.array .byte)) (by decide) rfl rfl (by simp) d6_54 rfl ?_
  intro h3 W3
  have Kp : Keep h h3 [x] := ((kless K1 (by simp)).wr W2 (Or.inl (by simp))).wr W3 (Or.inl (by simp))
  exact go_return H (G := []) rfl d6_57 (by decide) (by decide) (fun _ q => nomatch q) ⟨rfl, Kp, ((E.keep K1).wr W2).wr W3, (((C.keep K1 nin0).same W2).other W3 (Or.inr sne.symm)), hx, hl, ba, kb, fun q => absurd (hMine ba (by simp [q])).2 (Nat.not_lt.mpr gb), (((Vv.keep K1 nin0).other W2 (Or.inr sne)).same W3), ((V1.other W2 nxb).other W3 nxb)⟩
set_option maxRecDepth 65536 in
set_option maxHeartbeats 4000000 in
theorem rm_new1 {l : Launch} {Z : State} {a0 : Array Value} (H : Wd Z a0) {h : Heap} {F : List Addr} {x ca : Addr} {kc : ClassId} {cs : List Int32} (E : Exa Z h x ST) (C : Fld Z h x ST "coder" "B" (.int 0)) (Vv : Fld Z h x ST "value" "[B" .null) (A : Arv Z h ca kc .char (Int32.ofNat cs.length) (ints cs) (.int 0)) (hl : Lat cs) (hn : cs.length ≤ 16) (hx : x ∉ F) (h0 : ¬ cs.length = 0) : Met l Z (⟨"java/lang/String", "<init>", "([C)V"⟩ : MethodName) jdk_42_method_3_code 2 none ({ frames := 3, cells := 4, slots := 16, locals := 52 } : Room) h (x :: F) #[.ref x, .ref ca] (fun v h' G => v = none ∧ Keep h h' [x] ∧ Str Z h' F x cs) := by
  refine Met.mk (L := #[.val (.ref x), .val (.ref ca)]) (by decide +kernel) (fun m => by first | (simp [entryFrame, mkF, argsToLocals, Value.category]; done) | rfl) (fun K => ?_)
  show Go _ _ K "java/lang/String" "<init>" _ _ _ _ _ _ _ _ _ 0 _ _
  refine go_aloadN (v := .ref x) (q := 1) d5_0 rfl rfl rfl ?_
  refine go_aloadN (v := .ref ca) (q := 2) d5_1 rfl rfl rfl ?_
  refine go_iconst (x := (0 : Int32)) (q := 3) d5_2 rfl rfl ?_
  refine go_aloadN (v := .ref ca) (q := 4) d5_3 rfl rfl rfl ?_
  refine go_arraylength (z := (Int32.ofNat cs.length)) (q := 5) A d5_4 rfl ?_
  refine go_null (q := 6) d5_5 rfl ?_
  refine go_special (c' := 4) (s' := 16) (q := 9) (S := []) (argsL := [.ref ca, .int (0 : Int32), .int (Int32.ofNat cs.length), .null]) H rfl (w_31 H) (w_32 H) (w_2 H) (w_33 H) (by decide) (rm_new4 H E C Vv A hl hn hx h0) rfl rfl (lenOf pd_9 rfl) (fun _ q => q) rfl (by decide) (Nat.le_of_ble_eq_true rfl) rfl rfl (by decide) (by decide) d5_6 rfl ?_
  rintro _ h1 G - ⟨rfl, K1, S1⟩
  refine nx_ (v := none) ?_
  show Go _ _ _ _ _ _ _ _ _ _ _ _ _ _ 9 #[.val (.ref x), .val (.ref ca)] []
  exact go_return H (G := []) rfl d5_9 (by decide) (by decide) (fun _ q => nomatch q) ⟨rfl, K1, S1⟩
set_option maxRecDepth 65536 in
set_option maxHeartbeats 4000000 in
theorem rm_canE {l : Launch} {Z : State} {a0 : Array Value} (H : Wd Z a0) {h : Heap} {c : Int32} (hc : ¬ 255 < c) : Met l Z (⟨"java/lang/StringLatin1", "canEncode", "(C)Z"⟩ : MethodName) jdk_43_method_3_code 1 (some .boolean) ({ frames := 0, cells := 0, slots := 0, locals := 0 } : Room) h [] #[.int c] (fun v h' G => v = some (.int 1) ∧ h = h') := by
  refine Met.mk (L := #[.val (.int c)]) (by decide +kernel) (fun m => by first | (simp [entryFrame, mkF, argsToLocals, Value.category]; done) | rfl) (fun K => ?_)
  show Go _ _ K "java/lang/StringLatin1" "canEncode" _ _ _ _ _ _ _ _ _ 0 _ _
  refine go_iloadN (v := c) (q := 1) d1_0 rfl rfl ?_
  refine go_sipush (x := (255 : Int32)) (q := 4) d1_1 rfl rfl ?_
  refine go_icN (q := 7) d1_4 (show ¬ (255 : Int32) < c from hc) rfl ?_
  refine go_iconst (x := (1 : Int32)) (q := 8) d1_7 rfl rfl ?_
  refine go_goto (q := 12) d1_8 (by decide) (by decide) ?_
  exact go_ireturn H (G := []) (t := .boolean) rfl (by decide) rfl d1_12 (by decide) (by decide) (fun _ q => nomatch q) ⟨rfl, rfl⟩
set_option maxRecDepth 65536 in
set_option maxHeartbeats 4000000 in
theorem rm_toB {l : Launch} {Z : State} {a0 : Array Value} (H : Wd Z a0) {h : Heap} {c : Int32}  : Met l Z (⟨"java/lang/StringLatin1", "toBytes", "(C)[B"⟩ : MethodName) jdk_43_method_46_code 1 (some (.array .byte)) ({ frames := 0, cells := 1, slots := 1, locals := 0 } : Room) h [] #[.int c] (fun v h' G => ∃ ba kb, v = some (.ref ba) ∧ h.size ≤ ba ∧ Keep h h' [] ∧ Arv Z h' ba kb .byte (Int32.ofNat [c].length) (bts [c]) (.int 0)) := by
  refine Met.mk (L := #[.val (.int c)]) (by decide +kernel) (fun m => by first | (simp [entryFrame, mkF, argsToLocals, Value.category]; done) | rfl) (fun K => ?_)
  show Go _ _ K "java/lang/StringLatin1" "toBytes" _ _ _ _ _ _ _ _ _ 0 _ _
  have Ka : Keep h h [] := Keep.refl _ _
  refine go_iconst (x := (1 : Int32)) (q := 1) d2_0 rfl rfl ?_
  refine go_newarray (ty := .byte) (dv := .int 0) (n := 1) (cap := 1) (ad := "[B") (c' := 1) (s' := 1) (q := 3) rfl rfl (by decide) (w_14 H) d2_1 (by decide) (by decide) (by decide) rfl rfl rfl rfl (by decide) (by decide) ?_
  intro h1 ba kb g1 E1 V1 X1
  have f_Ka_ba : h.size ≤ ba := by rw [g1]; exact Ka.1
  have Ka : Keep h h1 [] := Ka.ext E1
  have V1 : Arv Z h1 ba kb .byte 1 [.int 0] (.int 0) := V1
  refine go_dup (q := 4) d2_3 rfl rfl ?_
  refine go_iconst (x := (0 : Int32)) (q := 5) d2_4 rfl rfl ?_
  refine go_iloadN (v := c) (q := 6) d2_5 rfl rfl ?_
  refine go_i2b (r := c.toInt8.toInt32) (q := 7) d2_6 rfl rfl ?_
  refine go_bastore (i := 0) (y := c.toInt8.toInt32) (q := 8) V1 (by decide) rfl (Nat.le_of_ble_eq_true rfl) (by simp) (show (c.toInt8.toInt32).toInt8.toInt32 = c.toInt8.toInt32 by simp) d2_7 rfl ?_
  intro h2 K2 z2 V2
  have Ka : Keep h h2 [] := kfresh Ka K2 f_Ka_ba
  exact go_areturn H (G := []) (t := (.array .byte)) rfl rfl rfl d2_8 (by decide) (by decide) (fun _ q => nomatch q) ⟨ba, kb, rfl, f_Ka_ba, Ka, V2⟩
set_option maxRecDepth 65536 in
set_option maxHeartbeats 4000000 in
theorem rm_initBB {l : Launch} {Z : State} {a0 : Array Value} (H : Wd Z a0) {h : Heap} {F : List Addr} {x ba : Addr} {kb : ClassId} {cs : List Int32} (E : Exa Z h x ST) (C : Fld Z h x ST "coder" "B" (.int 0)) (Vv : Fld Z h x ST "value" "[B" .null) (A : Arv Z h ba kb .byte (Int32.ofNat cs.length) (bts cs) (.int 0)) (hl : Lat cs) (hx : x ∉ F) (hb : ba ∉ F) : Met l Z (⟨"java/lang/String", "<init>", "([BB)V"⟩ : MethodName) jdk_42_method_151_code 3 none ({ frames := 1, cells := 0, slots := 0, locals := 12 } : Room) h (x :: F) #[.ref x, .ref ba, .int 0] (fun v h' G => v = none ∧ Keep h h' [x] ∧ Str Z h' F x cs) := by
  refine Met.mk (L := #[.val (.ref x), .val (.ref ba), .val (.int 0)]) (by decide +kernel) (fun m => by first | (simp [entryFrame, mkF, argsToLocals, Value.category]; done) | rfl) (fun K => ?_)
  show Go _ _ K "java/lang/String" "<init>" _ _ _ _ _ _ _ _ _ 0 _ _
  have sne : RoadKit.slotOf Z ST "value" "[B" ≠ RoadKit.slotOf Z ST "coder" "B" := slot_ne (C := ST) (Or.inr (w_23 H)) (Or.inr (w_25 H)) (by decide) (t := .array .byte) (t' := .byte) (by decide) (by decide)
  have nxb : ba ≠ x := (E.neArv A (w_10 H)).symm
  refine go_aloadN (v := .ref x) (q := 1) d3_0 rfl rfl rfl ?_
  refine go_initO (q := 4) (w_19 H) (w_20 H) (w_21 H) rfl d3_1 rfl (by decide) (Nat.le_of_ble_eq_true rfl) ?_
  refine go_aloadN (v := .ref x) (q := 5) d3_4 rfl rfl rfl ?_
  refine go_aloadN (v := .ref ba) (q := 6) d3_5 rfl rfl rfl ?_
  refine go_putfield (q := 9) (w_22 H) Via.refl Vv E (Or.inr ⟨(w_23 H), rfl, rfl⟩) (w_10 H) (ty := (.array .byte)) (by decide) rfl rfl (by simp) d3_6 rfl ?_
  intro h1 W1
  refine go_aloadN (v := .ref x) (q := 10) d3_9 rfl rfl rfl ?_
  refine go_iloadN (v := 0) (q := 11) d3_10 rfl rfl ?_
  refine go_putfield (q := 14) (w_24 H) Via.refl (C.other W1 (Or.inr sne.symm)) (E.wr W1) (Or.inr ⟨(w_25 H), rfl, rfl⟩) (w_10 H) (ty := .byte) (by decide) rfl rfl (by simp) d3_11 rfl ?_
  intro h2 W2
  exact go_return H (G := []) rfl d3_14 (by decide) (by decide) (fun _ q => nomatch q) ⟨rfl, (Keep.of_wr W1).wr W2 (Or.inl (by simp)), (E.wr W1).wr W2, (C.other W1 (Or.inr sne.symm)).same W2, hx, hl, ba, kb, hb, (Vv.same W1).other W2 (Or.inr sne), (A.other W1 nxb).other W2 nxb⟩
set_option maxRecDepth 65536 in
set_option maxHeartbeats 4000000 in
theorem rm_vofC {l : Launch} {Z : State} {a0 : Array Value} (H : Wd Z a0) {h : Heap} {F : List Addr} {c : Int32} (hc : ¬ c < 0 ∧ ¬ 255 < c) (hFl : ∀ x ∈ F, x < h.size) : Met l Z (⟨"java/lang/String", "valueOf", "(C)Ljava/lang/String;"⟩ : MethodName) jdk_42_method_139_code 1 (some (.object "java/lang/String")) ({ frames := 2, cells := 2, slots := 5, locals := 27 } : Room) h F #[.int c] (fun v h' G => ∃ a, v = some (.ref a) ∧ Keep h h' [] ∧ Str Z h' F a [c]) := by
  refine Met.mk (L := #[.val (.int c)]) (by decide +kernel) (fun m => by first | (simp [entryFrame, mkF, argsToLocals, Value.category]; done) | rfl) (fun K => ?_)
  show Go _ _ K "java/lang/String" "valueOf" _ _ _ _ _ _ _ _ _ 0 _ _
  have Ka : Keep h h [] := Keep.refl _ _
  obtain ⟨cz, Sz, nz⟩ := H.2.2.2.1
  refine go_getstatic (v := .int cz) (q := 3) (w_4 H) Via.refl Sz d0_0 rfl ?_
  refine go_ifN (q := 6) d0_3 nz rfl ?_
  refine go_iloadN (v := c) (q := 7) d0_6 rfl rfl ?_
  refine go_static (c' := 0) (s' := 0) (q := 10) (S := []) (argsL := [.int c]) H (w_5 H) (w_6 H) (w_7 H) (w_8 H) (by decide) (rm_canE H hc.2) rfl rfl (lenOf pd_10 rfl) (fun _ q => nomatch q) rfl (by decide) (Nat.le_of_ble_eq_true rfl) rfl rfl (by decide) (by decide) d0_7 rfl ?_
  rintro _ _ G - ⟨rfl, rfl⟩
  refine nx_ (v := none) ?_
  show Go _ _ _ _ _ _ _ _ _ _ _ _ _ _ 10 #[.val (.int c)] [.int 1]
  refine go_ifN (q := 13) d0_10 (by decide) rfl ?_
  refine go_new (c' := 1) (s' := 4) (q := 16) (w_9 H) (w_10 H) (w_2 H) d0_13 rfl rfl rfl (by decide) (by decide) ?_
  intro h1 x g1 E1 A1 D1
  have f_Ka_x : h.size ≤ x := by rw [g1]; exact Ka.1
  have Ka : Keep h h1 [] := Ka.ext E1
  have C1 : Fld Z h1 x ST "coder" "B" (.int 0) := D1 (Or.inr (w_25 H)) (ty := .byte) (by decide)
  have V1 : Fld Z h1 x ST "value" "[B" .null := D1 (Or.inr (w_23 H)) (ty := .array .byte) (by decide)
  refine go_dup (q := 17) d0_16 rfl rfl ?_
  refine go_iloadN (v := c) (q := 18) d0_17 rfl rfl ?_
  refine go_static (c' := 2) (s' := 5) (q := 21) (S := [.ref x, .ref x]) (argsL := [.int c]) H (w_11 H) (w_12 H) (w_7 H) (w_13 H) (by decide) (rm_toB H) rfl rfl (lenOf pd_11 rfl) (fun _ q => nomatch q) rfl (by decide) (Nat.le_of_ble_eq_true rfl) rfl rfl (by decide) (by decide) d0_18 rfl ?_
  rintro _ h2 G - ⟨ba, kb, rfl, gb, K2, B2⟩
  refine nx_ (v := none) ?_
  have Ka : Keep h h2 [] := Ka.trans K2 (fun _ q => nomatch q)
  show Go _ _ _ _ _ _ _ _ _ _ _ _ _ _ 21 #[.val (.int c)] [.ref ba, .ref x, .ref x]
  have nF : x ∉ F := fun q => absurd (hFl x q) (Nat.not_lt.mpr f_Ka_x)
  have nb : ba ∉ F := fun q => absurd (hFl ba q) (Nat.not_lt.mpr (Nat.le_trans E1.1 gb))
  refine go_iconst (x := (0 : Int32)) (q := 22) d0_21 rfl rfl ?_
  refine go_special (c' := 2) (s' := 5) (q := 25) (S := [.ref x]) (argsL := [.ref ba, .int (0 : Int32)]) H rfl (w_15 H) (w_16 H) (w_2 H) (w_18 H) (by decide) (rm_initBB H (cs := [c]) (A1.keep K2) (C1.keep K2 nin0) (V1.keep K2 nin0) B2 ⟨Nat.le_of_ble_eq_true rfl, by intro d hd; simp only [List.mem_cons, List.not_mem_nil, or_false] at hd; subst hd; exact hc⟩ nF nb) rfl rfl (lenOf pd_12 rfl) (by intro z hz; simp only [List.mem_cons, List.not_mem_nil, or_false] at hz ⊢; first | exact hz | exact Or.inl hz | (rcases hz with hz | hz <;> simp [hz]; done) | (rcases hz with rfl | rfl <;> simp)) rfl (by decide) (Nat.le_of_ble_eq_true rfl) rfl rfl (by decide) (by decide) d0_22 rfl ?_
  rintro _ h3 G - ⟨rfl, K3, S⟩
  refine nx_ (v := none) ?_
  have Ka : Keep h h3 [] := kfresh Ka K3 f_Ka_x
  show Go _ _ _ _ _ _ _ _ _ _ _ _ _ _ 25 #[.val (.int c)] [.ref x]
  exact go_areturn H (G := []) (t := (.object "java/lang/String")) rfl rfl rfl d0_25 (by decide) (by decide) (fun _ q => nomatch q) ⟨x, rfl, Ka, S⟩
set_option maxRecDepth 65536 in
set_option maxHeartbeats 4000000 in
theorem rm_asbI {l : Launch} {Z : State} {a0 : Array Value} (H : Wd Z a0) {h : Heap} {x : Addr} {n : Nat} (E : Exa Z h x SBN) (Vv : Fld Z h x ABN "value" "[B" .null) (C : Fld Z h x ABN "coder" "B" (.int 0)) (N : Fld Z h x ABN "count" "I" (.int 0)) (hn : n ≤ 16) : Met l Z (⟨"java/lang/AbstractStringBuilder", "<init>", "(I)V"⟩ : MethodName) jdk_68_method_2_code 2 none ({ frames := 1, cells := 1, slots := 16, locals := 12 } : Room) h [x] #[.ref x, .int (Int32.ofNat n)] (fun u h' G => ∃ v, u = none ∧ G = [v] ∧ h.size ≤ v ∧ Keep h h' [x] ∧ SBd Z h' x v n []) := by
  refine Met.mk (L := #[.val (.ref x), .val (.int (Int32.ofNat n))]) (by decide +kernel) (fun m => by first | (simp [entryFrame, mkF, argsToLocals, Value.category]; done) | rfl) (fun K => ?_)
  show Go _ _ K "java/lang/AbstractStringBuilder" "<init>" _ _ _ _ _ _ _ _ _ 0 _ _
  obtain ⟨cz, Sz, nz⟩ := H.2.2.2.1
  have s1 : RoadKit.slotOf Z ABN "value" "[B" ≠ RoadKit.slotOf Z ABN "coder" "B" := slot_ne (C := SBN) (Or.inl (w_66 H)) (Or.inl (w_68 H)) (by decide) (t := .array .byte) (t' := .byte) (by decide) (by decide)
  have s2 : RoadKit.slotOf Z ABN "value" "[B" ≠ RoadKit.slotOf Z ABN "count" "I" := slot_ne (C := SBN) (Or.inl (w_66 H)) (Or.inl (w_93 H)) (by decide) (t := .array .byte) (t' := .int) (by decide) (by decide)
  have s3 : RoadKit.slotOf Z ABN "coder" "B" ≠ RoadKit.slotOf Z ABN "count" "I" := slot_ne (C := SBN) (Or.inl (w_68 H)) (Or.inl (w_93 H)) (by decide) (t := .byte) (t' := .int) (by decide) (by decide)
  refine go_aloadN (v := .ref x) (q := 1) d12_0 rfl rfl rfl ?_
  refine go_initO (q := 4) (w_63 H) (w_20 H) (w_21 H) rfl d12_1 rfl (by decide) (Nat.le_of_ble_eq_true rfl) ?_
  refine go_getstatic (v := .int cz) (q := 7) (w_64 H) Via.refl Sz d12_4 rfl ?_
  refine go_ifN (q := 10) d12_7 nz rfl ?_
  refine go_aloadN (v := .ref x) (q := 11) d12_10 rfl rfl rfl ?_
  refine go_iloadN (v := (Int32.ofNat n)) (q := 12) d12_11 rfl rfl ?_
  refine go_newarray (ty := .byte) (dv := .int 0) (n := n) (cap := 16) (ad := "[B") (c' := 1) (s' := 16) (q := 14) rfl rfl (cl_ofNat (by omega)) (w_14 H) d12_12 (nn_ofNat (by omega)) hn (by decide) rfl rfl rfl rfl (by decide) (by decide) ?_
  intro h1 v k g1 E1 V1 X1
  have nxv : v ≠ x := ((E.ext E1).neArv V1 (w_52 H)).symm
  refine go_putfield (q := 17) (w_65 H) Via.refl (Vv.ext E1) (E.ext E1) (Or.inl (w_66 H)) (w_52 H) (ty := (.array .byte)) (by decide) rfl rfl (by simp) d12_14 rfl ?_
  intro h2 W2
  refine go_aloadN (v := .ref x) (q := 18) d12_17 rfl rfl rfl ?_
  refine go_iconst (x := (0 : Int32)) (q := 19) d12_18 rfl rfl ?_
  refine go_putfield (q := 22) (w_67 H) Via.refl ((C.ext E1).other W2 (Or.inr s1.symm)) ((E.ext E1).wr W2) (Or.inl (w_68 H)) (w_52 H) (ty := .byte) (by decide) rfl rfl (by simp) d12_19 rfl ?_
  intro h3 W3
  refine go_goto (q := 38) d12_22 (by decide) (by decide) ?_
  have Kp : Keep h h3 [x] := (((Keep.refl h [x]).ext E1).wr W2 (Or.inl (by simp))).wr W3 (Or.inl (by simp))
  have Ar : Arv Z h3 v k .byte (Int32.ofNat n) (bts [] ++ zs (n - ([] : List Int32).length)) (.int 0) := (V1.other W2 nxv).other W3 nxv
  exact go_return H (G := [v]) rfl d12_38 (by decide) (by decide) (by simp) ⟨v, rfl, rfl, by rw [g1]; exact Nat.le_refl _, Kp, ((E.ext E1).wr W2).wr W3, (((Vv.ext E1).same W2).other W3 (Or.inr s1)), (((C.ext E1).other W2 (Or.inr s1.symm)).same W3), (((N.ext E1).other W2 (Or.inr s2.symm)).other W3 (Or.inr s3.symm)), ⟨by decide, by intro c hc; cases hc⟩, Nat.zero_le _, by omega, k, Ar⟩
set_option maxRecDepth 65536 in
set_option maxHeartbeats 4000000 in
theorem rm_sbI {l : Launch} {Z : State} {a0 : Array Value} (H : Wd Z a0) {h : Heap} {x : Addr} (E : Exa Z h x SBN) (Vv : Fld Z h x ABN "value" "[B" .null) (C : Fld Z h x ABN "coder" "B" (.int 0)) (N : Fld Z h x ABN "count" "I" (.int 0)) : Met l Z (⟨"java/lang/StringBuilder", "<init>", "()V"⟩ : MethodName) jdk_67_method_1_code 1 none ({ frames := 2, cells := 1, slots := 16, locals := 25 } : Room) h [x] #[.ref x] (fun u h' G => ∃ v, u = none ∧ G = [v] ∧ h.size ≤ v ∧ Keep h h' [x] ∧ SBd Z h' x v 16 []) := by
  refine Met.mk (L := #[.val (.ref x)]) (by decide +kernel) (fun m => by first | (simp [entryFrame, mkF, argsToLocals, Value.category]; done) | rfl) (fun K => ?_)
  show Go _ _ K "java/lang/StringBuilder" "<init>" _ _ _ _ _ _ _ _ _ 0 _ _
  refine go_aloadN (v := .ref x) (q := 1) d11_0 rfl rfl rfl ?_
  refine go_bipush (x := (16 : Int32)) (q := 3) d11_1 rfl rfl ?_
  refine go_special (c' := 1) (s' := 16) (q := 6) (S := []) (argsL := [.int (16 : Int32)]) H rfl (w_57 H) (w_58 H) (w_61 H) (w_62 H) (by decide) (rm_asbI H (n := 16) E Vv C N (by decide)) rfl rfl (lenOf pd_13 rfl) (fun _ q => q) rfl (by decide) (Nat.le_of_ble_eq_true rfl) rfl rfl (by decide) (by decide) d11_3 rfl ?_
  rintro _ h1 G - ⟨v, rfl, rfl, gv, K1, S1⟩
  refine ⟨[v], fun _ q => Or.inl q, ?_⟩
  show Go _ _ _ _ _ _ _ _ _ _ _ _ _ _ 6 #[.val (.ref x)] []
  exact go_return H (G := [v]) rfl d11_6 (by decide) (by decide) (fun _ q => q) ⟨v, rfl, rfl, gv, K1, S1⟩
set_option maxRecDepth 65536 in
set_option maxHeartbeats 4000000 in
theorem rm_ens {l : Launch} {Z : State} {a0 : Array Value} (H : Wd Z a0) {h : Heap} {x v : Addr} {cap n : Nat} {cs : List Int32} (S : SBd Z h x v cap cs) (hn : n ≤ cap) : Met l Z (⟨"java/lang/AbstractStringBuilder", "ensureCapacityInternal", "(I)V"⟩ : MethodName) jdk_68_method_9_code 3 none ({ frames := 0, cells := 0, slots := 0, locals := 0 } : Room) h [] #[.ref x, .int (Int32.ofNat n)] (fun u h' G => u = none ∧ h = h') := by
  refine Met.mk (L := #[.val (.ref x), .val (.int (Int32.ofNat n)), .unset]) (by decide +kernel) (fun m => by first | (simp [entryFrame, mkF, argsToLocals, Value.category]; done) | rfl) (fun K => ?_)
  show Go _ _ K "java/lang/AbstractStringBuilder" "ensureCapacityInternal" _ _ _ _ _ _ _ _ _ 0 _ _
  obtain ⟨E, Vv, C, N, hl, l1, l2, k, A⟩ := S
  refine go_aloadN (v := .ref x) (q := 1) d17_0 rfl rfl rfl ?_
  refine go_getfield (v := .ref v) (q := 4) (w_65 H) Via.refl Vv d17_1 rfl ?_
  refine go_arraylength (z := (Int32.ofNat cap)) (q := 5) A d17_4 rfl ?_
  refine go_aloadN (v := .ref x) (q := 6) d17_5 rfl rfl rfl ?_
  refine go_getfield (v := .int 0) (q := 9) (w_67 H) Via.refl C d17_6 rfl ?_
  refine go_ishr (r := (Int32.ofNat cap)) (q := 10) d17_9 (shr0 _) rfl ?_
  refine go_istoreN (L' := #[.val (.ref x), .val (.int (Int32.ofNat n)), .val (.int (Int32.ofNat cap))]) (q := 11) d17_10 rfl rfl ?_
  refine go_iloadN (v := (Int32.ofNat n)) (q := 12) d17_11 rfl rfl ?_
  refine go_iloadN (v := (Int32.ofNat cap)) (q := 13) d17_12 rfl rfl ?_
  refine go_isub (r := (Int32.ofNat n) - (Int32.ofNat cap)) (q := 14) d17_13 rfl rfl ?_
  refine go_ifY (q := 38) d17_14 (not_pos_sub hn (by omega)) (by decide) (by decide) ?_
  exact go_return H (G := []) rfl d17_38 (by decide) (by decide) (fun _ q => nomatch q) ⟨rfl, rfl⟩
set_option maxRecDepth 65536 in
set_option maxHeartbeats 4000000 in
theorem rm_infl {l : Launch} {Z : State} {a0 : Array Value} (H : Wd Z a0) {h : Heap} {F : List Addr} {x a : Addr} {cs : List Int32} (C : Fld Z h x ABN "coder" "B" (.int 0)) (S : Str Z h F a cs) : Met l Z (⟨"java/lang/AbstractStringBuilder", "inflateIfNeededFor", "(Ljava/lang/String;)V"⟩ : MethodName) jdk_68_method_71_code 2 none ({ frames := 1, cells := 0, slots := 0, locals := 13 } : Room) h [] #[.ref x, .ref a] (fun u h' G => u = none ∧ h = h') := by
  refine Met.mk (L := #[.val (.ref x), .val (.ref a)]) (by decide +kernel) (fun m => by first | (simp [entryFrame, mkF, argsToLocals, Value.category]; done) | rfl) (fun K => ?_)
  show Go _ _ K "java/lang/AbstractStringBuilder" "inflateIfNeededFor" _ _ _ _ _ _ _ _ _ 0 _ _
  obtain ⟨cz, Sz, nz⟩ := H.2.2.2.1
  refine go_getstatic (v := .int cz) (q := 3) (w_64 H) Via.refl Sz d19_0 rfl ?_
  refine go_ifN (q := 6) d19_3 nz rfl ?_
  refine go_aloadN (v := .ref x) (q := 7) d19_6 rfl rfl rfl ?_
  refine go_getfield (v := .int 0) (q := 10) (w_67 H) Via.refl C d19_7 rfl ?_
  refine go_aloadN (v := .ref a) (q := 11) d19_10 rfl rfl rfl ?_
  refine go_virtual (c' := 0) (s' := 0) (q := 14) (S := [.int 0]) (argsL := []) H (C := "java/lang/String") (w_109 H) (w_88 H) (nf_self (w_90 H)) (w_90 H) (w_89 H) (w_2 H) (w_91 H) (by decide) S.exa (rm_coder H S.2.1) rfl rfl (lenOf pd_5 rfl) (fun _ q => nomatch q) rfl (by decide) (Nat.le_of_ble_eq_true rfl) rfl rfl (by decide) (by decide) d19_11 rfl ?_
  rintro _ _ G - ⟨rfl, rfl⟩
  refine nx_ (v := none) ?_
  show Go _ _ _ _ _ _ _ _ _ _ _ _ _ _ 14 #[.val (.ref x), .val (.ref a)] [.int 0, .int 0]
  refine go_icY (q := 21) d19_14 rfl (by decide) (by decide) ?_
  exact go_return H (G := []) rfl d19_21 (by decide) (by decide) (fun _ q => nomatch q) ⟨rfl, rfl⟩
set_option maxRecDepth 65536 in
set_option maxHeartbeats 4000000 in
theorem rm_getB {l : Launch} {Z : State} {a0 : Array Value} (H : Wd Z a0) {h : Heap} {F : List Addr} {a v : Addr} {k : ClassId} {cap : Nat} {cs ds : List Int32} (S : Str Z h F a ds) (A : Arv Z h v k .byte (Int32.ofNat cap) (bts cs ++ zs (cap - cs.length)) (.int 0)) (hb : cs.length + ds.length ≤ cap) (hcap : cap ≤ 4096) : Met l Z (⟨"java/lang/String", "getBytes", "([BIB)V"⟩ : MethodName) jdk_42_method_147_code 4 none ({ frames := 1, cells := 0, slots := 0, locals := 40 } : Room) h [v] #[.ref a, .ref v, .int (Int32.ofNat cs.length), .int 0] (fun u h' G => u = none ∧ Keep h h' [v] ∧ Arv Z h' v k .byte (Int32.ofNat cap) (bts (cs ++ ds) ++ zs (cap - (cs ++ ds).length)) (.int 0)) := by
  refine Met.mk (L := #[.val (.ref a), .val (.ref v), .val (.int (Int32.ofNat cs.length)), .val (.int 0)]) (by decide +kernel) (fun m => by first | (simp [entryFrame, mkF, argsToLocals, Value.category]; done) | rfl) (fun K => ?_)
  show Go _ _ K "java/lang/String" "getBytes" _ _ _ _ _ _ _ _ _ 0 _ _
  obtain ⟨E, C, ha, hl, bb, kb, hbb, Vv, B⟩ := S
  refine go_aloadN (v := .ref a) (q := 1) d20_0 rfl rfl rfl ?_
  refine go_virtual (c' := 0) (s' := 0) (q := 4) (S := []) (argsL := []) H (C := "java/lang/String") (w_87 H) (w_88 H) (nf_self (w_90 H)) (w_90 H) (w_89 H) (w_2 H) (w_91 H) (by decide) E (rm_coder H C) rfl rfl (lenOf pd_5 rfl) (fun _ q => nomatch q) rfl (by decide) (Nat.le_of_ble_eq_true rfl) rfl rfl (by decide) (by decide) d20_1 rfl ?_
  rintro _ _ G - ⟨rfl, rfl⟩
  refine nx_ (v := none) ?_
  show Go _ _ _ _ _ _ _ _ _ _ _ _ _ _ 4 #[.val (.ref a), .val (.ref v), .val (.int (Int32.ofNat cs.length)), .val (.int 0)] [.int 0]
  refine go_iloadN (v := 0) (q := 5) d20_4 rfl rfl ?_
  refine go_icN (q := 8) d20_5 rfl rfl ?_
  refine go_aloadN (v := .ref a) (q := 9) d20_8 rfl rfl rfl ?_
  refine go_getfield (v := .ref bb) (q := 12) (w_22 H) Via.refl Vv d20_9 rfl ?_
  refine go_iconst (x := (0 : Int32)) (q := 13) d20_12 rfl rfl ?_
  refine go_aloadN (v := .ref v) (q := 14) d20_13 rfl rfl rfl ?_
  refine go_iloadN (v := (Int32.ofNat cs.length)) (q := 15) d20_14 rfl rfl ?_
  refine go_iloadN (v := 0) (q := 16) d20_15 rfl rfl ?_
  refine go_ishl (r := (Int32.ofNat cs.length)) (q := 17) d20_16 (shl0 _) rfl ?_
  refine go_aloadN (v := .ref a) (q := 18) d20_17 rfl rfl rfl ?_
  refine go_getfield (v := .ref bb) (q := 21) (w_22 H) Via.refl Vv d20_18 rfl ?_
  refine go_arraylength (z := (Int32.ofNat ds.length)) (q := 22) B d20_21 rfl ?_
  refine go_arraycopy (q := 25) (us := bts ds) (w_115 H) (w_118 H) (w_116 H) (w_117 H) B A rfl (by decide) (nn_ofNat (by omega)) (nn_ofNat (by omega)) (by rw [cl_ofNat (by omega)]; exact Nat.le_of_eq (Nat.zero_add _)) (by rw [cl_ofNat (by omega), cl_ofNat (by omega), cl_ofNat (by omega)]; exact hb) (by rw [cl_ofNat (by omega), show (0 : Int32).toNatClampNeg = 0 from rfl]; simp only [Nat.zero_add]; exact (us_eq ds).symm) (by rw [cl_ofNat (by omega), cl_ofNat (by omega), List.length_append, bts_len, List.length_replicate]; omega) (by simp) rfl (by decide) (Nat.le_of_ble_eq_true rfl) d20_22 rfl ?_
  intro h1 K1 V1
  rw [cl_ofNat (by omega), cl_ofNat (by omega), cat_eq hb] at V1
  refine go_goto (q := 43) d20_25 (by decide) (by decide) ?_
  exact go_return H (G := []) rfl d20_43 (by decide) (by decide) (fun _ q => nomatch q) ⟨rfl, K1, V1⟩
set_option maxRecDepth 65536 in
set_option maxHeartbeats 4000000 in
theorem rm_putS {l : Launch} {Z : State} {a0 : Array Value} (H : Wd Z a0) {h : Heap} {F : List Addr} {x a v : Addr} {cap : Nat} {cs ds : List Int32} (S : Str Z h F a ds) (B : SBd Z h x v cap cs) (hb : cs.length + ds.length ≤ cap) : Met l Z (⟨"java/lang/AbstractStringBuilder", "putStringAt", "(ILjava/lang/String;)V"⟩ : MethodName) jdk_68_method_73_code 3 none ({ frames := 2, cells := 0, slots := 0, locals := 55 } : Room) h [v] #[.ref x, .int (Int32.ofNat cs.length), .ref a] (fun u h' G => u = none ∧ Keep h h' [v] ∧ ∃ k, Arv Z h' v k .byte (Int32.ofNat cap) (bts (cs ++ ds) ++ zs (cap - (cs ++ ds).length)) (.int 0)) := by
  refine Met.mk (L := #[.val (.ref x), .val (.int (Int32.ofNat cs.length)), .val (.ref a)]) (by decide +kernel) (fun m => by first | (simp [entryFrame, mkF, argsToLocals, Value.category]; done) | rfl) (fun K => ?_)
  show Go _ _ K "java/lang/AbstractStringBuilder" "putStringAt" _ _ _ _ _ _ _ _ _ 0 _ _
  obtain ⟨E, Vv, C, N, hl, l1, l2, k, A⟩ := B
  refine go_aloadN (v := .ref x) (q := 1) d18_0 rfl rfl rfl ?_
  refine go_aloadN (v := .ref a) (q := 2) d18_1 rfl rfl rfl ?_
  refine go_virtual (c' := 0) (s' := 0) (q := 5) (S := []) (argsL := [.ref a]) H (C := "java/lang/StringBuilder") (w_104 H) (decl_of (w_105 H) (w_108 H)) (nf_self (w_107 H)) (w_107 H) (w_105 H) (w_61 H) (w_108 H) (by decide) E (rm_infl H C S) rfl rfl (lenOf pd_14 rfl) (fun _ q => nomatch q) rfl (by decide) (Nat.le_of_ble_eq_true rfl) rfl rfl (by decide) (by decide) d18_2 rfl ?_
  rintro _ _ G - ⟨rfl, rfl⟩
  refine nx_ (v := none) ?_
  show Go _ _ _ _ _ _ _ _ _ _ _ _ _ _ 5 #[.val (.ref x), .val (.int (Int32.ofNat cs.length)), .val (.ref a)] []
  refine go_aloadN (v := .ref a) (q := 6) d18_5 rfl rfl rfl ?_
  refine go_aloadN (v := .ref x) (q := 7) d18_6 rfl rfl rfl ?_
  refine go_getfield (v := .ref v) (q := 10) (w_65 H) Via.refl Vv d18_7 rfl ?_
  refine go_iloadN (v := (Int32.ofNat cs.length)) (q := 11) d18_10 rfl rfl ?_
  refine go_aloadN (v := .ref x) (q := 12) d18_11 rfl rfl rfl ?_
  refine go_getfield (v := .int 0) (q := 15) (w_67 H) Via.refl C d18_12 rfl ?_
  refine go_virtual (c' := 0) (s' := 0) (q := 18) (S := []) (argsL := [.ref v, .int (Int32.ofNat cs.length), .int 0]) H (C := "java/lang/String") (w_110 H) (w_111 H) (nf_self (w_113 H)) (w_113 H) (w_112 H) (w_2 H) (w_114 H) (by decide) S.exa (rm_getB H S A hb l2) rfl rfl (lenOf pd_15 rfl) (fun _ q => q) rfl (by decide) (Nat.le_of_ble_eq_true rfl) rfl rfl (by decide) (by decide) d18_15 rfl ?_
  rintro _ h1 G - ⟨rfl, K1, V1⟩
  refine nx_ (v := none) ?_
  show Go _ _ _ _ _ _ _ _ _ _ _ _ _ _ 18 #[.val (.ref x), .val (.int (Int32.ofNat cs.length)), .val (.ref a)] []
  exact go_return H (G := []) rfl d18_18 (by decide) (by decide) (fun _ q => nomatch q) ⟨rfl, K1, k, V1⟩
set_option maxRecDepth 65536 in
set_option maxHeartbeats 4000000 in
theorem rm_appA {l : Launch} {Z : State} {a0 : Array Value} (H : Wd Z a0) {h : Heap} {F : List Addr} {x a v : Addr} {cap : Nat} {cs ds : List Int32} (S : Str Z h F a ds) (B : SBd Z h x v cap cs) (hb : cs.length + ds.length ≤ cap) : Met l Z (⟨"java/lang/AbstractStringBuilder", "append", "(Ljava/lang/String;)Ljava/lang/AbstractStringBuilder;"⟩ : MethodName) jdk_68_method_22_code 3 (some (.object "java/lang/AbstractStringBuilder")) ({ frames := 3, cells := 0, slots := 0, locals := 70 } : Room) h [x, v] #[.ref x, .ref a] (fun u h' G => u = some (.ref x) ∧ Keep h h' [x, v] ∧ SBd Z h' x v cap (cs ++ ds)) := by
  refine Met.mk (L := #[.val (.ref x), .val (.ref a), .unset]) (by decide +kernel) (fun m => by first | (simp [entryFrame, mkF, argsToLocals, Value.category]; done) | rfl) (fun K => ?_)
  show Go _ _ K "java/lang/AbstractStringBuilder" "append" _ _ _ _ _ _ _ _ _ 0 _ _
  have B0 := B
  obtain ⟨E, Vv, C, N, hl, l1, l2, k, A⟩ := B
  have s2 : RoadKit.slotOf Z ABN "value" "[B" ≠ RoadKit.slotOf Z ABN "count" "I" := slot_ne (C := SBN) (Or.inl (w_66 H)) (Or.inl (w_93 H)) (by decide) (t := .array .byte) (t' := .int) (by decide) (by decide)
  have s3 : RoadKit.slotOf Z ABN "coder" "B" ≠ RoadKit.slotOf Z ABN "count" "I" := slot_ne (C := SBN) (Or.inl (w_68 H)) (Or.inl (w_93 H)) (by decide) (t := .byte) (t' := .int) (by decide) (by decide)
  have nxv : v ≠ x := (E.neArv A (w_52 H)).symm
  refine go_aloadN (v := .ref a) (q := 1) d14_0 rfl rfl rfl ?_
  refine go_nnY (q := 9) d14_1 (by decide) (by decide) ?_
  refine go_aloadN (v := .ref a) (q := 10) d14_9 rfl rfl rfl ?_
  refine go_virtual (c' := 0) (s' := 0) (q := 13) (S := []) (argsL := []) H (C := "java/lang/String") (w_82 H) (w_83 H) (nf_self (w_85 H)) (w_85 H) (w_84 H) (w_2 H) (w_86 H) (by decide) S.exa (rm_len H S) rfl rfl (lenOf pd_16 rfl) (fun _ q => nomatch q) rfl (by decide) (Nat.le_of_ble_eq_true rfl) rfl rfl (by decide) (by decide) d14_10 rfl ?_
  rintro _ _ G - ⟨rfl, rfl⟩
  refine nx_ (v := none) ?_
  show Go _ _ _ _ _ _ _ _ _ _ _ _ _ _ 13 #[.val (.ref x), .val (.ref a), .unset] [.int (Int32.ofNat ds.length)]
  refine go_istoreN (L' := #[.val (.ref x), .val (.ref a), .val (.int (Int32.ofNat ds.length))]) (q := 14) d14_13 rfl rfl ?_
  refine go_aloadN (v := .ref x) (q := 15) d14_14 rfl rfl rfl ?_
  refine go_aloadN (v := .ref x) (q := 16) d14_15 rfl rfl rfl ?_
  refine go_getfield (v := .int (Int32.ofNat cs.length)) (q := 19) (w_92 H) Via.refl N d14_16 rfl ?_
  refine go_iloadN (v := (Int32.ofNat ds.length)) (q := 20) d14_19 rfl rfl ?_
  refine go_iadd (r := (Int32.ofNat (cs.length + ds.length))) (q := 21) d14_20 (add_ofNat _ _) rfl ?_
  refine go_virtual (c' := 0) (s' := 0) (q := 24) (S := []) (argsL := [.int (Int32.ofNat (cs.length + ds.length))]) H (C := "java/lang/StringBuilder") (w_94 H) (decl_of (w_95 H) (w_98 H)) (nf_self (w_97 H)) (w_97 H) (w_95 H) (w_61 H) (w_98 H) (by decide) E (rm_ens H B0 hb) rfl rfl (lenOf pd_13 rfl) (fun _ q => nomatch q) rfl (by decide) (Nat.le_of_ble_eq_true rfl) rfl rfl (by decide) (by decide) d14_21 rfl ?_
  rintro _ _ G - ⟨rfl, rfl⟩
  refine nx_ (v := none) ?_
  show Go _ _ _ _ _ _ _ _ _ _ _ _ _ _ 24 #[.val (.ref x), .val (.ref a), .val (.int (Int32.ofNat ds.length))] []
  refine go_aloadN (v := .ref x) (q := 25) d14_24 rfl rfl rfl ?_
  refine go_aloadN (v := .ref x) (q := 26) d14_25 rfl rfl rfl ?_
  refine go_getfield (v := .int (Int32.ofNat cs.length)) (q := 29) (w_92 H) Via.refl N d14_26 rfl ?_
  refine go_aloadN (v := .ref a) (q := 30) d14_29 rfl rfl rfl ?_
  refine go_virtual (c' := 0) (s' := 0) (q := 33) (S := []) (argsL := [.int (Int32.ofNat cs.length), .ref a]) H (C := "java/lang/StringBuilder") (w_99 H) (decl_of (w_100 H) (w_103 H)) (nf_self (w_102 H)) (w_102 H) (w_100 H) (w_61 H) (w_103 H) (by decide) E (rm_putS H S B0 hb) rfl rfl (lenOf pd_17 rfl) (by simp) rfl (by decide) (Nat.le_of_ble_eq_true rfl) rfl rfl (by decide) (by decide) d14_30 rfl ?_
  rintro _ h1 G - ⟨rfl, K1, k1, V1⟩
  refine nx_ (v := none) ?_
  show Go _ _ _ _ _ _ _ _ _ _ _ _ _ _ 33 #[.val (.ref x), .val (.ref a), .val (.int (Int32.ofNat ds.length))] []
  refine go_aloadN (v := .ref x) (q := 34) d14_33 rfl rfl rfl ?_
  refine go_dup (q := 35) d14_34 rfl rfl ?_
  refine go_getfield (v := .int (Int32.ofNat cs.length)) (q := 38) (w_92 H) Via.refl (N.keep K1 (ninS nxv.symm nin0)) d14_35 rfl ?_
  refine go_iloadN (v := (Int32.ofNat ds.length)) (q := 39) d14_38 rfl rfl ?_
  refine go_iadd (r := (Int32.ofNat (cs ++ ds).length)) (q := 40) d14_39 ((add_ofNat _ _).trans (by rw [List.length_append])) rfl ?_
  refine go_putfield (q := 43) (w_92 H) Via.refl (N.keep K1 (ninS nxv.symm nin0)) (E.keep K1) (Or.inl (w_93 H)) (w_52 H) (ty := .int) (by decide) rfl rfl (by simp) d14_40 rfl ?_
  intro h2 W2
  have Kp : Keep h h2 [x, v] := (kless K1 (by simp)).wr W2 (Or.inl (by simp))
  refine go_aloadN (v := .ref x) (q := 44) d14_43 rfl rfl rfl ?_
  exact go_areturn H (G := []) (t := (.object "java/lang/AbstractStringBuilder")) rfl rfl rfl d14_44 (by decide) (by decide) (fun _ q => nomatch q) ⟨rfl, Kp, (E.keep K1).wr W2, (Vv.keep K1 (ninS nxv.symm nin0)).other W2 (Or.inr s2), (C.keep K1 (ninS nxv.symm nin0)).other W2 (Or.inr s3), (N.keep K1 (ninS nxv.symm nin0)).same W2, hl.app S.lat (by omega), by rw [List.length_append]; exact hb, l2, k1, V1.other W2 nxv⟩
set_option maxRecDepth 65536 in
set_option maxHeartbeats 4000000 in
theorem rm_app {l : Launch} {Z : State} {a0 : Array Value} (H : Wd Z a0) {h : Heap} {F : List Addr} {x a v : Addr} {cap : Nat} {cs ds : List Int32} (S : Str Z h F a ds) (B : SBd Z h x v cap cs) (hb : cs.length + ds.length ≤ cap) : Met l Z (⟨"java/lang/StringBuilder", "append", "(Ljava/lang/String;)Ljava/lang/StringBuilder;"⟩ : MethodName) jdk_67_method_7_code 2 (some (.object "java/lang/StringBuilder")) ({ frames := 4, cells := 0, slots := 0, locals := 85 } : Room) h [x, v] #[.ref x, .ref a] (fun u h' G => u = some (.ref x) ∧ Keep h h' [x, v] ∧ SBd Z h' x v cap (cs ++ ds)) := by
  refine Met.mk (L := #[.val (.ref x), .val (.ref a)]) (by decide +kernel) (fun m => by first | (simp [entryFrame, mkF, argsToLocals, Value.category]; done) | rfl) (fun K => ?_)
  show Go _ _ K "java/lang/StringBuilder" "append" _ _ _ _ _ _ _ _ _ 0 _ _
  refine go_aloadN (v := .ref x) (q := 1) d13_0 rfl rfl rfl ?_
  refine go_aloadN (v := .ref a) (q := 2) d13_1 rfl rfl rfl ?_
  refine go_super (c' := 0) (s' := 0) (q := 5) (S := []) (argsL := [.ref a]) H (C := "java/lang/StringBuilder") (w_77 H) (same_of (y := ({ cls := "java/lang/AbstractStringBuilder", name := "append", desc := "(Ljava/lang/String;)Ljava/lang/AbstractStringBuilder;" } : Jvm.MethodName)) (w := ({ cls := "java/lang/AbstractStringBuilder", name := "ensureCapacityInternal", desc := "(I)V" } : Jvm.MethodName)) (C := "java/lang/StringBuilder") rfl (w_97 H) (w_80 H) (by decide)) (w_78 H) (w_79 H) (w_61 H) (w_81 H) (by decide) B.exa (rm_appA H S B hb) rfl rfl (lenOf pd_18 rfl) (fun _ q => q) rfl (by decide) (Nat.le_of_ble_eq_true rfl) rfl rfl (by decide) (by decide) d13_2 rfl ?_
  rintro _ h1 G - ⟨rfl, K1, S1⟩
  refine nx_ (v := none) ?_
  show Go _ _ _ _ _ _ _ _ _ _ _ _ _ _ 5 #[.val (.ref x), .val (.ref a)] [.ref x]
  refine go_pop (q := 6) d13_5 rfl rfl ?_
  refine go_aloadN (v := .ref x) (q := 7) d13_6 rfl rfl rfl ?_
  exact go_areturn H (G := []) (t := (.object "java/lang/StringBuilder")) rfl rfl rfl d13_7 (by decide) (by decide) (fun _ q => nomatch q) ⟨rfl, K1, S1⟩
set_option maxRecDepth 65536 in
set_option maxHeartbeats 4000000 in
theorem rm_min {l : Launch} {Z : State} {a0 : Array Value} (H : Wd Z a0) {h : Heap} {i j : Int32}  : Met l Z (⟨"java/lang/Math", "min", "(II)I"⟩ : MethodName) jdk_29_method_69_code 2 (some .int) ({ frames := 0, cells := 0, slots := 0, locals := 0 } : Room) h [] #[.int i, .int j] (fun u h' G => u = some (.int (if j < i then j else i)) ∧ h = h') := by
  refine Met.mk (L := #[.val (.int i), .val (.int j)]) (by decide +kernel) (fun m => by first | (simp [entryFrame, mkF, argsToLocals, Value.category]; done) | rfl) (fun K => ?_)
  show Go _ _ K "java/lang/Math" "min" _ _ _ _ _ _ _ _ _ 0 _ _
  refine go_iloadN (v := i) (q := 1) d31_0 rfl rfl ?_
  refine go_iloadN (v := j) (q := 2) d31_1 rfl rfl ?_
  by_cases q : j < i
  · refine go_icY (q := 9) d31_2 q (by decide) (by decide) ?_
    refine go_iloadN (v := j) (q := 10) d31_9 rfl rfl ?_
    exact go_ireturn H (G := []) (t := .int) rfl (by decide) rfl d31_10 (by decide) (by decide) (fun _ q => nomatch q) ⟨by rw [if_pos q], rfl⟩
  · refine go_icN (q := 5) d31_2 q rfl ?_
    refine go_iloadN (v := i) (q := 6) d31_5 rfl rfl ?_
    refine go_goto (q := 10) d31_6 (by decide) (by decide) ?_
    exact go_ireturn H (G := []) (t := .int) rfl (by decide) rfl d31_10 (by decide) (by decide) (fun _ q => nomatch q) ⟨by rw [if_neg q], rfl⟩
set_option maxRecDepth 65536 in
set_option maxHeartbeats 4000000 in
theorem rm_max {l : Launch} {Z : State} {a0 : Array Value} (H : Wd Z a0) {h : Heap} {i j : Int32}  : Met l Z (⟨"java/lang/Math", "max", "(II)I"⟩ : MethodName) jdk_29_method_65_code 2 (some .int) ({ frames := 0, cells := 0, slots := 0, locals := 0 } : Room) h [] #[.int i, .int j] (fun u h' G => u = some (.int (if i < j then j else i)) ∧ h = h') := by
  refine Met.mk (L := #[.val (.int i), .val (.int j)]) (by decide +kernel) (fun m => by first | (simp [entryFrame, mkF, argsToLocals, Value.category]; done) | rfl) (fun K => ?_)
  show Go _ _ K "java/lang/Math" "max" _ _ _ _ _ _ _ _ _ 0 _ _
  refine go_iloadN (v := i) (q := 1) d35_0 rfl rfl ?_
  refine go_iloadN (v := j) (q := 2) d35_1 rfl rfl ?_
  by_cases q : i < j
  · refine go_icY (q := 9) d35_2 q (by decide) (by decide) ?_
    refine go_iloadN (v := j) (q := 10) d35_9 rfl rfl ?_
    exact go_ireturn H (G := []) (t := .int) rfl (by decide) rfl d35_10 (by decide) (by decide) (fun _ q => nomatch q) ⟨by rw [if_pos q], rfl⟩
  · refine go_icN (q := 5) d35_2 q rfl ?_
    refine go_iloadN (v := i) (q := 6) d35_5 rfl rfl ?_
    refine go_goto (q := 10) d35_6 (by decide) (by decide) ?_
    exact go_ireturn H (G := []) (t := .int) rfl (by decide) rfl d35_10 (by decide) (by decide) (fun _ q => nomatch q) ⟨by rw [if_neg q], rfl⟩
set_option maxRecDepth 65536 in
set_option maxHeartbeats 4000000 in
theorem rm_ckL {l : Launch} {Z : State} {a0 : Array Value} (H : Wd Z a0) {h : Heap} {i j : Int32} (hij : ¬ j < i) : Met l Z (⟨"java/util/Arrays", "checkLength", "(II)V"⟩ : MethodName) jdk_65_method_131_code 2 none ({ frames := 0, cells := 0, slots := 0, locals := 0 } : Room) h [] #[.int i, .int j] (fun u h' G => u = none ∧ h = h') := by
  refine Met.mk (L := #[.val (.int i), .val (.int j)]) (by decide +kernel) (fun m => by first | (simp [entryFrame, mkF, argsToLocals, Value.category]; done) | rfl) (fun K => ?_)
  show Go _ _ K "java/util/Arrays" "checkLength" _ _ _ _ _ _ _ _ _ 0 _ _
  refine go_iloadN (v := j) (q := 1) d30_0 rfl rfl ?_
  refine go_iloadN (v := i) (q := 2) d30_1 rfl rfl ?_
  refine go_icY (q := 37) d30_2 hij (by decide) (by decide) ?_
  exact go_return H (G := []) rfl d30_37 (by decide) (by decide) (fun _ q => nomatch q) ⟨rfl, rfl⟩
set_option maxRecDepth 65536 in
set_option maxHeartbeats 4000000 in
theorem rm_nwl {l : Launch} {Z : State} {a0 : Array Value} (H : Wd Z a0) {h : Heap} {a g p : Nat} (h1 : g ≤ p) (h2 : a + p ≤ 1000) (h3 : 0 < a + p) : Met l Z (⟨"jdk/internal/util/ArraysSupport", "newLength", "(III)I"⟩ : MethodName) jdk_48_method_27_code 4 (some .int) ({ frames := 1, cells := 0, slots := 0, locals := 14 } : Room) h [] #[.int (Int32.ofNat a), .int (Int32.ofNat g), .int (Int32.ofNat p)] (fun u h' G => u = some (.int (Int32.ofNat (a + p))) ∧ h = h') := by
  refine Met.mk (L := #[.val (.int (Int32.ofNat a)), .val (.int (Int32.ofNat g)), .val (.int (Int32.ofNat p)), .unset]) (by decide +kernel) (fun m => by first | (simp [entryFrame, mkF, argsToLocals, Value.category]; done) | rfl) (fun K => ?_)
  show Go _ _ K "jdk/internal/util/ArraysSupport" "newLength" _ _ _ _ _ _ _ _ _ 0 _ _
  refine go_iloadN (v := (Int32.ofNat a)) (q := 1) d34_0 rfl rfl ?_
  refine go_iloadN (v := (Int32.ofNat g)) (q := 2) d34_1 rfl rfl ?_
  refine go_iloadN (v := (Int32.ofNat p)) (q := 3) d34_2 rfl rfl ?_
  refine go_static (c' := 0) (s' := 0) (q := 6) (S := [.int (Int32.ofNat a)]) (argsL := [.int (Int32.ofNat g), .int (Int32.ofNat p)]) H (w_181 H) (w_182 H) (w_161 H) (w_183 H) (by decide) (rm_max H) rfl rfl (lenOf pd_19 rfl) (fun _ q => nomatch q) rfl (by decide) (Nat.le_of_ble_eq_true rfl) rfl rfl (by decide) (by decide) d34_3 rfl ?_
  rintro _ _ G - ⟨rfl, rfl⟩
  refine nx_ (v := none) ?_
  show Go _ _ _ _ _ _ _ _ _ _ _ _ _ _ 6 #[.val (.int (Int32.ofNat a)), .val (.int (Int32.ofNat g)), .val (.int (Int32.ofNat p)), .unset] [.int (if Int32.ofNat g < Int32.ofNat p then Int32.ofNat p else Int32.ofNat g), .int (Int32.ofNat a)]
  rw [show (if Int32.ofNat g < Int32.ofNat p then Int32.ofNat p else Int32.ofNat g) = Int32.ofNat p from by split; rfl; rename_i q; rw [lt_ofNat (by omega) (by omega)] at q; rw [show g = p by omega]]
  show Go _ _ _ _ _ _ _ _ _ _ _ _ _ _ 6 #[.val (.int (Int32.ofNat a)), .val (.int (Int32.ofNat g)), .val (.int (Int32.ofNat p)), .unset] [.int (Int32.ofNat p), .int (Int32.ofNat a)]
  refine go_iadd (r := (Int32.ofNat (a + p))) (q := 7) d34_6 (add_ofNat _ _) rfl ?_
  refine go_istoreN (L' := #[.val (.int (Int32.ofNat a)), .val (.int (Int32.ofNat g)), .val (.int (Int32.ofNat p)), .val (.int (Int32.ofNat (a + p)))]) (q := 8) d34_7 rfl rfl ?_
  refine go_iconst (x := (0 : Int32)) (q := 9) d34_8 rfl rfl ?_
  refine go_iloadN (v := (Int32.ofNat (a + p))) (q := 10) d34_9 rfl rfl ?_
  refine go_icN (q := 13) d34_10 ((lt_ofNat (i := 0) (by omega) (by omega)).mpr h3) rfl ?_
  refine go_iloadN (v := (Int32.ofNat (a + p))) (q := 14) d34_13 rfl rfl ?_
  refine go_ldcInt (v := (2147483639 : Int32)) (q := 16) (w_184 H) d34_14 rfl ?_
  refine go_icN (q := 19) d34_16 (fun q => absurd ((lt_ofNat (i := 2147483639) (by decide) (by omega)).mp q) (by omega)) rfl ?_
  refine go_iloadN (v := (Int32.ofNat (a + p))) (q := 20) d34_19 rfl rfl ?_
  exact go_ireturn H (G := []) (t := .int) rfl (by decide) rfl d34_20 (by decide) (by decide) (fun _ q => nomatch q) ⟨rfl, rfl⟩
set_option maxRecDepth 65536 in
set_option maxHeartbeats 4000000 in
theorem rm_nwc {l : Launch} {Z : State} {a0 : Array Value} (H : Wd Z a0) {h : Heap} {x v : Addr} {cap n : Nat} {cs : List Int32} (B : SBd Z h x v cap cs) (h1 : cap < n) (h2 : n ≤ cap + (cap + 2)) (h3 : cap ≤ 34) : Met l Z (⟨"java/lang/AbstractStringBuilder", "newCapacity", "(I)I"⟩ : MethodName) jdk_68_method_10_code 6 (some .int) ({ frames := 2, cells := 0, slots := 0, locals := 32 } : Room) h [] #[.ref x, .int (Int32.ofNat n)] (fun u h' G => u = some (.int (Int32.ofNat (cap + (cap + 2)))) ∧ h = h') := by
  refine Met.mk (L := #[.val (.ref x), .val (.int (Int32.ofNat n)), .unset, .unset, .unset, .unset]) (by decide +kernel) (fun m => by first | (simp [entryFrame, mkF, argsToLocals, Value.category]; done) | rfl) (fun K => ?_)
  show Go _ _ K "java/lang/AbstractStringBuilder" "newCapacity" _ _ _ _ _ _ _ _ _ 0 _ _
  obtain ⟨E, Vv, C, N, hl, l1, l2, k, A⟩ := B
  refine go_aloadN (v := .ref x) (q := 1) d33_0 rfl rfl rfl ?_
  refine go_getfield (v := .ref v) (q := 4) (w_65 H) Via.refl Vv d33_1 rfl ?_
  refine go_arraylength (z := (Int32.ofNat cap)) (q := 5) A d33_4 rfl ?_
  refine go_istoreN (L' := #[.val (.ref x), .val (.int (Int32.ofNat n)), .val (.int (Int32.ofNat cap)), .unset, .unset, .unset]) (q := 6) d33_5 rfl rfl ?_
  refine go_iloadN (v := (Int32.ofNat n)) (q := 7) d33_6 rfl rfl ?_
  refine go_aloadN (v := .ref x) (q := 8) d33_7 rfl rfl rfl ?_
  refine go_getfield (v := .int 0) (q := 11) (w_67 H) Via.refl C d33_8 rfl ?_
  refine go_ishl (r := (Int32.ofNat n)) (q := 12) d33_11 (shl0 _) rfl ?_
  refine go_istoreN (L' := #[.val (.ref x), .val (.int (Int32.ofNat n)), .val (.int (Int32.ofNat cap)), .val (.int (Int32.ofNat n)), .unset, .unset]) (q := 13) d33_12 rfl rfl ?_
  refine go_iloadN (v := (Int32.ofNat n)) (q := 14) d33_13 rfl rfl ?_
  refine go_iloadN (v := (Int32.ofNat cap)) (q := 15) d33_14 rfl rfl ?_
  refine go_isub (r := (Int32.ofNat (n - cap))) (q := 16) d33_15 (subNat (by omega) (by omega)) rfl ?_
  refine go_istore (L' := #[.val (.ref x), .val (.int (Int32.ofNat n)), .val (.int (Int32.ofNat cap)), .val (.int (Int32.ofNat n)), .val (.int (Int32.ofNat (n - cap))), .unset]) (q := 18) d33_16 rfl rfl ?_
  refine go_iloadN (v := (Int32.ofNat cap)) (q := 19) d33_18 rfl rfl ?_
  refine go_iload (v := (Int32.ofNat (n - cap))) (q := 21) d33_19 rfl rfl ?_
  refine go_iloadN (v := (Int32.ofNat cap)) (q := 22) d33_21 rfl rfl ?_
  refine go_iconst (x := (2 : Int32)) (q := 23) d33_22 rfl rfl ?_
  refine go_aloadN (v := .ref x) (q := 24) d33_23 rfl rfl rfl ?_
  refine go_getfield (v := .int 0) (q := 27) (w_67 H) Via.refl C d33_24 rfl ?_
  refine go_ishl (r := (2 : Int32)) (q := 28) d33_27 (shl0 _) rfl ?_
  refine go_iadd (r := (Int32.ofNat (cap + 2))) (q := 29) d33_28 (add_ofNat cap 2) rfl ?_
  refine go_static (c' := 0) (s' := 0) (q := 32) (S := []) (argsL := [.int (Int32.ofNat cap), .int (Int32.ofNat (n - cap)), .int (Int32.ofNat (cap + 2))]) H (w_177 H) (w_178 H) (w_179 H) (w_180 H) (by decide) (rm_nwl H (a := cap) (g := n - cap) (p := cap + 2) (by omega) (by omega) (by omega)) rfl rfl (lenOf pd_20 rfl) (fun _ q => nomatch q) rfl (by decide) (Nat.le_of_ble_eq_true rfl) rfl rfl (by decide) (by decide) d33_29 rfl ?_
  rintro _ _ G - ⟨rfl, rfl⟩
  refine nx_ (v := none) ?_
  show Go _ _ _ _ _ _ _ _ _ _ _ _ _ _ 32 #[.val (.ref x), .val (.int (Int32.ofNat n)), .val (.int (Int32.ofNat cap)), .val (.int (Int32.ofNat n)), .val (.int (Int32.ofNat (n - cap))), .unset] [.int (Int32.ofNat (cap + (cap + 2)))]
  refine go_istore (L' := #[.val (.ref x), .val (.int (Int32.ofNat n)), .val (.int (Int32.ofNat cap)), .val (.int (Int32.ofNat n)), .val (.int (Int32.ofNat (n - cap))), .val (.int (Int32.ofNat (cap + (cap + 2))))]) (q := 34) d33_32 rfl rfl ?_
  refine go_iload (v := (Int32.ofNat (cap + (cap + 2)))) (q := 36) d33_34 rfl rfl ?_
  refine go_ldcInt (v := (2147483647 : Int32)) (q := 38) (w_185 H) d33_36 rfl ?_
  refine go_icY (q := 51) d33_38 (show ¬ _ = _ from fun e => absurd ((eq_ofNat (n := 2147483647) (by omega) (by decide)).mp e) (by omega)) (by decide) (by decide) ?_
  refine go_iload (v := (Int32.ofNat (cap + (cap + 2)))) (q := 53) d33_51 rfl rfl ?_
  refine go_aloadN (v := .ref x) (q := 54) d33_53 rfl rfl rfl ?_
  refine go_getfield (v := .int 0) (q := 57) (w_67 H) Via.refl C d33_54 rfl ?_
  refine go_ishr (r := (Int32.ofNat (cap + (cap + 2)))) (q := 58) d33_57 (shr0 _) rfl ?_
  exact go_ireturn H (G := []) (t := .int) rfl (by decide) rfl d33_58 (by decide) (by decide) (fun _ q => nomatch q) ⟨rfl, rfl⟩
set_option maxRecDepth 65536 in
set_option maxHeartbeats 4000000 in
theorem rm_cpO {l : Launch} {Z : State} {a0 : Array Value} (H : Wd Z a0) {h : Heap} {v : Addr} {k : ClassId} {n m : Nat} {cs : List Int32} (A : Arv Z h v k .byte (Int32.ofNat n) (bts cs ++ zs (n - cs.length)) (.int 0)) (hb : cs.length ≤ n) (hn : n < m) (hm : m ≤ 70) : Met l Z (⟨"java/util/Arrays", "copyOf", "([BI)[B"⟩ : MethodName) jdk_65_method_121_code 3 (some (.array .byte)) ({ frames := 1, cells := 1, slots := 70, locals := 34 } : Room) h [] #[.ref v, .int (Int32.ofNat m)] (fun u h' G => ∃ ba kb, u = some (.ref ba) ∧ G = [ba] ∧ h.size ≤ ba ∧ Keep h h' [] ∧ Exa Z h' ba "[B" ∧ Arv Z h' ba kb .byte (Int32.ofNat m) (bts cs ++ zs (m - cs.length)) (.int 0)) := by
  refine Met.mk (L := #[.val (.ref v), .val (.int (Int32.ofNat m)), .unset]) (by decide +kernel) (fun m => by first | (simp [entryFrame, mkF, argsToLocals, Value.category]; done) | rfl) (fun K => ?_)
  show Go _ _ K "java/util/Arrays" "copyOf" _ _ _ _ _ _ _ _ _ 0 _ _
  have Ka : Keep h h [] := Keep.refl _ _
  refine go_iloadN (v := (Int32.ofNat m)) (q := 1) d36_0 rfl rfl ?_
  refine go_aloadN (v := .ref v) (q := 2) d36_1 rfl rfl rfl ?_
  refine go_arraylength (z := (Int32.ofNat n)) (q := 3) A d36_2 rfl ?_
  refine go_icY (q := 14) d36_3 (show ¬ _ = _ from fun e => absurd ((eq_ofNat (by omega) (by omega)).mp e) (by omega)) (by decide) (by decide) ?_
  refine go_iloadN (v := (Int32.ofNat m)) (q := 15) d36_14 rfl rfl ?_
  refine go_newarray (ty := .byte) (dv := .int 0) (n := m) (cap := 70) (ad := "[B") (c' := 1) (s' := 70) (q := 17) rfl rfl (cl_ofNat (by omega)) (w_14 H) d36_15 (nn_ofNat (by omega)) hm (by decide) rfl rfl rfl rfl (by decide) (by decide) ?_
  intro h1 ba kb g1 E1 V1 X1
  have f_Ka_ba : h.size ≤ ba := by rw [g1]; exact Ka.1
  have Ka : Keep h h1 [] := Ka.ext E1
  refine go_astoreN (L' := #[.val (.ref v), .val (.int (Int32.ofNat m)), .val (.ref ba)]) (q := 18) d36_17 rfl rfl rfl ?_
  refine go_aloadN (v := .ref v) (q := 19) d36_18 rfl rfl rfl ?_
  refine go_iconst (x := (0 : Int32)) (q := 20) d36_19 rfl rfl ?_
  refine go_aloadN (v := .ref ba) (q := 21) d36_20 rfl rfl rfl ?_
  refine go_iconst (x := (0 : Int32)) (q := 22) d36_21 rfl rfl ?_
  refine go_aloadN (v := .ref v) (q := 23) d36_22 rfl rfl rfl ?_
  refine go_arraylength (z := (Int32.ofNat n)) (q := 24) (A.ext E1) d36_23 rfl ?_
  refine go_iloadN (v := (Int32.ofNat m)) (q := 25) d36_24 rfl rfl ?_
  refine go_static (c' := 1) (s' := 70) (q := 28) (S := [.int (0 : Int32), .ref ba, .int (0 : Int32), .ref v]) (argsL := [.int (Int32.ofNat n), .int (Int32.ofNat m)]) H (w_159 H) (w_160 H) (w_161 H) (w_162 H) (by decide) (rm_min H) rfl rfl (lenOf pd_19 rfl) (fun _ q => nomatch q) rfl (by decide) (Nat.le_of_ble_eq_true rfl) rfl rfl (by decide) (by decide) d36_25 rfl ?_
  rintro _ _ G - ⟨rfl, rfl⟩
  refine nx_ (v := none) ?_
  show Go _ _ _ _ _ _ _ _ _ _ _ _ _ _ 28 #[.val (.ref v), .val (.int (Int32.ofNat m)), .val (.ref ba)] [.int (if Int32.ofNat m < Int32.ofNat n then Int32.ofNat m else Int32.ofNat n), .int (0 : Int32), .ref ba, .int (0 : Int32), .ref v]
  rw [show (if Int32.ofNat m < Int32.ofNat n then Int32.ofNat m else Int32.ofNat n) = Int32.ofNat n from if_neg (fun q => absurd ((lt_ofNat (by omega) (by omega)).mp q) (by omega))]
  show Go _ _ _ _ _ _ _ _ _ _ _ _ _ _ 28 #[.val (.ref v), .val (.int (Int32.ofNat m)), .val (.ref ba)] [.int (Int32.ofNat n), .int (0 : Int32), .ref ba, .int (0 : Int32), .ref v]
  have hvl : (bts cs ++ zs (n - cs.length)).length = n := by rw [List.length_append, bts_len, List.length_replicate]; omega
  refine go_arraycopy (q := 31) (us := bts cs ++ zs (n - cs.length)) (w_163 H) (w_118 H) (w_116 H) (w_117 H) (A.ext E1) V1 rfl (by decide) (by decide) (nn_ofNat (by omega)) (by rw [cl_ofNat (by omega)]; exact Nat.le_of_eq (Nat.zero_add _)) (by rw [cl_ofNat (by omega), cl_ofNat (by omega)]; exact Nat.le_trans (Nat.le_of_eq (Nat.zero_add _)) (Nat.le_of_lt hn)) (by rw [cl_ofNat (by omega), show (0 : Int32).toNatClampNeg = 0 from rfl]; simp only [Nat.zero_add]; rw [show List.range n = List.range (bts cs ++ zs (n - cs.length)).length by rw [hvl]]; exact (range_all _ _).symm) (by rw [cl_ofNat (by omega), List.length_replicate]; exact Nat.le_trans (Nat.le_of_eq (Nat.zero_add _)) (Nat.le_of_lt hn)) (by simp) rfl (by decide) (Nat.le_of_ble_eq_true rfl) d36_28 rfl ?_
  intro h2 K2 V2
  have Ka : Keep h h2 [] := kfresh Ka K2 f_Ka_ba
  rw [cl_ofNat (by omega), show (0 : Int32).toNatClampNeg = 0 from rfl, List.take_zero, List.nil_append, Nat.zero_add, List.drop_replicate, List.append_assoc, show zs (n - cs.length) ++ List.replicate (m - n) (Value.int 0) = zs (m - cs.length) from by rw [List.replicate_append_replicate]; congr 1; omega] at V2
  refine go_aloadN (v := .ref ba) (q := 32) d36_31 rfl rfl rfl ?_
  exact go_areturn H (G := [ba]) (t := (.array .byte)) rfl rfl rfl d36_32 (by decide) (by decide) (by simp) ⟨ba, kb, rfl, rfl, f_Ka_ba, Ka, X1.keep K2, V2⟩
set_option maxRecDepth 65536 in
set_option maxHeartbeats 4000000 in
theorem rm_ensG {l : Launch} {Z : State} {a0 : Array Value} (H : Wd Z a0) {h : Heap} {x v : Addr} {cap n : Nat} {cs : List Int32} (B : SBd Z h x v cap cs) (h1 : cap < n) (h2 : n ≤ cap + (cap + 2)) (h3 : cap ≤ 34) : Met l Z (⟨"java/lang/AbstractStringBuilder", "ensureCapacityInternal", "(I)V"⟩ : MethodName) jdk_68_method_9_code 3 none ({ frames := 3, cells := 1, slots := 70, locals := 52 } : Room) h [x] #[.ref x, .int (Int32.ofNat n)] (fun u h' G => ∃ w, u = none ∧ G = [w] ∧ h.size ≤ w ∧ Keep h h' [x] ∧ SBd Z h' x w (cap + (cap + 2)) cs ∧ Exa Z h' w "[B") := by
  refine Met.mk (L := #[.val (.ref x), .val (.int (Int32.ofNat n)), .unset]) (by decide +kernel) (fun m => by first | (simp [entryFrame, mkF, argsToLocals, Value.category]; done) | rfl) (fun K => ?_)
  show Go _ _ K "java/lang/AbstractStringBuilder" "ensureCapacityInternal" _ _ _ _ _ _ _ _ _ 0 _ _
  have B0 := B
  obtain ⟨E, Vv, C, N, hl, l1, l2, k, A⟩ := B
  have s1 : RoadKit.slotOf Z ABN "value" "[B" ≠ RoadKit.slotOf Z ABN "coder" "B" := slot_ne (C := SBN) (Or.inl (w_66 H)) (Or.inl (w_68 H)) (by decide) (t := .array .byte) (t' := .byte) (by decide) (by decide)
  have s2 : RoadKit.slotOf Z ABN "value" "[B" ≠ RoadKit.slotOf Z ABN "count" "I" := slot_ne (C := SBN) (Or.inl (w_66 H)) (Or.inl (w_93 H)) (by decide) (t := .array .byte) (t' := .int) (by decide) (by decide)
  refine go_aloadN (v := .ref x) (q := 1) d17_0 rfl rfl rfl ?_
  refine go_getfield (v := .ref v) (q := 4) (w_65 H) Via.refl Vv d17_1 rfl ?_
  refine go_arraylength (z := (Int32.ofNat cap)) (q := 5) A d17_4 rfl ?_
  refine go_aloadN (v := .ref x) (q := 6) d17_5 rfl rfl rfl ?_
  refine go_getfield (v := .int 0) (q := 9) (w_67 H) Via.refl C d17_6 rfl ?_
  refine go_ishr (r := (Int32.ofNat cap)) (q := 10) d17_9 (shr0 _) rfl ?_
  refine go_istoreN (L' := #[.val (.ref x), .val (.int (Int32.ofNat n)), .val (.int (Int32.ofNat cap))]) (q := 11) d17_10 rfl rfl ?_
  refine go_iloadN (v := (Int32.ofNat n)) (q := 12) d17_11 rfl rfl ?_
  refine go_iloadN (v := (Int32.ofNat cap)) (q := 13) d17_12 rfl rfl ?_
  refine go_isub (r := (Int32.ofNat (n - cap))) (q := 14) d17_13 (subNat (by omega) (by omega)) rfl ?_
  refine go_ifN (q := 17) d17_14 ((lt_ofNat (i := 0) (by omega) (by omega)).mpr (by omega)) rfl ?_
  refine go_aloadN (v := .ref x) (q := 18) d17_17 rfl rfl rfl ?_
  refine go_aloadN (v := .ref x) (q := 19) d17_18 rfl rfl rfl ?_
  refine go_getfield (v := .ref v) (q := 22) (w_65 H) Via.refl Vv d17_19 rfl ?_
  refine go_aloadN (v := .ref x) (q := 23) d17_22 rfl rfl rfl ?_
  refine go_iloadN (v := (Int32.ofNat n)) (q := 24) d17_23 rfl rfl ?_
  refine go_virtual (c' := 0) (s' := 0) (q := 27) (S := [.ref v, .ref x]) (argsL := [.int (Int32.ofNat n)]) H (C := "java/lang/StringBuilder") (w_172 H) (decl_of (w_173 H) (w_176 H)) (nf_self (w_175 H)) (w_175 H) (w_173 H) (w_61 H) (w_176 H) (by decide) E (rm_nwc H B0 h1 h2 h3) rfl rfl (lenOf pd_21 rfl) (fun _ q => nomatch q) rfl (by decide) (Nat.le_of_ble_eq_true rfl) rfl rfl (by decide) (by decide) d17_24 rfl ?_
  rintro _ _ G - ⟨rfl, rfl⟩
  refine nx_ (v := none) ?_
  show Go _ _ _ _ _ _ _ _ _ _ _ _ _ _ 27 #[.val (.ref x), .val (.int (Int32.ofNat n)), .val (.int (Int32.ofNat cap))] [.int (Int32.ofNat (cap + (cap + 2))), .ref v, .ref x]
  refine go_aloadN (v := .ref x) (q := 28) d17_27 rfl rfl rfl ?_
  refine go_getfield (v := .int 0) (q := 31) (w_67 H) Via.refl C d17_28 rfl ?_
  refine go_ishl (r := (Int32.ofNat (cap + (cap + 2)))) (q := 32) d17_31 (shl0 _) rfl ?_
  refine go_static (c' := 1) (s' := 70) (q := 35) (S := [.ref x]) (argsL := [.ref v, .int (Int32.ofNat (cap + (cap + 2)))]) H (w_186 H) (w_187 H) (w_151 H) (w_188 H) (by decide) (rm_cpO H A l1 (m := (cap + (cap + 2))) (by omega) (by omega)) rfl rfl (lenOf pd_22 rfl) (fun _ q => nomatch q) rfl (by decide) (Nat.le_of_ble_eq_true rfl) rfl rfl (by decide) (by decide) d17_32 rfl ?_
  rintro _ hc G - ⟨ba, kb, rfl, rfl, gb, Kc, Xc, Vc⟩
  refine ⟨[ba, x], (by intro y q; simpa using q), ?_⟩
  show Go _ _ _ _ _ _ _ _ _ _ _ _ _ _ 35 #[.val (.ref x), .val (.int (Int32.ofNat n)), .val (.int (Int32.ofNat cap))] [.ref ba, .ref x]
  have nxb : ba ≠ x := ((E.keep Kc).neArv Vc (w_52 H)).symm
  refine go_putfield (q := 38) (w_65 H) Via.refl (Vv.keep Kc nin0) (E.keep Kc) (Or.inl (w_66 H)) (w_52 H) (ty := (.array .byte)) (by decide) rfl rfl (by simp) d17_35 rfl ?_
  intro hd Wd
  exact go_return H (G := [ba]) rfl d17_38 (by decide) (by decide) (by simp) ⟨ba, rfl, rfl, gb, (kless Kc (by simp)).wr Wd (Or.inl (by simp)), ⟨(E.keep Kc).wr Wd, (Vv.keep Kc nin0).same Wd, (C.keep Kc nin0).other Wd (Or.inr s1.symm), (N.keep Kc nin0).other Wd (Or.inr s2.symm), hl, by omega, by omega, kb, Vc.other Wd nxb⟩, Xc.wr Wd⟩
set_option maxRecDepth 65536 in
set_option maxHeartbeats 4000000 in
theorem rm_appAX {l : Launch} {Z : State} {a0 : Array Value} (H : Wd Z a0) {h : Heap} {F : List Addr} {x a v : Addr} {cap : Nat} {cs ds : List Int32} (S : Str Z h F a ds) (B : SBd Z h x v cap cs) (hxF : x ∈ F) (hb : cs.length + ds.length ≤ cap + (cap + 2)) (hcap : cap ≤ 34 ∨ cs.length + ds.length ≤ cap) (X : cs.length + ds.length ≤ cap → Exa Z h v "[B") : Met l Z (⟨"java/lang/AbstractStringBuilder", "append", "(Ljava/lang/String;)Ljava/lang/AbstractStringBuilder;"⟩ : MethodName) jdk_68_method_22_code 3 (some (.object "java/lang/AbstractStringBuilder")) ({ frames := 4, cells := 1, slots := 70, locals := 86 } : Room) h [x, v] #[.ref x, .ref a] (fun u h' G => ∃ w cap', u = some (.ref x) ∧ G = [x, w] ∧ (w = v ∨ h.size ≤ w) ∧ (cap' = cap ∨ cap' = cap + (cap + 2)) ∧ Keep h h' [x, v] ∧ SBd Z h' x w cap' (cs ++ ds) ∧ Exa Z h' w "[B") := by
  refine Met.mk (L := #[.val (.ref x), .val (.ref a), .unset]) (by decide +kernel) (fun m => by first | (simp [entryFrame, mkF, argsToLocals, Value.category]; done) | rfl) (fun K => ?_)
  show Go _ _ K "java/lang/AbstractStringBuilder" "append" _ _ _ _ _ _ _ _ _ 0 _ _
  have B0 := B
  obtain ⟨E, Vv, C, N, hl, l1, l2, k, A⟩ := B
  have s2 : RoadKit.slotOf Z ABN "value" "[B" ≠ RoadKit.slotOf Z ABN "count" "I" := slot_ne (C := SBN) (Or.inl (w_66 H)) (Or.inl (w_93 H)) (by decide) (t := .array .byte) (t' := .int) (by decide) (by decide)
  have s3 : RoadKit.slotOf Z ABN "coder" "B" ≠ RoadKit.slotOf Z ABN "count" "I" := slot_ne (C := SBN) (Or.inl (w_68 H)) (Or.inl (w_93 H)) (by decide) (t := .byte) (t' := .int) (by decide) (by decide)
  refine go_aloadN (v := .ref a) (q := 1) d14_0 rfl rfl rfl ?_
  refine go_nnY (q := 9) d14_1 (by decide) (by decide) ?_
  refine go_aloadN (v := .ref a) (q := 10) d14_9 rfl rfl rfl ?_
  refine go_virtual (c' := 0) (s' := 0) (q := 13) (S := []) (argsL := []) H (C := "java/lang/String") (w_82 H) (w_83 H) (nf_self (w_85 H)) (w_85 H) (w_84 H) (w_2 H) (w_86 H) (by decide) S.exa (rm_len H S) rfl rfl (lenOf pd_16 rfl) (fun _ q => nomatch q) rfl (by decide) (Nat.le_of_ble_eq_true rfl) rfl rfl (by decide) (by decide) d14_10 rfl ?_
  rintro _ _ G - ⟨rfl, rfl⟩
  refine nx_ (v := none) ?_
  show Go _ _ _ _ _ _ _ _ _ _ _ _ _ _ 13 #[.val (.ref x), .val (.ref a), .unset] [.int (Int32.ofNat ds.length)]
  refine go_istoreN (L' := #[.val (.ref x), .val (.ref a), .val (.int (Int32.ofNat ds.length))]) (q := 14) d14_13 rfl rfl ?_
  refine go_aloadN (v := .ref x) (q := 15) d14_14 rfl rfl rfl ?_
  refine go_aloadN (v := .ref x) (q := 16) d14_15 rfl rfl rfl ?_
  refine go_getfield (v := .int (Int32.ofNat cs.length)) (q := 19) (w_92 H) Via.refl N d14_16 rfl ?_
  refine go_iloadN (v := (Int32.ofNat ds.length)) (q := 20) d14_19 rfl rfl ?_
  refine go_iadd (r := (Int32.ofNat (cs.length + ds.length))) (q := 21) d14_20 (add_ofNat _ _) rfl ?_
  by_cases g : cs.length + ds.length ≤ cap
  · refine go_virtual (c' := 0) (s' := 0) (q := 24) (S := []) (argsL := [.int (Int32.ofNat (cs.length + ds.length))]) H (C := "java/lang/StringBuilder") (w_94 H) (decl_of (w_95 H) (w_98 H)) (nf_self (w_97 H)) (w_97 H) (w_95 H) (w_61 H) (w_98 H) (by decide) E (rm_ens H B0 g) rfl rfl (lenOf pd_13 rfl) (fun _ q => nomatch q) rfl (by decide) (Nat.le_of_ble_eq_true rfl) rfl rfl (by decide) (by decide) d14_21 rfl ?_
    rintro _ _ G - ⟨rfl, rfl⟩
    refine nx_ (v := none) ?_
    show Go _ _ _ _ _ _ _ _ _ _ _ _ _ _ 24 #[.val (.ref x), .val (.ref a), .val (.int (Int32.ofNat ds.length))] []
    have K0 : Keep h h [x, v] := Keep.refl _ _
    have X1 := X g
    have S1 := S
    have B1 := B0
    have hg := g
    have hv : v = v ∨ h.size ≤ v := Or.inl rfl
    have nxv : v ≠ x := (E.neArv A (w_52 H)).symm
    refine go_aloadN (v := .ref x) (q := 25) d14_24 rfl rfl rfl ?_
    refine go_aloadN (v := .ref x) (q := 26) d14_25 rfl rfl rfl ?_
    refine go_getfield (v := .int (Int32.ofNat cs.length)) (q := 29) (w_92 H) Via.refl N d14_26 rfl ?_
    refine go_aloadN (v := .ref a) (q := 30) d14_29 rfl rfl rfl ?_
    refine go_virtual (c' := 0) (s' := 0) (q := 33) (S := []) (argsL := [.int (Int32.ofNat cs.length), .ref a]) H (C := "java/lang/StringBuilder") (w_99 H) (decl_of (w_100 H) (w_103 H)) (nf_self (w_102 H)) (w_102 H) (w_100 H) (w_61 H) (w_103 H) (by decide) E (rm_putS H S1 B1 hg) rfl rfl (lenOf pd_17 rfl) (by simp) rfl (by decide) (Nat.le_of_ble_eq_true rfl) rfl rfl (by decide) (by decide) d14_30 rfl ?_
    rintro _ h1 G - ⟨rfl, K1, k1, V1⟩
    refine nx_ (v := none) ?_
    show Go _ _ _ _ _ _ _ _ _ _ _ _ _ _ 33 #[.val (.ref x), .val (.ref a), .val (.int (Int32.ofNat ds.length))] []
    refine go_aloadN (v := .ref x) (q := 34) d14_33 rfl rfl rfl ?_
    refine go_dup (q := 35) d14_34 rfl rfl ?_
    refine go_getfield (v := .int (Int32.ofNat cs.length)) (q := 38) (w_92 H) Via.refl (N.keep K1 (ninS nxv.symm nin0)) d14_35 rfl ?_
    refine go_iloadN (v := (Int32.ofNat ds.length)) (q := 39) d14_38 rfl rfl ?_
    refine go_iadd (r := (Int32.ofNat (cs ++ ds).length)) (q := 40) d14_39 ((add_ofNat _ _).trans (by rw [List.length_append])) rfl ?_
    refine go_putfield (q := 43) (w_92 H) Via.refl (N.keep K1 (ninS nxv.symm nin0)) (E.keep K1) (Or.inl (w_93 H)) (w_52 H) (ty := .int) (by decide) rfl rfl (by simp) d14_40 rfl ?_
    intro h2 W2
    have Kp : Keep h h2 [x, v] := (K0.trans K1 (by intro y q; simp only [List.mem_cons, List.not_mem_nil, or_false] at q; subst q; exact hv.elim (fun e => Or.inl (by simp [e])) Or.inr)).wr W2 (Or.inl (by simp))
    refine go_aloadN (v := .ref x) (q := 44) d14_43 rfl rfl rfl ?_
    exact go_areturn H (G := [x, v]) (t := (.object "java/lang/AbstractStringBuilder")) rfl rfl rfl d14_44 (by decide) (by decide) (by simp) ⟨v, cap, rfl, rfl, hv, Or.inl rfl, Kp, ⟨(E.keep K1).wr W2, (Vv.keep K1 (ninS nxv.symm nin0)).other W2 (Or.inr s2), (C.keep K1 (ninS nxv.symm nin0)).other W2 (Or.inr s3), (N.keep K1 (ninS nxv.symm nin0)).same W2, hl.app S.lat (by omega), by rw [List.length_append]; exact hg, l2, k1, V1.other W2 nxv⟩, (X1.keep K1).wr W2⟩
  · refine go_virtual (c' := 1) (s' := 70) (q := 24) (S := []) (argsL := [.int (Int32.ofNat (cs.length + ds.length))]) H (C := "java/lang/StringBuilder") (w_94 H) (decl_of (w_95 H) (w_98 H)) (nf_self (w_97 H)) (w_97 H) (w_95 H) (w_61 H) (w_98 H) (by decide) E (rm_ensG H B0 (by omega) hb (by omega)) rfl rfl (lenOf pd_13 rfl) (by simp) rfl (by decide) (Nat.le_of_ble_eq_true rfl) rfl rfl (by decide) (by decide) d14_21 rfl ?_
    rintro _ he G - ⟨w, rfl, rfl, gw, Ke, B1, X1⟩
    refine ⟨[w, x, v], (by intro y q; simpa using q), ?_⟩
    show Go _ _ _ _ _ _ _ _ _ _ _ _ _ _ 24 #[.val (.ref x), .val (.ref a), .val (.int (Int32.ofNat ds.length))] []
    have K0 : Keep h he [x, v] := kless Ke (by simp)
    have S1 := S.keep Ke (by intro y q; simp only [List.mem_cons, List.not_mem_nil, or_false] at q; subst q; exact Or.inl hxF)
    have hg := hb
    have hv : w = v ∨ h.size ≤ w := Or.inr gw
    obtain ⟨E, Vv, C, N, hl, l1, l2, k, A⟩ := id B1
    have nxv : w ≠ x := (E.neArv A (w_52 H)).symm
    refine go_aloadN (v := .ref x) (q := 25) d14_24 rfl rfl rfl ?_
    refine go_aloadN (v := .ref x) (q := 26) d14_25 rfl rfl rfl ?_
    refine go_getfield (v := .int (Int32.ofNat cs.length)) (q := 29) (w_92 H) Via.refl N d14_26 rfl ?_
    refine go_aloadN (v := .ref a) (q := 30) d14_29 rfl rfl rfl ?_
    refine go_virtual (c' := 1) (s' := 70) (q := 33) (S := []) (argsL := [.int (Int32.ofNat cs.length), .ref a]) H (C := "java/lang/StringBuilder") (w_99 H) (decl_of (w_100 H) (w_103 H)) (nf_self (w_102 H)) (w_102 H) (w_100 H) (w_61 H) (w_103 H) (by decide) E (rm_putS H S1 B1 hg) rfl rfl (lenOf pd_17 rfl) (by simp) rfl (by decide) (Nat.le_of_ble_eq_true rfl) rfl rfl (by decide) (by decide) d14_30 rfl ?_
    rintro _ h1 G - ⟨rfl, K1, k1, V1⟩
    refine nx_ (v := none) ?_
    show Go _ _ _ _ _ _ _ _ _ _ _ _ _ _ 33 #[.val (.ref x), .val (.ref a), .val (.int (Int32.ofNat ds.length))] []
    refine go_aloadN (v := .ref x) (q := 34) d14_33 rfl rfl rfl ?_
    refine go_dup (q := 35) d14_34 rfl rfl ?_
    refine go_getfield (v := .int (Int32.ofNat cs.length)) (q := 38) (w_92 H) Via.refl (N.keep K1 (ninS nxv.symm nin0)) d14_35 rfl ?_
    refine go_iloadN (v := (Int32.ofNat ds.length)) (q := 39) d14_38 rfl rfl ?_
    refine go_iadd (r := (Int32.ofNat (cs ++ ds).length)) (q := 40) d14_39 ((add_ofNat _ _).trans (by rw [List.length_append])) rfl ?_
    refine go_putfield (q := 43) (w_92 H) Via.refl (N.keep K1 (ninS nxv.symm nin0)) (E.keep K1) (Or.inl (w_93 H)) (w_52 H) (ty := .int) (by decide) rfl rfl (by simp) d14_40 rfl ?_
    intro h2 W2
    have Kp : Keep h h2 [x, v] := (K0.trans K1 (by intro y q; simp only [List.mem_cons, List.not_mem_nil, or_false] at q; subst q; exact hv.elim (fun e => Or.inl (by simp [e])) Or.inr)).wr W2 (Or.inl (by simp))
    refine go_aloadN (v := .ref x) (q := 44) d14_43 rfl rfl rfl ?_
    exact go_areturn H (G := [x, w]) (t := (.object "java/lang/AbstractStringBuilder")) rfl rfl rfl d14_44 (by decide) (by decide) (by simp) ⟨w, (cap + (cap + 2)), rfl, rfl, hv, Or.inr rfl, Kp, ⟨(E.keep K1).wr W2, (Vv.keep K1 (ninS nxv.symm nin0)).other W2 (Or.inr s2), (C.keep K1 (ninS nxv.symm nin0)).other W2 (Or.inr s3), (N.keep K1 (ninS nxv.symm nin0)).same W2, hl.app S.lat (by omega), by rw [List.length_append]; exact hg, l2, k1, V1.other W2 nxv⟩, (X1.keep K1).wr W2⟩
set_option maxRecDepth 65536 in
set_option maxHeartbeats 4000000 in
theorem rm_apX {l : Launch} {Z : State} {a0 : Array Value} (H : Wd Z a0) {h : Heap} {F : List Addr} {x a v : Addr} {cap : Nat} {cs ds : List Int32} (S : Str Z h F a ds) (B : SBd Z h x v cap cs) (hxF : x ∈ F) (hb : cs.length + ds.length ≤ cap + (cap + 2)) (hcap : cap ≤ 34 ∨ cs.length + ds.length ≤ cap) (X : cs.length + ds.length ≤ cap → Exa Z h v "[B") : Met l Z (⟨"java/lang/StringBuilder", "append", "(Ljava/lang/String;)Ljava/lang/StringBuilder;"⟩ : MethodName) jdk_67_method_7_code 2 (some (.object "java/lang/StringBuilder")) ({ frames := 5, cells := 1, slots := 70, locals := 100 } : Room) h [x, v] #[.ref x, .ref a] (fun u h' G => ∃ w cap', u = some (.ref x) ∧ G = [x, w] ∧ (w = v ∨ h.size ≤ w) ∧ (cap' = cap ∨ cap' = cap + (cap + 2)) ∧ Keep h h' [x, v] ∧ SBd Z h' x w cap' (cs ++ ds) ∧ Exa Z h' w "[B") := by
  refine Met.mk (L := #[.val (.ref x), .val (.ref a)]) (by decide +kernel) (fun m => by first | (simp [entryFrame, mkF, argsToLocals, Value.category]; done) | rfl) (fun K => ?_)
  show Go _ _ K "java/lang/StringBuilder" "append" _ _ _ _ _ _ _ _ _ 0 _ _
  refine go_aloadN (v := .ref x) (q := 1) d13_0 rfl rfl rfl ?_
  refine go_aloadN (v := .ref a) (q := 2) d13_1 rfl rfl rfl ?_
  refine go_super (c' := 1) (s' := 70) (q := 5) (S := []) (argsL := [.ref a]) H (C := "java/lang/StringBuilder") (w_77 H) (same_of (y := ({ cls := "java/lang/AbstractStringBuilder", name := "append", desc := "(Ljava/lang/String;)Ljava/lang/AbstractStringBuilder;" } : Jvm.MethodName)) (w := ({ cls := "java/lang/AbstractStringBuilder", name := "ensureCapacityInternal", desc := "(I)V" } : Jvm.MethodName)) (C := "java/lang/StringBuilder") rfl (w_97 H) (w_80 H) (by decide)) (w_78 H) (w_79 H) (w_61 H) (w_81 H) (by decide) B.exa (rm_appAX H S B hxF hb hcap X) rfl rfl (lenOf pd_18 rfl) (fun _ q => q) rfl (by decide) (Nat.le_of_ble_eq_true rfl) rfl rfl (by decide) (by decide) d13_2 rfl ?_
  rintro _ h1 G - ⟨w, cap', rfl, rfl, q1, q2, q3, q4, q5⟩
  refine ⟨[x, w], fun _ q => Or.inl q, ?_⟩
  show Go _ _ _ _ _ _ _ _ _ _ _ _ _ _ 5 #[.val (.ref x), .val (.ref a)] [.ref x]
  refine go_pop (q := 6) d13_5 rfl rfl ?_
  refine go_aloadN (v := .ref x) (q := 7) d13_6 rfl rfl rfl ?_
  exact go_areturn H (G := [x, w]) (t := (.object "java/lang/StringBuilder")) rfl rfl rfl d13_7 (by decide) (by decide) (fun _ q => q) ⟨w, cap', rfl, rfl, q1, q2, q3, q4, q5⟩
set_option maxRecDepth 65536 in
set_option maxHeartbeats 4000000 in
theorem rm_cRB {l : Launch} {Z : State} {a0 : Array Value} (H : Wd Z a0) {h : Heap} {v : Addr} {k : ClassId} {n : Nat} {cs : List Int32} (A : Arv Z h v k .byte (Int32.ofNat n) (bts cs ++ zs (n - cs.length)) (.int 0)) (hb : cs.length ≤ n) (hn : n ≤ 4096) (hc : cs.length ≤ 40) : Met l Z (⟨"java/util/Arrays", "copyOfRangeByte", "([BII)[B"⟩ : MethodName) jdk_65_method_133_code 5 (some (.array .byte)) ({ frames := 1, cells := 1, slots := 40, locals := 40 } : Room) h [] #[.ref v, .int 0, .int (Int32.ofNat cs.length)] (fun u h' G => ∃ ba kb, u = some (.ref ba) ∧ h.size ≤ ba ∧ Keep h h' [] ∧ Arv Z h' ba kb .byte (Int32.ofNat cs.length) (bts cs) (.int 0)) := by
  refine Met.mk (L := #[.val (.ref v), .val (.int 0), .val (.int (Int32.ofNat cs.length)), .unset, .unset]) (by decide +kernel) (fun m => by first | (simp [entryFrame, mkF, argsToLocals, Value.category]; done) | rfl) (fun K => ?_)
  show Go _ _ K "java/util/Arrays" "copyOfRangeByte" _ _ _ _ _ _ _ _ _ 0 _ _
  have Ka : Keep h h [] := Keep.refl _ _
  refine go_iloadN (v := 0) (q := 1) d29_0 rfl rfl ?_
  refine go_iloadN (v := (Int32.ofNat cs.length)) (q := 2) d29_1 rfl rfl ?_
  refine go_static (c' := 0) (s' := 0) (q := 5) (S := []) (argsL := [.int 0, .int (Int32.ofNat cs.length)]) H (w_156 H) (w_157 H) (w_151 H) (w_158 H) (by decide) (rm_ckL H (nn_ofNat (by omega))) rfl rfl (lenOf pd_23 rfl) (fun _ q => nomatch q) rfl (by decide) (Nat.le_of_ble_eq_true rfl) rfl rfl (by decide) (by decide) d29_2 rfl ?_
  rintro _ _ G - ⟨rfl, rfl⟩
  refine nx_ (v := none) ?_
  show Go _ _ _ _ _ _ _ _ _ _ _ _ _ _ 5 #[.val (.ref v), .val (.int 0), .val (.int (Int32.ofNat cs.length)), .unset, .unset] []
  refine go_iloadN (v := (Int32.ofNat cs.length)) (q := 6) d29_5 rfl rfl ?_
  refine go_iloadN (v := 0) (q := 7) d29_6 rfl rfl ?_
  refine go_isub (r := (Int32.ofNat cs.length)) (q := 8) d29_7 (Int32.sub_zero _) rfl ?_
  refine go_istoreN (L' := #[.val (.ref v), .val (.int 0), .val (.int (Int32.ofNat cs.length)), .val (.int (Int32.ofNat cs.length)), .unset]) (q := 9) d29_8 rfl rfl ?_
  refine go_iloadN (v := (Int32.ofNat cs.length)) (q := 10) d29_9 rfl rfl ?_
  refine go_newarray (ty := .byte) (dv := .int 0) (n := cs.length) (cap := 40) (ad := "[B") (c' := 1) (s' := 40) (q := 12) rfl rfl (cl_ofNat (by omega)) (w_14 H) d29_10 (nn_ofNat (by omega)) hc (by decide) rfl rfl rfl rfl (by decide) (by decide) ?_
  intro h1 ba kb g1 E1 V1 X1
  have f_Ka_ba : h.size ≤ ba := by rw [g1]; exact Ka.1
  have Ka : Keep h h1 [] := Ka.ext E1
  refine go_astore (L' := #[.val (.ref v), .val (.int 0), .val (.int (Int32.ofNat cs.length)), .val (.int (Int32.ofNat cs.length)), .val (.ref ba)]) (q := 14) d29_12 rfl rfl rfl ?_
  refine go_aloadN (v := .ref v) (q := 15) d29_14 rfl rfl rfl ?_
  refine go_iloadN (v := 0) (q := 16) d29_15 rfl rfl ?_
  refine go_aload (v := .ref ba) (q := 18) d29_16 rfl rfl rfl ?_
  refine go_iconst (x := (0 : Int32)) (q := 19) d29_18 rfl rfl ?_
  refine go_aloadN (v := .ref v) (q := 20) d29_19 rfl rfl rfl ?_
  refine go_arraylength (z := (Int32.ofNat n)) (q := 21) (A.ext E1) d29_20 rfl ?_
  refine go_iloadN (v := 0) (q := 22) d29_21 rfl rfl ?_
  refine go_isub (r := (Int32.ofNat n)) (q := 23) d29_22 (Int32.sub_zero _) rfl ?_
  refine go_iloadN (v := (Int32.ofNat cs.length)) (q := 24) d29_23 rfl rfl ?_
  refine go_static (c' := 1) (s' := 40) (q := 27) (S := [.int (0 : Int32), .ref ba, .int 0, .ref v]) (argsL := [.int (Int32.ofNat n), .int (Int32.ofNat cs.length)]) H (w_159 H) (w_160 H) (w_161 H) (w_162 H) (by decide) (rm_min H) rfl rfl (lenOf pd_19 rfl) (fun _ q => nomatch q) rfl (by decide) (Nat.le_of_ble_eq_true rfl) rfl rfl (by decide) (by decide) d29_24 rfl ?_
  rintro _ _ G - ⟨rfl, rfl⟩
  refine nx_ (v := none) ?_
  show Go _ _ _ _ _ _ _ _ _ _ _ _ _ _ 27 #[.val (.ref v), .val (.int 0), .val (.int (Int32.ofNat cs.length)), .val (.int (Int32.ofNat cs.length)), .val (.ref ba)] [.int (if Int32.ofNat cs.length < Int32.ofNat n then Int32.ofNat cs.length else Int32.ofNat n), .int (0 : Int32), .ref ba, .int 0, .ref v]
  rw [show (if Int32.ofNat cs.length < Int32.ofNat n then Int32.ofNat cs.length else Int32.ofNat n) = Int32.ofNat cs.length from by split; rfl; rename_i q; rw [lt_ofNat (by omega) (by omega)] at q; rw [show n = cs.length by omega]]
  show Go _ _ _ _ _ _ _ _ _ _ _ _ _ _ 27 #[.val (.ref v), .val (.int 0), .val (.int (Int32.ofNat cs.length)), .val (.int (Int32.ofNat cs.length)), .val (.ref ba)] [.int (Int32.ofNat cs.length), .int (0 : Int32), .ref ba, .int 0, .ref v]
  refine go_arraycopy (q := 30) (us := bts cs) (w_163 H) (w_118 H) (w_116 H) (w_117 H) (A.ext E1) V1 rfl (by decide) (by decide) (nn_ofNat (by omega)) (by rw [cl_ofNat (by omega), cl_ofNat (by omega)]; exact Nat.le_trans (Nat.le_of_eq (Nat.zero_add _)) hb) (by rw [cl_ofNat (by omega)]; exact Nat.le_of_eq (Nat.zero_add _)) (by rw [cl_ofNat (by omega), show (0 : Int32).toNatClampNeg = 0 from rfl]; simp only [Nat.zero_add]; exact (us_pre _ _).symm) (by rw [cl_ofNat (by omega), List.length_replicate]; exact Nat.le_of_eq (Nat.zero_add _)) (by simp) rfl (by decide) (Nat.le_of_ble_eq_true rfl) d29_27 rfl ?_
  intro h2 K2 V2
  have Ka : Keep h h2 [] := kfresh Ka K2 f_Ka_ba
  rw [cl_ofNat (by omega), show (0 : Int32).toNatClampNeg = 0 from rfl, List.take_zero, List.nil_append, Nat.zero_add, List.drop_of_length_le (by simp), List.append_nil] at V2
  refine go_aload (v := .ref ba) (q := 32) d29_30 rfl rfl rfl ?_
  exact go_areturn H (G := []) (t := (.array .byte)) rfl rfl rfl d29_32 (by decide) (by decide) (fun _ q => nomatch q) ⟨ba, kb, rfl, f_Ka_ba, Ka, V2⟩
set_option maxRecDepth 65536 in
set_option maxHeartbeats 4000000 in
theorem rm_cRX {l : Launch} {Z : State} {a0 : Array Value} (H : Wd Z a0) {h : Heap} {v : Addr} {k : ClassId} {n : Nat} {cs : List Int32} (A : Arv Z h v k .byte (Int32.ofNat n) (bts cs ++ zs (n - cs.length)) (.int 0)) (hb : cs.length ≤ n) (X : cs.length = n → Exa Z h v "[B") (hn : n ≤ 4096) (hc : cs.length ≤ 40) : Met l Z (⟨"java/util/Arrays", "copyOfRange", "([BII)[B"⟩ : MethodName) jdk_65_method_132_code 3 (some (.array .byte)) ({ frames := 2, cells := 1, slots := 40, locals := 56 } : Room) h [] #[.ref v, .int 0, .int (Int32.ofNat cs.length)] (fun u h' G => ∃ ba kb, u = some (.ref ba) ∧ h.size ≤ ba ∧ Keep h h' [] ∧ Arv Z h' ba kb .byte (Int32.ofNat cs.length) (bts cs) (.int 0)) := by
  refine Met.mk (L := #[.val (.ref v), .val (.int 0), .val (.int (Int32.ofNat cs.length))]) (by decide +kernel) (fun m => by first | (simp [entryFrame, mkF, argsToLocals, Value.category]; done) | rfl) (fun K => ?_)
  show Go _ _ K "java/util/Arrays" "copyOfRange" _ _ _ _ _ _ _ _ _ 0 _ _
  refine go_iloadN (v := 0) (q := 1) d28_0 rfl rfl ?_
  refine go_ifN (q := 4) d28_1 (by decide) rfl ?_
  refine go_iloadN (v := (Int32.ofNat cs.length)) (q := 5) d28_4 rfl rfl ?_
  refine go_aloadN (v := .ref v) (q := 6) d28_5 rfl rfl rfl ?_
  refine go_arraylength (z := (Int32.ofNat n)) (q := 7) A d28_6 rfl ?_
  by_cases e : cs.length = n
  · have Ka : Keep h h [] := Keep.refl _ _
    refine go_icY (q := 17) d28_7 (show _ = _ by rw [e]) (by decide) (by decide) ?_
    refine go_aloadN (v := .ref v) (q := 18) d28_17 rfl rfl rfl ?_
    refine go_clone (cap := 40) (c' := 1) (s' := 40) (q := 21) (w_261 H) (w_262 H) (w_266 H) (w_264 H) (w_265 H) (w_267 H) A (X e) rfl (by decide) (Nat.le_of_ble_eq_true rfl) (by rw [cl_ofNat (by omega)]; omega) d28_18 rfl rfl rfl (by decide) (by decide) ?_
    intro h1 d g1 E1 V1 X1
    have f_Ka_d : h.size ≤ d := by rw [g1]; exact Ka.1
    have Ka : Keep h h1 [] := Ka.ext E1
    refine go_checkcast (q := 24) (w_268 H) (Ins.self X1) d28_21 rfl ?_
    have V1 : Arv Z h1 d k .byte (Int32.ofNat cs.length) (bts cs) (.int 0) := by rw [← e, Nat.sub_self, show zs 0 = [] from rfl, List.append_nil] at V1; exact V1
    exact go_areturn H (G := []) (t := (.array .byte)) rfl rfl rfl d28_24 (by decide) (by decide) (fun _ q => nomatch q) ⟨d, k, rfl, f_Ka_d, Ka, V1⟩
  · refine go_icN (q := 10) d28_7 (fun q => absurd ((eq_ofNat (by omega) (by omega)).mp q) e) rfl ?_
    refine go_aloadN (v := .ref v) (q := 11) d28_10 rfl rfl rfl ?_
    refine go_iloadN (v := 0) (q := 12) d28_11 rfl rfl ?_
    refine go_iloadN (v := (Int32.ofNat cs.length)) (q := 13) d28_12 rfl rfl ?_
    refine go_static (c' := 1) (s' := 40) (q := 16) (S := []) (argsL := [.ref v, .int 0, .int (Int32.ofNat cs.length)]) H (w_153 H) (w_154 H) (w_151 H) (w_155 H) (by decide) (rm_cRB H A hb hn hc) rfl rfl (lenOf pd_24 rfl) (fun _ q => nomatch q) rfl (by decide) (Nat.le_of_ble_eq_true rfl) rfl rfl (by decide) (by decide) d28_13 rfl ?_
    rintro _ h1 G - ⟨ba, kb, rfl, gb, K1, V1⟩
    refine nx_ (v := none) ?_
    show Go _ _ _ _ _ _ _ _ _ _ _ _ _ _ 16 #[.val (.ref v), .val (.int 0), .val (.int (Int32.ofNat cs.length))] [.ref ba]
    exact go_areturn H (G := []) (t := (.array .byte)) rfl rfl rfl d28_16 (by decide) (by decide) (fun _ q => nomatch q) ⟨ba, kb, rfl, gb, K1, V1⟩
set_option maxRecDepth 65536 in
set_option maxHeartbeats 4000000 in
theorem rm_gV {l : Launch} {Z : State} {a0 : Array Value} (H : Wd Z a0) {h : Heap} {x v : Addr} (Vv : Fld Z h x ABN "value" "[B" (.ref v)) : Met l Z (⟨"java/lang/AbstractStringBuilder", "getValue", "()[B"⟩ : MethodName) jdk_68_method_64_code 1 (some (.array .byte)) ({ frames := 0, cells := 0, slots := 0, locals := 0 } : Room) h [] #[.ref x] (fun u h' G => u = some (.ref v) ∧ h = h') := by
  refine Met.mk (L := #[.val (.ref x)]) (by decide +kernel) (fun m => by first | (simp [entryFrame, mkF, argsToLocals, Value.category]; done) | rfl) (fun K => ?_)
  show Go _ _ K "java/lang/AbstractStringBuilder" "getValue" _ _ _ _ _ _ _ _ _ 0 _ _
  refine go_aloadN (v := .ref x) (q := 1) d24_0 rfl rfl rfl ?_
  refine go_getfield (v := .ref v) (q := 4) (w_65 H) Via.refl Vv d24_1 rfl ?_
  exact go_areturn H (G := []) (t := (.array .byte)) rfl rfl rfl d24_4 (by decide) (by decide) (fun _ q => nomatch q) ⟨rfl, rfl⟩
set_option maxRecDepth 65536 in
set_option maxHeartbeats 4000000 in
theorem rm_aLen {l : Launch} {Z : State} {a0 : Array Value} (H : Wd Z a0) {h : Heap} {x : Addr} {n : Int32} (N : Fld Z h x ABN "count" "I" (.int n)) : Met l Z (⟨"java/lang/AbstractStringBuilder", "length", "()I"⟩ : MethodName) jdk_68_method_6_code 1 (some .int) ({ frames := 0, cells := 0, slots := 0, locals := 0 } : Room) h [] #[.ref x] (fun u h' G => u = some (.int n) ∧ h = h') := by
  refine Met.mk (L := #[.val (.ref x)]) (by decide +kernel) (fun m => by first | (simp [entryFrame, mkF, argsToLocals, Value.category]; done) | rfl) (fun K => ?_)
  show Go _ _ K "java/lang/AbstractStringBuilder" "length" _ _ _ _ _ _ _ _ _ 0 _ _
  refine go_aloadN (v := .ref x) (q := 1) d26_0 rfl rfl rfl ?_
  refine go_getfield (v := .int n) (q := 4) (w_92 H) Via.refl N d26_1 rfl ?_
  exact go_ireturn H (G := []) (t := .int) rfl (by decide) rfl d26_4 (by decide) (by decide) (fun _ q => nomatch q) ⟨rfl, rfl⟩
set_option maxRecDepth 65536 in
set_option maxHeartbeats 4000000 in
theorem rm_sLen {l : Launch} {Z : State} {a0 : Array Value} (H : Wd Z a0) {h : Heap} {x : Addr} {n : Int32} (E : Exa Z h x SBN) (N : Fld Z h x ABN "count" "I" (.int n)) : Met l Z (⟨"java/lang/StringBuilder", "length", "()I"⟩ : MethodName) jdk_67_method_93_code 1 (some .int) ({ frames := 1, cells := 0, slots := 0, locals := 12 } : Room) h [] #[.ref x] (fun u h' G => u = some (.int n) ∧ h = h') := by
  refine Met.mk (L := #[.val (.ref x)]) (by decide +kernel) (fun m => by first | (simp [entryFrame, mkF, argsToLocals, Value.category]; done) | rfl) (fun K => ?_)
  show Go _ _ K "java/lang/StringBuilder" "length" _ _ _ _ _ _ _ _ _ 0 _ _
  refine go_aloadN (v := .ref x) (q := 1) d25_0 rfl rfl rfl ?_
  refine go_super (c' := 0) (s' := 0) (q := 4) (S := []) (argsL := []) H (C := "java/lang/StringBuilder") (w_142 H) (same_of (y := ({ cls := "java/lang/AbstractStringBuilder", name := "length", desc := "()I" } : Jvm.MethodName)) (w := ({ cls := "java/lang/AbstractStringBuilder", name := "ensureCapacityInternal", desc := "(I)V" } : Jvm.MethodName)) (C := "java/lang/StringBuilder") rfl (w_97 H) (w_137 H) (by decide)) (w_138 H) (w_79 H) (w_61 H) (w_143 H) (by decide) E (rm_aLen H N) rfl rfl (lenOf pd_16 rfl) (fun _ q => nomatch q) rfl (by decide) (Nat.le_of_ble_eq_true rfl) rfl rfl (by decide) (by decide) d25_1 rfl ?_
  rintro _ _ G - ⟨rfl, rfl⟩
  refine nx_ (v := none) ?_
  show Go _ _ _ _ _ _ _ _ _ _ _ _ _ _ 4 #[.val (.ref x)] [.int n]
  exact go_ireturn H (G := []) (t := .int) rfl (by decide) rfl d25_4 (by decide) (by decide) (fun _ q => nomatch q) ⟨rfl, rfl⟩
set_option maxRecDepth 65536 in
set_option maxHeartbeats 4000000 in
theorem rm_aL1 {l : Launch} {Z : State} {a0 : Array Value} (H : Wd Z a0) {h : Heap} {x : Addr} (C : Fld Z h x ABN "coder" "B" (.int 0)) : Met l Z (⟨"java/lang/AbstractStringBuilder", "isLatin1", "()Z"⟩ : MethodName) jdk_68_method_68_code 1 (some .boolean) ({ frames := 0, cells := 0, slots := 0, locals := 0 } : Room) h [] #[.ref x] (fun u h' G => u = some (.int 1) ∧ h = h') := by
  refine Met.mk (L := #[.val (.ref x)]) (by decide +kernel) (fun m => by first | (simp [entryFrame, mkF, argsToLocals, Value.category]; done) | rfl) (fun K => ?_)
  show Go _ _ K "java/lang/AbstractStringBuilder" "isLatin1" _ _ _ _ _ _ _ _ _ 0 _ _
  obtain ⟨cz, Sz, nz⟩ := H.2.2.2.1
  refine go_getstatic (v := .int cz) (q := 3) (w_64 H) Via.refl Sz d27_0 rfl ?_
  refine go_ifN (q := 6) d27_3 nz rfl ?_
  refine go_aloadN (v := .ref x) (q := 7) d27_6 rfl rfl rfl ?_
  refine go_getfield (v := .int 0) (q := 10) (w_67 H) Via.refl C d27_7 rfl ?_
  refine go_ifN (q := 13) d27_10 rfl rfl ?_
  refine go_iconst (x := (1 : Int32)) (q := 14) d27_13 rfl rfl ?_
  refine go_goto (q := 18) d27_14 (by decide) (by decide) ?_
  exact go_ireturn H (G := []) (t := .boolean) rfl (by decide) rfl d27_18 (by decide) (by decide) (fun _ q => nomatch q) ⟨rfl, rfl⟩
set_option maxRecDepth 65536 in
set_option maxHeartbeats 4000000 in
theorem rm_iASBX {l : Launch} {Z : State} {a0 : Array Value} (H : Wd Z a0) {h : Heap} {F : List Addr} {x s v : Addr} {n : Nat} {cs : List Int32} (E : Exa Z h x ST) (C : Fld Z h x ST "coder" "B" (.int 0)) (Vv : Fld Z h x ST "value" "[B" .null) (B : SBd Z h s v n cs) (hb : cs.length ≤ n) (X : cs.length = n → Exa Z h v "[B") (hc : cs.length ≤ 40) (hx : x ∉ F) (hFl : ∀ y ∈ F, y < h.size) : Met l Z (⟨"java/lang/String", "<init>", "(Ljava/lang/AbstractStringBuilder;Ljava/lang/Void;)V"⟩ : MethodName) jdk_42_method_150_code 5 none ({ frames := 3, cells := 1, slots := 40, locals := 72 } : Room) h (x :: F) #[.ref x, .ref s, .null] (fun u h' G => u = none ∧ Keep h h' [x] ∧ Str Z h' F x cs) := by
  refine Met.mk (L := #[.val (.ref x), .val (.ref s), .val (.null), .unset, .unset]) (by decide +kernel) (fun m => by first | (simp [entryFrame, mkF, argsToLocals, Value.category]; done) | rfl) (fun K => ?_)
  show Go _ _ K "java/lang/String" "<init>" _ _ _ _ _ _ _ _ _ 0 _ _
  obtain ⟨BE, BV, BC, BN, hl, l1, l2, k, A⟩ := B
  have sne : RoadKit.slotOf Z ST "value" "[B" ≠ RoadKit.slotOf Z ST "coder" "B" := slot_ne (C := ST) (Or.inr (w_23 H)) (Or.inr (w_25 H)) (by decide) (t := .array .byte) (t' := .byte) (by decide) (by decide)
  have wiS := (w_10 H)
  have nvx : v ≠ x := (E.neArv A wiS).symm
  refine go_aloadN (v := .ref x) (q := 1) d23_0 rfl rfl rfl ?_
  refine go_initO (q := 4) (w_19 H) (w_20 H) (w_21 H) rfl d23_1 rfl (by decide) (Nat.le_of_ble_eq_true rfl) ?_
  refine go_aloadN (v := .ref s) (q := 5) d23_4 rfl rfl rfl ?_
  refine go_virtual (c' := 0) (s' := 0) (q := 8) (S := []) (argsL := []) H (C := "java/lang/StringBuilder") (w_131 H) (w_132 H) (nf_self (w_134 H)) (w_134 H) (w_133 H) (w_61 H) (w_135 H) (by decide) BE (rm_gV H BV) rfl rfl (lenOf pd_25 rfl) (fun _ q => nomatch q) rfl (by decide) (Nat.le_of_ble_eq_true rfl) rfl rfl (by decide) (by decide) d23_5 rfl ?_
  rintro _ _ G - ⟨rfl, rfl⟩
  refine nx_ (v := none) ?_
  show Go _ _ _ _ _ _ _ _ _ _ _ _ _ _ 8 #[.val (.ref x), .val (.ref s), .val (.null), .unset, .unset] [.ref v]
  refine go_astoreN (L' := #[.val (.ref x), .val (.ref s), .val (.null), .val (.ref v), .unset]) (q := 9) d23_8 rfl rfl rfl ?_
  refine go_aloadN (v := .ref s) (q := 10) d23_9 rfl rfl rfl ?_
  refine go_virtual (c' := 0) (s' := 0) (q := 13) (S := []) (argsL := []) H (C := "java/lang/StringBuilder") (w_136 H) (w_137 H) (nf_mate (y := ({ cls := "java/lang/AbstractStringBuilder", name := "length", desc := "()I" } : Jvm.MethodName)) (w := ({ cls := "java/lang/AbstractStringBuilder", name := "ensureCapacityInternal", desc := "(I)V" } : Jvm.MethodName)) (C := "java/lang/StringBuilder") rfl (w_97 H)) (w_139 H) (w_140 H) (w_53 H) (w_141 H) (by decide) BE (rm_sLen H BE BN) rfl rfl (lenOf pd_16 rfl) (fun _ q => nomatch q) rfl (by decide) (Nat.le_of_ble_eq_true rfl) rfl rfl (by decide) (by decide) d23_10 rfl ?_
  rintro _ _ G - ⟨rfl, rfl⟩
  refine nx_ (v := none) ?_
  show Go _ _ _ _ _ _ _ _ _ _ _ _ _ _ 13 #[.val (.ref x), .val (.ref s), .val (.null), .val (.ref v), .unset] [.int (Int32.ofNat cs.length)]
  refine go_istore (L' := #[.val (.ref x), .val (.ref s), .val (.null), .val (.ref v), .val (.int (Int32.ofNat cs.length))]) (q := 15) d23_13 rfl rfl ?_
  refine go_aloadN (v := .ref s) (q := 16) d23_15 rfl rfl rfl ?_
  refine go_virtual (c' := 0) (s' := 0) (q := 19) (S := []) (argsL := []) H (C := "java/lang/StringBuilder") (w_144 H) (w_145 H) (nf_self (w_147 H)) (w_147 H) (w_146 H) (w_61 H) (w_148 H) (by decide) BE (rm_aL1 H BC) rfl rfl (lenOf pd_26 rfl) (fun _ q => nomatch q) rfl (by decide) (Nat.le_of_ble_eq_true rfl) rfl rfl (by decide) (by decide) d23_16 rfl ?_
  rintro _ _ G - ⟨rfl, rfl⟩
  refine nx_ (v := none) ?_
  show Go _ _ _ _ _ _ _ _ _ _ _ _ _ _ 19 #[.val (.ref x), .val (.ref s), .val (.null), .val (.ref v), .val (.int (Int32.ofNat cs.length))] [.int 1]
  refine go_ifN (q := 22) d23_19 (by decide) rfl ?_
  refine go_aloadN (v := .ref x) (q := 23) d23_22 rfl rfl rfl ?_
  refine go_iconst (x := (0 : Int32)) (q := 24) d23_23 rfl rfl ?_
  refine go_putfield (q := 27) (w_24 H) Via.refl C E (Or.inr ⟨(w_25 H), rfl, rfl⟩) (w_10 H) (ty := .byte) (by decide) rfl rfl (by simp) d23_24 rfl ?_
  intro h1 W1
  refine go_aloadN (v := .ref x) (q := 28) d23_27 rfl rfl rfl ?_
  refine go_aloadN (v := .ref v) (q := 29) d23_28 rfl rfl rfl ?_
  refine go_iconst (x := (0 : Int32)) (q := 30) d23_29 rfl rfl ?_
  refine go_iload (v := (Int32.ofNat cs.length)) (q := 32) d23_30 rfl rfl ?_
  refine go_static (c' := 1) (s' := 40) (q := 35) (S := [.ref x]) (argsL := [.ref v, .int (0 : Int32), .int (Int32.ofNat cs.length)]) H (w_149 H) (w_150 H) (w_151 H) (w_152 H) (by decide) (rm_cRX H (A.other W1 nvx) hb (fun e => (X e).wr W1) l2 hc) rfl rfl (lenOf pd_24 rfl) (fun _ q => nomatch q) rfl (by decide) (Nat.le_of_ble_eq_true rfl) rfl rfl (by decide) (by decide) d23_32 rfl ?_
  rintro _ h2 G - ⟨ba, kb, rfl, gb, K2, V2⟩
  refine nx_ (v := none) ?_
  show Go _ _ _ _ _ _ _ _ _ _ _ _ _ _ 35 #[.val (.ref x), .val (.ref s), .val (.null), .val (.ref v), .val (.int (Int32.ofNat cs.length))] [.ref ba, .ref x]
  have nxb : ba ≠ x := (((E.wr W1).keep K2).neArv V2 wiS).symm
  refine go_putfield (q := 38) (w_22 H) Via.refl ((Vv.other W1 (Or.inr sne)).keep K2 nin0) ((E.wr W1).keep K2) (Or.inr ⟨(w_23 H), rfl, rfl⟩) (w_10 H) (ty := (.array .byte)) (by decide) rfl rfl (by simp) d23_35 rfl ?_
  intro h3 W3
  refine go_goto (q := 97) d23_38 (by decide) (by decide) ?_
  have Kp : Keep h h3 [x] := ((Keep.of_wr W1).trans K2 (fun _ q => nomatch q)).wr W3 (Or.inl (by simp))
  exact go_return H (G := []) rfl d23_97 (by decide) (by decide) (fun _ q => nomatch q) ⟨rfl, Kp, ((E.wr W1).keep K2).wr W3, ((C.same W1).keep K2 nin0).other W3 (Or.inr sne.symm), hx, hl, ba, kb, fun q => absurd (hFl ba q) (Nat.not_lt.mpr (Nat.le_trans (Nat.le_of_eq W1.size.symm) gb)), ((Vv.other W1 (Or.inr sne)).keep K2 nin0).same W3, V2.other W3 nxb⟩
set_option maxRecDepth 65536 in
set_option maxHeartbeats 4000000 in
theorem rm_iSBX {l : Launch} {Z : State} {a0 : Array Value} (H : Wd Z a0) {h : Heap} {F : List Addr} {x s v : Addr} {n : Nat} {cs : List Int32} (E : Exa Z h x ST) (C : Fld Z h x ST "coder" "B" (.int 0)) (Vv : Fld Z h x ST "value" "[B" .null) (B : SBd Z h s v n cs) (hb : cs.length ≤ n) (X : cs.length = n → Exa Z h v "[B") (hc : cs.length ≤ 40) (hx : x ∉ F) (hFl : ∀ y ∈ F, y < h.size) : Met l Z (⟨"java/lang/String", "<init>", "(Ljava/lang/StringBuilder;)V"⟩ : MethodName) jdk_42_method_53_code 2 none ({ frames := 4, cells := 1, slots := 40, locals := 90 } : Room) h (x :: F) #[.ref x, .ref s] (fun u h' G => u = none ∧ Keep h h' [x] ∧ Str Z h' F x cs) := by
  refine Met.mk (L := #[.val (.ref x), .val (.ref s)]) (by decide +kernel) (fun m => by first | (simp [entryFrame, mkF, argsToLocals, Value.category]; done) | rfl) (fun K => ?_)
  show Go _ _ K "java/lang/String" "<init>" _ _ _ _ _ _ _ _ _ 0 _ _
  refine go_aloadN (v := .ref x) (q := 1) d22_0 rfl rfl rfl ?_
  refine go_aloadN (v := .ref s) (q := 2) d22_1 rfl rfl rfl ?_
  refine go_null (q := 3) d22_2 rfl ?_
  refine go_special (c' := 1) (s' := 40) (q := 6) (S := []) (argsL := [.ref s, .null]) H rfl (w_128 H) (w_129 H) (w_2 H) (w_130 H) (by decide) (rm_iASBX H E C Vv B hb X hc hx hFl) rfl rfl (lenOf pd_27 rfl) (fun _ q => q) rfl (by decide) (Nat.le_of_ble_eq_true rfl) rfl rfl (by decide) (by decide) d22_3 rfl ?_
  rintro _ h1 G - ⟨rfl, K1, S1⟩
  refine nx_ (v := none) ?_
  show Go _ _ _ _ _ _ _ _ _ _ _ _ _ _ 6 #[.val (.ref x), .val (.ref s)] []
  exact go_return H (G := []) rfl d22_6 (by decide) (by decide) (fun _ q => nomatch q) ⟨rfl, K1, S1⟩
set_option maxRecDepth 65536 in
set_option maxHeartbeats 4000000 in
theorem rm_toSX {l : Launch} {Z : State} {a0 : Array Value} (H : Wd Z a0) {h : Heap} {F : List Addr} {s v : Addr} {n : Nat} {cs : List Int32} (B : SBd Z h s v n cs) (hb : cs.length ≤ n) (X : cs.length = n → Exa Z h v "[B") (hc : cs.length ≤ 40) (hFl : ∀ y ∈ F, y < h.size) : Met l Z (⟨"java/lang/StringBuilder", "toString", "()Ljava/lang/String;"⟩ : MethodName) jdk_67_method_42_code 1 (some (.object "java/lang/String")) ({ frames := 5, cells := 2, slots := 44, locals := 106 } : Room) h F #[.ref s] (fun u h' G => ∃ a, u = some (.ref a) ∧ Keep h h' [] ∧ Str Z h' F a cs) := by
  refine Met.mk (L := #[.val (.ref s)]) (by decide +kernel) (fun m => by first | (simp [entryFrame, mkF, argsToLocals, Value.category]; done) | rfl) (fun K => ?_)
  show Go _ _ K "java/lang/StringBuilder" "toString" _ _ _ _ _ _ _ _ _ 0 _ _
  have Ka : Keep h h [] := Keep.refl _ _
  refine go_new (c' := 1) (s' := 4) (q := 3) (w_124 H) (w_10 H) (w_2 H) d21_0 rfl rfl rfl (by decide) (by decide) ?_
  intro h1 x g1 E1 A1 D1
  have f_Ka_x : h.size ≤ x := by rw [g1]; exact Ka.1
  have Ka : Keep h h1 [] := Ka.ext E1
  have C1 : Fld Z h1 x ST "coder" "B" (.int 0) := D1 (Or.inr (w_25 H)) (ty := .byte) (by decide)
  have V1 : Fld Z h1 x ST "value" "[B" .null := D1 (Or.inr (w_23 H)) (ty := .array .byte) (by decide)
  have nF : x ∉ F := fun q => absurd (hFl x q) (Nat.not_lt.mpr f_Ka_x)
  refine go_dup (q := 4) d21_3 rfl rfl ?_
  refine go_aloadN (v := .ref s) (q := 5) d21_4 rfl rfl rfl ?_
  refine go_special (c' := 2) (s' := 44) (q := 8) (S := [.ref x]) (argsL := [.ref s]) H rfl (w_125 H) (w_126 H) (w_2 H) (w_127 H) (by decide) (rm_iSBX H A1 C1 V1 (B.ext E1) hb (fun e => (X e).ext E1) hc nF (fun y q => Nat.lt_of_lt_of_le (hFl y q) E1.1)) rfl rfl (lenOf pd_28 rfl) (fun _ q => q) rfl (by decide) (Nat.le_of_ble_eq_true rfl) rfl rfl (by decide) (by decide) d21_5 rfl ?_
  rintro _ h2 G - ⟨rfl, K2, S2⟩
  refine nx_ (v := none) ?_
  have Ka : Keep h h2 [] := kfresh Ka K2 f_Ka_x
  show Go _ _ _ _ _ _ _ _ _ _ _ _ _ _ 8 #[.val (.ref s)] [.ref x]
  exact go_areturn H (G := []) (t := (.object "java/lang/String")) rfl rfl rfl d21_8 (by decide) (by decide) (fun _ q => nomatch q) ⟨x, rfl, Ka, S2⟩
set_option maxRecDepth 65536 in
set_option maxHeartbeats 4000000 in
theorem lp_ss {l : Launch} {Z : State} {a0 : Array Value} (H : Wd Z a0) {K : Cx} {h : Heap} {m sg : Nat} (hm : m ≤ 2147483648) : Go l Z K "java/lang/Integer" "stringSize" jdk_33_method_13_code 4 (some .int) ({ frames := 0, cells := 0, slots := 0, locals := 0 } : Room) (fun u h' G => u = some (.int (Int32.ofNat (ndg m + sg))) ∧ h = h') h [] 0 0 11 #[.val (.int (negI m)), .val (.int (Int32.ofNat sg)), .unset, .unset] [] := by
  refine go_bipush (x := (-10 : Int32)) (q := 13) d45_11 rfl rfl ?_
  refine go_istoreN (L' := #[.val (.int (negI m)), .val (.int (Int32.ofNat sg)), .val (.int (-10 : Int32)), .unset]) (q := 14) d45_13 rfl rfl ?_
  refine go_iconst (x := (1 : Int32)) (q := 15) d45_14 rfl rfl ?_
  refine go_istoreN (L' := #[.val (.int (negI m)), .val (.int (Int32.ofNat sg)), .val (.int (-10 : Int32)), .val (.int (1 : Int32))]) (q := 16) d45_15 rfl rfl ?_
  refine go_iloadN (v := (1 : Int32)) (q := 17) d45_16 rfl rfl ?_
  refine go_bipush (x := (10 : Int32)) (q := 19) d45_17 rfl rfl ?_
  refine go_icN (q := 22) d45_19 (by decide) rfl ?_
  refine go_iloadN (v := (negI m)) (q := 23) d45_22 rfl rfl ?_
  refine go_iloadN (v := (-10 : Int32)) (q := 24) d45_23 rfl rfl ?_
  have e1 : (-10 : Int32) < negI m ↔ m < 10 := by rw [show (-10 : Int32) = negI 10 from by decide]; exact neg_lt (by decide) hm
  by_cases q1 : m < 10
  · refine go_icN (q := 27) d45_24 (e1.mpr q1) rfl ?_
    refine go_iloadN (v := (1 : Int32)) (q := 28) d45_27 rfl rfl ?_
    refine go_iloadN (v := (Int32.ofNat sg)) (q := 29) d45_28 rfl rfl ?_
    refine go_iadd (r := (Int32.ofNat (ndg m + sg))) (q := 30) d45_29 (by rw [ndg, if_pos q1]; exact add_ofNat 1 sg) rfl ?_
    exact go_ireturn H (G := []) (t := .int) rfl (by decide) rfl d45_30 (by decide) (by decide) (fun _ q => nomatch q) ⟨rfl, rfl⟩
  refine go_icY (q := 31) d45_24 (fun z => q1 (e1.mp z)) (by decide) (by decide) ?_
  refine go_bipush (x := (10 : Int32)) (q := 33) d45_31 rfl rfl ?_
  refine go_iloadN (v := (-10 : Int32)) (q := 34) d45_33 rfl rfl ?_
  refine go_imul (r := (-100 : Int32)) (q := 35) d45_34 (by decide) rfl ?_
  refine go_istoreN (L' := #[.val (.int (negI m)), .val (.int (Int32.ofNat sg)), .val (.int (-100 : Int32)), .val (.int (1 : Int32))]) (q := 36) d45_35 rfl rfl ?_
  refine go_iinc (x := (1 : Int32)) (y := (2 : Int32)) (L' := #[.val (.int (negI m)), .val (.int (Int32.ofNat sg)), .val (.int (-100 : Int32)), .val (.int (2 : Int32))]) (q := 39) d45_36 rfl (by decide) rfl rfl ?_
  refine go_goto (q := 16) d45_39 (by decide) (by decide) ?_
  refine go_iloadN (v := (2 : Int32)) (q := 17) d45_16 rfl rfl ?_
  refine go_bipush (x := (10 : Int32)) (q := 19) d45_17 rfl rfl ?_
  refine go_icN (q := 22) d45_19 (by decide) rfl ?_
  refine go_iloadN (v := (negI m)) (q := 23) d45_22 rfl rfl ?_
  refine go_iloadN (v := (-100 : Int32)) (q := 24) d45_23 rfl rfl ?_
  have e2 : (-100 : Int32) < negI m ↔ m < 100 := by rw [show (-100 : Int32) = negI 100 from by decide]; exact neg_lt (by decide) hm
  by_cases q2 : m < 100
  · refine go_icN (q := 27) d45_24 (e2.mpr q2) rfl ?_
    refine go_iloadN (v := (2 : Int32)) (q := 28) d45_27 rfl rfl ?_
    refine go_iloadN (v := (Int32.ofNat sg)) (q := 29) d45_28 rfl rfl ?_
    refine go_iadd (r := (Int32.ofNat (ndg m + sg))) (q := 30) d45_29 (by rw [ndg, if_neg q1, if_pos q2]; exact add_ofNat 2 sg) rfl ?_
    exact go_ireturn H (G := []) (t := .int) rfl (by decide) rfl d45_30 (by decide) (by decide) (fun _ q => nomatch q) ⟨rfl, rfl⟩
  refine go_icY (q := 31) d45_24 (fun z => q2 (e2.mp z)) (by decide) (by decide) ?_
  refine go_bipush (x := (10 : Int32)) (q := 33) d45_31 rfl rfl ?_
  refine go_iloadN (v := (-100 : Int32)) (q := 34) d45_33 rfl rfl ?_
  refine go_imul (r := (-1000 : Int32)) (q := 35) d45_34 (by decide) rfl ?_
  refine go_istoreN (L' := #[.val (.int (negI m)), .val (.int (Int32.ofNat sg)), .val (.int (-1000 : Int32)), .val (.int (2 : Int32))]) (q := 36) d45_35 rfl rfl ?_
  refine go_iinc (x := (2 : Int32)) (y := (3 : Int32)) (L' := #[.val (.int (negI m)), .val (.int (Int32.ofNat sg)), .val (.int (-1000 : Int32)), .val (.int (3 : Int32))]) (q := 39) d45_36 rfl (by decide) rfl rfl ?_
  refine go_goto (q := 16) d45_39 (by decide) (by decide) ?_
  refine go_iloadN (v := (3 : Int32)) (q := 17) d45_16 rfl rfl ?_
  refine go_bipush (x := (10 : Int32)) (q := 19) d45_17 rfl rfl ?_
  refine go_icN (q := 22) d45_19 (by decide) rfl ?_
  refine go_iloadN (v := (negI m)) (q := 23) d45_22 rfl rfl ?_
  refine go_iloadN (v := (-1000 : Int32)) (q := 24) d45_23 rfl rfl ?_
  have e3 : (-1000 : Int32) < negI m ↔ m < 1000 := by rw [show (-1000 : Int32) = negI 1000 from by decide]; exact neg_lt (by decide) hm
  by_cases q3 : m < 1000
  · refine go_icN (q := 27) d45_24 (e3.mpr q3) rfl ?_
    refine go_iloadN (v := (3 : Int32)) (q := 28) d45_27 rfl rfl ?_
    refine go_iloadN (v := (Int32.ofNat sg)) (q := 29) d45_28 rfl rfl ?_
    refine go_iadd (r := (Int32.ofNat (ndg m + sg))) (q := 30) d45_29 (by rw [ndg, if_neg q1, if_neg q2, if_pos q3]; exact add_ofNat 3 sg) rfl ?_
    exact go_ireturn H (G := []) (t := .int) rfl (by decide) rfl d45_30 (by decide) (by decide) (fun _ q => nomatch q) ⟨rfl, rfl⟩
  refine go_icY (q := 31) d45_24 (fun z => q3 (e3.mp z)) (by decide) (by decide) ?_
  refine go_bipush (x := (10 : Int32)) (q := 33) d45_31 rfl rfl ?_
  refine go_iloadN (v := (-1000 : Int32)) (q := 34) d45_33 rfl rfl ?_
  refine go_imul (r := (-10000 : Int32)) (q := 35) d45_34 (by decide) rfl ?_
  refine go_istoreN (L' := #[.val (.int (negI m)), .val (.int (Int32.ofNat sg)), .val (.int (-10000 : Int32)), .val (.int (3 : Int32))]) (q := 36) d45_35 rfl rfl ?_
  refine go_iinc (x := (3 : Int32)) (y := (4 : Int32)) (L' := #[.val (.int (negI m)), .val (.int (Int32.ofNat sg)), .val (.int (-10000 : Int32)), .val (.int (4 : Int32))]) (q := 39) d45_36 rfl (by decide) rfl rfl ?_
  refine go_goto (q := 16) d45_39 (by decide) (by decide) ?_
  refine go_iloadN (v := (4 : Int32)) (q := 17) d45_16 rfl rfl ?_
  refine go_bipush (x := (10 : Int32)) (q := 19) d45_17 rfl rfl ?_
  refine go_icN (q := 22) d45_19 (by decide) rfl ?_
  refine go_iloadN (v := (negI m)) (q := 23) d45_22 rfl rfl ?_
  refine go_iloadN (v := (-10000 : Int32)) (q := 24) d45_23 rfl rfl ?_
  have e4 : (-10000 : Int32) < negI m ↔ m < 10000 := by rw [show (-10000 : Int32) = negI 10000 from by decide]; exact neg_lt (by decide) hm
  by_cases q4 : m < 10000
  · refine go_icN (q := 27) d45_24 (e4.mpr q4) rfl ?_
    refine go_iloadN (v := (4 : Int32)) (q := 28) d45_27 rfl rfl ?_
    refine go_iloadN (v := (Int32.ofNat sg)) (q := 29) d45_28 rfl rfl ?_
    refine go_iadd (r := (Int32.ofNat (ndg m + sg))) (q := 30) d45_29 (by rw [ndg, if_neg q1, if_neg q2, if_neg q3, if_pos q4]; exact add_ofNat 4 sg) rfl ?_
    exact go_ireturn H (G := []) (t := .int) rfl (by decide) rfl d45_30 (by decide) (by decide) (fun _ q => nomatch q) ⟨rfl, rfl⟩
  refine go_icY (q := 31) d45_24 (fun z => q4 (e4.mp z)) (by decide) (by decide) ?_
  refine go_bipush (x := (10 : Int32)) (q := 33) d45_31 rfl rfl ?_
  refine go_iloadN (v := (-10000 : Int32)) (q := 34) d45_33 rfl rfl ?_
  refine go_imul (r := (-100000 : Int32)) (q := 35) d45_34 (by decide) rfl ?_
  refine go_istoreN (L' := #[.val (.int (negI m)), .val (.int (Int32.ofNat sg)), .val (.int (-100000 : Int32)), .val (.int (4 : Int32))]) (q := 36) d45_35 rfl rfl ?_
  refine go_iinc (x := (4 : Int32)) (y := (5 : Int32)) (L' := #[.val (.int (negI m)), .val (.int (Int32.ofNat sg)), .val (.int (-100000 : Int32)), .val (.int (5 : Int32))]) (q := 39) d45_36 rfl (by decide) rfl rfl ?_
  refine go_goto (q := 16) d45_39 (by decide) (by decide) ?_
  refine go_iloadN (v := (5 : Int32)) (q := 17) d45_16 rfl rfl ?_
  refine go_bipush (x := (10 : Int32)) (q := 19) d45_17 rfl rfl ?_
  refine go_icN (q := 22) d45_19 (by decide) rfl ?_
  refine go_iloadN (v := (negI m)) (q := 23) d45_22 rfl rfl ?_
  refine go_iloadN (v := (-100000 : Int32)) (q := 24) d45_23 rfl rfl ?_
  have e5 : (-100000 : Int32) < negI m ↔ m < 100000 := by rw [show (-100000 : Int32) = negI 100000 from by decide]; exact neg_lt (by decide) hm
  by_cases q5 : m < 100000
  · refine go_icN (q := 27) d45_24 (e5.mpr q5) rfl ?_
    refine go_iloadN (v := (5 : Int32)) (q := 28) d45_27 rfl rfl ?_
    refine go_iloadN (v := (Int32.ofNat sg)) (q := 29) d45_28 rfl rfl ?_
    refine go_iadd (r := (Int32.ofNat (ndg m + sg))) (q := 30) d45_29 (by rw [ndg, if_neg q1, if_neg q2, if_neg q3, if_neg q4, if_pos q5]; exact add_ofNat 5 sg) rfl ?_
    exact go_ireturn H (G := []) (t := .int) rfl (by decide) rfl d45_30 (by decide) (by decide) (fun _ q => nomatch q) ⟨rfl, rfl⟩
  refine go_icY (q := 31) d45_24 (fun z => q5 (e5.mp z)) (by decide) (by decide) ?_
  refine go_bipush (x := (10 : Int32)) (q := 33) d45_31 rfl rfl ?_
  refine go_iloadN (v := (-100000 : Int32)) (q := 34) d45_33 rfl rfl ?_
  refine go_imul (r := (-1000000 : Int32)) (q := 35) d45_34 (by decide) rfl ?_
  refine go_istoreN (L' := #[.val (.int (negI m)), .val (.int (Int32.ofNat sg)), .val (.int (-1000000 : Int32)), .val (.int (5 : Int32))]) (q := 36) d45_35 rfl rfl ?_
  refine go_iinc (x := (5 : Int32)) (y := (6 : Int32)) (L' := #[.val (.int (negI m)), .val (.int (Int32.ofNat sg)), .val (.int (-1000000 : Int32)), .val (.int (6 : Int32))]) (q := 39) d45_36 rfl (by decide) rfl rfl ?_
  refine go_goto (q := 16) d45_39 (by decide) (by decide) ?_
  refine go_iloadN (v := (6 : Int32)) (q := 17) d45_16 rfl rfl ?_
  refine go_bipush (x := (10 : Int32)) (q := 19) d45_17 rfl rfl ?_
  refine go_icN (q := 22) d45_19 (by decide) rfl ?_
  refine go_iloadN (v := (negI m)) (q := 23) d45_22 rfl rfl ?_
  refine go_iloadN (v := (-1000000 : Int32)) (q := 24) d45_23 rfl rfl ?_
  have e6 : (-1000000 : Int32) < negI m ↔ m < 1000000 := by rw [show (-1000000 : Int32) = negI 1000000 from by decide]; exact neg_lt (by decide) hm
  by_cases q6 : m < 1000000
  · refine go_icN (q := 27) d45_24 (e6.mpr q6) rfl ?_
    refine go_iloadN (v := (6 : Int32)) (q := 28) d45_27 rfl rfl ?_
    refine go_iloadN (v := (Int32.ofNat sg)) (q := 29) d45_28 rfl rfl ?_
    refine go_iadd (r := (Int32.ofNat (ndg m + sg))) (q := 30) d45_29 (by rw [ndg, if_neg q1, if_neg q2, if_neg q3, if_neg q4, if_neg q5, if_pos q6]; exact add_ofNat 6 sg) rfl ?_
    exact go_ireturn H (G := []) (t := .int) rfl (by decide) rfl d45_30 (by decide) (by decide) (fun _ q => nomatch q) ⟨rfl, rfl⟩
  refine go_icY (q := 31) d45_24 (fun z => q6 (e6.mp z)) (by decide) (by decide) ?_
  refine go_bipush (x := (10 : Int32)) (q := 33) d45_31 rfl rfl ?_
  refine go_iloadN (v := (-1000000 : Int32)) (q := 34) d45_33 rfl rfl ?_
  refine go_imul (r := (-10000000 : Int32)) (q := 35) d45_34 (by decide) rfl ?_
  refine go_istoreN (L' := #[.val (.int (negI m)), .val (.int (Int32.ofNat sg)), .val (.int (-10000000 : Int32)), .val (.int (6 : Int32))]) (q := 36) d45_35 rfl rfl ?_
  refine go_iinc (x := (6 : Int32)) (y := (7 : Int32)) (L' := #[.val (.int (negI m)), .val (.int (Int32.ofNat sg)), .val (.int (-10000000 : Int32)), .val (.int (7 : Int32))]) (q := 39) d45_36 rfl (by decide) rfl rfl ?_
  refine go_goto (q := 16) d45_39 (by decide) (by decide) ?_
  refine go_iloadN (v := (7 : Int32)) (q := 17) d45_16 rfl rfl ?_
  refine go_bipush (x := (10 : Int32)) (q := 19) d45_17 rfl rfl ?_
  refine go_icN (q := 22) d45_19 (by decide) rfl ?_
  refine go_iloadN (v := (negI m)) (q := 23) d45_22 rfl rfl ?_
  refine go_iloadN (v := (-10000000 : Int32)) (q := 24) d45_23 rfl rfl ?_
  have e7 : (-10000000 : Int32) < negI m ↔ m < 10000000 := by rw [show (-10000000 : Int32) = negI 10000000 from by decide]; exact neg_lt (by decide) hm
  by_cases q7 : m < 10000000
  · refine go_icN (q := 27) d45_24 (e7.mpr q7) rfl ?_
    refine go_iloadN (v := (7 : Int32)) (q := 28) d45_27 rfl rfl ?_
    refine go_iloadN (v := (Int32.ofNat sg)) (q := 29) d45_28 rfl rfl ?_
    refine go_iadd (r := (Int32.ofNat (ndg m + sg))) (q := 30) d45_29 (by rw [ndg, if_neg q1, if_neg q2, if_neg q3, if_neg q4, if_neg q5, if_neg q6, if_pos q7]; exact add_ofNat 7 sg) rfl ?_
    exact go_ireturn H (G := []) (t := .int) rfl (by decide) rfl d45_30 (by decide) (by decide) (fun _ q => nomatch q) ⟨rfl, rfl⟩
  refine go_icY (q := 31) d45_24 (fun z => q7 (e7.mp z)) (by decide) (by decide) ?_
  refine go_bipush (x := (10 : Int32)) (q := 33) d45_31 rfl rfl ?_
  refine go_iloadN (v := (-10000000 : Int32)) (q := 34) d45_33 rfl rfl ?_
  refine go_imul (r := (-100000000 : Int32)) (q := 35) d45_34 (by decide) rfl ?_
  refine go_istoreN (L' := #[.val (.int (negI m)), .val (.int (Int32.ofNat sg)), .val (.int (-100000000 : Int32)), .val (.int (7 : Int32))]) (q := 36) d45_35 rfl rfl ?_
  refine go_iinc (x := (7 : Int32)) (y := (8 : Int32)) (L' := #[.val (.int (negI m)), .val (.int (Int32.ofNat sg)), .val (.int (-100000000 : Int32)), .val (.int (8 : Int32))]) (q := 39) d45_36 rfl (by decide) rfl rfl ?_
  refine go_goto (q := 16) d45_39 (by decide) (by decide) ?_
  refine go_iloadN (v := (8 : Int32)) (q := 17) d45_16 rfl rfl ?_
  refine go_bipush (x := (10 : Int32)) (q := 19) d45_17 rfl rfl ?_
  refine go_icN (q := 22) d45_19 (by decide) rfl ?_
  refine go_iloadN (v := (negI m)) (q := 23) d45_22 rfl rfl ?_
  refine go_iloadN (v := (-100000000 : Int32)) (q := 24) d45_23 rfl rfl ?_
  have e8 : (-100000000 : Int32) < negI m ↔ m < 100000000 := by rw [show (-100000000 : Int32) = negI 100000000 from by decide]; exact neg_lt (by decide) hm
  by_cases q8 : m < 100000000
  · refine go_icN (q := 27) d45_24 (e8.mpr q8) rfl ?_
    refine go_iloadN (v := (8 : Int32)) (q := 28) d45_27 rfl rfl ?_
    refine go_iloadN (v := (Int32.ofNat sg)) (q := 29) d45_28 rfl rfl ?_
    refine go_iadd (r := (Int32.ofNat (ndg m + sg))) (q := 30) d45_29 (by rw [ndg, if_neg q1, if_neg q2, if_neg q3, if_neg q4, if_neg q5, if_neg q6, if_neg q7, if_pos q8]; exact add_ofNat 8 sg) rfl ?_
    exact go_ireturn H (G := []) (t := .int) rfl (by decide) rfl d45_30 (by decide) (by decide) (fun _ q => nomatch q) ⟨rfl, rfl⟩
  refine go_icY (q := 31) d45_24 (fun z => q8 (e8.mp z)) (by decide) (by decide) ?_
  refine go_bipush (x := (10 : Int32)) (q := 33) d45_31 rfl rfl ?_
  refine go_iloadN (v := (-100000000 : Int32)) (q := 34) d45_33 rfl rfl ?_
  refine go_imul (r := (-1000000000 : Int32)) (q := 35) d45_34 (by decide) rfl ?_
  refine go_istoreN (L' := #[.val (.int (negI m)), .val (.int (Int32.ofNat sg)), .val (.int (-1000000000 : Int32)), .val (.int (8 : Int32))]) (q := 36) d45_35 rfl rfl ?_
  refine go_iinc (x := (8 : Int32)) (y := (9 : Int32)) (L' := #[.val (.int (negI m)), .val (.int (Int32.ofNat sg)), .val (.int (-1000000000 : Int32)), .val (.int (9 : Int32))]) (q := 39) d45_36 rfl (by decide) rfl rfl ?_
  refine go_goto (q := 16) d45_39 (by decide) (by decide) ?_
  refine go_iloadN (v := (9 : Int32)) (q := 17) d45_16 rfl rfl ?_
  refine go_bipush (x := (10 : Int32)) (q := 19) d45_17 rfl rfl ?_
  refine go_icN (q := 22) d45_19 (by decide) rfl ?_
  refine go_iloadN (v := (negI m)) (q := 23) d45_22 rfl rfl ?_
  refine go_iloadN (v := (-1000000000 : Int32)) (q := 24) d45_23 rfl rfl ?_
  have e9 : (-1000000000 : Int32) < negI m ↔ m < 1000000000 := by rw [show (-1000000000 : Int32) = negI 1000000000 from by decide]; exact neg_lt (by decide) hm
  by_cases q9 : m < 1000000000
  · refine go_icN (q := 27) d45_24 (e9.mpr q9) rfl ?_
    refine go_iloadN (v := (9 : Int32)) (q := 28) d45_27 rfl rfl ?_
    refine go_iloadN (v := (Int32.ofNat sg)) (q := 29) d45_28 rfl rfl ?_
    refine go_iadd (r := (Int32.ofNat (ndg m + sg))) (q := 30) d45_29 (by rw [ndg, if_neg q1, if_neg q2, if_neg q3, if_neg q4, if_neg q5, if_neg q6, if_neg q7, if_neg q8, if_pos q9]; exact add_ofNat 9 sg) rfl ?_
    exact go_ireturn H (G := []) (t := .int) rfl (by decide) rfl d45_30 (by decide) (by decide) (fun _ q => nomatch q) ⟨rfl, rfl⟩
  refine go_icY (q := 31) d45_24 (fun z => q9 (e9.mp z)) (by decide) (by decide) ?_
  refine go_bipush (x := (10 : Int32)) (q := 33) d45_31 rfl rfl ?_
  refine go_iloadN (v := (-1000000000 : Int32)) (q := 34) d45_33 rfl rfl ?_
  refine go_imul (r := (-1410065408 : Int32)) (q := 35) d45_34 (by decide) rfl ?_
  refine go_istoreN (L' := #[.val (.int (negI m)), .val (.int (Int32.ofNat sg)), .val (.int (-1410065408 : Int32)), .val (.int (9 : Int32))]) (q := 36) d45_35 rfl rfl ?_
  refine go_iinc (x := (9 : Int32)) (y := (10 : Int32)) (L' := #[.val (.int (negI m)), .val (.int (Int32.ofNat sg)), .val (.int (-1410065408 : Int32)), .val (.int (10 : Int32))]) (q := 39) d45_36 rfl (by decide) rfl rfl ?_
  refine go_goto (q := 16) d45_39 (by decide) (by decide) ?_
  refine go_iloadN (v := (10 : Int32)) (q := 17) d45_16 rfl rfl ?_
  refine go_bipush (x := (10 : Int32)) (q := 19) d45_17 rfl rfl ?_
  refine go_icY (q := 42) d45_19 (by decide) (by decide) (by decide) ?_
  refine go_bipush (x := (10 : Int32)) (q := 44) d45_42 rfl rfl ?_
  refine go_iloadN (v := (Int32.ofNat sg)) (q := 45) d45_44 rfl rfl ?_
  refine go_iadd (r := (Int32.ofNat (ndg m + sg))) (q := 46) d45_45 (by rw [ndg, if_neg q1, if_neg q2, if_neg q3, if_neg q4, if_neg q5, if_neg q6, if_neg q7, if_neg q8, if_neg q9]; exact add_ofNat 10 sg) rfl ?_
  exact go_ireturn H (G := []) (t := .int) rfl (by decide) rfl d45_46 (by decide) (by decide) (fun _ q => nomatch q) ⟨rfl, rfl⟩
set_option maxRecDepth 65536 in
set_option maxHeartbeats 4000000 in
theorem rm_ss {l : Launch} {Z : State} {a0 : Array Value} (H : Wd Z a0) {h : Heap} {x : Int32}  : Met l Z (⟨"java/lang/Integer", "stringSize", "(I)I"⟩ : MethodName) jdk_33_method_13_code 4 (some .int) ({ frames := 0, cells := 0, slots := 0, locals := 0 } : Room) h [] #[.int x] (fun u h' G => u = some (.int (Int32.ofNat (ndg (mag x) + sgn x))) ∧ h = h') := by
  refine Met.mk (L := #[.val (.int x), .unset, .unset, .unset]) (by decide +kernel) (fun m => by first | (simp [entryFrame, mkF, argsToLocals, Value.category]; done) | rfl) (fun K => ?_)
  show Go _ _ K "java/lang/Integer" "stringSize" _ _ _ _ _ _ _ _ _ 0 _ _
  refine go_iconst (x := (1 : Int32)) (q := 1) d45_0 rfl rfl ?_
  refine go_istoreN (L' := #[.val (.int x), .val (.int (1 : Int32)), .unset, .unset]) (q := 2) d45_1 rfl rfl ?_
  refine go_iloadN (v := x) (q := 3) d45_2 rfl rfl ?_
  by_cases q : x < 0
  · refine go_ifY (q := 11) d45_3 q (by decide) (by decide) ?_
    rw [show sgn x = 1 from if_pos q]
    have e := mag_neg q
    have hm := mag_le x
    generalize mag x = m at e hm ⊢
    subst e
    exact lp_ss H hm
  · refine go_ifN (q := 6) d45_3 q rfl ?_
    refine go_iconst (x := (0 : Int32)) (q := 7) d45_6 rfl rfl ?_
    refine go_istoreN (L' := #[.val (.int x), .val (.int (0 : Int32)), .unset, .unset]) (q := 8) d45_7 rfl rfl ?_
    refine go_iloadN (v := x) (q := 9) d45_8 rfl rfl ?_
    refine go_ineg (r := (negI (mag x))) (q := 10) d45_9 (mag_pos q) rfl ?_
    refine go_istoreN (L' := #[.val (.int (negI (mag x))), .val (.int (0 : Int32)), .unset, .unset]) (q := 11) d45_10 rfl rfl ?_
    rw [show sgn x = 0 from if_neg q]
    exact lp_ss H (sg := 0) (mag_le x)
set_option maxRecDepth 65536 in
set_option maxHeartbeats 4000000 in
theorem ex_gc0 {l : Launch} {Z : State} {a0 : Array Value} (H : Wd Z a0) {K : Cx} {h : Heap} {v : Addr} {kv : ClassId} {m : Nat} {s1 : Slot} (TB : Tabs Z) (hm : m ≤ 2147483648) {q k : Nat} {h1 : Heap} {s3 s4 : Slot} (hq : q < 100) (eq : q = m / 10 ^ k) (hk : ndg m = k + ndg q) (K1 : Keep h h1 [v]) (V1 : Arv Z h1 v kv .byte (Int32.ofNat 16) (zs (ndg q + 0) ++ (bts (dgs m k) ++ zs (16 - (ndg m + 0)))) (.int 0)) : Go l Z K "java/lang/Integer" "getChars" jdk_33_method_12_code 7 (some .int) ({ frames := 0, cells := 0, slots := 0, locals := 0 } : Room) (fun u h' G => (∃ r, u = some (.int r)) ∧ Keep h h' [v] ∧ Arv Z h' v kv .byte (Int32.ofNat 16) (bts (decS 0 m) ++ zs (16 - (decS 0 m).length)) (.int 0)) h1 [v] 0 0 22 #[.val (.int (negI q)), s1, .val (.ref v), s3, s4, .val (.int (Int32.ofNat (ndg q + 0))), .val (.int (0 : Int32))] [] := by
  obtain ⟨⟨d1, k1, S1, T1⟩, ⟨d2, k2, S2, T2⟩⟩ := TB
  have hnd := nd_le m
  have g1 : (-100 : Int32) < negI q ↔ q < 100 := by rw [show (-100 : Int32) = negI 100 from by decide]; exact neg_lt (by decide) (by omega)
  have g2 : negI q < (-9 : Int32) ↔ 9 < q := by rw [show (-9 : Int32) = negI 9 from by decide]; exact neg_lt (by omega) (by decide)
  have f1 : Int32.ofNat (48 + q % 10) = dig m k := by rw [dig, eq]
  refine go_iloadN (v := (negI q)) (q := 23) d46_22 rfl rfl ?_
  refine go_bipush (x := (-100 : Int32)) (q := 25) d46_23 rfl rfl ?_
  refine go_icY (q := 72) d46_25 (g1.mpr hq) (by decide) (by decide) ?_
  by_cases q9 : 9 < q
  · have hnq : ndg q = 2 := nd_mid (by omega) hq
    rw [hnq] at V1 hk ⊢
    show Go _ _ _ _ _ _ _ _ _ _ _ _ _ _ 72 #[.val (.int (negI q)), s1, .val (.ref v), s3, s4, .val (.int (Int32.ofNat (2 + 0))), .val (.int (0 : Int32))] []
    refine go_aloadN (v := .ref v) (q := 73) d46_72 rfl rfl rfl ?_
    refine go_iinc (x := (Int32.ofNat (2 + 0))) (y := (Int32.ofNat 1)) (L' := #[.val (.int (negI q)), s1, .val (.ref v), s3, s4, .val (.int (Int32.ofNat 1)), .val (.int (0 : Int32))]) (q := 76) d46_73 rfl (dec1 1) rfl rfl ?_
    refine go_iload (v := (Int32.ofNat 1)) (q := 78) d46_76 rfl rfl ?_
    refine go_getstatic (v := .ref d1) (q := 81) (w_232 H) Via.refl S1 d46_78 rfl ?_
    refine go_mine fun _ hO => ?_
    refine go_iloadN (v := (negI q)) (q := 82) d46_81 rfl rfl ?_
    refine go_ineg (r := (Int32.ofNat q)) (q := 83) d46_82 (neg_neg' (by omega)) rfl ?_
    refine go_baload (v := .int (dig m k)) (q := 84) (T1.ext hO.2) ⟨nn_ofNat (by omega), (lt_ofNat (n := 100) (by omega) (by decide)).mpr (by omega)⟩ (by rw [tab_at hq]; simp only [Value.int.injEq]; exact f1) d46_83 rfl ?_
    refine go_bastore (i := 1) (y := ((dig m k)).toInt8.toInt32) (q := 85) V1 ⟨nn_ofNat (by omega), (lt_ofNat (by omega) (by decide)).mpr (by omega)⟩ (cl_ofNat (by omega)) (by simp <;> omega) (by simp) (show (((dig m k)).toInt8.toInt32) = ((dig m k)).toInt8.toInt32 from rfl) d46_84 rfl ?_
    intro h2 K2 z2 V2
    have V2 : Arv Z h2 v kv .byte (Int32.ofNat 16) (zs 1 ++ (bts (dgs m (k + 1)) ++ zs (16 - (ndg m + 0)))) (.int 0) := by rw [show 2 + 0 = 1 + 1 from rfl, zs_set (p := 1), bts_dgs] at V2; exact V2
    have K1 := K1.trans K2 (fun _ q => Or.inl q)
    refine go_iloadN (v := (negI q)) (q := 86) d46_85 rfl rfl ?_
    refine go_bipush (x := (-9 : Int32)) (q := 88) d46_86 rfl rfl ?_
    refine go_icN (q := 91) d46_88 (g2.mpr q9) rfl ?_
    have f2 : Int32.ofNat (48 + q / 10) = dig m (k + 1) := by rw [dig, eq, Nat.div_div_eq_div_mul, ← Nat.pow_succ, Nat.mod_eq_of_lt (by rw [Nat.pow_succ, ← Nat.div_div_eq_div_mul, ← eq]; omega)]
    refine go_aloadN (v := .ref v) (q := 92) d46_91 rfl rfl rfl ?_
    refine go_iinc (x := (Int32.ofNat 1)) (y := (Int32.ofNat 0)) (L' := #[.val (.int (negI q)), s1, .val (.ref v), s3, s4, .val (.int (Int32.ofNat 0)), .val (.int (0 : Int32))]) (q := 95) d46_92 rfl (dec1 0) rfl rfl ?_
    refine go_iload (v := (Int32.ofNat 0)) (q := 97) d46_95 rfl rfl ?_
    refine go_getstatic (v := .ref d2) (q := 100) (w_233 H) Via.refl S2 d46_97 rfl ?_
    refine go_mine fun _ hO => ?_
    refine go_iloadN (v := (negI q)) (q := 101) d46_100 rfl rfl ?_
    refine go_ineg (r := (Int32.ofNat q)) (q := 102) d46_101 (neg_neg' (by omega)) rfl ?_
    refine go_baload (v := .int (dig m (k + 1))) (q := 103) (T2.ext hO.2) ⟨nn_ofNat (by omega), (lt_ofNat (n := 100) (by omega) (by decide)).mpr (by omega)⟩ (by rw [tab_at hq]; simp only [Value.int.injEq]; exact f2) d46_102 rfl ?_
    refine go_bastore (i := 0) (y := ((dig m (k + 1))).toInt8.toInt32) (q := 104) V2 ⟨nn_ofNat (by omega), (lt_ofNat (by omega) (by decide)).mpr (by omega)⟩ (cl_ofNat (by omega)) (by simp <;> omega) (by simp) (show (((dig m (k + 1))).toInt8.toInt32) = ((dig m (k + 1))).toInt8.toInt32 from rfl) d46_103 rfl ?_
    intro h3 K3 z3 V3
    have V3 : Arv Z h3 v kv .byte (Int32.ofNat 16) (zs 0 ++ (bts (dgs m (k + 2)) ++ zs (16 - (ndg m + 0)))) (.int 0) := by rw [show zs 1 = zs (0 + 1) from rfl, zs_set (p := 0), bts_dgs] at V3; exact V3
    have K1 := K1.trans K3 (fun _ q => Or.inl q)
    rw [show k + 2 = ndg m from hk.symm] at V3
    refine go_iload (v := (0 : Int32)) (q := 106) d46_104 rfl rfl ?_
    refine go_ifY (q := 118) d46_106 (by decide) (by decide) (by decide) ?_
    refine go_iload (v := (Int32.ofNat 0)) (q := 120) d46_118 rfl rfl ?_
    have V9 : Arv Z h3 v kv .byte (Int32.ofNat 16) (bts (decS 0 m) ++ zs (16 - (decS 0 m).length)) (.int 0) := by rw [decS_len, ← fin0]; exact V3
    exact go_ireturn H (G := []) (t := .int) rfl (by decide) rfl d46_120 (by decide) (by decide) (fun _ q => nomatch q) ⟨⟨_, rfl⟩, K1, V9⟩
  · have hnq : ndg q = 1 := nd_lo (by omega)
    rw [hnq] at V1 hk ⊢
    show Go _ _ _ _ _ _ _ _ _ _ _ _ _ _ 72 #[.val (.int (negI q)), s1, .val (.ref v), s3, s4, .val (.int (Int32.ofNat (1 + 0))), .val (.int (0 : Int32))] []
    refine go_aloadN (v := .ref v) (q := 73) d46_72 rfl rfl rfl ?_
    refine go_iinc (x := (Int32.ofNat (1 + 0))) (y := (Int32.ofNat 0)) (L' := #[.val (.int (negI q)), s1, .val (.ref v), s3, s4, .val (.int (Int32.ofNat 0)), .val (.int (0 : Int32))]) (q := 76) d46_73 rfl (dec1 0) rfl rfl ?_
    refine go_iload (v := (Int32.ofNat 0)) (q := 78) d46_76 rfl rfl ?_
    refine go_getstatic (v := .ref d1) (q := 81) (w_232 H) Via.refl S1 d46_78 rfl ?_
    refine go_mine fun _ hO => ?_
    refine go_iloadN (v := (negI q)) (q := 82) d46_81 rfl rfl ?_
    refine go_ineg (r := (Int32.ofNat q)) (q := 83) d46_82 (neg_neg' (by omega)) rfl ?_
    refine go_baload (v := .int (dig m k)) (q := 84) (T1.ext hO.2) ⟨nn_ofNat (by omega), (lt_ofNat (n := 100) (by omega) (by decide)).mpr (by omega)⟩ (by rw [tab_at hq]; simp only [Value.int.injEq]; exact f1) d46_83 rfl ?_
    refine go_bastore (i := 0) (y := ((dig m k)).toInt8.toInt32) (q := 85) V1 ⟨nn_ofNat (by omega), (lt_ofNat (by omega) (by decide)).mpr (by omega)⟩ (cl_ofNat (by omega)) (by simp <;> omega) (by simp) (show (((dig m k)).toInt8.toInt32) = ((dig m k)).toInt8.toInt32 from rfl) d46_84 rfl ?_
    intro h2 K2 z2 V2
    have V2 : Arv Z h2 v kv .byte (Int32.ofNat 16) (zs 0 ++ (bts (dgs m (k + 1)) ++ zs (16 - (ndg m + 0)))) (.int 0) := by rw [show 1 + 0 = 0 + 1 from rfl, zs_set (p := 0), bts_dgs] at V2; exact V2
    have K1 := K1.trans K2 (fun _ q => Or.inl q)
    refine go_iloadN (v := (negI q)) (q := 86) d46_85 rfl rfl ?_
    refine go_bipush (x := (-9 : Int32)) (q := 88) d46_86 rfl rfl ?_
    refine go_icY (q := 104) d46_88 (show ¬ _ from fun z => q9 (g2.mp z)) (by decide) (by decide) ?_
    rw [show k + 1 = ndg m from hk.symm] at V2
    refine go_iload (v := (0 : Int32)) (q := 106) d46_104 rfl rfl ?_
    refine go_ifY (q := 118) d46_106 (by decide) (by decide) (by decide) ?_
    refine go_iload (v := (Int32.ofNat 0)) (q := 120) d46_118 rfl rfl ?_
    have V9 : Arv Z h2 v kv .byte (Int32.ofNat 16) (bts (decS 0 m) ++ zs (16 - (decS 0 m).length)) (.int 0) := by rw [decS_len, ← fin0]; exact V2
    exact go_ireturn H (G := []) (t := .int) rfl (by decide) rfl d46_120 (by decide) (by decide) (fun _ q => nomatch q) ⟨⟨_, rfl⟩, K1, V9⟩
set_option maxRecDepth 65536 in
set_option maxHeartbeats 4000000 in
theorem lp_gc0 {l : Launch} {Z : State} {a0 : Array Value} (H : Wd Z a0) {K : Cx} {h : Heap} {v : Addr} {kv : ClassId} {m : Nat} {s1 : Slot} (TB : Tabs Z) (hm : m ≤ 2147483648) : ∀ (n q k : Nat) (h1 : Heap) (s3 s4 : Slot), q ≤ n → q = m / 10 ^ k → ndg m = k + ndg q → Keep h h1 [v] → One s3 → One s4 → Arv Z h1 v kv .byte (Int32.ofNat 16) (zs (ndg q + 0) ++ (bts (dgs m k) ++ zs (16 - (ndg m + 0)))) (.int 0) → Go l Z K "java/lang/Integer" "getChars" jdk_33_method_12_code 7 (some .int) ({ frames := 0, cells := 0, slots := 0, locals := 0 } : Room) (fun u h' G => (∃ r, u = some (.int r)) ∧ Keep h h' [v] ∧ Arv Z h' v kv .byte (Int32.ofNat 16) (bts (decS 0 m) ++ zs (16 - (decS 0 m).length)) (.int 0)) h1 [v] 0 0 22 #[.val (.int (negI q)), s1, .val (.ref v), s3, s4, .val (.int (Int32.ofNat (ndg q + 0))), .val (.int (0 : Int32))] []
  | 0, q, k, h1, s3, s4, hn, eq, hk, K1, o3, o4, V1 => ex_gc0 H TB hm (by omega) eq hk K1 V1
  | n + 1, q, k, h1, s3, s4, hn, eq, hk, K1, o3, o4, V1 => by
    by_cases hq : q < 100
    · exact ex_gc0 H TB hm hq eq hk K1 V1
    have hqm : q ≤ m := by rw [eq]; exact Nat.div_le_self _ _
    have T0 := TB
    obtain ⟨⟨d1, k1, S1, T1⟩, ⟨d2, k2, S2, T2⟩⟩ := TB
    have hnd := nd_le m
    have hnq := nd_le (q / 100)
    have g1 : (-100 : Int32) < negI q ↔ q < 100 := by rw [show (-100 : Int32) = negI 100 from by decide]; exact neg_lt (by decide) (by omega)
    have e100 := nd_100 (Nat.not_lt.mp hq) (by omega)
    rw [e100] at V1 hk ⊢
    have f1 : Int32.ofNat (48 + q % 100 % 10) = dig m k := by rw [dig, ← eq, show q % 100 % 10 = q % 10 by omega]
    have f2 : Int32.ofNat (48 + q % 100 / 10) = dig m (k + 1) := by rw [dig, Nat.pow_succ, ← Nat.div_div_eq_div_mul, ← eq, show q % 100 / 10 = q / 10 % 10 by omega]
    show Go _ _ _ _ _ _ _ _ _ _ _ _ _ _ 22 #[.val (.int (negI q)), s1, .val (.ref v), s3, s4, .val (.int (Int32.ofNat (ndg (q / 100) + 2 + 0))), .val (.int (0 : Int32))] []
    refine go_iloadN (v := (negI q)) (q := 23) d46_22 rfl rfl ?_
    refine go_bipush (x := (-100 : Int32)) (q := 25) d46_23 rfl rfl ?_
    refine go_icN (q := 28) d46_25 (fun z => hq (g1.mp z)) rfl ?_
    refine go_iloadN (v := (negI q)) (q := 29) d46_28 rfl rfl ?_
    refine go_bipush (x := (100 : Int32)) (q := 31) d46_29 rfl rfl ?_
    refine go_idiv (r := (negI (q / 100))) (q := 32) d46_31 (by decide) (neg_div (by omega)) rfl ?_
    refine go_istoreNO (L' := #[.val (.int (negI q)), s1, .val (.ref v), .val (.int (negI (q / 100))), s4, .val (.int (Int32.ofNat (ndg (q / 100) + 2 + 0))), .val (.int (0 : Int32))]) (q := 33) d46_32 rfl o3 rfl rfl ?_
    refine go_iloadN (v := (negI (q / 100))) (q := 34) d46_33 rfl rfl ?_
    refine go_bipush (x := (100 : Int32)) (q := 36) d46_34 rfl rfl ?_
    refine go_imul (r := (negI (q / 100)) * (100 : Int32)) (q := 37) d46_36 rfl rfl ?_
    refine go_iloadN (v := (negI q)) (q := 38) d46_37 rfl rfl ?_
    refine go_isub (r := (Int32.ofNat (q % 100))) (q := 39) d46_38 (neg_rem (by omega)) rfl ?_
    refine go_istoreO (L' := #[.val (.int (negI q)), s1, .val (.ref v), .val (.int (negI (q / 100))), .val (.int (Int32.ofNat (q % 100))), .val (.int (Int32.ofNat (ndg (q / 100) + 2 + 0))), .val (.int (0 : Int32))]) (q := 41) d46_39 rfl o4 rfl rfl ?_
    have c1 : Int32.ofNat (ndg (q / 100) + 2 + 0) + Int32.ofInt (-1) = Int32.ofNat (ndg (q / 100) + 1 + 0) := by rw [show ndg (q / 100) + 2 + 0 = (ndg (q / 100) + 1 + 0) + 1 by omega]; exact dec1 _
    have c2 : Int32.ofNat (ndg (q / 100) + 1 + 0) + Int32.ofInt (-1) = Int32.ofNat (ndg (q / 100) + 0) := by rw [show (ndg (q / 100) + 1 + 0) = (ndg (q / 100) + 0) + 1 by omega]; exact dec1 _
    refine go_iloadN (v := (negI (q / 100))) (q := 42) d46_41 rfl rfl ?_
    refine go_istoreN (L' := #[.val (.int (negI (q / 100))), s1, .val (.ref v), .val (.int (negI (q / 100))), .val (.int (Int32.ofNat (q % 100))), .val (.int (Int32.ofNat (ndg (q / 100) + 2 + 0))), .val (.int (0 : Int32))]) (q := 43) d46_42 rfl rfl ?_
    refine go_aloadN (v := .ref v) (q := 44) d46_43 rfl rfl rfl ?_
    refine go_iinc (x := (Int32.ofNat (ndg (q / 100) + 2 + 0))) (y := (Int32.ofNat (ndg (q / 100) + 1 + 0))) (L' := #[.val (.int (negI (q / 100))), s1, .val (.ref v), .val (.int (negI (q / 100))), .val (.int (Int32.ofNat (q % 100))), .val (.int (Int32.ofNat (ndg (q / 100) + 1 + 0))), .val (.int (0 : Int32))]) (q := 47) d46_44 rfl c1 rfl rfl ?_
    refine go_iload (v := (Int32.ofNat (ndg (q / 100) + 1 + 0))) (q := 49) d46_47 rfl rfl ?_
    refine go_getstatic (v := .ref d1) (q := 52) (w_232 H) Via.refl S1 d46_49 rfl ?_
    refine go_mine fun _ hO => ?_
    refine go_iload (v := (Int32.ofNat (q % 100))) (q := 54) d46_52 rfl rfl ?_
    refine go_baload (v := .int (dig m k)) (q := 55) (T1.ext hO.2) ⟨nn_ofNat (by omega), (lt_ofNat (n := 100) (by omega) (by decide)).mpr (by omega)⟩ (by rw [tab_at (Nat.mod_lt _ (by decide))]; simp only [Value.int.injEq]; exact f1) d46_54 rfl ?_
    refine go_bastore (i := (ndg (q / 100) + 1 + 0)) (y := ((dig m k)).toInt8.toInt32) (q := 56) V1 ⟨nn_ofNat (by omega), (lt_ofNat (by omega) (by decide)).mpr (by omega)⟩ (cl_ofNat (by omega)) (by simp <;> omega) (by simp) (show (((dig m k)).toInt8.toInt32) = ((dig m k)).toInt8.toInt32 from rfl) d46_55 rfl ?_
    intro h2 K2 z2 V2
    have V2 : Arv Z h2 v kv .byte (Int32.ofNat 16) (zs (ndg (q / 100) + 1 + 0) ++ (bts (dgs m (k + 1)) ++ zs (16 - (ndg m + 0)))) (.int 0) := by rw [show ndg (q / 100) + 2 + 0 = (ndg (q / 100) + 1 + 0) + 1 by omega, zs_set (p := (ndg (q / 100) + 1 + 0)), bts_dgs] at V2; exact V2
    refine go_aloadN (v := .ref v) (q := 57) d46_56 rfl rfl rfl ?_
    refine go_iinc (x := (Int32.ofNat (ndg (q / 100) + 1 + 0))) (y := (Int32.ofNat (ndg (q / 100) + 0))) (L' := #[.val (.int (negI (q / 100))), s1, .val (.ref v), .val (.int (negI (q / 100))), .val (.int (Int32.ofNat (q % 100))), .val (.int (Int32.ofNat (ndg (q / 100) + 0))), .val (.int (0 : Int32))]) (q := 60) d46_57 rfl c2 rfl rfl ?_
    refine go_iload (v := (Int32.ofNat (ndg (q / 100) + 0))) (q := 62) d46_60 rfl rfl ?_
    refine go_getstatic (v := .ref d2) (q := 65) (w_233 H) Via.refl S2 d46_62 rfl ?_
    refine go_mine fun _ hO => ?_
    refine go_iload (v := (Int32.ofNat (q % 100))) (q := 67) d46_65 rfl rfl ?_
    refine go_baload (v := .int (dig m (k + 1))) (q := 68) (T2.ext hO.2) ⟨nn_ofNat (by omega), (lt_ofNat (n := 100) (by omega) (by decide)).mpr (by omega)⟩ (by rw [tab_at (Nat.mod_lt _ (by decide))]; simp only [Value.int.injEq]; exact f2) d46_67 rfl ?_
    refine go_bastore (i := (ndg (q / 100) + 0)) (y := ((dig m (k + 1))).toInt8.toInt32) (q := 69) V2 ⟨nn_ofNat (by omega), (lt_ofNat (by omega) (by decide)).mpr (by omega)⟩ (cl_ofNat (by omega)) (by simp <;> omega) (by simp) (show (((dig m (k + 1))).toInt8.toInt32) = ((dig m (k + 1))).toInt8.toInt32 from rfl) d46_68 rfl ?_
    intro h3 K3 z3 V3
    have V3 : Arv Z h3 v kv .byte (Int32.ofNat 16) (zs (ndg (q / 100) + 0) ++ (bts (dgs m (k + 2)) ++ zs (16 - (ndg m + 0)))) (.int 0) := by rw [show ndg (q / 100) + 1 + 0 = (ndg (q / 100) + 0) + 1 by omega, zs_set (p := (ndg (q / 100) + 0)), bts_dgs] at V3; exact V3
    refine go_goto (q := 22) d46_69 (by decide) (by decide) ?_
    exact lp_gc0 H T0 hm n (q / 100) (k + 2) h3 _ _ (by omega) (by rw [eq, Nat.div_div_eq_div_mul, show (100 : Nat) = 10 ^ 2 from rfl, ← Nat.pow_add]) (by omega) ((K1.trans K2 (fun _ q => Or.inl q)).trans K3 (fun _ q => Or.inl q)) (One.val rfl) (One.val rfl) V3
set_option maxRecDepth 65536 in
set_option maxHeartbeats 4000000 in
theorem ex_gc1 {l : Launch} {Z : State} {a0 : Array Value} (H : Wd Z a0) {K : Cx} {h : Heap} {v : Addr} {kv : ClassId} {m : Nat} {s1 : Slot} (TB : Tabs Z) (hm : m ≤ 2147483648) {q k : Nat} {h1 : Heap} {s3 s4 : Slot} (hq : q < 100) (eq : q = m / 10 ^ k) (hk : ndg m = k + ndg q) (K1 : Keep h h1 [v]) (V1 : Arv Z h1 v kv .byte (Int32.ofNat 16) (zs (ndg q + 1) ++ (bts (dgs m k) ++ zs (16 - (ndg m + 1)))) (.int 0)) : Go l Z K "java/lang/Integer" "getChars" jdk_33_method_12_code 7 (some .int) ({ frames := 0, cells := 0, slots := 0, locals := 0 } : Room) (fun u h' G => (∃ r, u = some (.int r)) ∧ Keep h h' [v] ∧ Arv Z h' v kv .byte (Int32.ofNat 16) (bts (decS 1 m) ++ zs (16 - (decS 1 m).length)) (.int 0)) h1 [v] 0 0 22 #[.val (.int (negI q)), s1, .val (.ref v), s3, s4, .val (.int (Int32.ofNat (ndg q + 1))), .val (.int (1 : Int32))] [] := by
  obtain ⟨⟨d1, k1, S1, T1⟩, ⟨d2, k2, S2, T2⟩⟩ := TB
  have hnd := nd_le m
  have g1 : (-100 : Int32) < negI q ↔ q < 100 := by rw [show (-100 : Int32) = negI 100 from by decide]; exact neg_lt (by decide) (by omega)
  have g2 : negI q < (-9 : Int32) ↔ 9 < q := by rw [show (-9 : Int32) = negI 9 from by decide]; exact neg_lt (by omega) (by decide)
  have f1 : Int32.ofNat (48 + q % 10) = dig m k := by rw [dig, eq]
  refine go_iloadN (v := (negI q)) (q := 23) d46_22 rfl rfl ?_
  refine go_bipush (x := (-100 : Int32)) (q := 25) d46_23 rfl rfl ?_
  refine go_icY (q := 72) d46_25 (g1.mpr hq) (by decide) (by decide) ?_
  by_cases q9 : 9 < q
  · have hnq : ndg q = 2 := nd_mid (by omega) hq
    rw [hnq] at V1 hk ⊢
    show Go _ _ _ _ _ _ _ _ _ _ _ _ _ _ 72 #[.val (.int (negI q)), s1, .val (.ref v), s3, s4, .val (.int (Int32.ofNat (2 + 1))), .val (.int (1 : Int32))] []
    refine go_aloadN (v := .ref v) (q := 73) d46_72 rfl rfl rfl ?_
    refine go_iinc (x := (Int32.ofNat (2 + 1))) (y := (Int32.ofNat 2)) (L' := #[.val (.int (negI q)), s1, .val (.ref v), s3, s4, .val (.int (Int32.ofNat 2)), .val (.int (1 : Int32))]) (q := 76) d46_73 rfl (dec1 2) rfl rfl ?_
    refine go_iload (v := (Int32.ofNat 2)) (q := 78) d46_76 rfl rfl ?_
    refine go_getstatic (v := .ref d1) (q := 81) (w_232 H) Via.refl S1 d46_78 rfl ?_
    refine go_mine fun _ hO => ?_
    refine go_iloadN (v := (negI q)) (q := 82) d46_81 rfl rfl ?_
    refine go_ineg (r := (Int32.ofNat q)) (q := 83) d46_82 (neg_neg' (by omega)) rfl ?_
    refine go_baload (v := .int (dig m k)) (q := 84) (T1.ext hO.2) ⟨nn_ofNat (by omega), (lt_ofNat (n := 100) (by omega) (by decide)).mpr (by omega)⟩ (by rw [tab_at hq]; simp only [Value.int.injEq]; exact f1) d46_83 rfl ?_
    refine go_bastore (i := 2) (y := ((dig m k)).toInt8.toInt32) (q := 85) V1 ⟨nn_ofNat (by omega), (lt_ofNat (by omega) (by decide)).mpr (by omega)⟩ (cl_ofNat (by omega)) (by simp <;> omega) (by simp) (show (((dig m k)).toInt8.toInt32) = ((dig m k)).toInt8.toInt32 from rfl) d46_84 rfl ?_
    intro h2 K2 z2 V2
    have V2 : Arv Z h2 v kv .byte (Int32.ofNat 16) (zs 2 ++ (bts (dgs m (k + 1)) ++ zs (16 - (ndg m + 1)))) (.int 0) := by rw [show 2 + 1 = 2 + 1 from rfl, zs_set (p := 2), bts_dgs] at V2; exact V2
    have K1 := K1.trans K2 (fun _ q => Or.inl q)
    refine go_iloadN (v := (negI q)) (q := 86) d46_85 rfl rfl ?_
    refine go_bipush (x := (-9 : Int32)) (q := 88) d46_86 rfl rfl ?_
    refine go_icN (q := 91) d46_88 (g2.mpr q9) rfl ?_
    have f2 : Int32.ofNat (48 + q / 10) = dig m (k + 1) := by rw [dig, eq, Nat.div_div_eq_div_mul, ← Nat.pow_succ, Nat.mod_eq_of_lt (by rw [Nat.pow_succ, ← Nat.div_div_eq_div_mul, ← eq]; omega)]
    refine go_aloadN (v := .ref v) (q := 92) d46_91 rfl rfl rfl ?_
    refine go_iinc (x := (Int32.ofNat 2)) (y := (Int32.ofNat 1)) (L' := #[.val (.int (negI q)), s1, .val (.ref v), s3, s4, .val (.int (Int32.ofNat 1)), .val (.int (1 : Int32))]) (q := 95) d46_92 rfl (dec1 1) rfl rfl ?_
    refine go_iload (v := (Int32.ofNat 1)) (q := 97) d46_95 rfl rfl ?_
    refine go_getstatic (v := .ref d2) (q := 100) (w_233 H) Via.refl S2 d46_97 rfl ?_
    refine go_mine fun _ hO => ?_
    refine go_iloadN (v := (negI q)) (q := 101) d46_100 rfl rfl ?_
    refine go_ineg (r := (Int32.ofNat q)) (q := 102) d46_101 (neg_neg' (by omega)) rfl ?_
    refine go_baload (v := .int (dig m (k + 1))) (q := 103) (T2.ext hO.2) ⟨nn_ofNat (by omega), (lt_ofNat (n := 100) (by omega) (by decide)).mpr (by omega)⟩ (by rw [tab_at hq]; simp only [Value.int.injEq]; exact f2) d46_102 rfl ?_
    refine go_bastore (i := 1) (y := ((dig m (k + 1))).toInt8.toInt32) (q := 104) V2 ⟨nn_ofNat (by omega), (lt_ofNat (by omega) (by decide)).mpr (by omega)⟩ (cl_ofNat (by omega)) (by simp <;> omega) (by simp) (show (((dig m (k + 1))).toInt8.toInt32) = ((dig m (k + 1))).toInt8.toInt32 from rfl) d46_103 rfl ?_
    intro h3 K3 z3 V3
    have V3 : Arv Z h3 v kv .byte (Int32.ofNat 16) (zs 1 ++ (bts (dgs m (k + 2)) ++ zs (16 - (ndg m + 1)))) (.int 0) := by rw [show zs 2 = zs (1 + 1) from rfl, zs_set (p := 1), bts_dgs] at V3; exact V3
    have K1 := K1.trans K3 (fun _ q => Or.inl q)
    rw [show k + 2 = ndg m from hk.symm] at V3
    refine go_iload (v := (1 : Int32)) (q := 106) d46_104 rfl rfl ?_
    refine go_ifN (q := 109) d46_106 (by decide) rfl ?_
    refine go_aloadN (v := .ref v) (q := 110) d46_109 rfl rfl rfl ?_
    refine go_iinc (x := (Int32.ofNat 1)) (y := (Int32.ofNat 0)) (L' := #[.val (.int (negI q)), s1, .val (.ref v), s3, s4, .val (.int (Int32.ofNat 0)), .val (.int (1 : Int32))]) (q := 113) d46_110 rfl (dec1 0) rfl rfl ?_
    refine go_iload (v := (Int32.ofNat 0)) (q := 115) d46_113 rfl rfl ?_
    refine go_bipush (x := (45 : Int32)) (q := 117) d46_115 rfl rfl ?_
    refine go_bastore (i := 0) (y := (45 : Int32).toInt8.toInt32) (q := 118) V3 ⟨nn_ofNat (by omega), (lt_ofNat (by omega) (by decide)).mpr (by omega)⟩ (cl_ofNat (by omega)) (by simp) (by simp) (show ((45 : Int32).toInt8.toInt32) = (45 : Int32).toInt8.toInt32 from rfl) d46_117 rfl ?_
    intro h4 K4 z4 V4
    rw [show zs 1 = zs (0 + 1) from rfl, zs_set] at V4
    have K1 := K1.trans K4 (fun _ q => Or.inl q)
    refine go_iload (v := (Int32.ofNat 0)) (q := 120) d46_118 rfl rfl ?_
    have V9 : Arv Z h4 v kv .byte (Int32.ofNat 16) (bts (decS 1 m) ++ zs (16 - (decS 1 m).length)) (.int 0) := by rw [decS_len, ← fin1]; exact V4
    exact go_ireturn H (G := []) (t := .int) rfl (by decide) rfl d46_120 (by decide) (by decide) (fun _ q => nomatch q) ⟨⟨_, rfl⟩, K1, V9⟩
  · have hnq : ndg q = 1 := nd_lo (by omega)
    rw [hnq] at V1 hk ⊢
    show Go _ _ _ _ _ _ _ _ _ _ _ _ _ _ 72 #[.val (.int (negI q)), s1, .val (.ref v), s3, s4, .val (.int (Int32.ofNat (1 + 1))), .val (.int (1 : Int32))] []
    refine go_aloadN (v := .ref v) (q := 73) d46_72 rfl rfl rfl ?_
    refine go_iinc (x := (Int32.ofNat (1 + 1))) (y := (Int32.ofNat 1)) (L' := #[.val (.int (negI q)), s1, .val (.ref v), s3, s4, .val (.int (Int32.ofNat 1)), .val (.int (1 : Int32))]) (q := 76) d46_73 rfl (dec1 1) rfl rfl ?_
    refine go_iload (v := (Int32.ofNat 1)) (q := 78) d46_76 rfl rfl ?_
    refine go_getstatic (v := .ref d1) (q := 81) (w_232 H) Via.refl S1 d46_78 rfl ?_
    refine go_mine fun _ hO => ?_
    refine go_iloadN (v := (negI q)) (q := 82) d46_81 rfl rfl ?_
    refine go_ineg (r := (Int32.ofNat q)) (q := 83) d46_82 (neg_neg' (by omega)) rfl ?_
    refine go_baload (v := .int (dig m k)) (q := 84) (T1.ext hO.2) ⟨nn_ofNat (by omega), (lt_ofNat (n := 100) (by omega) (by decide)).mpr (by omega)⟩ (by rw [tab_at hq]; simp only [Value.int.injEq]; exact f1) d46_83 rfl ?_
    refine go_bastore (i := 1) (y := ((dig m k)).toInt8.toInt32) (q := 85) V1 ⟨nn_ofNat (by omega), (lt_ofNat (by omega) (by decide)).mpr (by omega)⟩ (cl_ofNat (by omega)) (by simp <;> omega) (by simp) (show (((dig m k)).toInt8.toInt32) = ((dig m k)).toInt8.toInt32 from rfl) d46_84 rfl ?_
    intro h2 K2 z2 V2
    have V2 : Arv Z h2 v kv .byte (Int32.ofNat 16) (zs 1 ++ (bts (dgs m (k + 1)) ++ zs (16 - (ndg m + 1)))) (.int 0) := by rw [show 1 + 1 = 1 + 1 from rfl, zs_set (p := 1), bts_dgs] at V2; exact V2
    have K1 := K1.trans K2 (fun _ q => Or.inl q)
    refine go_iloadN (v := (negI q)) (q := 86) d46_85 rfl rfl ?_
    refine go_bipush (x := (-9 : Int32)) (q := 88) d46_86 rfl rfl ?_
    refine go_icY (q := 104) d46_88 (show ¬ _ from fun z => q9 (g2.mp z)) (by decide) (by decide) ?_
    rw [show k + 1 = ndg m from hk.symm] at V2
    refine go_iload (v := (1 : Int32)) (q := 106) d46_104 rfl rfl ?_
    refine go_ifN (q := 109) d46_106 (by decide) rfl ?_
    refine go_aloadN (v := .ref v) (q := 110) d46_109 rfl rfl rfl ?_
    refine go_iinc (x := (Int32.ofNat 1)) (y := (Int32.ofNat 0)) (L' := #[.val (.int (negI q)), s1, .val (.ref v), s3, s4, .val (.int (Int32.ofNat 0)), .val (.int (1 : Int32))]) (q := 113) d46_110 rfl (dec1 0) rfl rfl ?_
    refine go_iload (v := (Int32.ofNat 0)) (q := 115) d46_113 rfl rfl ?_
    refine go_bipush (x := (45 : Int32)) (q := 117) d46_115 rfl rfl ?_
    refine go_bastore (i := 0) (y := (45 : Int32).toInt8.toInt32) (q := 118) V2 ⟨nn_ofNat (by omega), (lt_ofNat (by omega) (by decide)).mpr (by omega)⟩ (cl_ofNat (by omega)) (by simp) (by simp) (show ((45 : Int32).toInt8.toInt32) = (45 : Int32).toInt8.toInt32 from rfl) d46_117 rfl ?_
    intro h3 K3 z3 V3
    rw [show zs 1 = zs (0 + 1) from rfl, zs_set] at V3
    have K1 := K1.trans K3 (fun _ q => Or.inl q)
    refine go_iload (v := (Int32.ofNat 0)) (q := 120) d46_118 rfl rfl ?_
    have V9 : Arv Z h3 v kv .byte (Int32.ofNat 16) (bts (decS 1 m) ++ zs (16 - (decS 1 m).length)) (.int 0) := by rw [decS_len, ← fin1]; exact V3
    exact go_ireturn H (G := []) (t := .int) rfl (by decide) rfl d46_120 (by decide) (by decide) (fun _ q => nomatch q) ⟨⟨_, rfl⟩, K1, V9⟩
set_option maxRecDepth 65536 in
set_option maxHeartbeats 4000000 in
theorem lp_gc1 {l : Launch} {Z : State} {a0 : Array Value} (H : Wd Z a0) {K : Cx} {h : Heap} {v : Addr} {kv : ClassId} {m : Nat} {s1 : Slot} (TB : Tabs Z) (hm : m ≤ 2147483648) : ∀ (n q k : Nat) (h1 : Heap) (s3 s4 : Slot), q ≤ n → q = m / 10 ^ k → ndg m = k + ndg q → Keep h h1 [v] → One s3 → One s4 → Arv Z h1 v kv .byte (Int32.ofNat 16) (zs (ndg q + 1) ++ (bts (dgs m k) ++ zs (16 - (ndg m + 1)))) (.int 0) → Go l Z K "java/lang/Integer" "getChars" jdk_33_method_12_code 7 (some .int) ({ frames := 0, cells := 0, slots := 0, locals := 0 } : Room) (fun u h' G => (∃ r, u = some (.int r)) ∧ Keep h h' [v] ∧ Arv Z h' v kv .byte (Int32.ofNat 16) (bts (decS 1 m) ++ zs (16 - (decS 1 m).length)) (.int 0)) h1 [v] 0 0 22 #[.val (.int (negI q)), s1, .val (.ref v), s3, s4, .val (.int (Int32.ofNat (ndg q + 1))), .val (.int (1 : Int32))] []
  | 0, q, k, h1, s3, s4, hn, eq, hk, K1, o3, o4, V1 => ex_gc1 H TB hm (by omega) eq hk K1 V1
  | n + 1, q, k, h1, s3, s4, hn, eq, hk, K1, o3, o4, V1 => by
    by_cases hq : q < 100
    · exact ex_gc1 H TB hm hq eq hk K1 V1
    have hqm : q ≤ m := by rw [eq]; exact Nat.div_le_self _ _
    have T0 := TB
    obtain ⟨⟨d1, k1, S1, T1⟩, ⟨d2, k2, S2, T2⟩⟩ := TB
    have hnd := nd_le m
    have hnq := nd_le (q / 100)
    have g1 : (-100 : Int32) < negI q ↔ q < 100 := by rw [show (-100 : Int32) = negI 100 from by decide]; exact neg_lt (by decide) (by omega)
    have e100 := nd_100 (Nat.not_lt.mp hq) (by omega)
    rw [e100] at V1 hk ⊢
    have f1 : Int32.ofNat (48 + q % 100 % 10) = dig m k := by rw [dig, ← eq, show q % 100 % 10 = q % 10 by omega]
    have f2 : Int32.ofNat (48 + q % 100 / 10) = dig m (k + 1) := by rw [dig, Nat.pow_succ, ← Nat.div_div_eq_div_mul, ← eq, show q % 100 / 10 = q / 10 % 10 by omega]
    show Go _ _ _ _ _ _ _ _ _ _ _ _ _ _ 22 #[.val (.int (negI q)), s1, .val (.ref v), s3, s4, .val (.int (Int32.ofNat (ndg (q / 100) + 2 + 1))), .val (.int (1 : Int32))] []
    refine go_iloadN (v := (negI q)) (q := 23) d46_22 rfl rfl ?_
    refine go_bipush (x := (-100 : Int32)) (q := 25) d46_23 rfl rfl ?_
    refine go_icN (q := 28) d46_25 (fun z => hq (g1.mp z)) rfl ?_
    refine go_iloadN (v := (negI q)) (q := 29) d46_28 rfl rfl ?_
    refine go_bipush (x := (100 : Int32)) (q := 31) d46_29 rfl rfl ?_
    refine go_idiv (r := (negI (q / 100))) (q := 32) d46_31 (by decide) (neg_div (by omega)) rfl ?_
    refine go_istoreNO (L' := #[.val (.int (negI q)), s1, .val (.ref v), .val (.int (negI (q / 100))), s4, .val (.int (Int32.ofNat (ndg (q / 100) + 2 + 1))), .val (.int (1 : Int32))]) (q := 33) d46_32 rfl o3 rfl rfl ?_
    refine go_iloadN (v := (negI (q / 100))) (q := 34) d46_33 rfl rfl ?_
    refine go_bipush (x := (100 : Int32)) (q := 36) d46_34 rfl rfl ?_
    refine go_imul (r := (negI (q / 100)) * (100 : Int32)) (q := 37) d46_36 rfl rfl ?_
    refine go_iloadN (v := (negI q)) (q := 38) d46_37 rfl rfl ?_
    refine go_isub (r := (Int32.ofNat (q % 100))) (q := 39) d46_38 (neg_rem (by omega)) rfl ?_
    refine go_istoreO (L' := #[.val (.int (negI q)), s1, .val (.ref v), .val (.int (negI (q / 100))), .val (.int (Int32.ofNat (q % 100))), .val (.int (Int32.ofNat (ndg (q / 100) + 2 + 1))), .val (.int (1 : Int32))]) (q := 41) d46_39 rfl o4 rfl rfl ?_
    have c1 : Int32.ofNat (ndg (q / 100) + 2 + 1) + Int32.ofInt (-1) = Int32.ofNat (ndg (q / 100) + 1 + 1) := by rw [show ndg (q / 100) + 2 + 1 = (ndg (q / 100) + 1 + 1) + 1 by omega]; exact dec1 _
    have c2 : Int32.ofNat (ndg (q / 100) + 1 + 1) + Int32.ofInt (-1) = Int32.ofNat (ndg (q / 100) + 1) := by rw [show (ndg (q / 100) + 1 + 1) = (ndg (q / 100) + 1) + 1 by omega]; exact dec1 _
    refine go_iloadN (v := (negI (q / 100))) (q := 42) d46_41 rfl rfl ?_
    refine go_istoreN (L' := #[.val (.int (negI (q / 100))), s1, .val (.ref v), .val (.int (negI (q / 100))), .val (.int (Int32.ofNat (q % 100))), .val (.int (Int32.ofNat (ndg (q / 100) + 2 + 1))), .val (.int (1 : Int32))]) (q := 43) d46_42 rfl rfl ?_
    refine go_aloadN (v := .ref v) (q := 44) d46_43 rfl rfl rfl ?_
    refine go_iinc (x := (Int32.ofNat (ndg (q / 100) + 2 + 1))) (y := (Int32.ofNat (ndg (q / 100) + 1 + 1))) (L' := #[.val (.int (negI (q / 100))), s1, .val (.ref v), .val (.int (negI (q / 100))), .val (.int (Int32.ofNat (q % 100))), .val (.int (Int32.ofNat (ndg (q / 100) + 1 + 1))), .val (.int (1 : Int32))]) (q := 47) d46_44 rfl c1 rfl rfl ?_
    refine go_iload (v := (Int32.ofNat (ndg (q / 100) + 1 + 1))) (q := 49) d46_47 rfl rfl ?_
    refine go_getstatic (v := .ref d1) (q := 52) (w_232 H) Via.refl S1 d46_49 rfl ?_
    refine go_mine fun _ hO => ?_
    refine go_iload (v := (Int32.ofNat (q % 100))) (q := 54) d46_52 rfl rfl ?_
    refine go_baload (v := .int (dig m k)) (q := 55) (T1.ext hO.2) ⟨nn_ofNat (by omega), (lt_ofNat (n := 100) (by omega) (by decide)).mpr (by omega)⟩ (by rw [tab_at (Nat.mod_lt _ (by decide))]; simp only [Value.int.injEq]; exact f1) d46_54 rfl ?_
    refine go_bastore (i := (ndg (q / 100) + 1 + 1)) (y := ((dig m k)).toInt8.toInt32) (q := 56) V1 ⟨nn_ofNat (by omega), (lt_ofNat (by omega) (by decide)).mpr (by omega)⟩ (cl_ofNat (by omega)) (by simp <;> omega) (by simp) (show (((dig m k)).toInt8.toInt32) = ((dig m k)).toInt8.toInt32 from rfl) d46_55 rfl ?_
    intro h2 K2 z2 V2
    have V2 : Arv Z h2 v kv .byte (Int32.ofNat 16) (zs (ndg (q / 100) + 1 + 1) ++ (bts (dgs m (k + 1)) ++ zs (16 - (ndg m + 1)))) (.int 0) := by rw [show ndg (q / 100) + 2 + 1 = (ndg (q / 100) + 1 + 1) + 1 by omega, zs_set (p := (ndg (q / 100) + 1 + 1)), bts_dgs] at V2; exact V2
    refine go_aloadN (v := .ref v) (q := 57) d46_56 rfl rfl rfl ?_
    refine go_iinc (x := (Int32.ofNat (ndg (q / 100) + 1 + 1))) (y := (Int32.ofNat (ndg (q / 100) + 1))) (L' := #[.val (.int (negI (q / 100))), s1, .val (.ref v), .val (.int (negI (q / 100))), .val (.int (Int32.ofNat (q % 100))), .val (.int (Int32.ofNat (ndg (q / 100) + 1))), .val (.int (1 : Int32))]) (q := 60) d46_57 rfl c2 rfl rfl ?_
    refine go_iload (v := (Int32.ofNat (ndg (q / 100) + 1))) (q := 62) d46_60 rfl rfl ?_
    refine go_getstatic (v := .ref d2) (q := 65) (w_233 H) Via.refl S2 d46_62 rfl ?_
    refine go_mine fun _ hO => ?_
    refine go_iload (v := (Int32.ofNat (q % 100))) (q := 67) d46_65 rfl rfl ?_
    refine go_baload (v := .int (dig m (k + 1))) (q := 68) (T2.ext hO.2) ⟨nn_ofNat (by omega), (lt_ofNat (n := 100) (by omega) (by decide)).mpr (by omega)⟩ (by rw [tab_at (Nat.mod_lt _ (by decide))]; simp only [Value.int.injEq]; exact f2) d46_67 rfl ?_
    refine go_bastore (i := (ndg (q / 100) + 1)) (y := ((dig m (k + 1))).toInt8.toInt32) (q := 69) V2 ⟨nn_ofNat (by omega), (lt_ofNat (by omega) (by decide)).mpr (by omega)⟩ (cl_ofNat (by omega)) (by simp <;> omega) (by simp) (show (((dig m (k + 1))).toInt8.toInt32) = ((dig m (k + 1))).toInt8.toInt32 from rfl) d46_68 rfl ?_
    intro h3 K3 z3 V3
    have V3 : Arv Z h3 v kv .byte (Int32.ofNat 16) (zs (ndg (q / 100) + 1) ++ (bts (dgs m (k + 2)) ++ zs (16 - (ndg m + 1)))) (.int 0) := by rw [show ndg (q / 100) + 1 + 1 = (ndg (q / 100) + 1) + 1 by omega, zs_set (p := (ndg (q / 100) + 1)), bts_dgs] at V3; exact V3
    refine go_goto (q := 22) d46_69 (by decide) (by decide) ?_
    exact lp_gc1 H T0 hm n (q / 100) (k + 2) h3 _ _ (by omega) (by rw [eq, Nat.div_div_eq_div_mul, show (100 : Nat) = 10 ^ 2 from rfl, ← Nat.pow_add]) (by omega) ((K1.trans K2 (fun _ q => Or.inl q)).trans K3 (fun _ q => Or.inl q)) (One.val rfl) (One.val rfl) V3
set_option maxRecDepth 65536 in
set_option maxHeartbeats 4000000 in
theorem rm_gc {l : Launch} {Z : State} {a0 : Array Value} (H : Wd Z a0) {h : Heap} {v : Addr} {kv : ClassId} {x : Int32} (TB : Tabs Z) (V : Arv Z h v kv .byte (Int32.ofNat 16) (zs 16) (.int 0)) : Met l Z (⟨"java/lang/Integer", "getChars", "(II[B)I"⟩ : MethodName) jdk_33_method_12_code 7 (some .int) ({ frames := 0, cells := 0, slots := 0, locals := 0 } : Room) h [v] #[.int x, .int (Int32.ofNat (ndg (mag x) + sgn x)), .ref v] (fun u h' G => (∃ r, u = some (.int r)) ∧ Keep h h' [v] ∧ Arv Z h' v kv .byte (Int32.ofNat 16) (bts (dec x) ++ zs (16 - (dec x).length)) (.int 0)) := by
  refine Met.mk (L := #[.val (.int x), .val (.int (Int32.ofNat (ndg (mag x) + sgn x))), .val (.ref v), .unset, .unset, .unset, .unset]) (by decide +kernel) (fun m => by first | (simp [entryFrame, mkF, argsToLocals, Value.category]; done) | rfl) (fun K => ?_)
  show Go _ _ K "java/lang/Integer" "getChars" _ _ _ _ _ _ _ _ _ 0 _ _
  have hm := mag_le x
  have hd := dec_le x
  rw [dec_len] at hd
  refine go_iloadN (v := (Int32.ofNat (ndg (mag x) + sgn x))) (q := 1) d46_0 rfl rfl ?_
  refine go_istore (L' := #[.val (.int x), .val (.int (Int32.ofNat (ndg (mag x) + sgn x))), .val (.ref v), .unset, .unset, .val (.int (Int32.ofNat (ndg (mag x) + sgn x))), .unset]) (q := 3) d46_1 rfl rfl ?_
  refine go_iloadN (v := x) (q := 4) d46_3 rfl rfl ?_
  by_cases q : x < 0
  · refine go_ifN (q := 7) d46_4 q rfl ?_
    refine go_iconst (x := (1 : Int32)) (q := 8) d46_7 rfl rfl ?_
    refine go_goto (q := 12) d46_8 (by decide) (by decide) ?_
    refine go_istore (L' := #[.val (.int x), .val (.int (Int32.ofNat (ndg (mag x) + sgn x))), .val (.ref v), .unset, .unset, .val (.int (Int32.ofNat (ndg (mag x) + sgn x))), .val (.int (1 : Int32))]) (q := 14) d46_12 rfl rfl ?_
    refine go_iload (v := (1 : Int32)) (q := 16) d46_14 rfl rfl ?_
    refine go_ifY (q := 22) d46_16 (by decide) (by decide) (by decide) ?_
    have hs : sgn x = 1 := if_pos q
    rw [hs] at hd
    rw [dec, hs]
    have e := mag_neg q
    generalize mag x = m at e hm hd ⊢
    subst e
    exact lp_gc1 H TB hm m m 0 h _ _ (Nat.le_refl _) (by simp) (by omega) (Keep.refl _ _) One.u One.u (by rw [show bts (dgs m 0) = [] from rfl, List.nil_append, List.replicate_append_replicate, show ndg m + 1 + (16 - (ndg m + 1)) = 16 by omega]; exact V)
  · refine go_ifY (q := 11) d46_4 q (by decide) (by decide) ?_
    refine go_iconst (x := (0 : Int32)) (q := 12) d46_11 rfl rfl ?_
    refine go_istore (L' := #[.val (.int x), .val (.int (Int32.ofNat (ndg (mag x) + sgn x))), .val (.ref v), .unset, .unset, .val (.int (Int32.ofNat (ndg (mag x) + sgn x))), .val (.int (0 : Int32))]) (q := 14) d46_12 rfl rfl ?_
    refine go_iload (v := (0 : Int32)) (q := 16) d46_14 rfl rfl ?_
    refine go_ifN (q := 19) d46_16 (by decide) rfl ?_
    refine go_iloadN (v := x) (q := 20) d46_19 rfl rfl ?_
    refine go_ineg (r := (negI (mag x))) (q := 21) d46_20 (mag_pos q) rfl ?_
    refine go_istoreN (L' := #[.val (.int (negI (mag x))), .val (.int (Int32.ofNat (ndg (mag x) + sgn x))), .val (.ref v), .unset, .unset, .val (.int (Int32.ofNat (ndg (mag x) + sgn x))), .val (.int (0 : Int32))]) (q := 22) d46_21 rfl rfl ?_
    have hs : sgn x = 0 := if_neg q
    rw [hs] at hd
    rw [dec, hs]
    exact lp_gc0 H TB hm (mag x) (mag x) 0 h _ _ (Nat.le_refl _) (by simp) (by omega) (Keep.refl _ _) One.u One.u (by rw [show bts (dgs (mag x) 0) = [] from rfl, List.nil_append, List.replicate_append_replicate, show ndg (mag x) + 0 + (16 - (ndg (mag x) + 0)) = 16 by omega]; exact V)
set_option maxRecDepth 65536 in
set_option maxHeartbeats 4000000 in
theorem rm_apIA {l : Launch} {Z : State} {a0 : Array Value} (H : Wd Z a0) {h : Heap} {x v : Addr} {p : Int32} (TB : Tabs Z) (B : SBd Z h x v 16 []) : Met l Z (⟨"java/lang/AbstractStringBuilder", "append", "(I)Ljava/lang/AbstractStringBuilder;"⟩ : MethodName) jdk_68_method_32_code 4 (some (.object "java/lang/AbstractStringBuilder")) ({ frames := 1, cells := 0, slots := 0, locals := 20 } : Room) h [x, v] #[.ref x, .int p] (fun u h' G => u = some (.ref x) ∧ Keep h h' [x, v] ∧ SBd Z h' x v 16 (dec p)) := by
  refine Met.mk (L := #[.val (.ref x), .val (.int p), .unset, .unset]) (by decide +kernel) (fun m => by first | (simp [entryFrame, mkF, argsToLocals, Value.category]; done) | rfl) (fun K => ?_)
  show Go _ _ K "java/lang/AbstractStringBuilder" "append" _ _ _ _ _ _ _ _ _ 0 _ _
  have B0 := B
  obtain ⟨E, Vv, C, N, hl, l1, l2, k, A⟩ := B
  have hd := dec_le p
  have hdl := dec_len p
  have s2 : RoadKit.slotOf Z ABN "value" "[B" ≠ RoadKit.slotOf Z ABN "count" "I" := slot_ne (C := SBN) (Or.inl (w_66 H)) (Or.inl (w_93 H)) (by decide) (t := .array .byte) (t' := .int) (by decide) (by decide)
  have s3 : RoadKit.slotOf Z ABN "coder" "B" ≠ RoadKit.slotOf Z ABN "count" "I" := slot_ne (C := SBN) (Or.inl (w_68 H)) (Or.inl (w_93 H)) (by decide) (t := .byte) (t' := .int) (by decide) (by decide)
  have nxv : v ≠ x := (E.neArv A (w_52 H)).symm
  refine go_aloadN (v := .ref x) (q := 1) d44_0 rfl rfl rfl ?_
  refine go_getfield (v := .int (Int32.ofNat 0)) (q := 4) (w_92 H) Via.refl N d44_1 rfl ?_
  refine go_istoreN (L' := #[.val (.ref x), .val (.int p), .val (.int (Int32.ofNat 0)), .unset]) (q := 5) d44_4 rfl rfl ?_
  refine go_iloadN (v := (Int32.ofNat 0)) (q := 6) d44_5 rfl rfl ?_
  refine go_iloadN (v := p) (q := 7) d44_6 rfl rfl ?_
  refine go_static (c' := 0) (s' := 0) (q := 10) (S := [.int (Int32.ofNat 0)]) (argsL := [.int p]) H (w_224 H) (w_225 H) (w_226 H) (w_227 H) (by decide) (rm_ss H) rfl rfl (lenOf pd_21 rfl) (fun _ q => nomatch q) rfl (by decide) (Nat.le_of_ble_eq_true rfl) rfl rfl (by decide) (by decide) d44_7 rfl ?_
  rintro _ _ G - ⟨rfl, rfl⟩
  refine nx_ (v := none) ?_
  show Go _ _ _ _ _ _ _ _ _ _ _ _ _ _ 10 #[.val (.ref x), .val (.int p), .val (.int (Int32.ofNat 0)), .unset] [.int (Int32.ofNat (ndg (mag p) + sgn p)), .int (Int32.ofNat 0)]
  refine go_iadd (r := (Int32.ofNat (ndg (mag p) + sgn p))) (q := 11) d44_10 ((add_ofNat 0 _).trans (by rw [Nat.zero_add])) rfl ?_
  refine go_istoreN (L' := #[.val (.ref x), .val (.int p), .val (.int (Int32.ofNat 0)), .val (.int (Int32.ofNat (ndg (mag p) + sgn p)))]) (q := 12) d44_11 rfl rfl ?_
  refine go_aloadN (v := .ref x) (q := 13) d44_12 rfl rfl rfl ?_
  refine go_iloadN (v := (Int32.ofNat (ndg (mag p) + sgn p))) (q := 14) d44_13 rfl rfl ?_
  refine go_virtual (c' := 0) (s' := 0) (q := 17) (S := []) (argsL := [.int (Int32.ofNat (ndg (mag p) + sgn p))]) H (C := "java/lang/StringBuilder") (w_94 H) (decl_of (w_95 H) (w_98 H)) (nf_self (w_97 H)) (w_97 H) (w_95 H) (w_61 H) (w_98 H) (by decide) E (rm_ens H B0 (n := ndg (mag p) + sgn p) (by omega)) rfl rfl (lenOf pd_13 rfl) (fun _ q => nomatch q) rfl (by decide) (Nat.le_of_ble_eq_true rfl) rfl rfl (by decide) (by decide) d44_14 rfl ?_
  rintro _ _ G - ⟨rfl, rfl⟩
  refine nx_ (v := none) ?_
  show Go _ _ _ _ _ _ _ _ _ _ _ _ _ _ 17 #[.val (.ref x), .val (.int p), .val (.int (Int32.ofNat 0)), .val (.int (Int32.ofNat (ndg (mag p) + sgn p)))] []
  refine go_aloadN (v := .ref x) (q := 18) d44_17 rfl rfl rfl ?_
  refine go_virtual (c' := 0) (s' := 0) (q := 21) (S := []) (argsL := []) H (C := "java/lang/StringBuilder") (w_228 H) (w_145 H) (nf_self (w_147 H)) (w_147 H) (w_146 H) (w_61 H) (w_148 H) (by decide) E (rm_aL1 H C) rfl rfl (lenOf pd_26 rfl) (fun _ q => nomatch q) rfl (by decide) (Nat.le_of_ble_eq_true rfl) rfl rfl (by decide) (by decide) d44_18 rfl ?_
  rintro _ _ G - ⟨rfl, rfl⟩
  refine nx_ (v := none) ?_
  show Go _ _ _ _ _ _ _ _ _ _ _ _ _ _ 21 #[.val (.ref x), .val (.int p), .val (.int (Int32.ofNat 0)), .val (.int (Int32.ofNat (ndg (mag p) + sgn p)))] [.int 1]
  refine go_ifN (q := 24) d44_21 (by decide) rfl ?_
  refine go_iloadN (v := p) (q := 25) d44_24 rfl rfl ?_
  refine go_iloadN (v := (Int32.ofNat (ndg (mag p) + sgn p))) (q := 26) d44_25 rfl rfl ?_
  refine go_aloadN (v := .ref x) (q := 27) d44_26 rfl rfl rfl ?_
  refine go_getfield (v := .ref v) (q := 30) (w_65 H) Via.refl Vv d44_27 rfl ?_
  refine go_static (c' := 0) (s' := 0) (q := 33) (S := []) (argsL := [.int p, .int (Int32.ofNat (ndg (mag p) + sgn p)), .ref v]) H (w_229 H) (w_230 H) (w_226 H) (w_231 H) (by decide) (rm_gc H TB A) rfl rfl (lenOf pd_29 rfl) (by simp) rfl (by decide) (Nat.le_of_ble_eq_true rfl) rfl rfl (by decide) (by decide) d44_30 rfl ?_
  rintro _ h1 G - ⟨⟨r, rfl⟩, K1, V1⟩
  refine nx_ (v := none) ?_
  show Go _ _ _ _ _ _ _ _ _ _ _ _ _ _ 33 #[.val (.ref x), .val (.int p), .val (.int (Int32.ofNat 0)), .val (.int (Int32.ofNat (ndg (mag p) + sgn p)))] [.int r]
  refine go_pop (q := 34) d44_33 rfl rfl ?_
  refine go_goto (q := 48) d44_34 (by decide) (by decide) ?_
  refine go_aloadN (v := .ref x) (q := 49) d44_48 rfl rfl rfl ?_
  refine go_iloadN (v := (Int32.ofNat (ndg (mag p) + sgn p))) (q := 50) d44_49 rfl rfl ?_
  refine go_putfield (q := 53) (w_92 H) Via.refl (N.keep K1 (ninS nxv.symm nin0)) (E.keep K1) (Or.inl (w_93 H)) (w_52 H) (ty := .int) (by decide) rfl rfl (by simp) d44_50 rfl ?_
  intro h2 W2
  refine go_aloadN (v := .ref x) (q := 54) d44_53 rfl rfl rfl ?_
  exact go_areturn H (G := []) (t := (.object "java/lang/AbstractStringBuilder")) rfl rfl rfl d44_54 (by decide) (by decide) (fun _ q => nomatch q) ⟨rfl, (kless K1 (by simp)).wr W2 (Or.inl (by simp)), (E.keep K1).wr W2, (Vv.keep K1 (ninS nxv.symm nin0)).other W2 (Or.inr s2), (C.keep K1 (ninS nxv.symm nin0)).other W2 (Or.inr s3), by rw [hdl]; exact (N.keep K1 (ninS nxv.symm nin0)).same W2, dec_lat p, by omega, by decide, k, V1.other W2 nxv⟩
set_option maxRecDepth 65536 in
set_option maxHeartbeats 4000000 in
theorem rm_apI {l : Launch} {Z : State} {a0 : Array Value} (H : Wd Z a0) {h : Heap} {x v : Addr} {p : Int32} (TB : Tabs Z) (B : SBd Z h x v 16 []) : Met l Z (⟨"java/lang/StringBuilder", "append", "(I)Ljava/lang/StringBuilder;"⟩ : MethodName) jdk_67_method_15_code 2 (some (.object "java/lang/StringBuilder")) ({ frames := 2, cells := 0, slots := 0, locals := 36 } : Room) h [x, v] #[.ref x, .int p] (fun u h' G => u = some (.ref x) ∧ Keep h h' [x, v] ∧ SBd Z h' x v 16 (dec p)) := by
  refine Met.mk (L := #[.val (.ref x), .val (.int p)]) (by decide +kernel) (fun m => by first | (simp [entryFrame, mkF, argsToLocals, Value.category]; done) | rfl) (fun K => ?_)
  show Go _ _ K "java/lang/StringBuilder" "append" _ _ _ _ _ _ _ _ _ 0 _ _
  refine go_aloadN (v := .ref x) (q := 1) d43_0 rfl rfl rfl ?_
  refine go_iloadN (v := p) (q := 2) d43_1 rfl rfl ?_
  refine go_super (c' := 0) (s' := 0) (q := 5) (S := []) (argsL := [.int p]) H (C := "java/lang/StringBuilder") (w_220 H) (same_of (y := ({ cls := "java/lang/AbstractStringBuilder", name := "append", desc := "(I)Ljava/lang/AbstractStringBuilder;" } : Jvm.MethodName)) (w := ({ cls := "java/lang/AbstractStringBuilder", name := "ensureCapacityInternal", desc := "(I)V" } : Jvm.MethodName)) (C := "java/lang/StringBuilder") rfl (w_97 H) (w_222 H) (by decide)) (w_221 H) (w_79 H) (w_61 H) (w_223 H) (by decide) B.exa (rm_apIA H TB B) rfl rfl (lenOf pd_30 rfl) (fun _ q => q) rfl (by decide) (Nat.le_of_ble_eq_true rfl) rfl rfl (by decide) (by decide) d43_2 rfl ?_
  rintro _ h1 G - ⟨rfl, K1, S1⟩
  refine nx_ (v := none) ?_
  show Go _ _ _ _ _ _ _ _ _ _ _ _ _ _ 5 #[.val (.ref x), .val (.int p)] [.ref x]
  refine go_pop (q := 6) d43_5 rfl rfl ?_
  refine go_aloadN (v := .ref x) (q := 7) d43_6 rfl rfl rfl ?_
  exact go_areturn H (G := []) (t := (.object "java/lang/StringBuilder")) rfl rfl rfl d43_7 (by decide) (by decide) (fun _ q => nomatch q) ⟨rfl, K1, S1⟩
set_option maxRecDepth 65536 in
set_option maxHeartbeats 4000000 in
theorem rm_isL {l : Launch} {Z : State} {a0 : Array Value} (H : Wd Z a0) {h : Heap} {a : Addr} (C : Fld Z h a ST "coder" "B" (.int 0)) : Met l Z (⟨"java/lang/String", "isLatin1", "()Z"⟩ : MethodName) jdk_42_method_154_code 1 (some .boolean) ({ frames := 0, cells := 0, slots := 0, locals := 0 } : Room) h [] #[.ref a] (fun v h' G => v = some (.int 1) ∧ h = h') := by
  refine Met.mk (L := #[.val (.ref a)]) (by decide +kernel) (fun m => by first | (simp [entryFrame, mkF, argsToLocals, Value.category]; done) | rfl) (fun K => ?_)
  show Go _ _ K "java/lang/String" "isLatin1" _ _ _ _ _ _ _ _ _ 0 _ _
  obtain ⟨cz, Sz, nz⟩ := H.2.2.2.1
  refine go_getstatic (v := .int cz) (q := 3) (w_4 H) Via.refl Sz d39_0 rfl ?_
  refine go_ifN (q := 6) d39_3 nz rfl ?_
  refine go_aloadN (v := .ref a) (q := 7) d39_6 rfl rfl rfl ?_
  refine go_getfield (v := .int 0) (q := 10) (w_24 H) Via.refl C d39_7 rfl ?_
  refine go_ifN (q := 13) d39_10 rfl rfl ?_
  refine go_iconst (x := (1 : Int32)) (q := 14) d39_13 rfl rfl ?_
  refine go_goto (q := 18) d39_14 (by decide) (by decide) ?_
  exact go_ireturn H (G := []) (t := .boolean) rfl (by decide) rfl d39_18 (by decide) (by decide) (fun _ q => nomatch q) ⟨rfl, rfl⟩
set_option maxRecDepth 65536 in
set_option maxHeartbeats 4000000 in
theorem rm_ckP {l : Launch} {Z : State} {a0 : Array Value} (H : Wd Z a0) {h : Heap} {i n : Int32} {f : Value} (hf : f.isRef = true) (h0 : ¬ i < 0) (h1 : i < n) : Met l Z (⟨"jdk/internal/util/Preconditions", "checkIndex", "(IILjava/util/function/BiFunction;)I"⟩ : MethodName) jdk_41_method_11_code 3 (some .int) ({ frames := 0, cells := 0, slots := 0, locals := 0 } : Room) h [] #[.int i, .int n, f] (fun v h' G => v = some (.int i) ∧ h = h') := by
  refine Met.mk (L := #[.val (.int i), .val (.int n), .val (f)]) (by decide +kernel) (fun m => by rcases ref_cases hf with rfl | ⟨_, rfl⟩ <;> first | (simp [entryFrame, mkF, argsToLocals, Value.category]; done) | rfl) (fun K => ?_)
  show Go _ _ K "jdk/internal/util/Preconditions" "checkIndex" _ _ _ _ _ _ _ _ _ 0 _ _
  refine go_iloadN (v := i) (q := 1) d42_0 rfl rfl ?_
  refine go_ifN (q := 4) d42_1 h0 rfl ?_
  refine go_iloadN (v := i) (q := 5) d42_4 rfl rfl ?_
  refine go_iloadN (v := n) (q := 6) d42_5 rfl rfl ?_
  refine go_icY (q := 16) d42_6 h1 (by decide) (by decide) ?_
  refine go_iloadN (v := i) (q := 17) d42_16 rfl rfl ?_
  exact go_ireturn H (G := []) (t := .int) rfl (by decide) rfl d42_17 (by decide) (by decide) (fun _ q => nomatch q) ⟨rfl, rfl⟩
set_option maxRecDepth 65536 in
set_option maxHeartbeats 4000000 in
theorem rm_ckS {l : Launch} {Z : State} {a0 : Array Value} (H : Wd Z a0) {h : Heap} {i n : Int32} (h0 : ¬ i < 0) (h1 : i < n) : Met l Z (⟨"java/lang/String", "checkIndex", "(II)V"⟩ : MethodName) jdk_42_method_155_code 2 none ({ frames := 1, cells := 0, slots := 0, locals := 14 } : Room) h [] #[.int i, .int n] (fun v h' G => v = none ∧ h = h') := by
  refine Met.mk (L := #[.val (.int i), .val (.int n)]) (by decide +kernel) (fun m => by first | (simp [entryFrame, mkF, argsToLocals, Value.category]; done) | rfl) (fun K => ?_)
  show Go _ _ K "java/lang/String" "checkIndex" _ _ _ _ _ _ _ _ _ 0 _ _
  obtain ⟨fm, Sf, rf⟩ := H.2.2.2.2.1
  refine go_iloadN (v := i) (q := 1) d41_0 rfl rfl ?_
  refine go_iloadN (v := n) (q := 2) d41_1 rfl rfl ?_
  refine go_getstatic (v := fm) (q := 5) (w_210 H) Via.refl Sf d41_2 rfl ?_
  refine go_static (c' := 0) (s' := 0) (q := 8) (S := []) (argsL := [.int i, .int n, fm]) H (w_212 H) (w_213 H) (w_211 H) (w_214 H) (by decide) (rm_ckP H rf h0 h1) rfl rfl (lenOf pd_31 rfl) (fun _ q => nomatch q) rfl (by decide) (Nat.le_of_ble_eq_true rfl) rfl rfl (by decide) (by decide) d41_5 rfl ?_
  rintro _ _ G - ⟨rfl, rfl⟩
  refine nx_ (v := none) ?_
  show Go _ _ _ _ _ _ _ _ _ _ _ _ _ _ 8 #[.val (.int i), .val (.int n)] [.int i]
  refine go_pop (q := 9) d41_8 rfl rfl ?_
  exact go_return H (G := []) rfl d41_9 (by decide) (by decide) (fun _ q => nomatch q) ⟨rfl, rfl⟩
set_option maxRecDepth 65536 in
set_option maxHeartbeats 4000000 in
theorem rm_l1ch {l : Launch} {Z : State} {a0 : Array Value} (H : Wd Z a0) {h : Heap} {ba : Addr} {kb : ClassId} {cs : List Int32} {i : Nat} (A : Arv Z h ba kb .byte (Int32.ofNat cs.length) (bts cs) (.int 0)) (hl : Lat cs) (hi : i < cs.length) : Met l Z (⟨"java/lang/StringLatin1", "charAt", "([BI)C"⟩ : MethodName) jdk_43_method_2_code 2 (some .char) ({ frames := 2, cells := 0, slots := 0, locals := 27 } : Room) h [] #[.ref ba, .int (Int32.ofNat i)] (fun v h' G => v = some (.int cs[i]) ∧ h = h') := by
  refine Met.mk (L := #[.val (.ref ba), .val (.int (Int32.ofNat i))]) (by decide +kernel) (fun m => by first | (simp [entryFrame, mkF, argsToLocals, Value.category]; done) | rfl) (fun K => ?_)
  show Go _ _ K "java/lang/StringLatin1" "charAt" _ _ _ _ _ _ _ _ _ 0 _ _
  have hb := hl.1
  have hc := hl.2 cs[i] (List.getElem_mem hi)
  have n0 : ¬ Int32.ofNat i < 0 := nn_ofNat (by omega)
  have n1 : Int32.ofNat i < Int32.ofNat cs.length := (lt_ofNat (by omega) (by omega)).mpr hi
  refine go_iloadN (v := (Int32.ofNat i)) (q := 1) d40_0 rfl rfl ?_
  refine go_aloadN (v := .ref ba) (q := 2) d40_1 rfl rfl rfl ?_
  refine go_arraylength (z := (Int32.ofNat cs.length)) (q := 3) A d40_2 rfl ?_
  refine go_static (c' := 0) (s' := 0) (q := 6) (S := []) (argsL := [.int (Int32.ofNat i), .int (Int32.ofNat cs.length)]) H (w_207 H) (w_208 H) (w_2 H) (w_209 H) (by decide) (rm_ckS H n0 n1) rfl rfl (lenOf pd_23 rfl) (fun _ q => nomatch q) rfl (by decide) (Nat.le_of_ble_eq_true rfl) rfl rfl (by decide) (by decide) d40_3 rfl ?_
  rintro _ _ G - ⟨rfl, rfl⟩
  refine nx_ (v := none) ?_
  show Go _ _ _ _ _ _ _ _ _ _ _ _ _ _ 6 #[.val (.ref ba), .val (.int (Int32.ofNat i))] []
  refine go_aloadN (v := .ref ba) (q := 7) d40_6 rfl rfl rfl ?_
  refine go_iloadN (v := (Int32.ofNat i)) (q := 8) d40_7 rfl rfl ?_
  refine go_baload (v := .int (cs[i].toInt8.toInt32)) (q := 9) A ⟨n0, n1⟩ (by rw [cl_ofNat (by omega)]; exact bts_at hi) d40_8 rfl ?_
  refine go_sipush (x := (255 : Int32)) (q := 12) d40_9 rfl rfl ?_
  refine go_iand (r := cs[i]) (q := 13) d40_12 (b_and hc) rfl ?_
  refine go_i2c (r := cs[i]) (q := 14) d40_13 (nar_char hc.1 hc.2) rfl ?_
  exact go_ireturn H (G := []) (t := .char) rfl (by decide) (by show Value.int (nar .char cs[i]) = _; rw [nar_char hc.1 hc.2]) d40_14 (by decide) (by decide) (fun _ q => nomatch q) ⟨rfl, rfl⟩
set_option maxRecDepth 65536 in
set_option maxHeartbeats 4000000 in
theorem rm_chAt {l : Launch} {Z : State} {a0 : Array Value} (H : Wd Z a0) {h : Heap} {F : List Addr} {a : Addr} {cs : List Int32} {i : Nat} (S : Str Z h F a cs) (hi : i < cs.length) : Met l Z (⟨"java/lang/String", "charAt", "(I)C"⟩ : MethodName) jdk_42_method_56_code 2 (some .char) ({ frames := 3, cells := 0, slots := 0, locals := 40 } : Room) h [] #[.ref a, .int (Int32.ofNat i)] (fun v h' G => v = some (.int cs[i]) ∧ h = h') := by
  refine Met.mk (L := #[.val (.ref a), .val (.int (Int32.ofNat i))]) (by decide +kernel) (fun m => by first | (simp [entryFrame, mkF, argsToLocals, Value.category]; done) | rfl) (fun K => ?_)
  show Go _ _ K "java/lang/String" "charAt" _ _ _ _ _ _ _ _ _ 0 _ _
  obtain ⟨E, C, ha, hl, bb, k, hb, Vv, A⟩ := S
  have hc := hl.2 cs[i] (List.getElem_mem hi)
  refine go_aloadN (v := .ref a) (q := 1) d38_0 rfl rfl rfl ?_
  refine go_virtual (c' := 0) (s' := 0) (q := 4) (S := []) (argsL := []) H (C := "java/lang/String") (w_199 H) (w_200 H) (nf_self (w_202 H)) (w_202 H) (w_201 H) (w_2 H) (w_203 H) (by decide) E (rm_isL H C) rfl rfl (lenOf pd_26 rfl) (fun _ q => nomatch q) rfl (by decide) (Nat.le_of_ble_eq_true rfl) rfl rfl (by decide) (by decide) d38_1 rfl ?_
  rintro _ _ G - ⟨rfl, rfl⟩
  refine nx_ (v := none) ?_
  show Go _ _ _ _ _ _ _ _ _ _ _ _ _ _ 4 #[.val (.ref a), .val (.int (Int32.ofNat i))] [.int 1]
  refine go_ifN (q := 7) d38_4 (by decide) rfl ?_
  refine go_aloadN (v := .ref a) (q := 8) d38_7 rfl rfl rfl ?_
  refine go_getfield (v := .ref bb) (q := 11) (w_22 H) Via.refl Vv d38_8 rfl ?_
  refine go_iloadN (v := (Int32.ofNat i)) (q := 12) d38_11 rfl rfl ?_
  refine go_static (c' := 0) (s' := 0) (q := 15) (S := []) (argsL := [.ref bb, .int (Int32.ofNat i)]) H (w_204 H) (w_205 H) (w_7 H) (w_206 H) (by decide) (rm_l1ch H A hl hi) rfl rfl (lenOf pd_32 rfl) (fun _ q => nomatch q) rfl (by decide) (Nat.le_of_ble_eq_true rfl) rfl rfl (by decide) (by decide) d38_12 rfl ?_
  rintro _ _ G - ⟨rfl, rfl⟩
  refine nx_ (v := none) ?_
  show Go _ _ _ _ _ _ _ _ _ _ _ _ _ _ 15 #[.val (.ref a), .val (.int (Int32.ofNat i))] [.int (cs[i])]
  exact go_ireturn H (G := []) (t := .char) rfl (by decide) (by show Value.int (nar .char cs[i]) = _; rw [nar_char hc.1 hc.2]) d38_15 (by decide) (by decide) (fun _ q => nomatch q) ⟨rfl, rfl⟩
theorem rm_chV {l : Launch} {Z : State} {a0 : Array Value} (H : Wd Z a0) {h : Heap} {F : List Addr} {a : Addr} {cs : List Int32} {i : Nat} {v : Int32} (S : Str Z h F a cs) (hv : cs[i]? = some v) : Met l Z (⟨"java/lang/String", "charAt", "(I)C"⟩ : MethodName) jdk_42_method_56_code 2 (some .char) ({ frames := 3, cells := 0, slots := 0, locals := 40 } : Room) h [] #[.ref a, .int (Int32.ofNat i)] (fun u h' G => u = some (.int v) ∧ h = h') := by
  obtain ⟨hi, rfl⟩ := List.getElem?_eq_some_iff.mp hv
  exact rm_chAt H S hi
set_option maxRecDepth 65536 in
set_option maxHeartbeats 4000000 in
theorem rm_pn {l : Launch} {Z : State} {a0 : Array Value} (H : Wd Z a0) {h : Heap} {F : List Addr} {p : Int32} (TB : Tabs Z) : Met l Z (⟨"com/example/saga/saga/server/SurfaceUris", "pageNumber", "(I)Ljava/lang/String;"⟩ : MethodName) prog_12_method_8_code 1 (some (.object "java/lang/String")) ({ frames := 6, cells := 6, slots := 72, locals := 124 } : Room) h F #[.int p] (fun v h' G => ∃ a, v = some (.ref a) ∧ Keep h h' [] ∧ Str Z h' F a (pnl p)) := by
  refine Met.mk (L := #[.val (.int p)]) (plainFor_of_name (by first | (simp [plainName, overriddenIn]; done) | decide +kernel)) (fun m => by first | (simp [entryFrame, mkF, argsToLocals, Value.category]; done) | rfl) (fun K => ?_)
  show Go _ _ K "com/example/saga/saga/server/SurfaceUris" "pageNumber" _ _ _ _ _ _ _ _ _ 0 _ _
  have Ka : Keep h h [] := Keep.refl _ _
  refine go_iloadN (v := p) (q := 1) d37_0 rfl rfl ?_
  refine go_iconst (x := (1 : Int32)) (q := 2) d37_1 rfl rfl ?_
  by_cases q1 : p = 1
  · refine go_icN (q := 5) d37_2 q1 rfl ?_
    refine go_lit (cs := []) (n := 0) (c' := 2) (s' := 4) (q := 7) H (w_192 H) (by decide) (by decide) (by decide) (by decide) (by decide) d37_5 (by decide) (by decide) rfl rfl rfl (by decide) (by decide) ?_
    intro h1 a1 E1 S1
    have Ka : Keep h h1 [] := Ka.ext E1
    refine go_goto (q := 29) d37_7 (by decide) (by decide) ?_
    exact go_areturn H (G := []) (t := (.object "java/lang/String")) rfl rfl rfl d37_29 (by decide) (by decide) (fun _ q => nomatch q) ⟨a1, rfl, Ka, by rw [pnl_1 q1]; exact S1⟩
  · refine go_icY (q := 10) d37_2 q1 (by decide) (by decide) ?_
    have Kn : Keep h h [] := Keep.refl _ _
    refine go_new (c' := 1) (s' := 4) (q := 13) (w_51 H) (w_52 H) (w_53 H) d37_10 rfl rfl rfl (by decide) (by decide) ?_
    intro h1 x g1 E1 A1 D1
    have f_Ka_x : h.size ≤ x := by rw [g1]; exact Ka.1
    have f_Kn_x : h.size ≤ x := by rw [g1]; exact Kn.1
    have Ka : Keep h h1 [] := Ka.ext E1
    have Kn : Keep h h1 [] := Kn.ext E1
    have V1 : Fld Z h1 x ABN "value" "[B" .null := D1 (Or.inl (w_66 H)) (ty := .array .byte) (by decide)
    have C1 : Fld Z h1 x ABN "coder" "B" (.int 0) := D1 (Or.inl (w_68 H)) (ty := .byte) (by decide)
    have N1 : Fld Z h1 x ABN "count" "I" (.int 0) := D1 (Or.inl (w_93 H)) (ty := .int) (by decide)
    refine go_dup (q := 14) d37_13 rfl rfl ?_
    refine go_special (c' := 2) (s' := 20) (q := 17) (S := [.ref x]) (argsL := []) H rfl (w_54 H) (w_55 H) (w_53 H) (w_56 H) (by decide) (rm_sbI H A1 V1 C1 N1) rfl rfl (lenOf pd_0 rfl) (by intro z hz; simp only [List.mem_cons, List.not_mem_nil, or_false] at hz ⊢; first | exact hz | exact Or.inl hz | (rcases hz with hz | hz <;> simp [hz]; done) | (rcases hz with rfl | rfl <;> simp)) rfl (by decide) (Nat.le_of_ble_eq_true rfl) rfl rfl (by decide) (by decide) d37_14 rfl ?_
    rintro _ h2 G - ⟨v, rfl, rfl, gv, K2, B⟩
    refine ⟨v :: (x :: F), (by intro y q; simpa using q), ?_⟩
    have Ka : Keep h h2 [] := kfresh Ka K2 f_Ka_x
    have Kn : Keep h h2 [] := kfresh Kn K2 f_Kn_x
    show Go _ _ _ _ _ _ _ _ _ _ _ _ _ _ 17 #[.val (.int p)] [.ref x]
    have f_Ka_v : h.size ≤ v := Nat.le_trans (Nat.le_of_lt (Nat.lt_of_le_of_lt f_Ka_x A1.lt)) gv
    have f_Kn_v : h.size ≤ v := Nat.le_trans (Nat.le_of_lt (Nat.lt_of_le_of_lt f_Kn_x A1.lt)) gv
    refine go_iloadN (v := p) (q := 18) d37_17 rfl rfl ?_
    refine go_virtual (c' := 2) (s' := 20) (q := 21) (S := []) (argsL := [.int p]) H (C := "java/lang/StringBuilder") (w_215 H) (w_216 H) (nf_self (w_218 H)) (w_218 H) (w_217 H) (w_53 H) (w_219 H) (by decide) B.exa (rm_apI H TB B) rfl rfl (lenOf pd_1 rfl) (by intro z hz; simp only [List.mem_cons, List.not_mem_nil, or_false] at hz ⊢; first | exact hz | exact Or.inl hz | (rcases hz with hz | hz <;> simp [hz]; done) | (rcases hz with rfl | rfl <;> simp)) rfl (by decide) (Nat.le_of_ble_eq_true rfl) rfl rfl (by decide) (by decide) d37_18 rfl ?_
    rintro _ ha G - ⟨rfl, Kq, Bn⟩
    refine nx_ (v := none) ?_
    show Go _ _ _ _ _ _ _ _ _ _ _ _ _ _ 21 #[.val (.int p)] [.ref x]
    have B := Bn
    have Ka : Keep h ha [] := Ka.trans Kq (by intro y q; simp only [List.mem_cons, List.not_mem_nil, or_false] at q; rcases q with rfl | rfl; exact Or.inr f_Ka_x; exact Or.inr f_Ka_v)
    have Kn : Keep h ha [] := Kn.trans Kq (by intro y q; simp only [List.mem_cons, List.not_mem_nil, or_false] at q; rcases q with rfl | rfl; exact Or.inr f_Kn_x; exact Or.inr f_Kn_v)
    refine go_lit (cs := [47]) (n := 4) (c' := 4) (s' := 28) (q := 23) H (w_234 H) (by decide) (by decide) (by decide) (by decide) (by decide) d37_21 (by decide) (by decide) rfl rfl rfl (by decide) (by decide) ?_
    intro hl0 al0 El0 Sl0
    have Ka : Keep h hl0 [] := Ka.ext El0
    have Kn : Keep h hl0 [] := Kn.ext El0
    have B := B.ext El0
    refine go_virtual (c' := 4) (s' := 28) (q := 26) (S := []) (argsL := [.ref al0]) H (C := "java/lang/StringBuilder") (w_72 H) (w_73 H) (nf_self (w_75 H)) (w_75 H) (w_74 H) (w_53 H) (w_76 H) (by decide) B.exa (rm_app H Sl0 B (by have := dec_le p; simp <;> omega)) rfl rfl (lenOf pd_2 rfl) (by intro z hz; simp only [List.mem_cons, List.not_mem_nil, or_false] at hz ⊢; first | exact hz | exact Or.inl hz | (rcases hz with hz | hz <;> simp [hz]; done) | (rcases hz with rfl | rfl <;> simp)) rfl (by decide) (Nat.le_of_ble_eq_true rfl) rfl rfl (by decide) (by decide) d37_23 rfl ?_
    rintro _ ha0 G - ⟨rfl, Ka0, Bn⟩
    refine nx_ (v := none) ?_
    show Go _ _ _ _ _ _ _ _ _ _ _ _ _ _ 26 #[.val (.int p)] [.ref x]
    have B := Bn
    have Ka : Keep h ha0 [] := Ka.trans Ka0 (by intro y q; simp only [List.mem_cons, List.not_mem_nil, or_false] at q; rcases q with rfl | rfl; exact Or.inr f_Ka_x; exact Or.inr f_Ka_v)
    have Kn : Keep h ha0 [] := Kn.trans Ka0 (by intro y q; simp only [List.mem_cons, List.not_mem_nil, or_false] at q; rcases q with rfl | rfl; exact Or.inr f_Kn_x; exact Or.inr f_Kn_v)
    have Sl0 := Sl0.keep Ka0 (by intro y q; simp only [List.mem_cons, List.not_mem_nil, or_false] at q ⊢; rcases q with rfl | rfl <;> simp)
    refine go_mine fun hM _ => ?_
    refine go_virtual (c' := 6) (s' := 72) (q := 29) (S := []) (argsL := []) H (C := "java/lang/StringBuilder") (w_119 H) (w_120 H) (nf_self (w_122 H)) (w_122 H) (w_121 H) (w_53 H) (w_123 H) (by decide) B.exa (rm_toSX H (F := F) B (by have := dec_le p; simp <;> omega) (fun e => absurd e (by have := dec_le p; simp <;> omega)) (by have := dec_le p; simp <;> omega) (fun y q => (hM y (by simp [q])).2)) rfl rfl (lenOf pd_3 rfl) (by intro y q; simp [q]) rfl (by decide) (Nat.le_of_ble_eq_true rfl) rfl rfl (by decide) (by decide) d37_26 rfl ?_
    rintro _ hz G - ⟨r, rfl, Kz, Sz⟩
    refine nx_ (v := none) ?_
    have Ka : Keep h hz [] := Ka.trans Kz (fun _ q => nomatch q)
    have Kn : Keep h hz [] := Kn.trans Kz (fun _ q => nomatch q)
    have B := B.keep0 Kz
    show Go _ _ _ _ _ _ _ _ _ _ _ _ _ _ 29 #[.val (.int p)] [.ref r]
    exact go_areturn H (G := []) (t := (.object "java/lang/String")) rfl rfl rfl d37_29 (by decide) (by decide) (fun _ q => nomatch q) ⟨r, rfl, Ka, by rw [pnl_n q1]; exact Sz⟩
set_option maxRecDepth 65536 in
set_option maxHeartbeats 4000000 in
theorem rm_suI {l : Launch} {Z : State} {a0 : Array Value} (H : Wd Z a0) {h : Heap} {F : List Addr} {s a : Addr} {as : List Int32} (E : Exa Z h s SUN) (Fb : Fld Z h s SUN "base" SDs .null) (S : Str Z h (s :: F) a as) (ha : as.length ≤ 2) : Met l Z (⟨"com/example/saga/saga/server/SurfaceUris", "<init>", "(Ljava/lang/String;)V"⟩ : MethodName) prog_12_method_1_code 2 none ({ frames := 6, cells := 6, slots := 96, locals := 130 } : Room) h (s :: F) #[.ref s, .ref a] (fun v h' G => v = none ∧ Keep h h' [s] ∧ ∃ b, Fld Z h' s SUN "base" SDs (.ref b) ∧ Str Z h' (s :: F) b ((([] : List Int32) ++ [104, 116, 116, 112, 58, 47, 47]) ++ as)) := by
  refine Met.mk (L := #[.val (.ref s), .val (.ref a)]) (plainFor_of_name (by first | (simp [plainName, overriddenIn]; done) | decide +kernel)) (fun m => by first | (simp [entryFrame, mkF, argsToLocals, Value.category]; done) | rfl) (fun K => ?_)
  show Go _ _ K "com/example/saga/saga/server/SurfaceUris" "<init>" _ _ _ _ _ _ _ _ _ 0 _ _
  refine go_mine fun hM0 _ => ?_
  refine go_aloadN (v := .ref s) (q := 1) d10_0 rfl rfl rfl ?_
  refine go_initO (q := 4) (w_50 H) (w_20 H) (w_21 H) rfl d10_1 rfl (by decide) (Nat.le_of_ble_eq_true rfl) ?_
  refine go_aloadN (v := .ref s) (q := 5) d10_4 rfl rfl rfl ?_
  have Ka : Keep h h [] := Keep.refl _ _
  have Kn : Keep h h [] := Keep.refl _ _
  refine go_new (c' := 1) (s' := 4) (q := 8) (w_51 H) (w_52 H) (w_53 H) d10_5 rfl rfl rfl (by decide) (by decide) ?_
  intro h1 x g1 E1 A1 D1
  have f_Ka_x : h.size ≤ x := by rw [g1]; exact Ka.1
  have f_Kn_x : h.size ≤ x := by rw [g1]; exact Kn.1
  have Ka : Keep h h1 [] := Ka.ext E1
  have Kn : Keep h h1 [] := Kn.ext E1
  have V1 : Fld Z h1 x ABN "value" "[B" .null := D1 (Or.inl (w_66 H)) (ty := .array .byte) (by decide)
  have C1 : Fld Z h1 x ABN "coder" "B" (.int 0) := D1 (Or.inl (w_68 H)) (ty := .byte) (by decide)
  have N1 : Fld Z h1 x ABN "count" "I" (.int 0) := D1 (Or.inl (w_93 H)) (ty := .int) (by decide)
  refine go_dup (q := 9) d10_8 rfl rfl ?_
  refine go_special (c' := 2) (s' := 20) (q := 12) (S := [.ref x, .ref s]) (argsL := []) H rfl (w_54 H) (w_55 H) (w_53 H) (w_56 H) (by decide) (rm_sbI H A1 V1 C1 N1) rfl rfl (lenOf pd_0 rfl) (by intro z hz; simp only [List.mem_cons, List.not_mem_nil, or_false] at hz ⊢; first | exact hz | exact Or.inl hz | (rcases hz with hz | hz <;> simp [hz]; done) | (rcases hz with rfl | rfl <;> simp)) rfl (by decide) (Nat.le_of_ble_eq_true rfl) rfl rfl (by decide) (by decide) d10_9 rfl ?_
  rintro _ h2 G - ⟨v, rfl, rfl, gv, K2, B⟩
  refine ⟨v :: (x :: (s :: F)), (by intro y q; simpa using q), ?_⟩
  have Ka : Keep h h2 [] := kfresh Ka K2 f_Ka_x
  have Kn : Keep h h2 [] := kfresh Kn K2 f_Kn_x
  show Go _ _ _ _ _ _ _ _ _ _ _ _ _ _ 12 #[.val (.ref s), .val (.ref a)] [.ref x, .ref s]
  have f_Ka_v : h.size ≤ v := Nat.le_trans (Nat.le_of_lt (Nat.lt_of_le_of_lt f_Ka_x A1.lt)) gv
  have f_Kn_v : h.size ≤ v := Nat.le_trans (Nat.le_of_lt (Nat.lt_of_le_of_lt f_Kn_x A1.lt)) gv
  have S := ((S).grow (F' := (v :: (x :: (s :: F)))) (by intro y q; rcases List.mem_cons.mp q with rfl | q; exact Or.inr f_Kn_v; rcases List.mem_cons.mp q with rfl | q; exact Or.inr f_Kn_x; exact Or.inl q)).keep0 Kn
  refine go_lit (cs := [104, 116, 116, 112, 58, 47, 47]) (n := 28) (c' := 4) (s' := 52) (q := 14) H (w_69 H) (by decide) (by decide) (by decide) (by decide) (by decide) d10_12 (by decide) (by decide) rfl rfl rfl (by decide) (by decide) ?_
  intro hl0 al0 El0 Sl0
  have Ka : Keep h hl0 [] := Ka.ext El0
  have Kn : Keep h hl0 [] := Kn.ext El0
  have S := S.ext El0
  have B := B.ext El0
  refine go_virtual (c' := 4) (s' := 52) (q := 17) (S := [.ref s]) (argsL := [.ref al0]) H (C := "java/lang/StringBuilder") (w_72 H) (w_73 H) (nf_self (w_75 H)) (w_75 H) (w_74 H) (w_53 H) (w_76 H) (by decide) B.exa (rm_app H Sl0 B (by simp)) rfl rfl (lenOf pd_2 rfl) (by intro z hz; simp only [List.mem_cons, List.not_mem_nil, or_false] at hz ⊢; first | exact hz | exact Or.inl hz | (rcases hz with hz | hz <;> simp [hz]; done) | (rcases hz with rfl | rfl <;> simp)) rfl (by decide) (Nat.le_of_ble_eq_true rfl) rfl rfl (by decide) (by decide) d10_14 rfl ?_
  rintro _ ha0 G - ⟨rfl, Ka0, Bn⟩
  refine nx_ (v := none) ?_
  show Go _ _ _ _ _ _ _ _ _ _ _ _ _ _ 17 #[.val (.ref s), .val (.ref a)] [.ref x, .ref s]
  have B := Bn
  have Ka : Keep h ha0 [] := Ka.trans Ka0 (by intro y q; simp only [List.mem_cons, List.not_mem_nil, or_false] at q; rcases q with rfl | rfl; exact Or.inr f_Ka_x; exact Or.inr f_Ka_v)
  have Kn : Keep h ha0 [] := Kn.trans Ka0 (by intro y q; simp only [List.mem_cons, List.not_mem_nil, or_false] at q; rcases q with rfl | rfl; exact Or.inr f_Kn_x; exact Or.inr f_Kn_v)
  have S := S.keep Ka0 (by intro y q; simp only [List.mem_cons, List.not_mem_nil, or_false] at q ⊢; rcases q with rfl | rfl <;> simp)
  have Sl0 := Sl0.keep Ka0 (by intro y q; simp only [List.mem_cons, List.not_mem_nil, or_false] at q ⊢; rcases q with rfl | rfl <;> simp)
  refine go_aloadN (v := .ref a) (q := 18) d10_17 rfl rfl rfl ?_
  refine go_virtual (c' := 4) (s' := 52) (q := 21) (S := [.ref s]) (argsL := [.ref a]) H (C := "java/lang/StringBuilder") (w_72 H) (w_73 H) (nf_self (w_75 H)) (w_75 H) (w_74 H) (w_53 H) (w_76 H) (by decide) B.exa (rm_app H S B (by simp <;> omega)) rfl rfl (lenOf pd_2 rfl) (by intro z hz; simp only [List.mem_cons, List.not_mem_nil, or_false] at hz ⊢; first | exact hz | exact Or.inl hz | (rcases hz with hz | hz <;> simp [hz]; done) | (rcases hz with rfl | rfl <;> simp)) rfl (by decide) (Nat.le_of_ble_eq_true rfl) rfl rfl (by decide) (by decide) d10_18 rfl ?_
  rintro _ ha1 G - ⟨rfl, Ka1, Bn⟩
  refine nx_ (v := none) ?_
  show Go _ _ _ _ _ _ _ _ _ _ _ _ _ _ 21 #[.val (.ref s), .val (.ref a)] [.ref x, .ref s]
  have B := Bn
  have Ka : Keep h ha1 [] := Ka.trans Ka1 (by intro y q; simp only [List.mem_cons, List.not_mem_nil, or_false] at q; rcases q with rfl | rfl; exact Or.inr f_Ka_x; exact Or.inr f_Ka_v)
  have Kn : Keep h ha1 [] := Kn.trans Ka1 (by intro y q; simp only [List.mem_cons, List.not_mem_nil, or_false] at q; rcases q with rfl | rfl; exact Or.inr f_Kn_x; exact Or.inr f_Kn_v)
  have S := S.keep Ka1 (by intro y q; simp only [List.mem_cons, List.not_mem_nil, or_false] at q ⊢; rcases q with rfl | rfl <;> simp)
  refine go_mine fun hM _ => ?_
  refine go_virtual (c' := 6) (s' := 96) (q := 24) (S := [.ref s]) (argsL := []) H (C := "java/lang/StringBuilder") (w_119 H) (w_120 H) (nf_self (w_122 H)) (w_122 H) (w_121 H) (w_53 H) (w_123 H) (by decide) B.exa (rm_toSX H (F := (s :: F)) B (by simp <;> omega) (fun e => absurd e (by simp <;> omega)) (by simp <;> omega) (fun y q => (hM y (by simp [q])).2)) rfl rfl (lenOf pd_3 rfl) (by intro y q; simp [q]) rfl (by decide) (Nat.le_of_ble_eq_true rfl) rfl rfl (by decide) (by decide) d10_21 rfl ?_
  rintro _ hz G - ⟨r, rfl, Kz, Sz⟩
  refine nx_ (v := none) ?_
  have Ka : Keep h hz [] := Ka.trans Kz (fun _ q => nomatch q)
  have Kn : Keep h hz [] := Kn.trans Kz (fun _ q => nomatch q)
  have S := S.keep0 Kz
  have B := B.keep0 Kz
  show Go _ _ _ _ _ _ _ _ _ _ _ _ _ _ 24 #[.val (.ref s), .val (.ref a)] [.ref r, .ref s]
  refine go_putfield (q := 27) (w_164 H) Via.refl (Fb.keep Ka nin0) (E.keep Ka) (Or.inr ⟨(w_165 H), rfl, rfl⟩) (w_45 H) (ty := (.object "java/lang/String")) (by decide) rfl rfl (by simp) d10_24 rfl ?_
  intro hw Ww
  exact go_return H (G := []) rfl d10_27 (by decide) (by decide) (fun _ q => nomatch q) ⟨rfl, (kless Ka (by simp)).wr Ww (Or.inl (by simp)), r, (Fb.keep Ka nin0).same Ww, Sz.keep (Keep.of_wr Ww) (by intro y q; simp only [List.mem_cons, List.not_mem_nil, or_false] at q; exact Or.inl (by simp [q]))⟩
set_option maxRecDepth 65536 in
set_option maxHeartbeats 4000000 in
theorem rm_tm {l : Launch} {Z : State} {a0 : Array Value} (H : Wd Z a0) {h : Heap} {F : List Addr} {s b u : Addr} {bs us : List Int32} {p : Int32} (TB : Tabs Z) (E : Exa Z h s SUN) (Fb : Fld Z h s SUN "base" SDs (.ref b)) (Sb : Str Z h F b bs) (Su : Str Z h F u us) (h1 : 7 ≤ bs.length) (h2 : bs.length ≤ 9) (h3 : us.length ≤ 2) : Met l Z (⟨"com/example/saga/saga/server/SurfaceUris", "jsonTimeMap", "(Ljava/lang/String;I)Ljava/lang/String;"⟩ : MethodName) prog_12_method_5_code 3 (some (.object "java/lang/String")) ({ frames := 8, cells := 15, slots := 406, locals := 170 } : Room) h F #[.ref s, .ref u, .int p] (fun v h' G => ∃ a, v = some (.ref a) ∧ Keep h h' [] ∧ Str Z h' F a ((((([] : List Int32) ++ bs) ++ [47, 116, 105, 109, 101, 109, 97, 112, 47, 106, 115, 111, 110, 47]) ++ (pnl p)) ++ us)) := by
  refine Met.mk (L := #[.val (.ref s), .val (.ref u), .val (.int p)]) (plainFor_of_name (by first | (simp [plainName, overriddenIn]; done) | decide +kernel)) (fun m => by first | (simp [entryFrame, mkF, argsToLocals, Value.category]; done) | rfl) (fun K => ?_)
  show Go _ _ K "com/example/saga/saga/server/SurfaceUris" "jsonTimeMap" _ _ _ _ _ _ _ _ _ 0 _ _
  have hpn := pnl_le p
  have Ka : Keep h h [] := Keep.refl _ _
  have Kn : Keep h h [] := Keep.refl _ _
  refine go_new (c' := 1) (s' := 4) (q := 3) (w_51 H) (w_52 H) (w_53 H) d32_0 rfl rfl rfl (by decide) (by decide) ?_
  intro h1 x g1 E1 A1 D1
  have f_Ka_x : h.size ≤ x := by rw [g1]; exact Ka.1
  have f_Kn_x : h.size ≤ x := by rw [g1]; exact Kn.1
  have Ka : Keep h h1 [] := Ka.ext E1
  have Kn : Keep h h1 [] := Kn.ext E1
  have V1 : Fld Z h1 x ABN "value" "[B" .null := D1 (Or.inl (w_66 H)) (ty := .array .byte) (by decide)
  have C1 : Fld Z h1 x ABN "coder" "B" (.int 0) := D1 (Or.inl (w_68 H)) (ty := .byte) (by decide)
  have N1 : Fld Z h1 x ABN "count" "I" (.int 0) := D1 (Or.inl (w_93 H)) (ty := .int) (by decide)
  refine go_dup (q := 4) d32_3 rfl rfl ?_
  refine go_special (c' := 2) (s' := 20) (q := 7) (S := [.ref x]) (argsL := []) H rfl (w_54 H) (w_55 H) (w_53 H) (w_56 H) (by decide) (rm_sbI H A1 V1 C1 N1) rfl rfl (lenOf pd_0 rfl) (by intro z hz; simp only [List.mem_cons, List.not_mem_nil, or_false] at hz ⊢; first | exact hz | exact Or.inl hz | (rcases hz with hz | hz <;> simp [hz]; done) | (rcases hz with rfl | rfl <;> simp)) rfl (by decide) (Nat.le_of_ble_eq_true rfl) rfl rfl (by decide) (by decide) d32_4 rfl ?_
  rintro _ h2 G - ⟨v, rfl, rfl, gv, K2, B⟩
  refine ⟨v :: (x :: F), (by intro y q; simpa using q), ?_⟩
  have Ka : Keep h h2 [] := kfresh Ka K2 f_Ka_x
  have Kn : Keep h h2 [] := kfresh Kn K2 f_Kn_x
  show Go _ _ _ _ _ _ _ _ _ _ _ _ _ _ 7 #[.val (.ref s), .val (.ref u), .val (.int p)] [.ref x]
  have f_Ka_v : h.size ≤ v := Nat.le_trans (Nat.le_of_lt (Nat.lt_of_le_of_lt f_Ka_x A1.lt)) gv
  have f_Kn_v : h.size ≤ v := Nat.le_trans (Nat.le_of_lt (Nat.lt_of_le_of_lt f_Kn_x A1.lt)) gv
  have Sb := ((Sb).grow (F' := (v :: (x :: F))) (by intro y q; rcases List.mem_cons.mp q with rfl | q; exact Or.inr f_Kn_v; rcases List.mem_cons.mp q with rfl | q; exact Or.inr f_Kn_x; exact Or.inl q)).keep0 Kn
  have Su := ((Su).grow (F' := (v :: (x :: F))) (by intro y q; rcases List.mem_cons.mp q with rfl | q; exact Or.inr f_Kn_v; rcases List.mem_cons.mp q with rfl | q; exact Or.inr f_Kn_x; exact Or.inl q)).keep0 Kn
  refine go_aloadN (v := .ref s) (q := 8) d32_7 rfl rfl rfl ?_
  refine go_getfield (v := .ref b) (q := 11) (w_164 H) Via.refl (Fb.keep Ka nin0) d32_8 rfl ?_
  refine go_virtual (c' := 2) (s' := 20) (q := 14) (S := []) (argsL := [.ref b]) H (C := "java/lang/StringBuilder") (w_72 H) (w_73 H) (nf_self (w_75 H)) (w_75 H) (w_74 H) (w_53 H) (w_76 H) (by decide) B.exa (rm_app H Sb B (by simp <;> omega)) rfl rfl (lenOf pd_2 rfl) (by intro z hz; simp only [List.mem_cons, List.not_mem_nil, or_false] at hz ⊢; first | exact hz | exact Or.inl hz | (rcases hz with hz | hz <;> simp [hz]; done) | (rcases hz with rfl | rfl <;> simp)) rfl (by decide) (Nat.le_of_ble_eq_true rfl) rfl rfl (by decide) (by decide) d32_11 rfl ?_
  rintro _ ha0 G - ⟨rfl, Ka0, Bn⟩
  refine nx_ (v := none) ?_
  show Go _ _ _ _ _ _ _ _ _ _ _ _ _ _ 14 #[.val (.ref s), .val (.ref u), .val (.int p)] [.ref x]
  have B := Bn
  have Ka : Keep h ha0 [] := Ka.trans Ka0 (by intro y q; simp only [List.mem_cons, List.not_mem_nil, or_false] at q; rcases q with rfl | rfl; exact Or.inr f_Ka_x; exact Or.inr f_Ka_v)
  have Kn : Keep h ha0 [] := Kn.trans Ka0 (by intro y q; simp only [List.mem_cons, List.not_mem_nil, or_false] at q; rcases q with rfl | rfl; exact Or.inr f_Kn_x; exact Or.inr f_Kn_v)
  have Sb := Sb.keep Ka0 (by intro y q; simp only [List.mem_cons, List.not_mem_nil, or_false] at q ⊢; rcases q with rfl | rfl <;> simp)
  have Su := Su.keep Ka0 (by intro y q; simp only [List.mem_cons, List.not_mem_nil, or_false] at q ⊢; rcases q with rfl | rfl <;> simp)
  refine go_lit (cs := [47, 116, 105, 109, 101, 109, 97, 112, 47, 106, 115, 111, 110, 47]) (n := 56) (c' := 4) (s' := 80) (q := 16) H (w_171 H) (by decide) (by decide) (by decide) (by decide) (by decide) d32_14 (by decide) (by decide) rfl rfl rfl (by decide) (by decide) ?_
  intro hl1 al1 El1 Sl1
  have Ka : Keep h hl1 [] := Ka.ext El1
  have Kn : Keep h hl1 [] := Kn.ext El1
  have Su := Su.ext El1
  have B := B.ext El1
  refine go_virtual (c' := 5) (s' := 150) (q := 19) (S := []) (argsL := [.ref al1]) H (C := "java/lang/StringBuilder") (w_72 H) (w_73 H) (nf_self (w_75 H)) (w_75 H) (w_74 H) (w_53 H) (w_76 H) (by decide) B.exa (rm_apX H Sl1 B (by simp) (by simp <;> omega) (Or.inl (by decide)) (fun e => absurd e (by simp <;> omega))) rfl rfl (lenOf pd_2 rfl) (by intro y q; simp only [List.mem_cons, List.not_mem_nil, or_false] at q; rcases q with rfl | rfl <;> simp) rfl (by decide) (Nat.le_of_ble_eq_true rfl) rfl rfl (by decide) (by decide) d32_16 rfl ?_
  rintro _ hx1 G - ⟨vx1, cap1, rfl, rfl, hv1, hc1, Kx1, Bn, Xv⟩
  refine ⟨vx1 :: (v :: (x :: F)), (by intro y q; rcases List.mem_cons.mp q with rfl | q; exact Or.inl (by simp); exact Or.inr q), ?_⟩
  show Go _ _ _ _ _ _ _ _ _ _ _ _ _ _ 19 #[.val (.ref s), .val (.ref u), .val (.int p)] [.ref x]
  have B := Bn
  have f_Ka_vx1 : h.size ≤ vx1 := hv1.elim (fun e => by rw [e]; exact f_Ka_v) (fun q => Nat.le_trans Ka.1 q)
  have f_Kn_vx1 : h.size ≤ vx1 := hv1.elim (fun e => by rw [e]; exact f_Kn_v) (fun q => Nat.le_trans Kn.1 q)
  have Su := Su.grow (F' := (vx1 :: (v :: (x :: F)))) (by intro y q; rcases List.mem_cons.mp q with rfl | q; exact hv1.elim (fun e => Or.inl (by simp [e])) Or.inr; exact Or.inl q)
  have Sl1 := Sl1.grow (F' := (vx1 :: (v :: (x :: F)))) (by intro y q; rcases List.mem_cons.mp q with rfl | q; exact hv1.elim (fun e => Or.inl (by simp [e])) Or.inr; exact Or.inl q)
  have Ka : Keep h hx1 [] := Ka.trans Kx1 (by intro y q; simp only [List.mem_cons, List.not_mem_nil, or_false] at q; rcases q with rfl | rfl; exact Or.inr f_Ka_x; exact Or.inr f_Ka_v)
  have Kn : Keep h hx1 [] := Kn.trans Kx1 (by intro y q; simp only [List.mem_cons, List.not_mem_nil, or_false] at q; rcases q with rfl | rfl; exact Or.inr f_Kn_x; exact Or.inr f_Kn_v)
  have Su := Su.keep Kx1 (by intro y q; simp only [List.mem_cons, List.not_mem_nil, or_false] at q ⊢; rcases q with rfl | rfl <;> simp)
  have Sl1 := Sl1.keep Kx1 (by intro y q; simp only [List.mem_cons, List.not_mem_nil, or_false] at q ⊢; rcases q with rfl | rfl <;> simp)
  obtain rfl : cap1 = 34 := by have q := B.le; simp at q; omega
  refine go_iloadN (v := p) (q := 20) d32_19 rfl rfl ?_
  refine go_mine fun hMp _ => ?_
  refine go_static (c' := 11) (s' := 222) (q := 23) (S := [.ref x]) (argsL := [.int p]) H (w_189 H) (w_190 H) (w_46 H) (w_191 H) (by decide) (rm_pn H (F := (vx1 :: (v :: (x :: F)))) TB) rfl rfl (lenOf pd_4 rfl) (fun _ q => q) rfl (by decide) (Nat.le_of_ble_eq_true rfl) rfl rfl (by decide) (by decide) d32_20 rfl ?_
  rintro _ hp G - ⟨sp, rfl, Kp, Sp⟩
  refine nx_ (v := none) ?_
  have Ka : Keep h hp [] := Ka.trans Kp (fun _ q => nomatch q)
  have Kn : Keep h hp [] := Kn.trans Kp (fun _ q => nomatch q)
  have Su := Su.keep0 Kp
  have B := B.keep0 Kp
  have Xv := Xv.keep Kp
  show Go _ _ _ _ _ _ _ _ _ _ _ _ _ _ 23 #[.val (.ref s), .val (.ref u), .val (.int p)] [.ref sp, .ref x]
  refine go_virtual (c' := 12) (s' := 292) (q := 26) (S := []) (argsL := [.ref sp]) H (C := "java/lang/StringBuilder") (w_72 H) (w_73 H) (nf_self (w_75 H)) (w_75 H) (w_74 H) (w_53 H) (w_76 H) (by decide) B.exa (rm_apX H Sp B (by simp) (by simp <;> omega) (Or.inl (by decide)) (fun _ => Xv)) rfl rfl (lenOf pd_2 rfl) (by intro y q; simp only [List.mem_cons, List.not_mem_nil, or_false] at q; rcases q with rfl | rfl <;> simp) rfl (by decide) (Nat.le_of_ble_eq_true rfl) rfl rfl (by decide) (by decide) d32_23 rfl ?_
  rintro _ hx2 G - ⟨vx2, cap2, rfl, rfl, hv2, hc2, Kx2, Bn, Xv⟩
  refine ⟨vx2 :: (vx1 :: (v :: (x :: F))), (by intro y q; rcases List.mem_cons.mp q with rfl | q; exact Or.inl (by simp); exact Or.inr q), ?_⟩
  show Go _ _ _ _ _ _ _ _ _ _ _ _ _ _ 26 #[.val (.ref s), .val (.ref u), .val (.int p)] [.ref x]
  have B := Bn
  have f_Ka_vx2 : h.size ≤ vx2 := hv2.elim (fun e => by rw [e]; exact f_Ka_vx1) (fun q => Nat.le_trans Ka.1 q)
  have f_Kn_vx2 : h.size ≤ vx2 := hv2.elim (fun e => by rw [e]; exact f_Kn_vx1) (fun q => Nat.le_trans Kn.1 q)
  have Su := Su.grow (F' := (vx2 :: (vx1 :: (v :: (x :: F))))) (by intro y q; rcases List.mem_cons.mp q with rfl | q; exact hv2.elim (fun e => Or.inl (by simp [e])) Or.inr; exact Or.inl q)
  have Sp := Sp.grow (F' := (vx2 :: (vx1 :: (v :: (x :: F))))) (by intro y q; rcases List.mem_cons.mp q with rfl | q; exact hv2.elim (fun e => Or.inl (by simp [e])) Or.inr; exact Or.inl q)
  have Ka : Keep h hx2 [] := Ka.trans Kx2 (by intro y q; simp only [List.mem_cons, List.not_mem_nil, or_false] at q; rcases q with rfl | rfl; exact Or.inr f_Ka_x; exact Or.inr f_Ka_vx1)
  have Kn : Keep h hx2 [] := Kn.trans Kx2 (by intro y q; simp only [List.mem_cons, List.not_mem_nil, or_false] at q; rcases q with rfl | rfl; exact Or.inr f_Kn_x; exact Or.inr f_Kn_vx1)
  have Su := Su.keep Kx2 (by intro y q; simp only [List.mem_cons, List.not_mem_nil, or_false] at q ⊢; rcases q with rfl | rfl <;> simp)
  have Sp := Sp.keep Kx2 (by intro y q; simp only [List.mem_cons, List.not_mem_nil, or_false] at q ⊢; rcases q with rfl | rfl <;> simp)
  refine go_aloadN (v := .ref u) (q := 27) d32_26 rfl rfl rfl ?_
  refine go_virtual (c' := 13) (s' := 362) (q := 30) (S := []) (argsL := [.ref u]) H (C := "java/lang/StringBuilder") (w_72 H) (w_73 H) (nf_self (w_75 H)) (w_75 H) (w_74 H) (w_53 H) (w_76 H) (by decide) B.exa (rm_apX H Su B (by simp) (by simp <;> omega) (by rcases hc2 with h | h; exact Or.inl (by omega); exact Or.inr (by simp <;> omega)) (fun _ => Xv)) rfl rfl (lenOf pd_2 rfl) (by intro y q; simp only [List.mem_cons, List.not_mem_nil, or_false] at q; rcases q with rfl | rfl <;> simp) rfl (by decide) (Nat.le_of_ble_eq_true rfl) rfl rfl (by decide) (by decide) d32_27 rfl ?_
  rintro _ hx3 G - ⟨vx3, cap3, rfl, rfl, hv3, hc3, Kx3, Bn, Xv⟩
  refine ⟨vx3 :: (vx2 :: (vx1 :: (v :: (x :: F)))), (by intro y q; rcases List.mem_cons.mp q with rfl | q; exact Or.inl (by simp); exact Or.inr q), ?_⟩
  show Go _ _ _ _ _ _ _ _ _ _ _ _ _ _ 30 #[.val (.ref s), .val (.ref u), .val (.int p)] [.ref x]
  have B := Bn
  have f_Ka_vx3 : h.size ≤ vx3 := hv3.elim (fun e => by rw [e]; exact f_Ka_vx2) (fun q => Nat.le_trans Ka.1 q)
  have f_Kn_vx3 : h.size ≤ vx3 := hv3.elim (fun e => by rw [e]; exact f_Kn_vx2) (fun q => Nat.le_trans Kn.1 q)
  have Su := Su.grow (F' := (vx3 :: (vx2 :: (vx1 :: (v :: (x :: F)))))) (by intro y q; rcases List.mem_cons.mp q with rfl | q; exact hv3.elim (fun e => Or.inl (by simp [e])) Or.inr; exact Or.inl q)
  have Ka : Keep h hx3 [] := Ka.trans Kx3 (by intro y q; simp only [List.mem_cons, List.not_mem_nil, or_false] at q; rcases q with rfl | rfl; exact Or.inr f_Ka_x; exact Or.inr f_Ka_vx2)
  have Kn : Keep h hx3 [] := Kn.trans Kx3 (by intro y q; simp only [List.mem_cons, List.not_mem_nil, or_false] at q; rcases q with rfl | rfl; exact Or.inr f_Kn_x; exact Or.inr f_Kn_vx2)
  have Su := Su.keep Kx3 (by intro y q; simp only [List.mem_cons, List.not_mem_nil, or_false] at q ⊢; rcases q with rfl | rfl <;> simp)
  refine go_mine fun hM _ => ?_
  refine go_virtual (c' := 15) (s' := 406) (q := 33) (S := []) (argsL := []) H (C := "java/lang/StringBuilder") (w_119 H) (w_120 H) (nf_self (w_122 H)) (w_122 H) (w_121 H) (w_53 H) (w_123 H) (by decide) B.exa (rm_toSX H (F := F) B B.le (fun _ => Xv) (by simp <;> omega) (fun y q => (hM y (by simp [q])).2)) rfl rfl (lenOf pd_3 rfl) (by intro y q; simp [q]) rfl (by decide) (Nat.le_of_ble_eq_true rfl) rfl rfl (by decide) (by decide) d32_30 rfl ?_
  rintro _ hz G - ⟨r, rfl, Kz, Sz⟩
  refine nx_ (v := none) ?_
  have Ka : Keep h hz [] := Ka.trans Kz (fun _ q => nomatch q)
  have Kn : Keep h hz [] := Kn.trans Kz (fun _ q => nomatch q)
  have B := B.keep0 Kz
  have Xv := Xv.keep Kz
  show Go _ _ _ _ _ _ _ _ _ _ _ _ _ _ 33 #[.val (.ref s), .val (.ref u), .val (.int p)] [.ref r]
  exact go_areturn H (G := []) (t := (.object "java/lang/String")) rfl rfl rfl d32_33 (by decide) (by decide) (fun _ q => nomatch q) ⟨r, rfl, Ka, Sz⟩
set_option maxRecDepth 65536 in
set_option maxHeartbeats 4000000 in
theorem rm_abs {l : Launch} {Z : State} {a0 : Array Value} (H : Wd Z a0) {h : Heap} {x : Int32}  : Met l Z (⟨"java/lang/Math", "abs", "(J)J"⟩ : MethodName) jdk_29_method_61_code 2 (some .long) ({ frames := 0, cells := 0, slots := 0, locals := 0 } : Room) h [] #[.long x.toInt64] (fun u h' G => u = some (.long (Int64.ofNat (mag x))) ∧ h = h') := by
  refine Met.mk (L := #[.val (.long x.toInt64), .second]) (by decide +kernel) (fun m => by first | (simp [entryFrame, mkF, argsToLocals, Value.category]; done) | rfl) (fun K => ?_)
  show Go _ _ K "java/lang/Math" "abs" _ _ _ _ _ _ _ _ _ 0 _ _
  refine go_lloadN (v := x.toInt64) (q := 1) d48_0 rfl rfl ?_
  refine go_lconst (x := (0 : Int64)) (q := 2) d48_1 rfl rfl ?_
  refine go_lcmp (r := XT.cmpL x.toInt64 (0 : Int64)) (q := 3) d48_2 rfl rfl ?_
  by_cases q : x < 0
  · refine go_ifN (q := 6) d48_3 (i2l_lt.mpr q) rfl ?_
    refine go_lloadN (v := x.toInt64) (q := 7) d48_6 rfl rfl ?_
    refine go_lneg (r := (Int64.ofNat (mag x))) (q := 8) d48_7 (abs_neg q) rfl ?_
    refine go_goto (q := 12) d48_8 (by decide) (by decide) ?_
    exact go_lreturn H (G := []) rfl d48_12 (by decide) (by decide) (fun _ q => nomatch q) ⟨rfl, rfl⟩
  · refine go_ifY (q := 11) d48_3 (fun z => q (i2l_lt.mp z)) (by decide) (by decide) ?_
    refine go_lloadN (v := x.toInt64) (q := 12) d48_11 rfl rfl ?_
    rw [abs_pos q]
    exact go_lreturn H (G := []) rfl d48_12 (by decide) (by decide) (fun _ q => nomatch q) ⟨rfl, rfl⟩
set_option maxRecDepth 65536 in
set_option maxHeartbeats 4000000 in
theorem rm_dgt {l : Launch} {Z : State} {a0 : Array Value} (H : Wd Z a0) {h : Heap} {m : Nat} (hm : m ≤ 2147483648) : Met l Z (⟨"com/example/saga/saga/server/SurfaceUrisJsonTimeMapPinLaw", "digits", "(J)I"⟩ : MethodName) method_2_code 2 (some .int) ({ frames := 0, cells := 0, slots := 0, locals := 0 } : Room) h [] #[.long (Int64.ofNat m)] (fun u h' G => u = some (.int (Int32.ofNat (ndg m))) ∧ h = h') := by
  refine Met.mk (L := #[.val (.long (Int64.ofNat m)), .second]) (plainFor_of_name (by first | (simp [plainName, overriddenIn]; done) | decide +kernel)) (fun m => by first | (simp [entryFrame, mkF, argsToLocals, Value.category]; done) | rfl) (fun K => ?_)
  show Go _ _ K "com/example/saga/saga/server/SurfaceUrisJsonTimeMapPinLaw" "digits" _ _ _ _ _ _ _ _ _ 0 _ _
  refine go_lloadN (v := (Int64.ofNat m)) (q := 1) d49_0 rfl rfl ?_
  refine go_ldc2 (v := (10 : Int64)) (q := 4) (w_245 H) d49_1 rfl ?_
  refine go_lcmp (r := XT.cmpL (Int64.ofNat m) (10 : Int64)) (q := 5) d49_4 rfl rfl ?_
  by_cases q1 : m < 10
  · refine go_ifN (q := 8) d49_5 ((cmp_lt (b := 10) (by omega) (by decide)).mpr q1) rfl ?_
    refine go_iconst (x := (1 : Int32)) (q := 9) d49_8 rfl rfl ?_
    exact go_ireturn H (G := []) (t := .int) rfl (by decide) rfl d49_9 (by decide) (by decide) (fun _ q => nomatch q) ⟨by rw [ndg, if_pos q1]; rfl, rfl⟩
  refine go_ifY (q := 10) d49_5 (fun z => q1 ((cmp_lt (b := 10) (by omega) (by decide)).mp z)) (by decide) (by decide) ?_
  refine go_lloadN (v := (Int64.ofNat m)) (q := 11) d49_10 rfl rfl ?_
  refine go_ldc2 (v := (100 : Int64)) (q := 14) (w_246 H) d49_11 rfl ?_
  refine go_lcmp (r := XT.cmpL (Int64.ofNat m) (100 : Int64)) (q := 15) d49_14 rfl rfl ?_
  by_cases q2 : m < 100
  · refine go_ifN (q := 18) d49_15 ((cmp_lt (b := 100) (by omega) (by decide)).mpr q2) rfl ?_
    refine go_iconst (x := (2 : Int32)) (q := 19) d49_18 rfl rfl ?_
    exact go_ireturn H (G := []) (t := .int) rfl (by decide) rfl d49_19 (by decide) (by decide) (fun _ q => nomatch q) ⟨by rw [ndg, if_neg q1, if_pos q2]; rfl, rfl⟩
  refine go_ifY (q := 20) d49_15 (fun z => q2 ((cmp_lt (b := 100) (by omega) (by decide)).mp z)) (by decide) (by decide) ?_
  refine go_lloadN (v := (Int64.ofNat m)) (q := 21) d49_20 rfl rfl ?_
  refine go_ldc2 (v := (1000 : Int64)) (q := 24) (w_254 H) d49_21 rfl ?_
  refine go_lcmp (r := XT.cmpL (Int64.ofNat m) (1000 : Int64)) (q := 25) d49_24 rfl rfl ?_
  by_cases q3 : m < 1000
  · refine go_ifN (q := 28) d49_25 ((cmp_lt (b := 1000) (by omega) (by decide)).mpr q3) rfl ?_
    refine go_iconst (x := (3 : Int32)) (q := 29) d49_28 rfl rfl ?_
    exact go_ireturn H (G := []) (t := .int) rfl (by decide) rfl d49_29 (by decide) (by decide) (fun _ q => nomatch q) ⟨by rw [ndg, if_neg q1, if_neg q2, if_pos q3]; rfl, rfl⟩
  refine go_ifY (q := 30) d49_25 (fun z => q3 ((cmp_lt (b := 1000) (by omega) (by decide)).mp z)) (by decide) (by decide) ?_
  refine go_lloadN (v := (Int64.ofNat m)) (q := 31) d49_30 rfl rfl ?_
  refine go_ldc2 (v := (10000 : Int64)) (q := 34) (w_255 H) d49_31 rfl ?_
  refine go_lcmp (r := XT.cmpL (Int64.ofNat m) (10000 : Int64)) (q := 35) d49_34 rfl rfl ?_
  by_cases q4 : m < 10000
  · refine go_ifN (q := 38) d49_35 ((cmp_lt (b := 10000) (by omega) (by decide)).mpr q4) rfl ?_
    refine go_iconst (x := (4 : Int32)) (q := 39) d49_38 rfl rfl ?_
    exact go_ireturn H (G := []) (t := .int) rfl (by decide) rfl d49_39 (by decide) (by decide) (fun _ q => nomatch q) ⟨by rw [ndg, if_neg q1, if_neg q2, if_neg q3, if_pos q4]; rfl, rfl⟩
  refine go_ifY (q := 40) d49_35 (fun z => q4 ((cmp_lt (b := 10000) (by omega) (by decide)).mp z)) (by decide) (by decide) ?_
  refine go_lloadN (v := (Int64.ofNat m)) (q := 41) d49_40 rfl rfl ?_
  refine go_ldc2 (v := (100000 : Int64)) (q := 44) (w_256 H) d49_41 rfl ?_
  refine go_lcmp (r := XT.cmpL (Int64.ofNat m) (100000 : Int64)) (q := 45) d49_44 rfl rfl ?_
  by_cases q5 : m < 100000
  · refine go_ifN (q := 48) d49_45 ((cmp_lt (b := 100000) (by omega) (by decide)).mpr q5) rfl ?_
    refine go_iconst (x := (5 : Int32)) (q := 49) d49_48 rfl rfl ?_
    exact go_ireturn H (G := []) (t := .int) rfl (by decide) rfl d49_49 (by decide) (by decide) (fun _ q => nomatch q) ⟨by rw [ndg, if_neg q1, if_neg q2, if_neg q3, if_neg q4, if_pos q5]; rfl, rfl⟩
  refine go_ifY (q := 50) d49_45 (fun z => q5 ((cmp_lt (b := 100000) (by omega) (by decide)).mp z)) (by decide) (by decide) ?_
  refine go_lloadN (v := (Int64.ofNat m)) (q := 51) d49_50 rfl rfl ?_
  refine go_ldc2 (v := (1000000 : Int64)) (q := 54) (w_257 H) d49_51 rfl ?_
  refine go_lcmp (r := XT.cmpL (Int64.ofNat m) (1000000 : Int64)) (q := 55) d49_54 rfl rfl ?_
  by_cases q6 : m < 1000000
  · refine go_ifN (q := 58) d49_55 ((cmp_lt (b := 1000000) (by omega) (by decide)).mpr q6) rfl ?_
    refine go_bipush (x := (6 : Int32)) (q := 60) d49_58 rfl rfl ?_
    exact go_ireturn H (G := []) (t := .int) rfl (by decide) rfl d49_60 (by decide) (by decide) (fun _ q => nomatch q) ⟨by rw [ndg, if_neg q1, if_neg q2, if_neg q3, if_neg q4, if_neg q5, if_pos q6]; rfl, rfl⟩
  refine go_ifY (q := 61) d49_55 (fun z => q6 ((cmp_lt (b := 1000000) (by omega) (by decide)).mp z)) (by decide) (by decide) ?_
  refine go_lloadN (v := (Int64.ofNat m)) (q := 62) d49_61 rfl rfl ?_
  refine go_ldc2 (v := (10000000 : Int64)) (q := 65) (w_258 H) d49_62 rfl ?_
  refine go_lcmp (r := XT.cmpL (Int64.ofNat m) (10000000 : Int64)) (q := 66) d49_65 rfl rfl ?_
  by_cases q7 : m < 10000000
  · refine go_ifN (q := 69) d49_66 ((cmp_lt (b := 10000000) (by omega) (by decide)).mpr q7) rfl ?_
    refine go_bipush (x := (7 : Int32)) (q := 71) d49_69 rfl rfl ?_
    exact go_ireturn H (G := []) (t := .int) rfl (by decide) rfl d49_71 (by decide) (by decide) (fun _ q => nomatch q) ⟨by rw [ndg, if_neg q1, if_neg q2, if_neg q3, if_neg q4, if_neg q5, if_neg q6, if_pos q7]; rfl, rfl⟩
  refine go_ifY (q := 72) d49_66 (fun z => q7 ((cmp_lt (b := 10000000) (by omega) (by decide)).mp z)) (by decide) (by decide) ?_
  refine go_lloadN (v := (Int64.ofNat m)) (q := 73) d49_72 rfl rfl ?_
  refine go_ldc2 (v := (100000000 : Int64)) (q := 76) (w_259 H) d49_73 rfl ?_
  refine go_lcmp (r := XT.cmpL (Int64.ofNat m) (100000000 : Int64)) (q := 77) d49_76 rfl rfl ?_
  by_cases q8 : m < 100000000
  · refine go_ifN (q := 80) d49_77 ((cmp_lt (b := 100000000) (by omega) (by decide)).mpr q8) rfl ?_
    refine go_bipush (x := (8 : Int32)) (q := 82) d49_80 rfl rfl ?_
    exact go_ireturn H (G := []) (t := .int) rfl (by decide) rfl d49_82 (by decide) (by decide) (fun _ q => nomatch q) ⟨by rw [ndg, if_neg q1, if_neg q2, if_neg q3, if_neg q4, if_neg q5, if_neg q6, if_neg q7, if_pos q8]; rfl, rfl⟩
  refine go_ifY (q := 83) d49_77 (fun z => q8 ((cmp_lt (b := 100000000) (by omega) (by decide)).mp z)) (by decide) (by decide) ?_
  refine go_lloadN (v := (Int64.ofNat m)) (q := 84) d49_83 rfl rfl ?_
  refine go_ldc2 (v := (1000000000 : Int64)) (q := 87) (w_260 H) d49_84 rfl ?_
  refine go_lcmp (r := XT.cmpL (Int64.ofNat m) (1000000000 : Int64)) (q := 88) d49_87 rfl rfl ?_
  by_cases q9 : m < 1000000000
  · refine go_ifN (q := 91) d49_88 ((cmp_lt (b := 1000000000) (by omega) (by decide)).mpr q9) rfl ?_
    refine go_bipush (x := (9 : Int32)) (q := 93) d49_91 rfl rfl ?_
    exact go_ireturn H (G := []) (t := .int) rfl (by decide) rfl d49_93 (by decide) (by decide) (fun _ q => nomatch q) ⟨by rw [ndg, if_neg q1, if_neg q2, if_neg q3, if_neg q4, if_neg q5, if_neg q6, if_neg q7, if_neg q8, if_pos q9]; rfl, rfl⟩
  refine go_ifY (q := 94) d49_88 (fun z => q9 ((cmp_lt (b := 1000000000) (by omega) (by decide)).mp z)) (by decide) (by decide) ?_
  refine go_bipush (x := (10 : Int32)) (q := 96) d49_94 rfl rfl ?_
  exact go_ireturn H (G := []) (t := .int) rfl (by decide) rfl d49_96 (by decide) (by decide) (fun _ q => nomatch q) ⟨by rw [ndg, if_neg q1, if_neg q2, if_neg q3, if_neg q4, if_neg q5, if_neg q6, if_neg q7, if_neg q8, if_neg q9]; rfl, rfl⟩
set_option maxRecDepth 65536 in
set_option maxHeartbeats 4000000 in
theorem rm_dl {l : Launch} {Z : State} {a0 : Array Value} (H : Wd Z a0) {h : Heap} {x : Int32}  : Met l Z (⟨"com/example/saga/saga/server/SurfaceUrisJsonTimeMapPinLaw", "decimalLength", "(I)I"⟩ : MethodName) method_3_code 3 (some .int) ({ frames := 1, cells := 0, slots := 0, locals := 16 } : Room) h [] #[.int x] (fun u h' G => u = some (.int (Int32.ofNat (dec x).length)) ∧ h = h') := by
  refine Met.mk (L := #[.val (.int x), .unset, .unset]) (plainFor_of_name (by first | (simp [plainName, overriddenIn]; done) | decide +kernel)) (fun m => by first | (simp [entryFrame, mkF, argsToLocals, Value.category]; done) | rfl) (fun K => ?_)
  show Go _ _ K "com/example/saga/saga/server/SurfaceUrisJsonTimeMapPinLaw" "decimalLength" _ _ _ _ _ _ _ _ _ 0 _ _
  refine go_iloadN (v := x) (q := 1) d47_0 rfl rfl ?_
  refine go_i2l (r := x.toInt64) (q := 2) d47_1 rfl rfl ?_
  refine go_static (c' := 0) (s' := 0) (q := 5) (S := []) (argsL := [.long x.toInt64]) H (w_239 H) (w_240 H) (w_161 H) (w_241 H) (by decide) (rm_abs H) rfl rfl (lenOf pd_33 rfl) (fun _ q => nomatch q) rfl (by decide) (Nat.le_of_ble_eq_true rfl) rfl rfl (by decide) (by decide) d47_2 rfl ?_
  rintro _ _ G - ⟨rfl, rfl⟩
  refine nx_ (v := none) ?_
  show Go _ _ _ _ _ _ _ _ _ _ _ _ _ _ 5 #[.val (.int x), .unset, .unset] [.long (Int64.ofNat (mag x))]
  refine go_lstoreN (L' := #[.val (.int x), .val (.long (Int64.ofNat (mag x))), .second]) (q := 6) d47_5 rfl rfl ?_
  refine go_lloadN (v := (Int64.ofNat (mag x))) (q := 7) d47_6 rfl rfl ?_
  refine go_static (c' := 0) (s' := 0) (q := 10) (S := []) (argsL := [.long (Int64.ofNat (mag x))]) H (w_242 H) (w_243 H) (w_237 H) (w_244 H) (by decide) (rm_dgt H (mag_le x)) rfl rfl (lenOf pd_34 rfl) (fun _ q => nomatch q) rfl (by decide) (Nat.le_of_ble_eq_true rfl) rfl rfl (by decide) (by decide) d47_7 rfl ?_
  rintro _ _ G - ⟨rfl, rfl⟩
  refine nx_ (v := none) ?_
  show Go _ _ _ _ _ _ _ _ _ _ _ _ _ _ 10 #[.val (.int x), .val (.long (Int64.ofNat (mag x))), .second] [.int (Int32.ofNat (ndg (mag x)))]
  refine go_iloadN (v := x) (q := 11) d47_10 rfl rfl ?_
  by_cases q : x < 0
  · refine go_ifN (q := 14) d47_11 q rfl ?_
    refine go_iconst (x := (1 : Int32)) (q := 15) d47_14 rfl rfl ?_
    refine go_goto (q := 19) d47_15 (by decide) (by decide) ?_
    refine go_iadd (r := (Int32.ofNat (dec x).length)) (q := 20) d47_19 (by rw [dec_len, show sgn x = 1 from if_pos q]; exact add_ofNat _ 1) rfl ?_
    exact go_ireturn H (G := []) (t := .int) rfl (by decide) rfl d47_20 (by decide) (by decide) (fun _ q => nomatch q) ⟨rfl, rfl⟩
  · refine go_ifY (q := 18) d47_11 q (by decide) (by decide) ?_
    refine go_iconst (x := (0 : Int32)) (q := 19) d47_18 rfl rfl ?_
    refine go_iadd (r := (Int32.ofNat (dec x).length)) (q := 20) d47_19 (by rw [dec_len, show sgn x = 0 from if_neg q]; exact add_ofNat _ 0) rfl ?_
    exact go_ireturn H (G := []) (t := .int) rfl (by decide) rfl d47_20 (by decide) (by decide) (fun _ q => nomatch q) ⟨rfl, rfl⟩
abbrev GE (l : Launch) (Z : State) (K : Cx) (h0 : Heap) (p0 : Int32) (i0 : Nat) (h : Heap) (F : List Addr) (c s pc : Nat) (L : Array Slot) (S : List Value) : Prop := Go l Z K "com/example/saga/saga/server/SurfaceUrisJsonTimeMapPinLaw" "expectedAt" method_4_code 11 (some .char) ({ frames := 1, cells := 1, slots := 10, locals := 40 } : Room) (fun u h' G => ∃ v, u = some (.int v) ∧ (dec p0)[i0]? = some v ∧ Keep h0 h' []) h F c s pc L S
theorem pw_at {e : Nat} (h : e ≤ 9) : ([.long 1, .long 10, .long 100, .long 1000, .long 10000, .long 100000, .long 1000000, .long 10000000, .long 100000000, .long 1000000000] : List Value).getD (Int32.ofNat e).toNatClampNeg (.long 0) = .long (Int64.ofNat (10 ^ e)) := by
  rw [cl_ofNat (by omega)]
  have : e = 0 ∨ e = 1 ∨ e = 2 ∨ e = 3 ∨ e = 4 ∨ e = 5 ∨ e = 6 ∨ e = 7 ∨ e = 8 ∨ e = 9 := by omega
  rcases this with rfl | rfl | rfl | rfl | rfl | rfl | rfl | rfl | rfl | rfl <;> rfl
set_option maxRecDepth 65536 in
set_option maxHeartbeats 8000000 in
theorem jx51 {l : Launch} {Z : State} {a0 : Array Value} (H : Wd Z a0) {K : Cx} {h : Heap} {p0 p1 : Int32} {i0 m e : Nat} {a1 a4 a5 a6 : Int32} (hm : m ≤ 2147483648) (he : e ≤ 9) (hv : (dec p0)[i0]? = some (dig m e)) : GE l Z K h p0 i0 h [] 0 0 51 #[.val (.int p1), .val (.int a1), .val (.long (Int64.ofNat m)), .second, .val (.int a4), .val (.int a5), .val (.int a6), .val (.int (Int32.ofNat e)), .unset, .unset, .unset] [] := by
  have Ka : Keep h h [] := Keep.refl _ _
  obtain ⟨d1, d2, d3⟩ := dig64 hm he
  have hdk := dig_ok m e
  refine go_iload (v := (Int32.ofNat e)) (q := 53) d51_51 rfl rfl ?_
  refine go_ifN (q := 56) d51_53 (nn_ofNat (by omega)) rfl ?_
  refine go_iload (v := (Int32.ofNat e)) (q := 58) d51_56 rfl rfl ?_
  refine go_bipush (x := (9 : Int32)) (q := 60) d51_58 rfl rfl ?_
  refine go_icY (q := 66) d51_60 (fun z => absurd ((lt_ofNat (i := 9) (by decide) (by omega)).mp z) (by omega)) (by decide) (by decide) ?_
  refine go_bipush (x := (10 : Int32)) (q := 68) d51_66 rfl rfl ?_
  refine go_newarray (ty := .long) (dv := .long 0) (n := 10) (cap := 10) (ad := "[J") (c' := 1) (s' := 10) (q := 70) rfl rfl (by decide) (w_253 H) d51_68 (by decide) (by decide) (by decide) rfl rfl rfl rfl (by decide) (by decide) ?_
  intro h1 y ky g1 E1 W0 X1
  have f_Ka_y : h.size ≤ y := by rw [g1]; exact Ka.1
  have Ka : Keep h h1 [] := Ka.ext E1
  have W0 : Arv Z h1 y ky .long 10 [.long 0, .long 0, .long 0, .long 0, .long 0, .long 0, .long 0, .long 0, .long 0, .long 0] (.long 0) := W0
  refine go_dup (q := 71) d51_70 rfl rfl ?_
  refine go_iconst (x := (0 : Int32)) (q := 72) d51_71 rfl rfl ?_
  refine go_lconst (x := (1 : Int64)) (q := 73) d51_72 rfl rfl ?_
  refine go_lastore (i := 0) (q := 74) W0 (by decide) rfl (Nat.le_of_ble_eq_true rfl) (by simp) d51_73 rfl ?_
  intro h2 K2 z2 W1
  have Ka : Keep h h2 [] := kfresh Ka K2 f_Ka_y
  have W1 : Arv Z h2 y ky .long 10 [.long 1, .long 0, .long 0, .long 0, .long 0, .long 0, .long 0, .long 0, .long 0, .long 0] (.long 0) := W1
  refine go_dup (q := 75) d51_74 rfl rfl ?_
  refine go_iconst (x := (1 : Int32)) (q := 76) d51_75 rfl rfl ?_
  refine go_ldc2 (v := (10 : Int64)) (q := 79) (w_245 H) d51_76 rfl ?_
  refine go_lastore (i := 1) (q := 80) W1 (by decide) rfl (Nat.le_of_ble_eq_true rfl) (by simp) d51_79 rfl ?_
  intro h3 K3 z3 W2
  have Ka : Keep h h3 [] := kfresh Ka K3 f_Ka_y
  have W2 : Arv Z h3 y ky .long 10 [.long 1, .long 10, .long 0, .long 0, .long 0, .long 0, .long 0, .long 0, .long 0, .long 0] (.long 0) := W2
  refine go_dup (q := 81) d51_80 rfl rfl ?_
  refine go_iconst (x := (2 : Int32)) (q := 82) d51_81 rfl rfl ?_
  refine go_ldc2 (v := (100 : Int64)) (q := 85) (w_246 H) d51_82 rfl ?_
  refine go_lastore (i := 2) (q := 86) W2 (by decide) rfl (Nat.le_of_ble_eq_true rfl) (by simp) d51_85 rfl ?_
  intro h4 K4 z4 W3
  have Ka : Keep h h4 [] := kfresh Ka K4 f_Ka_y
  have W3 : Arv Z h4 y ky .long 10 [.long 1, .long 10, .long 100, .long 0, .long 0, .long 0, .long 0, .long 0, .long 0, .long 0] (.long 0) := W3
  refine go_dup (q := 87) d51_86 rfl rfl ?_
  refine go_iconst (x := (3 : Int32)) (q := 88) d51_87 rfl rfl ?_
  refine go_ldc2 (v := (1000 : Int64)) (q := 91) (w_254 H) d51_88 rfl ?_
  refine go_lastore (i := 3) (q := 92) W3 (by decide) rfl (Nat.le_of_ble_eq_true rfl) (by simp) d51_91 rfl ?_
  intro h5 K5 z5 W4
  have Ka : Keep h h5 [] := kfresh Ka K5 f_Ka_y
  have W4 : Arv Z h5 y ky .long 10 [.long 1, .long 10, .long 100, .long 1000, .long 0, .long 0, .long 0, .long 0, .long 0, .long 0] (.long 0) := W4
  refine go_dup (q := 93) d51_92 rfl rfl ?_
  refine go_iconst (x := (4 : Int32)) (q := 94) d51_93 rfl rfl ?_
  refine go_ldc2 (v := (10000 : Int64)) (q := 97) (w_255 H) d51_94 rfl ?_
  refine go_lastore (i := 4) (q := 98) W4 (by decide) rfl (Nat.le_of_ble_eq_true rfl) (by simp) d51_97 rfl ?_
  intro h6 K6 z6 W5
  have Ka : Keep h h6 [] := kfresh Ka K6 f_Ka_y
  have W5 : Arv Z h6 y ky .long 10 [.long 1, .long 10, .long 100, .long 1000, .long 10000, .long 0, .long 0, .long 0, .long 0, .long 0] (.long 0) := W5
  refine go_dup (q := 99) d51_98 rfl rfl ?_
  refine go_iconst (x := (5 : Int32)) (q := 100) d51_99 rfl rfl ?_
  refine go_ldc2 (v := (100000 : Int64)) (q := 103) (w_256 H) d51_100 rfl ?_
  refine go_lastore (i := 5) (q := 104) W5 (by decide) rfl (Nat.le_of_ble_eq_true rfl) (by simp) d51_103 rfl ?_
  intro h7 K7 z7 W6
  have Ka : Keep h h7 [] := kfresh Ka K7 f_Ka_y
  have W6 : Arv Z h7 y ky .long 10 [.long 1, .long 10, .long 100, .long 1000, .long 10000, .long 100000, .long 0, .long 0, .long 0, .long 0] (.long 0) := W6
  refine go_dup (q := 105) d51_104 rfl rfl ?_
  refine go_bipush (x := (6 : Int32)) (q := 107) d51_105 rfl rfl ?_
  refine go_ldc2 (v := (1000000 : Int64)) (q := 110) (w_257 H) d51_107 rfl ?_
  refine go_lastore (i := 6) (q := 111) W6 (by decide) rfl (Nat.le_of_ble_eq_true rfl) (by simp) d51_110 rfl ?_
  intro h8 K8 z8 W7
  have Ka : Keep h h8 [] := kfresh Ka K8 f_Ka_y
  have W7 : Arv Z h8 y ky .long 10 [.long 1, .long 10, .long 100, .long 1000, .long 10000, .long 100000, .long 1000000, .long 0, .long 0, .long 0] (.long 0) := W7
  refine go_dup (q := 112) d51_111 rfl rfl ?_
  refine go_bipush (x := (7 : Int32)) (q := 114) d51_112 rfl rfl ?_
  refine go_ldc2 (v := (10000000 : Int64)) (q := 117) (w_258 H) d51_114 rfl ?_
  refine go_lastore (i := 7) (q := 118) W7 (by decide) rfl (Nat.le_of_ble_eq_true rfl) (by simp) d51_117 rfl ?_
  intro h9 K9 z9 W8
  have Ka : Keep h h9 [] := kfresh Ka K9 f_Ka_y
  have W8 : Arv Z h9 y ky .long 10 [.long 1, .long 10, .long 100, .long 1000, .long 10000, .long 100000, .long 1000000, .long 10000000, .long 0, .long 0] (.long 0) := W8
  refine go_dup (q := 119) d51_118 rfl rfl ?_
  refine go_bipush (x := (8 : Int32)) (q := 121) d51_119 rfl rfl ?_
  refine go_ldc2 (v := (100000000 : Int64)) (q := 124) (w_259 H) d51_121 rfl ?_
  refine go_lastore (i := 8) (q := 125) W8 (by decide) rfl (Nat.le_of_ble_eq_true rfl) (by simp) d51_124 rfl ?_
  intro h10 K10 z10 W9
  have Ka : Keep h h10 [] := kfresh Ka K10 f_Ka_y
  have W9 : Arv Z h10 y ky .long 10 [.long 1, .long 10, .long 100, .long 1000, .long 10000, .long 100000, .long 1000000, .long 10000000, .long 100000000, .long 0] (.long 0) := W9
  refine go_dup (q := 126) d51_125 rfl rfl ?_
  refine go_bipush (x := (9 : Int32)) (q := 128) d51_126 rfl rfl ?_
  refine go_ldc2 (v := (1000000000 : Int64)) (q := 131) (w_260 H) d51_128 rfl ?_
  refine go_lastore (i := 9) (q := 132) W9 (by decide) rfl (Nat.le_of_ble_eq_true rfl) (by simp) d51_131 rfl ?_
  intro h11 K11 z11 W10
  have Ka : Keep h h11 [] := kfresh Ka K11 f_Ka_y
  have W10 : Arv Z h11 y ky .long 10 [.long 1, .long 10, .long 100, .long 1000, .long 10000, .long 100000, .long 1000000, .long 10000000, .long 100000000, .long 1000000000] (.long 0) := W10
  refine go_astore (L' := #[.val (.int p1), .val (.int a1), .val (.long (Int64.ofNat m)), .second, .val (.int a4), .val (.int a5), .val (.int a6), .val (.int (Int32.ofNat e)), .val (.ref y), .unset, .unset]) (q := 134) d51_132 rfl rfl rfl ?_
  refine go_lloadN (v := (Int64.ofNat m)) (q := 135) d51_134 rfl rfl ?_
  refine go_aload (v := .ref y) (q := 137) d51_135 rfl rfl rfl ?_
  refine go_iload (v := (Int32.ofNat e)) (q := 139) d51_137 rfl rfl ?_
  refine go_laload (v := .long (Int64.ofNat (10 ^ e))) (q := 140) W10 ⟨nn_ofNat (by omega), (lt_ofNat (n := 10) (by omega) (by decide)).mpr (by omega)⟩ (pw_at he) d51_139 rfl ?_
  refine go_ldiv (r := (Int64.ofNat (m / 10 ^ e))) (q := 141) d51_140 (pw_ne he).1 d1 rfl ?_
  refine go_ldc2 (v := (10 : Int64)) (q := 144) (w_245 H) d51_141 rfl ?_
  refine go_lrem (r := (Int64.ofNat (m / 10 ^ e % 10))) (q := 145) d51_144 (by decide) d2 rfl ?_
  refine go_lstore (L' := #[.val (.int p1), .val (.int a1), .val (.long (Int64.ofNat m)), .second, .val (.int a4), .val (.int a5), .val (.int a6), .val (.int (Int32.ofNat e)), .val (.ref y), .val (.long (Int64.ofNat (m / 10 ^ e % 10))), .second]) (q := 147) d51_145 rfl rfl ?_
  refine go_bipush (x := (48 : Int32)) (q := 149) d51_147 rfl rfl ?_
  refine go_lload (v := (Int64.ofNat (m / 10 ^ e % 10))) (q := 151) d51_149 rfl rfl ?_
  refine go_l2i (r := (Int32.ofNat (m / 10 ^ e % 10))) (q := 152) d51_151 d3 rfl ?_
  refine go_iadd (r := (dig m e)) (q := 153) d51_152 (add_ofNat 48 _) rfl ?_
  refine go_i2c (r := (dig m e)) (q := 154) d51_153 (nar_char hdk.1 hdk.2) rfl ?_
  exact go_ireturn H (G := []) (t := .char) rfl (by decide) (by show Value.int (nar .char (dig m e)) = _; rw [nar_char hdk.1 hdk.2]) d51_154 (by decide) (by decide) (fun _ q => nomatch q) ⟨_, rfl, hv, Ka⟩
set_option maxRecDepth 65536 in
set_option maxHeartbeats 4000000 in
theorem rm_exA {l : Launch} {Z : State} {a0 : Array Value} (H : Wd Z a0) {h : Heap} {p : Int32} {i : Nat} (hi : i < (dec p).length) : Met l Z (⟨"com/example/saga/saga/server/SurfaceUrisJsonTimeMapPinLaw", "expectedAt", "(II)C"⟩ : MethodName) method_4_code 11 (some .char) ({ frames := 1, cells := 1, slots := 10, locals := 40 } : Room) h [] #[.int p, .int (Int32.ofNat i)] (fun u h' G => ∃ v, u = some (.int v) ∧ (dec p)[i]? = some v ∧ Keep h h' []) := by
  refine Met.mk (L := #[.val (.int p), .val (.int (Int32.ofNat i)), .unset, .unset, .unset, .unset, .unset, .unset, .unset, .unset, .unset]) (plainFor_of_name (by first | (simp [plainName, overriddenIn]; done) | decide +kernel)) (fun m => by first | (simp [entryFrame, mkF, argsToLocals, Value.category]; done) | rfl) (fun K => ?_)
  show Go _ _ K "com/example/saga/saga/server/SurfaceUrisJsonTimeMapPinLaw" "expectedAt" _ _ _ _ _ _ _ _ _ 0 _ _
  have hm := mag_le p
  have hnd := nd_le (mag p)
  have hdl := dec_len p
  refine go_iloadN (v := p) (q := 1) d51_0 rfl rfl ?_
  refine go_i2l (r := p.toInt64) (q := 2) d51_1 rfl rfl ?_
  refine go_static (c' := 0) (s' := 0) (q := 5) (S := []) (argsL := [.long p.toInt64]) H (w_239 H) (w_240 H) (w_161 H) (w_241 H) (by decide) (rm_abs H) rfl rfl (lenOf pd_33 rfl) (fun _ q => nomatch q) rfl (by decide) (Nat.le_of_ble_eq_true rfl) rfl rfl (by decide) (by decide) d51_2 rfl ?_
  rintro _ _ G - ⟨rfl, rfl⟩
  refine nx_ (v := none) ?_
  show Go _ _ _ _ _ _ _ _ _ _ _ _ _ _ 5 #[.val (.int p), .val (.int (Int32.ofNat i)), .unset, .unset, .unset, .unset, .unset, .unset, .unset, .unset, .unset] [.long (Int64.ofNat (mag p))]
  refine go_lstoreN (L' := #[.val (.int p), .val (.int (Int32.ofNat i)), .val (.long (Int64.ofNat (mag p))), .second, .unset, .unset, .unset, .unset, .unset, .unset, .unset]) (q := 6) d51_5 rfl rfl ?_
  refine go_lloadN (v := (Int64.ofNat (mag p))) (q := 7) d51_6 rfl rfl ?_
  refine go_static (c' := 0) (s' := 0) (q := 10) (S := []) (argsL := [.long (Int64.ofNat (mag p))]) H (w_242 H) (w_243 H) (w_237 H) (w_244 H) (by decide) (rm_dgt H hm) rfl rfl (lenOf pd_34 rfl) (fun _ q => nomatch q) rfl (by decide) (Nat.le_of_ble_eq_true rfl) rfl rfl (by decide) (by decide) d51_7 rfl ?_
  rintro _ _ G - ⟨rfl, rfl⟩
  refine nx_ (v := none) ?_
  show Go _ _ _ _ _ _ _ _ _ _ _ _ _ _ 10 #[.val (.int p), .val (.int (Int32.ofNat i)), .val (.long (Int64.ofNat (mag p))), .second, .unset, .unset, .unset, .unset, .unset, .unset, .unset] [.int (Int32.ofNat (ndg (mag p)))]
  refine go_istore (L' := #[.val (.int p), .val (.int (Int32.ofNat i)), .val (.long (Int64.ofNat (mag p))), .second, .val (.int (Int32.ofNat (ndg (mag p)))), .unset, .unset, .unset, .unset, .unset, .unset]) (q := 12) d51_10 rfl rfl ?_
  refine go_iloadN (v := p) (q := 13) d51_12 rfl rfl ?_
  by_cases q : p < 0
  · refine go_ifN (q := 16) d51_13 q rfl ?_
    have hs : sgn p = 1 := if_pos q
    rw [hs] at hdl
    refine go_iconst (x := (1 : Int32)) (q := 17) d51_16 rfl rfl ?_
    refine go_goto (q := 21) d51_17 (by decide) (by decide) ?_
    refine go_istore (L' := #[.val (.int p), .val (.int (Int32.ofNat i)), .val (.long (Int64.ofNat (mag p))), .second, .val (.int (Int32.ofNat (ndg (mag p)))), .val (.int (1 : Int32)), .unset, .unset, .unset, .unset, .unset]) (q := 23) d51_21 rfl rfl ?_
    refine go_iload (v := (1 : Int32)) (q := 25) d51_23 rfl rfl ?_
    refine go_iconst (x := (1 : Int32)) (q := 26) d51_25 rfl rfl ?_
    refine go_icN (q := 29) d51_26 (by decide) rfl ?_
    refine go_iloadN (v := (Int32.ofNat i)) (q := 30) d51_29 rfl rfl ?_
    by_cases q0 : i = 0
    · refine go_ifN (q := 33) d51_30 (by rw [q0]; rfl) rfl ?_
      refine go_bipush (x := (45 : Int32)) (q := 35) d51_33 rfl rfl ?_
      exact go_ireturn H (G := []) (t := .char) rfl (by decide) rfl d51_35 (by decide) (by decide) (fun _ q => nomatch q) ⟨_, rfl, by rw [dec, hs, q0]; rfl, Keep.refl _ _⟩
    · refine go_ifY (q := 36) d51_30 (fun z => q0 ((eq_ofNat (n := 0) (by omega) (by decide)).mp z)) (by decide) (by decide) ?_
      refine go_iloadN (v := (Int32.ofNat i)) (q := 37) d51_36 rfl rfl ?_
      refine go_iload (v := (1 : Int32)) (q := 39) d51_37 rfl rfl ?_
      refine go_isub (r := (Int32.ofNat (i - 1))) (q := 40) d51_39 (subNat (j := 1) (by omega) (by omega)) rfl ?_
      refine go_istore (L' := #[.val (.int p), .val (.int (Int32.ofNat i)), .val (.long (Int64.ofNat (mag p))), .second, .val (.int (Int32.ofNat (ndg (mag p)))), .val (.int (1 : Int32)), .val (.int (Int32.ofNat (i - 1))), .unset, .unset, .unset, .unset]) (q := 42) d51_40 rfl rfl ?_
      refine go_iload (v := (Int32.ofNat (ndg (mag p)))) (q := 44) d51_42 rfl rfl ?_
      refine go_iconst (x := (1 : Int32)) (q := 45) d51_44 rfl rfl ?_
      refine go_isub (r := (Int32.ofNat (ndg (mag p) - 1))) (q := 46) d51_45 (subNat (j := 1) (by omega) (by omega)) rfl ?_
      refine go_iload (v := (Int32.ofNat (i - 1))) (q := 48) d51_46 rfl rfl ?_
      refine go_isub (r := (Int32.ofNat (ndg (mag p) - 1 - (i - 1)))) (q := 49) d51_48 (subNat (by omega) (by omega)) rfl ?_
      refine go_istore (L' := #[.val (.int p), .val (.int (Int32.ofNat i)), .val (.long (Int64.ofNat (mag p))), .second, .val (.int (Int32.ofNat (ndg (mag p)))), .val (.int (1 : Int32)), .val (.int (Int32.ofNat (i - 1))), .val (.int (Int32.ofNat (ndg (mag p) - 1 - (i - 1)))), .unset, .unset, .unset]) (q := 51) d51_49 rfl rfl ?_
      exact jx51 H hm (by omega) (by rw [dec, hs, decS, show List.replicate 1 (45 : Int32) = [45] from rfl, List.getElem?_append_right (show ([45] : List Int32).length ≤ i from by show 1 ≤ i; omega)]; exact dgs_at _ (show i - 1 < _ by omega))
  · refine go_ifY (q := 20) d51_13 q (by decide) (by decide) ?_
    have hs : sgn p = 0 := if_neg q
    rw [hs] at hdl
    refine go_iconst (x := (0 : Int32)) (q := 21) d51_20 rfl rfl ?_
    refine go_istore (L' := #[.val (.int p), .val (.int (Int32.ofNat i)), .val (.long (Int64.ofNat (mag p))), .second, .val (.int (Int32.ofNat (ndg (mag p)))), .val (.int (0 : Int32)), .unset, .unset, .unset, .unset, .unset]) (q := 23) d51_21 rfl rfl ?_
    refine go_iload (v := (0 : Int32)) (q := 25) d51_23 rfl rfl ?_
    refine go_iconst (x := (1 : Int32)) (q := 26) d51_25 rfl rfl ?_
    refine go_icY (q := 36) d51_26 (by decide) (by decide) (by decide) ?_
    refine go_iloadN (v := (Int32.ofNat i)) (q := 37) d51_36 rfl rfl ?_
    refine go_iload (v := (0 : Int32)) (q := 39) d51_37 rfl rfl ?_
    refine go_isub (r := (Int32.ofNat (i - 0))) (q := 40) d51_39 (subNat (j := 0) (by omega) (by omega)) rfl ?_
    refine go_istore (L' := #[.val (.int p), .val (.int (Int32.ofNat i)), .val (.long (Int64.ofNat (mag p))), .second, .val (.int (Int32.ofNat (ndg (mag p)))), .val (.int (0 : Int32)), .val (.int (Int32.ofNat (i - 0))), .unset, .unset, .unset, .unset]) (q := 42) d51_40 rfl rfl ?_
    refine go_iload (v := (Int32.ofNat (ndg (mag p)))) (q := 44) d51_42 rfl rfl ?_
    refine go_iconst (x := (1 : Int32)) (q := 45) d51_44 rfl rfl ?_
    refine go_isub (r := (Int32.ofNat (ndg (mag p) - 1))) (q := 46) d51_45 (subNat (j := 1) (by omega) (by omega)) rfl ?_
    refine go_iload (v := (Int32.ofNat (i - 0))) (q := 48) d51_46 rfl rfl ?_
    refine go_isub (r := (Int32.ofNat (ndg (mag p) - 1 - (i - 0)))) (q := 49) d51_48 (subNat (by omega) (by omega)) rfl ?_
    refine go_istore (L' := #[.val (.int p), .val (.int (Int32.ofNat i)), .val (.long (Int64.ofNat (mag p))), .second, .val (.int (Int32.ofNat (ndg (mag p)))), .val (.int (0 : Int32)), .val (.int (Int32.ofNat (i - 0))), .val (.int (Int32.ofNat (ndg (mag p) - 1 - (i - 0)))), .unset, .unset, .unset]) (q := 51) d51_49 rfl rfl ?_
    exact jx51 H hm (by omega) (by rw [dec, hs, decS, show List.replicate 0 (45 : Int32) = [] from rfl, List.nil_append]; exact dgs_at _ (show i < _ by omega))
set_option maxRecDepth 65536 in
set_option maxHeartbeats 4000000 in
theorem rm_na {l : Launch} {Z : State} {a0 : Array Value} (H : Wd Z a0) {h : Heap} {F : List Addr} {r : Addr} {p : Int32} {i : Nat} {pre post : List Int32} (S : Str Z h F r (pre ++ (dec p ++ post))) (hp : pre.length = 22) (hi : i ≤ 10) : Met l Z (⟨"com/example/saga/saga/server/SurfaceUrisJsonTimeMapPinLaw", "numAt", "(Ljava/lang/String;III)Z"⟩ : MethodName) method_5_code 4 (some .boolean) ({ frames := 4, cells := 1, slots := 10, locals := 68 } : Room) h [] #[.ref r, .int p, .int (Int32.ofNat (dec p).length), .int (Int32.ofNat i)] (fun u h' G => u = some (.int 1) ∧ Keep h h' []) := by
  refine Met.mk (L := #[.val (.ref r), .val (.int p), .val (.int (Int32.ofNat (dec p).length)), .val (.int (Int32.ofNat i))]) (plainFor_of_name (by first | (simp [plainName, overriddenIn]; done) | decide +kernel)) (fun m => by first | (simp [entryFrame, mkF, argsToLocals, Value.category]; done) | rfl) (fun K => ?_)
  show Go _ _ K "com/example/saga/saga/server/SurfaceUrisJsonTimeMapPinLaw" "numAt" _ _ _ _ _ _ _ _ _ 0 _ _
  have hd := dec_le p
  refine go_iloadN (v := (Int32.ofNat i)) (q := 1) d50_0 rfl rfl ?_
  refine go_iloadN (v := (Int32.ofNat (dec p).length)) (q := 2) d50_1 rfl rfl ?_
  by_cases q : i < (dec p).length
  · refine go_icN (q := 5) d50_2 ((lt_ofNat (by omega) (by omega)).mpr q) rfl ?_
    refine go_aloadN (v := .ref r) (q := 6) d50_5 rfl rfl rfl ?_
    refine go_bipush (x := (22 : Int32)) (q := 8) d50_6 rfl rfl ?_
    refine go_iloadN (v := (Int32.ofNat i)) (q := 9) d50_8 rfl rfl ?_
    refine go_iadd (r := (Int32.ofNat (22 + i))) (q := 10) d50_9 (add_ofNat 22 i) rfl ?_
    obtain ⟨v, hv⟩ : ∃ v, (dec p)[i]? = some v := ⟨_, List.getElem?_eq_getElem q⟩
    have hv2 : (pre ++ (dec p ++ post))[22 + i]? = some v := by rw [← hp]; exact at_mid hv
    refine go_virtual (c' := 0) (s' := 0) (q := 13) (S := []) (argsL := [.int (Int32.ofNat (22 + i))]) H (C := "java/lang/String") (w_194 H) (w_195 H) (nf_self (w_197 H)) (w_197 H) (w_196 H) (w_2 H) (w_198 H) (by decide) S.exa (rm_chV H S hv2) rfl rfl (lenOf pd_35 rfl) (fun _ q => nomatch q) rfl (by decide) (Nat.le_of_ble_eq_true rfl) rfl rfl (by decide) (by decide) d50_10 rfl ?_
    rintro _ _ G - ⟨rfl, rfl⟩
    refine nx_ (v := none) ?_
    show Go _ _ _ _ _ _ _ _ _ _ _ _ _ _ 13 #[.val (.ref r), .val (.int p), .val (.int (Int32.ofNat (dec p).length)), .val (.int (Int32.ofNat i))] [.int v]
    refine go_iloadN (v := p) (q := 14) d50_13 rfl rfl ?_
    refine go_iloadN (v := (Int32.ofNat i)) (q := 15) d50_14 rfl rfl ?_
    refine go_static (c' := 1) (s' := 10) (q := 18) (S := [.int v]) (argsL := [.int p, .int (Int32.ofNat i)]) H (w_250 H) (w_251 H) (w_237 H) (w_252 H) (by decide) (rm_exA H q) rfl rfl (lenOf pd_36 rfl) (fun _ q => nomatch q) rfl (by decide) (Nat.le_of_ble_eq_true rfl) rfl rfl (by decide) (by decide) d50_15 rfl ?_
    rintro _ h1 G - ⟨v2, rfl, hv3, K1⟩
    refine nx_ (v := none) ?_
    show Go _ _ _ _ _ _ _ _ _ _ _ _ _ _ 18 #[.val (.ref r), .val (.int p), .val (.int (Int32.ofNat (dec p).length)), .val (.int (Int32.ofNat i))] [.int v2, .int v]
    obtain rfl : v = v2 := Option.some.inj (hv.symm.trans hv3)
    refine go_icN (q := 21) d50_18 rfl rfl ?_
    refine go_iconst (x := (1 : Int32)) (q := 22) d50_21 rfl rfl ?_
    refine go_goto (q := 26) d50_22 (by decide) (by decide) ?_
    exact go_ireturn H (G := []) (t := .boolean) rfl (by decide) rfl d50_26 (by decide) (by decide) (fun _ q => nomatch q) ⟨rfl, K1⟩
  · refine go_icY (q := 21) d50_2 (fun z => q ((lt_ofNat (by omega) (by omega)).mp z)) (by decide) (by decide) ?_
    refine go_iconst (x := (1 : Int32)) (q := 22) d50_21 rfl rfl ?_
    refine go_goto (q := 26) d50_22 (by decide) (by decide) ?_
    exact go_ireturn H (G := []) (t := .boolean) rfl (by decide) rfl d50_26 (by decide) (by decide) (fun _ q => nomatch q) ⟨rfl, Keep.refl _ _⟩
abbrev GL (l : Launch) (Z : State) (K : Cx) (h : Heap) (F : List Addr) (c s pc : Nat) (L : Array Slot) (S : List Value) : Prop := Go l Z K "com/example/saga/saga/server/SurfaceUrisJsonTimeMapPinLaw" "law" code 18 ret ({ frames := 11, cells := 80, slots := 4928, locals := 224 } : Room) (fun v h' G => v = some (.int 1)) h F c s pc L S
set_option maxRecDepth 65536 in
set_option maxHeartbeats 8000000 in
theorem j74a {l : Launch} {Z : State} {a0 : Array Value} (H : Wd Z a0) {K : Cx} {h : Heap} {r : Addr} {i0 i1 i2 i3 a b c : Int32} {s7 s8 s9 : Slot} (S : Str Z h [] r (P22 a ++ [b, c])) (q1 : i3 = 1) : GL l Z K h [] 32 600 74 #[.val (.int i0), .val (.int i1), .val (.int i2), .val (.int i3), .val (.int a), .val (.int b), .val (.int c), s7, s8, s9, .val (.ref r), .unset, .unset, .unset, .unset, .unset, .unset, .unset] [] := by
  refine go_iloadN (v := i3) (q := 75) at_74 rfl rfl ?_
  refine go_iconst (x := (1 : Int32)) (q := 76) at_75 rfl rfl ?_
  refine go_icN (q := 79) at_76 q1 rfl ?_
  refine go_iconst (x := (0 : Int32)) (q := 80) at_79 rfl rfl ?_
  refine go_goto (q := 87) at_80 (by decide) (by decide) ?_
  refine go_istore (L' := #[.val (.int i0), .val (.int i1), .val (.int i2), .val (.int i3), .val (.int a), .val (.int b), .val (.int c), s7, s8, s9, .val (.ref r), .val (.int (0 : Int32)), .unset, .unset, .unset, .unset, .unset, .unset]) (q := 89) at_87 rfl rfl ?_
  refine go_iloadN (v := i3) (q := 90) at_89 rfl rfl ?_
  refine go_iconst (x := (1 : Int32)) (q := 91) at_90 rfl rfl ?_
  refine go_icN (q := 94) at_91 q1 rfl ?_
  refine go_iconst (x := (0 : Int32)) (q := 95) at_94 rfl rfl ?_
  refine go_goto (q := 102) at_95 (by decide) (by decide) ?_
  refine go_istore (L' := #[.val (.int i0), .val (.int i1), .val (.int i2), .val (.int i3), .val (.int a), .val (.int b), .val (.int c), s7, s8, s9, .val (.ref r), .val (.int (0 : Int32)), .val (.int (0 : Int32)), .unset, .unset, .unset, .unset, .unset]) (q := 104) at_102 rfl rfl ?_
  refine go_bipush (x := (22 : Int32)) (q := 106) at_104 rfl rfl ?_
  refine go_iload (v := (0 : Int32)) (q := 108) at_106 rfl rfl ?_
  refine go_iadd (r := (22 : Int32)) (q := 109) at_108 (by decide) rfl ?_
  refine go_iconst (x := (2 : Int32)) (q := 110) at_109 rfl rfl ?_
  refine go_iadd (r := (24 : Int32)) (q := 111) at_110 (by decide) rfl ?_
  refine go_istore (L' := #[.val (.int i0), .val (.int i1), .val (.int i2), .val (.int i3), .val (.int a), .val (.int b), .val (.int c), s7, s8, s9, .val (.ref r), .val (.int (0 : Int32)), .val (.int (0 : Int32)), .val (.int (24 : Int32)), .unset, .unset, .unset, .unset]) (q := 113) at_111 rfl rfl ?_
  refine go_aload (v := .ref r) (q := 115) at_113 rfl rfl rfl ?_
  refine go_virtual (c' := 32) (s' := 600) (q := 118) (S := []) (argsL := []) H (C := "java/lang/String") (w_193 H) (w_83 H) (nf_self (w_85 H)) (w_85 H) (w_84 H) (w_2 H) (w_86 H) (by decide) S.exa (rm_len H S) rfl rfl (lenOf pd_16 rfl) (fun _ q => nomatch q) rfl (by decide) (Nat.le_of_ble_eq_true rfl) rfl rfl (by decide) (by decide) at_115 rfl ?_
  rintro _ _ G - ⟨rfl, rfl⟩
  refine nx_ (v := none) ?_
  show Go _ _ _ _ _ _ _ _ _ _ _ _ _ _ 118 #[.val (.int i0), .val (.int i1), .val (.int i2), .val (.int i3), .val (.int a), .val (.int b), .val (.int c), s7, s8, s9, .val (.ref r), .val (.int (0 : Int32)), .val (.int (0 : Int32)), .val (.int (24 : Int32)), .unset, .unset, .unset, .unset] [.int (Int32.ofNat (P22 a ++ [b, c]).length)]
  refine go_iload (v := (24 : Int32)) (q := 120) at_118 rfl rfl ?_
  refine go_icY (q := 125) at_120 rfl (by decide) (by decide) ?_
  refine go_aload (v := .ref r) (q := 127) at_125 rfl rfl rfl ?_
  refine go_iconst (x := (0 : Int32)) (q := 128) at_127 rfl rfl ?_
  refine go_virtual (c' := 32) (s' := 600) (q := 131) (S := []) (argsL := [.int (0 : Int32)]) H (C := "java/lang/String") (w_194 H) (w_195 H) (nf_self (w_197 H)) (w_197 H) (w_196 H) (w_2 H) (w_198 H) (by decide) S.exa (rm_chV H (i := 0) S (rfl : _ = some (104 : Int32))) rfl rfl (lenOf pd_35 rfl) (fun _ q => nomatch q) rfl (by decide) (Nat.le_of_ble_eq_true rfl) rfl rfl (by decide) (by decide) at_128 rfl ?_
  rintro _ _ G - ⟨rfl, rfl⟩
  refine nx_ (v := none) ?_
  show Go _ _ _ _ _ _ _ _ _ _ _ _ _ _ 131 #[.val (.int i0), .val (.int i1), .val (.int i2), .val (.int i3), .val (.int a), .val (.int b), .val (.int c), s7, s8, s9, .val (.ref r), .val (.int (0 : Int32)), .val (.int (0 : Int32)), .val (.int (24 : Int32)), .unset, .unset, .unset, .unset] [.int (104 : Int32)]
  refine go_bipush (x := (104 : Int32)) (q := 133) at_131 rfl rfl ?_
  refine go_icN (q := 136) at_133 (by decide) rfl ?_
  refine go_aload (v := .ref r) (q := 138) at_136 rfl rfl rfl ?_
  refine go_iconst (x := (1 : Int32)) (q := 139) at_138 rfl rfl ?_
  refine go_virtual (c' := 32) (s' := 600) (q := 142) (S := []) (argsL := [.int (1 : Int32)]) H (C := "java/lang/String") (w_194 H) (w_195 H) (nf_self (w_197 H)) (w_197 H) (w_196 H) (w_2 H) (w_198 H) (by decide) S.exa (rm_chV H (i := 1) S (rfl : _ = some (116 : Int32))) rfl rfl (lenOf pd_35 rfl) (fun _ q => nomatch q) rfl (by decide) (Nat.le_of_ble_eq_true rfl) rfl rfl (by decide) (by decide) at_139 rfl ?_
  rintro _ _ G - ⟨rfl, rfl⟩
  refine nx_ (v := none) ?_
  show Go _ _ _ _ _ _ _ _ _ _ _ _ _ _ 142 #[.val (.int i0), .val (.int i1), .val (.int i2), .val (.int i3), .val (.int a), .val (.int b), .val (.int c), s7, s8, s9, .val (.ref r), .val (.int (0 : Int32)), .val (.int (0 : Int32)), .val (.int (24 : Int32)), .unset, .unset, .unset, .unset] [.int (116 : Int32)]
  refine go_bipush (x := (116 : Int32)) (q := 144) at_142 rfl rfl ?_
  refine go_icN (q := 147) at_144 (by decide) rfl ?_
  refine go_aload (v := .ref r) (q := 149) at_147 rfl rfl rfl ?_
  refine go_iconst (x := (2 : Int32)) (q := 150) at_149 rfl rfl ?_
  refine go_virtual (c' := 32) (s' := 600) (q := 153) (S := []) (argsL := [.int (2 : Int32)]) H (C := "java/lang/String") (w_194 H) (w_195 H) (nf_self (w_197 H)) (w_197 H) (w_196 H) (w_2 H) (w_198 H) (by decide) S.exa (rm_chV H (i := 2) S (rfl : _ = some (116 : Int32))) rfl rfl (lenOf pd_35 rfl) (fun _ q => nomatch q) rfl (by decide) (Nat.le_of_ble_eq_true rfl) rfl rfl (by decide) (by decide) at_150 rfl ?_
  rintro _ _ G - ⟨rfl, rfl⟩
  refine nx_ (v := none) ?_
  show Go _ _ _ _ _ _ _ _ _ _ _ _ _ _ 153 #[.val (.int i0), .val (.int i1), .val (.int i2), .val (.int i3), .val (.int a), .val (.int b), .val (.int c), s7, s8, s9, .val (.ref r), .val (.int (0 : Int32)), .val (.int (0 : Int32)), .val (.int (24 : Int32)), .unset, .unset, .unset, .unset] [.int (116 : Int32)]
  refine go_bipush (x := (116 : Int32)) (q := 155) at_153 rfl rfl ?_
  refine go_icN (q := 158) at_155 (by decide) rfl ?_
  refine go_aload (v := .ref r) (q := 160) at_158 rfl rfl rfl ?_
  refine go_iconst (x := (3 : Int32)) (q := 161) at_160 rfl rfl ?_
  refine go_virtual (c' := 32) (s' := 600) (q := 164) (S := []) (argsL := [.int (3 : Int32)]) H (C := "java/lang/String") (w_194 H) (w_195 H) (nf_self (w_197 H)) (w_197 H) (w_196 H) (w_2 H) (w_198 H) (by decide) S.exa (rm_chV H (i := 3) S (rfl : _ = some (112 : Int32))) rfl rfl (lenOf pd_35 rfl) (fun _ q => nomatch q) rfl (by decide) (Nat.le_of_ble_eq_true rfl) rfl rfl (by decide) (by decide) at_161 rfl ?_
  rintro _ _ G - ⟨rfl, rfl⟩
  refine nx_ (v := none) ?_
  show Go _ _ _ _ _ _ _ _ _ _ _ _ _ _ 164 #[.val (.int i0), .val (.int i1), .val (.int i2), .val (.int i3), .val (.int a), .val (.int b), .val (.int c), s7, s8, s9, .val (.ref r), .val (.int (0 : Int32)), .val (.int (0 : Int32)), .val (.int (24 : Int32)), .unset, .unset, .unset, .unset] [.int (112 : Int32)]
  refine go_bipush (x := (112 : Int32)) (q := 166) at_164 rfl rfl ?_
  refine go_icN (q := 169) at_166 (by decide) rfl ?_
  refine go_aload (v := .ref r) (q := 171) at_169 rfl rfl rfl ?_
  refine go_iconst (x := (4 : Int32)) (q := 172) at_171 rfl rfl ?_
  refine go_virtual (c' := 32) (s' := 600) (q := 175) (S := []) (argsL := [.int (4 : Int32)]) H (C := "java/lang/String") (w_194 H) (w_195 H) (nf_self (w_197 H)) (w_197 H) (w_196 H) (w_2 H) (w_198 H) (by decide) S.exa (rm_chV H (i := 4) S (rfl : _ = some (58 : Int32))) rfl rfl (lenOf pd_35 rfl) (fun _ q => nomatch q) rfl (by decide) (Nat.le_of_ble_eq_true rfl) rfl rfl (by decide) (by decide) at_172 rfl ?_
  rintro _ _ G - ⟨rfl, rfl⟩
  refine nx_ (v := none) ?_
  show Go _ _ _ _ _ _ _ _ _ _ _ _ _ _ 175 #[.val (.int i0), .val (.int i1), .val (.int i2), .val (.int i3), .val (.int a), .val (.int b), .val (.int c), s7, s8, s9, .val (.ref r), .val (.int (0 : Int32)), .val (.int (0 : Int32)), .val (.int (24 : Int32)), .unset, .unset, .unset, .unset] [.int (58 : Int32)]
  refine go_bipush (x := (58 : Int32)) (q := 177) at_175 rfl rfl ?_
  refine go_icN (q := 180) at_177 (by decide) rfl ?_
  refine go_aload (v := .ref r) (q := 182) at_180 rfl rfl rfl ?_
  refine go_iconst (x := (5 : Int32)) (q := 183) at_182 rfl rfl ?_
  refine go_virtual (c' := 32) (s' := 600) (q := 186) (S := []) (argsL := [.int (5 : Int32)]) H (C := "java/lang/String") (w_194 H) (w_195 H) (nf_self (w_197 H)) (w_197 H) (w_196 H) (w_2 H) (w_198 H) (by decide) S.exa (rm_chV H (i := 5) S (rfl : _ = some (47 : Int32))) rfl rfl (lenOf pd_35 rfl) (fun _ q => nomatch q) rfl (by decide) (Nat.le_of_ble_eq_true rfl) rfl rfl (by decide) (by decide) at_183 rfl ?_
  rintro _ _ G - ⟨rfl, rfl⟩
  refine nx_ (v := none) ?_
  show Go _ _ _ _ _ _ _ _ _ _ _ _ _ _ 186 #[.val (.int i0), .val (.int i1), .val (.int i2), .val (.int i3), .val (.int a), .val (.int b), .val (.int c), s7, s8, s9, .val (.ref r), .val (.int (0 : Int32)), .val (.int (0 : Int32)), .val (.int (24 : Int32)), .unset, .unset, .unset, .unset] [.int (47 : Int32)]
  refine go_bipush (x := (47 : Int32)) (q := 188) at_186 rfl rfl ?_
  refine go_icN (q := 191) at_188 (by decide) rfl ?_
  refine go_aload (v := .ref r) (q := 193) at_191 rfl rfl rfl ?_
  refine go_bipush (x := (6 : Int32)) (q := 195) at_193 rfl rfl ?_
  refine go_virtual (c' := 32) (s' := 600) (q := 198) (S := []) (argsL := [.int (6 : Int32)]) H (C := "java/lang/String") (w_194 H) (w_195 H) (nf_self (w_197 H)) (w_197 H) (w_196 H) (w_2 H) (w_198 H) (by decide) S.exa (rm_chV H (i := 6) S (rfl : _ = some (47 : Int32))) rfl rfl (lenOf pd_35 rfl) (fun _ q => nomatch q) rfl (by decide) (Nat.le_of_ble_eq_true rfl) rfl rfl (by decide) (by decide) at_195 rfl ?_
  rintro _ _ G - ⟨rfl, rfl⟩
  refine nx_ (v := none) ?_
  show Go _ _ _ _ _ _ _ _ _ _ _ _ _ _ 198 #[.val (.int i0), .val (.int i1), .val (.int i2), .val (.int i3), .val (.int a), .val (.int b), .val (.int c), s7, s8, s9, .val (.ref r), .val (.int (0 : Int32)), .val (.int (0 : Int32)), .val (.int (24 : Int32)), .unset, .unset, .unset, .unset] [.int (47 : Int32)]
  refine go_bipush (x := (47 : Int32)) (q := 200) at_198 rfl rfl ?_
  refine go_icN (q := 203) at_200 (by decide) rfl ?_
  refine go_aload (v := .ref r) (q := 205) at_203 rfl rfl rfl ?_
  refine go_bipush (x := (7 : Int32)) (q := 207) at_205 rfl rfl ?_
  refine go_virtual (c' := 32) (s' := 600) (q := 210) (S := []) (argsL := [.int (7 : Int32)]) H (C := "java/lang/String") (w_194 H) (w_195 H) (nf_self (w_197 H)) (w_197 H) (w_196 H) (w_2 H) (w_198 H) (by decide) S.exa (rm_chV H (i := 7) S (rfl : _ = some a)) rfl rfl (lenOf pd_35 rfl) (fun _ q => nomatch q) rfl (by decide) (Nat.le_of_ble_eq_true rfl) rfl rfl (by decide) (by decide) at_207 rfl ?_
  rintro _ _ G - ⟨rfl, rfl⟩
  refine nx_ (v := none) ?_
  show Go _ _ _ _ _ _ _ _ _ _ _ _ _ _ 210 #[.val (.int i0), .val (.int i1), .val (.int i2), .val (.int i3), .val (.int a), .val (.int b), .val (.int c), s7, s8, s9, .val (.ref r), .val (.int (0 : Int32)), .val (.int (0 : Int32)), .val (.int (24 : Int32)), .unset, .unset, .unset, .unset] [.int a]
  refine go_iload (v := a) (q := 212) at_210 rfl rfl ?_
  refine go_icN (q := 215) at_212 rfl rfl ?_
  refine go_iconst (x := (1 : Int32)) (q := 216) at_215 rfl rfl ?_
  refine go_goto (q := 220) at_216 (by decide) (by decide) ?_
  refine go_istore (L' := #[.val (.int i0), .val (.int i1), .val (.int i2), .val (.int i3), .val (.int a), .val (.int b), .val (.int c), s7, s8, s9, .val (.ref r), .val (.int (0 : Int32)), .val (.int (0 : Int32)), .val (.int (24 : Int32)), .val (.int (1 : Int32)), .unset, .unset, .unset]) (q := 222) at_220 rfl rfl ?_
  refine go_aload (v := .ref r) (q := 224) at_222 rfl rfl rfl ?_
  refine go_bipush (x := (8 : Int32)) (q := 226) at_224 rfl rfl ?_
  refine go_virtual (c' := 32) (s' := 600) (q := 229) (S := []) (argsL := [.int (8 : Int32)]) H (C := "java/lang/String") (w_194 H) (w_195 H) (nf_self (w_197 H)) (w_197 H) (w_196 H) (w_2 H) (w_198 H) (by decide) S.exa (rm_chV H (i := 8) S (rfl : _ = some (47 : Int32))) rfl rfl (lenOf pd_35 rfl) (fun _ q => nomatch q) rfl (by decide) (Nat.le_of_ble_eq_true rfl) rfl rfl (by decide) (by decide) at_226 rfl ?_
  rintro _ _ G - ⟨rfl, rfl⟩
  refine nx_ (v := none) ?_
  show Go _ _ _ _ _ _ _ _ _ _ _ _ _ _ 229 #[.val (.int i0), .val (.int i1), .val (.int i2), .val (.int i3), .val (.int a), .val (.int b), .val (.int c), s7, s8, s9, .val (.ref r), .val (.int (0 : Int32)), .val (.int (0 : Int32)), .val (.int (24 : Int32)), .val (.int (1 : Int32)), .unset, .unset, .unset] [.int (47 : Int32)]
  refine go_bipush (x := (47 : Int32)) (q := 231) at_229 rfl rfl ?_
  refine go_icN (q := 234) at_231 (by decide) rfl ?_
  refine go_aload (v := .ref r) (q := 236) at_234 rfl rfl rfl ?_
  refine go_bipush (x := (9 : Int32)) (q := 238) at_236 rfl rfl ?_
  refine go_virtual (c' := 32) (s' := 600) (q := 241) (S := []) (argsL := [.int (9 : Int32)]) H (C := "java/lang/String") (w_194 H) (w_195 H) (nf_self (w_197 H)) (w_197 H) (w_196 H) (w_2 H) (w_198 H) (by decide) S.exa (rm_chV H (i := 9) S (rfl : _ = some (116 : Int32))) rfl rfl (lenOf pd_35 rfl) (fun _ q => nomatch q) rfl (by decide) (Nat.le_of_ble_eq_true rfl) rfl rfl (by decide) (by decide) at_238 rfl ?_
  rintro _ _ G - ⟨rfl, rfl⟩
  refine nx_ (v := none) ?_
  show Go _ _ _ _ _ _ _ _ _ _ _ _ _ _ 241 #[.val (.int i0), .val (.int i1), .val (.int i2), .val (.int i3), .val (.int a), .val (.int b), .val (.int c), s7, s8, s9, .val (.ref r), .val (.int (0 : Int32)), .val (.int (0 : Int32)), .val (.int (24 : Int32)), .val (.int (1 : Int32)), .unset, .unset, .unset] [.int (116 : Int32)]
  refine go_bipush (x := (116 : Int32)) (q := 243) at_241 rfl rfl ?_
  refine go_icN (q := 246) at_243 (by decide) rfl ?_
  refine go_aload (v := .ref r) (q := 248) at_246 rfl rfl rfl ?_
  refine go_bipush (x := (10 : Int32)) (q := 250) at_248 rfl rfl ?_
  refine go_virtual (c' := 32) (s' := 600) (q := 253) (S := []) (argsL := [.int (10 : Int32)]) H (C := "java/lang/String") (w_194 H) (w_195 H) (nf_self (w_197 H)) (w_197 H) (w_196 H) (w_2 H) (w_198 H) (by decide) S.exa (rm_chV H (i := 10) S (rfl : _ = some (105 : Int32))) rfl rfl (lenOf pd_35 rfl) (fun _ q => nomatch q) rfl (by decide) (Nat.le_of_ble_eq_true rfl) rfl rfl (by decide) (by decide) at_250 rfl ?_
  rintro _ _ G - ⟨rfl, rfl⟩
  refine nx_ (v := none) ?_
  show Go _ _ _ _ _ _ _ _ _ _ _ _ _ _ 253 #[.val (.int i0), .val (.int i1), .val (.int i2), .val (.int i3), .val (.int a), .val (.int b), .val (.int c), s7, s8, s9, .val (.ref r), .val (.int (0 : Int32)), .val (.int (0 : Int32)), .val (.int (24 : Int32)), .val (.int (1 : Int32)), .unset, .unset, .unset] [.int (105 : Int32)]
  refine go_bipush (x := (105 : Int32)) (q := 255) at_253 rfl rfl ?_
  refine go_icN (q := 258) at_255 (by decide) rfl ?_
  refine go_aload (v := .ref r) (q := 260) at_258 rfl rfl rfl ?_
  refine go_bipush (x := (11 : Int32)) (q := 262) at_260 rfl rfl ?_
  refine go_virtual (c' := 32) (s' := 600) (q := 265) (S := []) (argsL := [.int (11 : Int32)]) H (C := "java/lang/String") (w_194 H) (w_195 H) (nf_self (w_197 H)) (w_197 H) (w_196 H) (w_2 H) (w_198 H) (by decide) S.exa (rm_chV H (i := 11) S (rfl : _ = some (109 : Int32))) rfl rfl (lenOf pd_35 rfl) (fun _ q => nomatch q) rfl (by decide) (Nat.le_of_ble_eq_true rfl) rfl rfl (by decide) (by decide) at_262 rfl ?_
  rintro _ _ G - ⟨rfl, rfl⟩
  refine nx_ (v := none) ?_
  show Go _ _ _ _ _ _ _ _ _ _ _ _ _ _ 265 #[.val (.int i0), .val (.int i1), .val (.int i2), .val (.int i3), .val (.int a), .val (.int b), .val (.int c), s7, s8, s9, .val (.ref r), .val (.int (0 : Int32)), .val (.int (0 : Int32)), .val (.int (24 : Int32)), .val (.int (1 : Int32)), .unset, .unset, .unset] [.int (109 : Int32)]
  refine go_bipush (x := (109 : Int32)) (q := 267) at_265 rfl rfl ?_
  refine go_icN (q := 270) at_267 (by decide) rfl ?_
  refine go_aload (v := .ref r) (q := 272) at_270 rfl rfl rfl ?_
  refine go_bipush (x := (12 : Int32)) (q := 274) at_272 rfl rfl ?_
  refine go_virtual (c' := 32) (s' := 600) (q := 277) (S := []) (argsL := [.int (12 : Int32)]) H (C := "java/lang/String") (w_194 H) (w_195 H) (nf_self (w_197 H)) (w_197 H) (w_196 H) (w_2 H) (w_198 H) (by decide) S.exa (rm_chV H (i := 12) S (rfl : _ = some (101 : Int32))) rfl rfl (lenOf pd_35 rfl) (fun _ q => nomatch q) rfl (by decide) (Nat.le_of_ble_eq_true rfl) rfl rfl (by decide) (by decide) at_274 rfl ?_
  rintro _ _ G - ⟨rfl, rfl⟩
  refine nx_ (v := none) ?_
  show Go _ _ _ _ _ _ _ _ _ _ _ _ _ _ 277 #[.val (.int i0), .val (.int i1), .val (.int i2), .val (.int i3), .val (.int a), .val (.int b), .val (.int c), s7, s8, s9, .val (.ref r), .val (.int (0 : Int32)), .val (.int (0 : Int32)), .val (.int (24 : Int32)), .val (.int (1 : Int32)), .unset, .unset, .unset] [.int (101 : Int32)]
  refine go_bipush (x := (101 : Int32)) (q := 279) at_277 rfl rfl ?_
  refine go_icN (q := 282) at_279 (by decide) rfl ?_
  refine go_aload (v := .ref r) (q := 284) at_282 rfl rfl rfl ?_
  refine go_bipush (x := (13 : Int32)) (q := 286) at_284 rfl rfl ?_
  refine go_virtual (c' := 32) (s' := 600) (q := 289) (S := []) (argsL := [.int (13 : Int32)]) H (C := "java/lang/String") (w_194 H) (w_195 H) (nf_self (w_197 H)) (w_197 H) (w_196 H) (w_2 H) (w_198 H) (by decide) S.exa (rm_chV H (i := 13) S (rfl : _ = some (109 : Int32))) rfl rfl (lenOf pd_35 rfl) (fun _ q => nomatch q) rfl (by decide) (Nat.le_of_ble_eq_true rfl) rfl rfl (by decide) (by decide) at_286 rfl ?_
  rintro _ _ G - ⟨rfl, rfl⟩
  refine nx_ (v := none) ?_
  show Go _ _ _ _ _ _ _ _ _ _ _ _ _ _ 289 #[.val (.int i0), .val (.int i1), .val (.int i2), .val (.int i3), .val (.int a), .val (.int b), .val (.int c), s7, s8, s9, .val (.ref r), .val (.int (0 : Int32)), .val (.int (0 : Int32)), .val (.int (24 : Int32)), .val (.int (1 : Int32)), .unset, .unset, .unset] [.int (109 : Int32)]
  refine go_bipush (x := (109 : Int32)) (q := 291) at_289 rfl rfl ?_
  refine go_icN (q := 294) at_291 (by decide) rfl ?_
  refine go_aload (v := .ref r) (q := 296) at_294 rfl rfl rfl ?_
  refine go_bipush (x := (14 : Int32)) (q := 298) at_296 rfl rfl ?_
  refine go_virtual (c' := 32) (s' := 600) (q := 301) (S := []) (argsL := [.int (14 : Int32)]) H (C := "java/lang/String") (w_194 H) (w_195 H) (nf_self (w_197 H)) (w_197 H) (w_196 H) (w_2 H) (w_198 H) (by decide) S.exa (rm_chV H (i := 14) S (rfl : _ = some (97 : Int32))) rfl rfl (lenOf pd_35 rfl) (fun _ q => nomatch q) rfl (by decide) (Nat.le_of_ble_eq_true rfl) rfl rfl (by decide) (by decide) at_298 rfl ?_
  rintro _ _ G - ⟨rfl, rfl⟩
  refine nx_ (v := none) ?_
  show Go _ _ _ _ _ _ _ _ _ _ _ _ _ _ 301 #[.val (.int i0), .val (.int i1), .val (.int i2), .val (.int i3), .val (.int a), .val (.int b), .val (.int c), s7, s8, s9, .val (.ref r), .val (.int (0 : Int32)), .val (.int (0 : Int32)), .val (.int (24 : Int32)), .val (.int (1 : Int32)), .unset, .unset, .unset] [.int (97 : Int32)]
  refine go_bipush (x := (97 : Int32)) (q := 303) at_301 rfl rfl ?_
  refine go_icN (q := 306) at_303 (by decide) rfl ?_
  refine go_aload (v := .ref r) (q := 308) at_306 rfl rfl rfl ?_
  refine go_bipush (x := (15 : Int32)) (q := 310) at_308 rfl rfl ?_
  refine go_virtual (c' := 32) (s' := 600) (q := 313) (S := []) (argsL := [.int (15 : Int32)]) H (C := "java/lang/String") (w_194 H) (w_195 H) (nf_self (w_197 H)) (w_197 H) (w_196 H) (w_2 H) (w_198 H) (by decide) S.exa (rm_chV H (i := 15) S (rfl : _ = some (112 : Int32))) rfl rfl (lenOf pd_35 rfl) (fun _ q => nomatch q) rfl (by decide) (Nat.le_of_ble_eq_true rfl) rfl rfl (by decide) (by decide) at_310 rfl ?_
  rintro _ _ G - ⟨rfl, rfl⟩
  refine nx_ (v := none) ?_
  show Go _ _ _ _ _ _ _ _ _ _ _ _ _ _ 313 #[.val (.int i0), .val (.int i1), .val (.int i2), .val (.int i3), .val (.int a), .val (.int b), .val (.int c), s7, s8, s9, .val (.ref r), .val (.int (0 : Int32)), .val (.int (0 : Int32)), .val (.int (24 : Int32)), .val (.int (1 : Int32)), .unset, .unset, .unset] [.int (112 : Int32)]
  refine go_bipush (x := (112 : Int32)) (q := 315) at_313 rfl rfl ?_
  refine go_icN (q := 318) at_315 (by decide) rfl ?_
  refine go_aload (v := .ref r) (q := 320) at_318 rfl rfl rfl ?_
  refine go_bipush (x := (16 : Int32)) (q := 322) at_320 rfl rfl ?_
  refine go_virtual (c' := 32) (s' := 600) (q := 325) (S := []) (argsL := [.int (16 : Int32)]) H (C := "java/lang/String") (w_194 H) (w_195 H) (nf_self (w_197 H)) (w_197 H) (w_196 H) (w_2 H) (w_198 H) (by decide) S.exa (rm_chV H (i := 16) S (rfl : _ = some (47 : Int32))) rfl rfl (lenOf pd_35 rfl) (fun _ q => nomatch q) rfl (by decide) (Nat.le_of_ble_eq_true rfl) rfl rfl (by decide) (by decide) at_322 rfl ?_
  rintro _ _ G - ⟨rfl, rfl⟩
  refine nx_ (v := none) ?_
  show Go _ _ _ _ _ _ _ _ _ _ _ _ _ _ 325 #[.val (.int i0), .val (.int i1), .val (.int i2), .val (.int i3), .val (.int a), .val (.int b), .val (.int c), s7, s8, s9, .val (.ref r), .val (.int (0 : Int32)), .val (.int (0 : Int32)), .val (.int (24 : Int32)), .val (.int (1 : Int32)), .unset, .unset, .unset] [.int (47 : Int32)]
  refine go_bipush (x := (47 : Int32)) (q := 327) at_325 rfl rfl ?_
  refine go_icN (q := 330) at_327 (by decide) rfl ?_
  refine go_aload (v := .ref r) (q := 332) at_330 rfl rfl rfl ?_
  refine go_bipush (x := (17 : Int32)) (q := 334) at_332 rfl rfl ?_
  refine go_virtual (c' := 32) (s' := 600) (q := 337) (S := []) (argsL := [.int (17 : Int32)]) H (C := "java/lang/String") (w_194 H) (w_195 H) (nf_self (w_197 H)) (w_197 H) (w_196 H) (w_2 H) (w_198 H) (by decide) S.exa (rm_chV H (i := 17) S (rfl : _ = some (106 : Int32))) rfl rfl (lenOf pd_35 rfl) (fun _ q => nomatch q) rfl (by decide) (Nat.le_of_ble_eq_true rfl) rfl rfl (by decide) (by decide) at_334 rfl ?_
  rintro _ _ G - ⟨rfl, rfl⟩
  refine nx_ (v := none) ?_
  show Go _ _ _ _ _ _ _ _ _ _ _ _ _ _ 337 #[.val (.int i0), .val (.int i1), .val (.int i2), .val (.int i3), .val (.int a), .val (.int b), .val (.int c), s7, s8, s9, .val (.ref r), .val (.int (0 : Int32)), .val (.int (0 : Int32)), .val (.int (24 : Int32)), .val (.int (1 : Int32)), .unset, .unset, .unset] [.int (106 : Int32)]
  refine go_bipush (x := (106 : Int32)) (q := 339) at_337 rfl rfl ?_
  refine go_icN (q := 342) at_339 (by decide) rfl ?_
  refine go_aload (v := .ref r) (q := 344) at_342 rfl rfl rfl ?_
  refine go_bipush (x := (18 : Int32)) (q := 346) at_344 rfl rfl ?_
  refine go_virtual (c' := 32) (s' := 600) (q := 349) (S := []) (argsL := [.int (18 : Int32)]) H (C := "java/lang/String") (w_194 H) (w_195 H) (nf_self (w_197 H)) (w_197 H) (w_196 H) (w_2 H) (w_198 H) (by decide) S.exa (rm_chV H (i := 18) S (rfl : _ = some (115 : Int32))) rfl rfl (lenOf pd_35 rfl) (fun _ q => nomatch q) rfl (by decide) (Nat.le_of_ble_eq_true rfl) rfl rfl (by decide) (by decide) at_346 rfl ?_
  rintro _ _ G - ⟨rfl, rfl⟩
  refine nx_ (v := none) ?_
  show Go _ _ _ _ _ _ _ _ _ _ _ _ _ _ 349 #[.val (.int i0), .val (.int i1), .val (.int i2), .val (.int i3), .val (.int a), .val (.int b), .val (.int c), s7, s8, s9, .val (.ref r), .val (.int (0 : Int32)), .val (.int (0 : Int32)), .val (.int (24 : Int32)), .val (.int (1 : Int32)), .unset, .unset, .unset] [.int (115 : Int32)]
  refine go_bipush (x := (115 : Int32)) (q := 351) at_349 rfl rfl ?_
  refine go_icN (q := 354) at_351 (by decide) rfl ?_
  refine go_aload (v := .ref r) (q := 356) at_354 rfl rfl rfl ?_
  refine go_bipush (x := (19 : Int32)) (q := 358) at_356 rfl rfl ?_
  refine go_virtual (c' := 32) (s' := 600) (q := 361) (S := []) (argsL := [.int (19 : Int32)]) H (C := "java/lang/String") (w_194 H) (w_195 H) (nf_self (w_197 H)) (w_197 H) (w_196 H) (w_2 H) (w_198 H) (by decide) S.exa (rm_chV H (i := 19) S (rfl : _ = some (111 : Int32))) rfl rfl (lenOf pd_35 rfl) (fun _ q => nomatch q) rfl (by decide) (Nat.le_of_ble_eq_true rfl) rfl rfl (by decide) (by decide) at_358 rfl ?_
  rintro _ _ G - ⟨rfl, rfl⟩
  refine nx_ (v := none) ?_
  show Go _ _ _ _ _ _ _ _ _ _ _ _ _ _ 361 #[.val (.int i0), .val (.int i1), .val (.int i2), .val (.int i3), .val (.int a), .val (.int b), .val (.int c), s7, s8, s9, .val (.ref r), .val (.int (0 : Int32)), .val (.int (0 : Int32)), .val (.int (24 : Int32)), .val (.int (1 : Int32)), .unset, .unset, .unset] [.int (111 : Int32)]
  refine go_bipush (x := (111 : Int32)) (q := 363) at_361 rfl rfl ?_
  refine go_icN (q := 366) at_363 (by decide) rfl ?_
  refine go_aload (v := .ref r) (q := 368) at_366 rfl rfl rfl ?_
  refine go_bipush (x := (20 : Int32)) (q := 370) at_368 rfl rfl ?_
  refine go_virtual (c' := 32) (s' := 600) (q := 373) (S := []) (argsL := [.int (20 : Int32)]) H (C := "java/lang/String") (w_194 H) (w_195 H) (nf_self (w_197 H)) (w_197 H) (w_196 H) (w_2 H) (w_198 H) (by decide) S.exa (rm_chV H (i := 20) S (rfl : _ = some (110 : Int32))) rfl rfl (lenOf pd_35 rfl) (fun _ q => nomatch q) rfl (by decide) (Nat.le_of_ble_eq_true rfl) rfl rfl (by decide) (by decide) at_370 rfl ?_
  rintro _ _ G - ⟨rfl, rfl⟩
  refine nx_ (v := none) ?_
  show Go _ _ _ _ _ _ _ _ _ _ _ _ _ _ 373 #[.val (.int i0), .val (.int i1), .val (.int i2), .val (.int i3), .val (.int a), .val (.int b), .val (.int c), s7, s8, s9, .val (.ref r), .val (.int (0 : Int32)), .val (.int (0 : Int32)), .val (.int (24 : Int32)), .val (.int (1 : Int32)), .unset, .unset, .unset] [.int (110 : Int32)]
  refine go_bipush (x := (110 : Int32)) (q := 375) at_373 rfl rfl ?_
  refine go_icN (q := 378) at_375 (by decide) rfl ?_
  refine go_aload (v := .ref r) (q := 380) at_378 rfl rfl rfl ?_
  refine go_bipush (x := (21 : Int32)) (q := 382) at_380 rfl rfl ?_
  refine go_virtual (c' := 32) (s' := 600) (q := 385) (S := []) (argsL := [.int (21 : Int32)]) H (C := "java/lang/String") (w_194 H) (w_195 H) (nf_self (w_197 H)) (w_197 H) (w_196 H) (w_2 H) (w_198 H) (by decide) S.exa (rm_chV H (i := 21) S (rfl : _ = some (47 : Int32))) rfl rfl (lenOf pd_35 rfl) (fun _ q => nomatch q) rfl (by decide) (Nat.le_of_ble_eq_true rfl) rfl rfl (by decide) (by decide) at_382 rfl ?_
  rintro _ _ G - ⟨rfl, rfl⟩
  refine nx_ (v := none) ?_
  show Go _ _ _ _ _ _ _ _ _ _ _ _ _ _ 385 #[.val (.int i0), .val (.int i1), .val (.int i2), .val (.int i3), .val (.int a), .val (.int b), .val (.int c), s7, s8, s9, .val (.ref r), .val (.int (0 : Int32)), .val (.int (0 : Int32)), .val (.int (24 : Int32)), .val (.int (1 : Int32)), .unset, .unset, .unset] [.int (47 : Int32)]
  refine go_bipush (x := (47 : Int32)) (q := 387) at_385 rfl rfl ?_
  refine go_icN (q := 390) at_387 (by decide) rfl ?_
  refine go_iconst (x := (1 : Int32)) (q := 391) at_390 rfl rfl ?_
  refine go_goto (q := 395) at_391 (by decide) (by decide) ?_
  refine go_istore (L' := #[.val (.int i0), .val (.int i1), .val (.int i2), .val (.int i3), .val (.int a), .val (.int b), .val (.int c), s7, s8, s9, .val (.ref r), .val (.int (0 : Int32)), .val (.int (0 : Int32)), .val (.int (24 : Int32)), .val (.int (1 : Int32)), .val (.int (1 : Int32)), .unset, .unset]) (q := 397) at_395 rfl rfl ?_
  refine go_iconst (x := (1 : Int32)) (q := 398) at_397 rfl rfl ?_
  refine go_istore (L' := #[.val (.int i0), .val (.int i1), .val (.int i2), .val (.int i3), .val (.int a), .val (.int b), .val (.int c), s7, s8, s9, .val (.ref r), .val (.int (0 : Int32)), .val (.int (0 : Int32)), .val (.int (24 : Int32)), .val (.int (1 : Int32)), .val (.int (1 : Int32)), .val (.int (1 : Int32)), .unset]) (q := 400) at_398 rfl rfl ?_
  refine go_iloadN (v := i3) (q := 401) at_400 rfl rfl ?_
  refine go_iconst (x := (1 : Int32)) (q := 402) at_401 rfl rfl ?_
  refine go_icY (q := 564) at_402 q1 (by decide) (by decide) ?_
  refine go_aload (v := .ref r) (q := 566) at_564 rfl rfl rfl ?_
  refine go_iload (v := (24 : Int32)) (q := 568) at_566 rfl rfl ?_
  refine go_iconst (x := (2 : Int32)) (q := 569) at_568 rfl rfl ?_
  refine go_isub (r := (22 : Int32)) (q := 570) at_569 (by decide) rfl ?_
  refine go_virtual (c' := 32) (s' := 600) (q := 573) (S := []) (argsL := [.int (22 : Int32)]) H (C := "java/lang/String") (w_194 H) (w_195 H) (nf_self (w_197 H)) (w_197 H) (w_196 H) (w_2 H) (w_198 H) (by decide) S.exa (rm_chV H (i := 22) S (rfl : _ = some b)) rfl rfl (lenOf pd_35 rfl) (fun _ q => nomatch q) rfl (by decide) (Nat.le_of_ble_eq_true rfl) rfl rfl (by decide) (by decide) at_570 rfl ?_
  rintro _ _ G - ⟨rfl, rfl⟩
  refine nx_ (v := none) ?_
  show Go _ _ _ _ _ _ _ _ _ _ _ _ _ _ 573 #[.val (.int i0), .val (.int i1), .val (.int i2), .val (.int i3), .val (.int a), .val (.int b), .val (.int c), s7, s8, s9, .val (.ref r), .val (.int (0 : Int32)), .val (.int (0 : Int32)), .val (.int (24 : Int32)), .val (.int (1 : Int32)), .val (.int (1 : Int32)), .val (.int (1 : Int32)), .unset] [.int b]
  refine go_iload (v := b) (q := 575) at_573 rfl rfl ?_
  refine go_icN (q := 578) at_575 rfl rfl ?_
  refine go_aload (v := .ref r) (q := 580) at_578 rfl rfl rfl ?_
  refine go_iload (v := (24 : Int32)) (q := 582) at_580 rfl rfl ?_
  refine go_iconst (x := (1 : Int32)) (q := 583) at_582 rfl rfl ?_
  refine go_isub (r := (23 : Int32)) (q := 584) at_583 (by decide) rfl ?_
  refine go_virtual (c' := 32) (s' := 600) (q := 587) (S := []) (argsL := [.int (23 : Int32)]) H (C := "java/lang/String") (w_194 H) (w_195 H) (nf_self (w_197 H)) (w_197 H) (w_196 H) (w_2 H) (w_198 H) (by decide) S.exa (rm_chV H (i := 23) S (rfl : _ = some c)) rfl rfl (lenOf pd_35 rfl) (fun _ q => nomatch q) rfl (by decide) (Nat.le_of_ble_eq_true rfl) rfl rfl (by decide) (by decide) at_584 rfl ?_
  rintro _ _ G - ⟨rfl, rfl⟩
  refine nx_ (v := none) ?_
  show Go _ _ _ _ _ _ _ _ _ _ _ _ _ _ 587 #[.val (.int i0), .val (.int i1), .val (.int i2), .val (.int i3), .val (.int a), .val (.int b), .val (.int c), s7, s8, s9, .val (.ref r), .val (.int (0 : Int32)), .val (.int (0 : Int32)), .val (.int (24 : Int32)), .val (.int (1 : Int32)), .val (.int (1 : Int32)), .val (.int (1 : Int32)), .unset] [.int c]
  refine go_iload (v := c) (q := 589) at_587 rfl rfl ?_
  refine go_icN (q := 592) at_589 rfl rfl ?_
  refine go_iconst (x := (1 : Int32)) (q := 593) at_592 rfl rfl ?_
  refine go_goto (q := 597) at_593 (by decide) (by decide) ?_
  refine go_istore (L' := #[.val (.int i0), .val (.int i1), .val (.int i2), .val (.int i3), .val (.int a), .val (.int b), .val (.int c), s7, s8, s9, .val (.ref r), .val (.int (0 : Int32)), .val (.int (0 : Int32)), .val (.int (24 : Int32)), .val (.int (1 : Int32)), .val (.int (1 : Int32)), .val (.int (1 : Int32)), .val (.int (1 : Int32))]) (q := 599) at_597 rfl rfl ?_
  refine go_iload (v := (1 : Int32)) (q := 601) at_599 rfl rfl ?_
  refine go_ifN (q := 604) at_601 (by decide) rfl ?_
  refine go_iload (v := (1 : Int32)) (q := 606) at_604 rfl rfl ?_
  refine go_ifN (q := 609) at_606 (by decide) rfl ?_
  refine go_iload (v := (1 : Int32)) (q := 611) at_609 rfl rfl ?_
  refine go_ifN (q := 614) at_611 (by decide) rfl ?_
  refine go_iload (v := (1 : Int32)) (q := 616) at_614 rfl rfl ?_
  refine go_ifN (q := 619) at_616 (by decide) rfl ?_
  refine go_iconst (x := (1 : Int32)) (q := 620) at_619 rfl rfl ?_
  refine go_goto (q := 624) at_620 (by decide) (by decide) ?_
  exact go_ireturn H (G := []) (t := .boolean) rfl (by decide) rfl at_624 (by decide) (by decide) (fun _ q => nomatch q) rfl
set_option maxRecDepth 65536 in
set_option maxHeartbeats 8000000 in
theorem j74b {l : Launch} {Z : State} {a0 : Array Value} (H : Wd Z a0) {K : Cx} {h : Heap} {r : Addr} {i0 i1 i2 i3 a b c : Int32} {s7 s8 s9 : Slot} (S : Str Z h [] r (P22 a ++ (dec i3 ++ [47, b, c]))) (q1 : ¬ i3 = 1) : GL l Z K h [] 32 600 74 #[.val (.int i0), .val (.int i1), .val (.int i2), .val (.int i3), .val (.int a), .val (.int b), .val (.int c), s7, s8, s9, .val (.ref r), .unset, .unset, .unset, .unset, .unset, .unset, .unset] [] := by
  have hd := dec_le i3
  obtain ⟨dl, hdl⟩ : ∃ dl, dl = (dec i3).length := ⟨_, rfl⟩
  refine go_iloadN (v := i3) (q := 75) at_74 rfl rfl ?_
  refine go_iconst (x := (1 : Int32)) (q := 76) at_75 rfl rfl ?_
  refine go_icY (q := 83) at_76 q1 (by decide) (by decide) ?_
  refine go_iloadN (v := i3) (q := 84) at_83 rfl rfl ?_
  refine go_static (c' := 32) (s' := 600) (q := 87) (S := []) (argsL := [.int i3]) H (w_235 H) (w_236 H) (w_237 H) (w_238 H) (by decide) (rm_dl H) rfl rfl (lenOf pd_21 rfl) (fun _ q => nomatch q) rfl (by decide) (Nat.le_of_ble_eq_true rfl) rfl rfl (by decide) (by decide) at_84 rfl ?_
  rintro _ _ G - ⟨rfl, rfl⟩
  refine nx_ (v := none) ?_
  show Go _ _ _ _ _ _ _ _ _ _ _ _ _ _ 87 #[.val (.int i0), .val (.int i1), .val (.int i2), .val (.int i3), .val (.int a), .val (.int b), .val (.int c), s7, s8, s9, .val (.ref r), .unset, .unset, .unset, .unset, .unset, .unset, .unset] [.int (Int32.ofNat (dec i3).length)]
  refine go_istore (L' := #[.val (.int i0), .val (.int i1), .val (.int i2), .val (.int i3), .val (.int a), .val (.int b), .val (.int c), s7, s8, s9, .val (.ref r), .val (.int (Int32.ofNat (dec i3).length)), .unset, .unset, .unset, .unset, .unset, .unset]) (q := 89) at_87 rfl rfl ?_
  refine go_iloadN (v := i3) (q := 90) at_89 rfl rfl ?_
  refine go_iconst (x := (1 : Int32)) (q := 91) at_90 rfl rfl ?_
  refine go_icY (q := 98) at_91 q1 (by decide) (by decide) ?_
  refine go_iload (v := (Int32.ofNat (dec i3).length)) (q := 100) at_98 rfl rfl ?_
  refine go_iconst (x := (1 : Int32)) (q := 101) at_100 rfl rfl ?_
  refine go_iadd (r := (Int32.ofNat ((dec i3).length + 1))) (q := 102) at_101 (add_ofNat _ 1) rfl ?_
  refine go_istore (L' := #[.val (.int i0), .val (.int i1), .val (.int i2), .val (.int i3), .val (.int a), .val (.int b), .val (.int c), s7, s8, s9, .val (.ref r), .val (.int (Int32.ofNat (dec i3).length)), .val (.int (Int32.ofNat ((dec i3).length + 1))), .unset, .unset, .unset, .unset, .unset]) (q := 104) at_102 rfl rfl ?_
  refine go_bipush (x := (22 : Int32)) (q := 106) at_104 rfl rfl ?_
  refine go_iload (v := (Int32.ofNat ((dec i3).length + 1))) (q := 108) at_106 rfl rfl ?_
  refine go_iadd (r := (Int32.ofNat (22 + ((dec i3).length + 1)))) (q := 109) at_108 (add_ofNat 22 _) rfl ?_
  refine go_iconst (x := (2 : Int32)) (q := 110) at_109 rfl rfl ?_
  refine go_iadd (r := (Int32.ofNat (22 + ((dec i3).length + 1) + 2))) (q := 111) at_110 (add_ofNat _ 2) rfl ?_
  refine go_istore (L' := #[.val (.int i0), .val (.int i1), .val (.int i2), .val (.int i3), .val (.int a), .val (.int b), .val (.int c), s7, s8, s9, .val (.ref r), .val (.int (Int32.ofNat (dec i3).length)), .val (.int (Int32.ofNat ((dec i3).length + 1))), .val (.int (Int32.ofNat (22 + ((dec i3).length + 1) + 2))), .unset, .unset, .unset, .unset]) (q := 113) at_111 rfl rfl ?_
  refine go_aload (v := .ref r) (q := 115) at_113 rfl rfl rfl ?_
  refine go_virtual (c' := 32) (s' := 600) (q := 118) (S := []) (argsL := []) H (C := "java/lang/String") (w_193 H) (w_83 H) (nf_self (w_85 H)) (w_85 H) (w_84 H) (w_2 H) (w_86 H) (by decide) S.exa (rm_len H S) rfl rfl (lenOf pd_16 rfl) (fun _ q => nomatch q) rfl (by decide) (Nat.le_of_ble_eq_true rfl) rfl rfl (by decide) (by decide) at_115 rfl ?_
  rintro _ _ G - ⟨rfl, rfl⟩
  refine nx_ (v := none) ?_
  show Go _ _ _ _ _ _ _ _ _ _ _ _ _ _ 118 #[.val (.int i0), .val (.int i1), .val (.int i2), .val (.int i3), .val (.int a), .val (.int b), .val (.int c), s7, s8, s9, .val (.ref r), .val (.int (Int32.ofNat (dec i3).length)), .val (.int (Int32.ofNat ((dec i3).length + 1))), .val (.int (Int32.ofNat (22 + ((dec i3).length + 1) + 2))), .unset, .unset, .unset, .unset] [.int (Int32.ofNat (P22 a ++ (dec i3 ++ [47, b, c])).length)]
  refine go_iload (v := (Int32.ofNat (22 + ((dec i3).length + 1) + 2))) (q := 120) at_118 rfl rfl ?_
  refine go_icY (q := 125) at_120 (show _ = _ by congr 1; simp; omega) (by decide) (by decide) ?_
  refine go_aload (v := .ref r) (q := 127) at_125 rfl rfl rfl ?_
  refine go_iconst (x := (0 : Int32)) (q := 128) at_127 rfl rfl ?_
  refine go_virtual (c' := 32) (s' := 600) (q := 131) (S := []) (argsL := [.int (0 : Int32)]) H (C := "java/lang/String") (w_194 H) (w_195 H) (nf_self (w_197 H)) (w_197 H) (w_196 H) (w_2 H) (w_198 H) (by decide) S.exa (rm_chV H (i := 0) S (rfl : _ = some (104 : Int32))) rfl rfl (lenOf pd_35 rfl) (fun _ q => nomatch q) rfl (by decide) (Nat.le_of_ble_eq_true rfl) rfl rfl (by decide) (by decide) at_128 rfl ?_
  rintro _ _ G - ⟨rfl, rfl⟩
  refine nx_ (v := none) ?_
  show Go _ _ _ _ _ _ _ _ _ _ _ _ _ _ 131 #[.val (.int i0), .val (.int i1), .val (.int i2), .val (.int i3), .val (.int a), .val (.int b), .val (.int c), s7, s8, s9, .val (.ref r), .val (.int (Int32.ofNat (dec i3).length)), .val (.int (Int32.ofNat ((dec i3).length + 1))), .val (.int (Int32.ofNat (22 + ((dec i3).length + 1) + 2))), .unset, .unset, .unset, .unset] [.int (104 : Int32)]
  refine go_bipush (x := (104 : Int32)) (q := 133) at_131 rfl rfl ?_
  refine go_icN (q := 136) at_133 (by decide) rfl ?_
  refine go_aload (v := .ref r) (q := 138) at_136 rfl rfl rfl ?_
  refine go_iconst (x := (1 : Int32)) (q := 139) at_138 rfl rfl ?_
  refine go_virtual (c' := 32) (s' := 600) (q := 142) (S := []) (argsL := [.int (1 : Int32)]) H (C := "java/lang/String") (w_194 H) (w_195 H) (nf_self (w_197 H)) (w_197 H) (w_196 H) (w_2 H) (w_198 H) (by decide) S.exa (rm_chV H (i := 1) S (rfl : _ = some (116 : Int32))) rfl rfl (lenOf pd_35 rfl) (fun _ q => nomatch q) rfl (by decide) (Nat.le_of_ble_eq_true rfl) rfl rfl (by decide) (by decide) at_139 rfl ?_
  rintro _ _ G - ⟨rfl, rfl⟩
  refine nx_ (v := none) ?_
  show Go _ _ _ _ _ _ _ _ _ _ _ _ _ _ 142 #[.val (.int i0), .val (.int i1), .val (.int i2), .val (.int i3), .val (.int a), .val (.int b), .val (.int c), s7, s8, s9, .val (.ref r), .val (.int (Int32.ofNat (dec i3).length)), .val (.int (Int32.ofNat ((dec i3).length + 1))), .val (.int (Int32.ofNat (22 + ((dec i3).length + 1) + 2))), .unset, .unset, .unset, .unset] [.int (116 : Int32)]
  refine go_bipush (x := (116 : Int32)) (q := 144) at_142 rfl rfl ?_
  refine go_icN (q := 147) at_144 (by decide) rfl ?_
  refine go_aload (v := .ref r) (q := 149) at_147 rfl rfl rfl ?_
  refine go_iconst (x := (2 : Int32)) (q := 150) at_149 rfl rfl ?_
  refine go_virtual (c' := 32) (s' := 600) (q := 153) (S := []) (argsL := [.int (2 : Int32)]) H (C := "java/lang/String") (w_194 H) (w_195 H) (nf_self (w_197 H)) (w_197 H) (w_196 H) (w_2 H) (w_198 H) (by decide) S.exa (rm_chV H (i := 2) S (rfl : _ = some (116 : Int32))) rfl rfl (lenOf pd_35 rfl) (fun _ q => nomatch q) rfl (by decide) (Nat.le_of_ble_eq_true rfl) rfl rfl (by decide) (by decide) at_150 rfl ?_
  rintro _ _ G - ⟨rfl, rfl⟩
  refine nx_ (v := none) ?_
  show Go _ _ _ _ _ _ _ _ _ _ _ _ _ _ 153 #[.val (.int i0), .val (.int i1), .val (.int i2), .val (.int i3), .val (.int a), .val (.int b), .val (.int c), s7, s8, s9, .val (.ref r), .val (.int (Int32.ofNat (dec i3).length)), .val (.int (Int32.ofNat ((dec i3).length + 1))), .val (.int (Int32.ofNat (22 + ((dec i3).length + 1) + 2))), .unset, .unset, .unset, .unset] [.int (116 : Int32)]
  refine go_bipush (x := (116 : Int32)) (q := 155) at_153 rfl rfl ?_
  refine go_icN (q := 158) at_155 (by decide) rfl ?_
  refine go_aload (v := .ref r) (q := 160) at_158 rfl rfl rfl ?_
  refine go_iconst (x := (3 : Int32)) (q := 161) at_160 rfl rfl ?_
  refine go_virtual (c' := 32) (s' := 600) (q := 164) (S := []) (argsL := [.int (3 : Int32)]) H (C := "java/lang/String") (w_194 H) (w_195 H) (nf_self (w_197 H)) (w_197 H) (w_196 H) (w_2 H) (w_198 H) (by decide) S.exa (rm_chV H (i := 3) S (rfl : _ = some (112 : Int32))) rfl rfl (lenOf pd_35 rfl) (fun _ q => nomatch q) rfl (by decide) (Nat.le_of_ble_eq_true rfl) rfl rfl (by decide) (by decide) at_161 rfl ?_
  rintro _ _ G - ⟨rfl, rfl⟩
  refine nx_ (v := none) ?_
  show Go _ _ _ _ _ _ _ _ _ _ _ _ _ _ 164 #[.val (.int i0), .val (.int i1), .val (.int i2), .val (.int i3), .val (.int a), .val (.int b), .val (.int c), s7, s8, s9, .val (.ref r), .val (.int (Int32.ofNat (dec i3).length)), .val (.int (Int32.ofNat ((dec i3).length + 1))), .val (.int (Int32.ofNat (22 + ((dec i3).length + 1) + 2))), .unset, .unset, .unset, .unset] [.int (112 : Int32)]
  refine go_bipush (x := (112 : Int32)) (q := 166) at_164 rfl rfl ?_
  refine go_icN (q := 169) at_166 (by decide) rfl ?_
  refine go_aload (v := .ref r) (q := 171) at_169 rfl rfl rfl ?_
  refine go_iconst (x := (4 : Int32)) (q := 172) at_171 rfl rfl ?_
  refine go_virtual (c' := 32) (s' := 600) (q := 175) (S := []) (argsL := [.int (4 : Int32)]) H (C := "java/lang/String") (w_194 H) (w_195 H) (nf_self (w_197 H)) (w_197 H) (w_196 H) (w_2 H) (w_198 H) (by decide) S.exa (rm_chV H (i := 4) S (rfl : _ = some (58 : Int32))) rfl rfl (lenOf pd_35 rfl) (fun _ q => nomatch q) rfl (by decide) (Nat.le_of_ble_eq_true rfl) rfl rfl (by decide) (by decide) at_172 rfl ?_
  rintro _ _ G - ⟨rfl, rfl⟩
  refine nx_ (v := none) ?_
  show Go _ _ _ _ _ _ _ _ _ _ _ _ _ _ 175 #[.val (.int i0), .val (.int i1), .val (.int i2), .val (.int i3), .val (.int a), .val (.int b), .val (.int c), s7, s8, s9, .val (.ref r), .val (.int (Int32.ofNat (dec i3).length)), .val (.int (Int32.ofNat ((dec i3).length + 1))), .val (.int (Int32.ofNat (22 + ((dec i3).length + 1) + 2))), .unset, .unset, .unset, .unset] [.int (58 : Int32)]
  refine go_bipush (x := (58 : Int32)) (q := 177) at_175 rfl rfl ?_
  refine go_icN (q := 180) at_177 (by decide) rfl ?_
  refine go_aload (v := .ref r) (q := 182) at_180 rfl rfl rfl ?_
  refine go_iconst (x := (5 : Int32)) (q := 183) at_182 rfl rfl ?_
  refine go_virtual (c' := 32) (s' := 600) (q := 186) (S := []) (argsL := [.int (5 : Int32)]) H (C := "java/lang/String") (w_194 H) (w_195 H) (nf_self (w_197 H)) (w_197 H) (w_196 H) (w_2 H) (w_198 H) (by decide) S.exa (rm_chV H (i := 5) S (rfl : _ = some (47 : Int32))) rfl rfl (lenOf pd_35 rfl) (fun _ q => nomatch q) rfl (by decide) (Nat.le_of_ble_eq_true rfl) rfl rfl (by decide) (by decide) at_183 rfl ?_
  rintro _ _ G - ⟨rfl, rfl⟩
  refine nx_ (v := none) ?_
  show Go _ _ _ _ _ _ _ _ _ _ _ _ _ _ 186 #[.val (.int i0), .val (.int i1), .val (.int i2), .val (.int i3), .val (.int a), .val (.int b), .val (.int c), s7, s8, s9, .val (.ref r), .val (.int (Int32.ofNat (dec i3).length)), .val (.int (Int32.ofNat ((dec i3).length + 1))), .val (.int (Int32.ofNat (22 + ((dec i3).length + 1) + 2))), .unset, .unset, .unset, .unset] [.int (47 : Int32)]
  refine go_bipush (x := (47 : Int32)) (q := 188) at_186 rfl rfl ?_
  refine go_icN (q := 191) at_188 (by decide) rfl ?_
  refine go_aload (v := .ref r) (q := 193) at_191 rfl rfl rfl ?_
  refine go_bipush (x := (6 : Int32)) (q := 195) at_193 rfl rfl ?_
  refine go_virtual (c' := 32) (s' := 600) (q := 198) (S := []) (argsL := [.int (6 : Int32)]) H (C := "java/lang/String") (w_194 H) (w_195 H) (nf_self (w_197 H)) (w_197 H) (w_196 H) (w_2 H) (w_198 H) (by decide) S.exa (rm_chV H (i := 6) S (rfl : _ = some (47 : Int32))) rfl rfl (lenOf pd_35 rfl) (fun _ q => nomatch q) rfl (by decide) (Nat.le_of_ble_eq_true rfl) rfl rfl (by decide) (by decide) at_195 rfl ?_
  rintro _ _ G - ⟨rfl, rfl⟩
  refine nx_ (v := none) ?_
  show Go _ _ _ _ _ _ _ _ _ _ _ _ _ _ 198 #[.val (.int i0), .val (.int i1), .val (.int i2), .val (.int i3), .val (.int a), .val (.int b), .val (.int c), s7, s8, s9, .val (.ref r), .val (.int (Int32.ofNat (dec i3).length)), .val (.int (Int32.ofNat ((dec i3).length + 1))), .val (.int (Int32.ofNat (22 + ((dec i3).length + 1) + 2))), .unset, .unset, .unset, .unset] [.int (47 : Int32)]
  refine go_bipush (x := (47 : Int32)) (q := 200) at_198 rfl rfl ?_
  refine go_icN (q := 203) at_200 (by decide) rfl ?_
  refine go_aload (v := .ref r) (q := 205) at_203 rfl rfl rfl ?_
  refine go_bipush (x := (7 : Int32)) (q := 207) at_205 rfl rfl ?_
  refine go_virtual (c' := 32) (s' := 600) (q := 210) (S := []) (argsL := [.int (7 : Int32)]) H (C := "java/lang/String") (w_194 H) (w_195 H) (nf_self (w_197 H)) (w_197 H) (w_196 H) (w_2 H) (w_198 H) (by decide) S.exa (rm_chV H (i := 7) S (rfl : _ = some a)) rfl rfl (lenOf pd_35 rfl) (fun _ q => nomatch q) rfl (by decide) (Nat.le_of_ble_eq_true rfl) rfl rfl (by decide) (by decide) at_207 rfl ?_
  rintro _ _ G - ⟨rfl, rfl⟩
  refine nx_ (v := none) ?_
  show Go _ _ _ _ _ _ _ _ _ _ _ _ _ _ 210 #[.val (.int i0), .val (.int i1), .val (.int i2), .val (.int i3), .val (.int a), .val (.int b), .val (.int c), s7, s8, s9, .val (.ref r), .val (.int (Int32.ofNat (dec i3).length)), .val (.int (Int32.ofNat ((dec i3).length + 1))), .val (.int (Int32.ofNat (22 + ((dec i3).length + 1) + 2))), .unset, .unset, .unset, .unset] [.int a]
  refine go_iload (v := a) (q := 212) at_210 rfl rfl ?_
  refine go_icN (q := 215) at_212 rfl rfl ?_
  refine go_iconst (x := (1 : Int32)) (q := 216) at_215 rfl rfl ?_
  refine go_goto (q := 220) at_216 (by decide) (by decide) ?_
  refine go_istore (L' := #[.val (.int i0), .val (.int i1), .val (.int i2), .val (.int i3), .val (.int a), .val (.int b), .val (.int c), s7, s8, s9, .val (.ref r), .val (.int (Int32.ofNat (dec i3).length)), .val (.int (Int32.ofNat ((dec i3).length + 1))), .val (.int (Int32.ofNat (22 + ((dec i3).length + 1) + 2))), .val (.int (1 : Int32)), .unset, .unset, .unset]) (q := 222) at_220 rfl rfl ?_
  refine go_aload (v := .ref r) (q := 224) at_222 rfl rfl rfl ?_
  refine go_bipush (x := (8 : Int32)) (q := 226) at_224 rfl rfl ?_
  refine go_virtual (c' := 32) (s' := 600) (q := 229) (S := []) (argsL := [.int (8 : Int32)]) H (C := "java/lang/String") (w_194 H) (w_195 H) (nf_self (w_197 H)) (w_197 H) (w_196 H) (w_2 H) (w_198 H) (by decide) S.exa (rm_chV H (i := 8) S (rfl : _ = some (47 : Int32))) rfl rfl (lenOf pd_35 rfl) (fun _ q => nomatch q) rfl (by decide) (Nat.le_of_ble_eq_true rfl) rfl rfl (by decide) (by decide) at_226 rfl ?_
  rintro _ _ G - ⟨rfl, rfl⟩
  refine nx_ (v := none) ?_
  show Go _ _ _ _ _ _ _ _ _ _ _ _ _ _ 229 #[.val (.int i0), .val (.int i1), .val (.int i2), .val (.int i3), .val (.int a), .val (.int b), .val (.int c), s7, s8, s9, .val (.ref r), .val (.int (Int32.ofNat (dec i3).length)), .val (.int (Int32.ofNat ((dec i3).length + 1))), .val (.int (Int32.ofNat (22 + ((dec i3).length + 1) + 2))), .val (.int (1 : Int32)), .unset, .unset, .unset] [.int (47 : Int32)]
  refine go_bipush (x := (47 : Int32)) (q := 231) at_229 rfl rfl ?_
  refine go_icN (q := 234) at_231 (by decide) rfl ?_
  refine go_aload (v := .ref r) (q := 236) at_234 rfl rfl rfl ?_
  refine go_bipush (x := (9 : Int32)) (q := 238) at_236 rfl rfl ?_
  refine go_virtual (c' := 32) (s' := 600) (q := 241) (S := []) (argsL := [.int (9 : Int32)]) H (C := "java/lang/String") (w_194 H) (w_195 H) (nf_self (w_197 H)) (w_197 H) (w_196 H) (w_2 H) (w_198 H) (by decide) S.exa (rm_chV H (i := 9) S (rfl : _ = some (116 : Int32))) rfl rfl (lenOf pd_35 rfl) (fun _ q => nomatch q) rfl (by decide) (Nat.le_of_ble_eq_true rfl) rfl rfl (by decide) (by decide) at_238 rfl ?_
  rintro _ _ G - ⟨rfl, rfl⟩
  refine nx_ (v := none) ?_
  show Go _ _ _ _ _ _ _ _ _ _ _ _ _ _ 241 #[.val (.int i0), .val (.int i1), .val (.int i2), .val (.int i3), .val (.int a), .val (.int b), .val (.int c), s7, s8, s9, .val (.ref r), .val (.int (Int32.ofNat (dec i3).length)), .val (.int (Int32.ofNat ((dec i3).length + 1))), .val (.int (Int32.ofNat (22 + ((dec i3).length + 1) + 2))), .val (.int (1 : Int32)), .unset, .unset, .unset] [.int (116 : Int32)]
  refine go_bipush (x := (116 : Int32)) (q := 243) at_241 rfl rfl ?_
  refine go_icN (q := 246) at_243 (by decide) rfl ?_
  refine go_aload (v := .ref r) (q := 248) at_246 rfl rfl rfl ?_
  refine go_bipush (x := (10 : Int32)) (q := 250) at_248 rfl rfl ?_
  refine go_virtual (c' := 32) (s' := 600) (q := 253) (S := []) (argsL := [.int (10 : Int32)]) H (C := "java/lang/String") (w_194 H) (w_195 H) (nf_self (w_197 H)) (w_197 H) (w_196 H) (w_2 H) (w_198 H) (by decide) S.exa (rm_chV H (i := 10) S (rfl : _ = some (105 : Int32))) rfl rfl (lenOf pd_35 rfl) (fun _ q => nomatch q) rfl (by decide) (Nat.le_of_ble_eq_true rfl) rfl rfl (by decide) (by decide) at_250 rfl ?_
  rintro _ _ G - ⟨rfl, rfl⟩
  refine nx_ (v := none) ?_
  show Go _ _ _ _ _ _ _ _ _ _ _ _ _ _ 253 #[.val (.int i0), .val (.int i1), .val (.int i2), .val (.int i3), .val (.int a), .val (.int b), .val (.int c), s7, s8, s9, .val (.ref r), .val (.int (Int32.ofNat (dec i3).length)), .val (.int (Int32.ofNat ((dec i3).length + 1))), .val (.int (Int32.ofNat (22 + ((dec i3).length + 1) + 2))), .val (.int (1 : Int32)), .unset, .unset, .unset] [.int (105 : Int32)]
  refine go_bipush (x := (105 : Int32)) (q := 255) at_253 rfl rfl ?_
  refine go_icN (q := 258) at_255 (by decide) rfl ?_
  refine go_aload (v := .ref r) (q := 260) at_258 rfl rfl rfl ?_
  refine go_bipush (x := (11 : Int32)) (q := 262) at_260 rfl rfl ?_
  refine go_virtual (c' := 32) (s' := 600) (q := 265) (S := []) (argsL := [.int (11 : Int32)]) H (C := "java/lang/String") (w_194 H) (w_195 H) (nf_self (w_197 H)) (w_197 H) (w_196 H) (w_2 H) (w_198 H) (by decide) S.exa (rm_chV H (i := 11) S (rfl : _ = some (109 : Int32))) rfl rfl (lenOf pd_35 rfl) (fun _ q => nomatch q) rfl (by decide) (Nat.le_of_ble_eq_true rfl) rfl rfl (by decide) (by decide) at_262 rfl ?_
  rintro _ _ G - ⟨rfl, rfl⟩
  refine nx_ (v := none) ?_
  show Go _ _ _ _ _ _ _ _ _ _ _ _ _ _ 265 #[.val (.int i0), .val (.int i1), .val (.int i2), .val (.int i3), .val (.int a), .val (.int b), .val (.int c), s7, s8, s9, .val (.ref r), .val (.int (Int32.ofNat (dec i3).length)), .val (.int (Int32.ofNat ((dec i3).length + 1))), .val (.int (Int32.ofNat (22 + ((dec i3).length + 1) + 2))), .val (.int (1 : Int32)), .unset, .unset, .unset] [.int (109 : Int32)]
  refine go_bipush (x := (109 : Int32)) (q := 267) at_265 rfl rfl ?_
  refine go_icN (q := 270) at_267 (by decide) rfl ?_
  refine go_aload (v := .ref r) (q := 272) at_270 rfl rfl rfl ?_
  refine go_bipush (x := (12 : Int32)) (q := 274) at_272 rfl rfl ?_
  refine go_virtual (c' := 32) (s' := 600) (q := 277) (S := []) (argsL := [.int (12 : Int32)]) H (C := "java/lang/String") (w_194 H) (w_195 H) (nf_self (w_197 H)) (w_197 H) (w_196 H) (w_2 H) (w_198 H) (by decide) S.exa (rm_chV H (i := 12) S (rfl : _ = some (101 : Int32))) rfl rfl (lenOf pd_35 rfl) (fun _ q => nomatch q) rfl (by decide) (Nat.le_of_ble_eq_true rfl) rfl rfl (by decide) (by decide) at_274 rfl ?_
  rintro _ _ G - ⟨rfl, rfl⟩
  refine nx_ (v := none) ?_
  show Go _ _ _ _ _ _ _ _ _ _ _ _ _ _ 277 #[.val (.int i0), .val (.int i1), .val (.int i2), .val (.int i3), .val (.int a), .val (.int b), .val (.int c), s7, s8, s9, .val (.ref r), .val (.int (Int32.ofNat (dec i3).length)), .val (.int (Int32.ofNat ((dec i3).length + 1))), .val (.int (Int32.ofNat (22 + ((dec i3).length + 1) + 2))), .val (.int (1 : Int32)), .unset, .unset, .unset] [.int (101 : Int32)]
  refine go_bipush (x := (101 : Int32)) (q := 279) at_277 rfl rfl ?_
  refine go_icN (q := 282) at_279 (by decide) rfl ?_
  refine go_aload (v := .ref r) (q := 284) at_282 rfl rfl rfl ?_
  refine go_bipush (x := (13 : Int32)) (q := 286) at_284 rfl rfl ?_
  refine go_virtual (c' := 32) (s' := 600) (q := 289) (S := []) (argsL := [.int (13 : Int32)]) H (C := "java/lang/String") (w_194 H) (w_195 H) (nf_self (w_197 H)) (w_197 H) (w_196 H) (w_2 H) (w_198 H) (by decide) S.exa (rm_chV H (i := 13) S (rfl : _ = some (109 : Int32))) rfl rfl (lenOf pd_35 rfl) (fun _ q => nomatch q) rfl (by decide) (Nat.le_of_ble_eq_true rfl) rfl rfl (by decide) (by decide) at_286 rfl ?_
  rintro _ _ G - ⟨rfl, rfl⟩
  refine nx_ (v := none) ?_
  show Go _ _ _ _ _ _ _ _ _ _ _ _ _ _ 289 #[.val (.int i0), .val (.int i1), .val (.int i2), .val (.int i3), .val (.int a), .val (.int b), .val (.int c), s7, s8, s9, .val (.ref r), .val (.int (Int32.ofNat (dec i3).length)), .val (.int (Int32.ofNat ((dec i3).length + 1))), .val (.int (Int32.ofNat (22 + ((dec i3).length + 1) + 2))), .val (.int (1 : Int32)), .unset, .unset, .unset] [.int (109 : Int32)]
  refine go_bipush (x := (109 : Int32)) (q := 291) at_289 rfl rfl ?_
  refine go_icN (q := 294) at_291 (by decide) rfl ?_
  refine go_aload (v := .ref r) (q := 296) at_294 rfl rfl rfl ?_
  refine go_bipush (x := (14 : Int32)) (q := 298) at_296 rfl rfl ?_
  refine go_virtual (c' := 32) (s' := 600) (q := 301) (S := []) (argsL := [.int (14 : Int32)]) H (C := "java/lang/String") (w_194 H) (w_195 H) (nf_self (w_197 H)) (w_197 H) (w_196 H) (w_2 H) (w_198 H) (by decide) S.exa (rm_chV H (i := 14) S (rfl : _ = some (97 : Int32))) rfl rfl (lenOf pd_35 rfl) (fun _ q => nomatch q) rfl (by decide) (Nat.le_of_ble_eq_true rfl) rfl rfl (by decide) (by decide) at_298 rfl ?_
  rintro _ _ G - ⟨rfl, rfl⟩
  refine nx_ (v := none) ?_
  show Go _ _ _ _ _ _ _ _ _ _ _ _ _ _ 301 #[.val (.int i0), .val (.int i1), .val (.int i2), .val (.int i3), .val (.int a), .val (.int b), .val (.int c), s7, s8, s9, .val (.ref r), .val (.int (Int32.ofNat (dec i3).length)), .val (.int (Int32.ofNat ((dec i3).length + 1))), .val (.int (Int32.ofNat (22 + ((dec i3).length + 1) + 2))), .val (.int (1 : Int32)), .unset, .unset, .unset] [.int (97 : Int32)]
  refine go_bipush (x := (97 : Int32)) (q := 303) at_301 rfl rfl ?_
  refine go_icN (q := 306) at_303 (by decide) rfl ?_
  refine go_aload (v := .ref r) (q := 308) at_306 rfl rfl rfl ?_
  refine go_bipush (x := (15 : Int32)) (q := 310) at_308 rfl rfl ?_
  refine go_virtual (c' := 32) (s' := 600) (q := 313) (S := []) (argsL := [.int (15 : Int32)]) H (C := "java/lang/String") (w_194 H) (w_195 H) (nf_self (w_197 H)) (w_197 H) (w_196 H) (w_2 H) (w_198 H) (by decide) S.exa (rm_chV H (i := 15) S (rfl : _ = some (112 : Int32))) rfl rfl (lenOf pd_35 rfl) (fun _ q => nomatch q) rfl (by decide) (Nat.le_of_ble_eq_true rfl) rfl rfl (by decide) (by decide) at_310 rfl ?_
  rintro _ _ G - ⟨rfl, rfl⟩
  refine nx_ (v := none) ?_
  show Go _ _ _ _ _ _ _ _ _ _ _ _ _ _ 313 #[.val (.int i0), .val (.int i1), .val (.int i2), .val (.int i3), .val (.int a), .val (.int b), .val (.int c), s7, s8, s9, .val (.ref r), .val (.int (Int32.ofNat (dec i3).length)), .val (.int (Int32.ofNat ((dec i3).length + 1))), .val (.int (Int32.ofNat (22 + ((dec i3).length + 1) + 2))), .val (.int (1 : Int32)), .unset, .unset, .unset] [.int (112 : Int32)]
  refine go_bipush (x := (112 : Int32)) (q := 315) at_313 rfl rfl ?_
  refine go_icN (q := 318) at_315 (by decide) rfl ?_
  refine go_aload (v := .ref r) (q := 320) at_318 rfl rfl rfl ?_
  refine go_bipush (x := (16 : Int32)) (q := 322) at_320 rfl rfl ?_
  refine go_virtual (c' := 32) (s' := 600) (q := 325) (S := []) (argsL := [.int (16 : Int32)]) H (C := "java/lang/String") (w_194 H) (w_195 H) (nf_self (w_197 H)) (w_197 H) (w_196 H) (w_2 H) (w_198 H) (by decide) S.exa (rm_chV H (i := 16) S (rfl : _ = some (47 : Int32))) rfl rfl (lenOf pd_35 rfl) (fun _ q => nomatch q) rfl (by decide) (Nat.le_of_ble_eq_true rfl) rfl rfl (by decide) (by decide) at_322 rfl ?_
  rintro _ _ G - ⟨rfl, rfl⟩
  refine nx_ (v := none) ?_
  show Go _ _ _ _ _ _ _ _ _ _ _ _ _ _ 325 #[.val (.int i0), .val (.int i1), .val (.int i2), .val (.int i3), .val (.int a), .val (.int b), .val (.int c), s7, s8, s9, .val (.ref r), .val (.int (Int32.ofNat (dec i3).length)), .val (.int (Int32.ofNat ((dec i3).length + 1))), .val (.int (Int32.ofNat (22 + ((dec i3).length + 1) + 2))), .val (.int (1 : Int32)), .unset, .unset, .unset] [.int (47 : Int32)]
  refine go_bipush (x := (47 : Int32)) (q := 327) at_325 rfl rfl ?_
  refine go_icN (q := 330) at_327 (by decide) rfl ?_
  refine go_aload (v := .ref r) (q := 332) at_330 rfl rfl rfl ?_
  refine go_bipush (x := (17 : Int32)) (q := 334) at_332 rfl rfl ?_
  refine go_virtual (c' := 32) (s' := 600) (q := 337) (S := []) (argsL := [.int (17 : Int32)]) H (C := "java/lang/String") (w_194 H) (w_195 H) (nf_self (w_197 H)) (w_197 H) (w_196 H) (w_2 H) (w_198 H) (by decide) S.exa (rm_chV H (i := 17) S (rfl : _ = some (106 : Int32))) rfl rfl (lenOf pd_35 rfl) (fun _ q => nomatch q) rfl (by decide) (Nat.le_of_ble_eq_true rfl) rfl rfl (by decide) (by decide) at_334 rfl ?_
  rintro _ _ G - ⟨rfl, rfl⟩
  refine nx_ (v := none) ?_
  show Go _ _ _ _ _ _ _ _ _ _ _ _ _ _ 337 #[.val (.int i0), .val (.int i1), .val (.int i2), .val (.int i3), .val (.int a), .val (.int b), .val (.int c), s7, s8, s9, .val (.ref r), .val (.int (Int32.ofNat (dec i3).length)), .val (.int (Int32.ofNat ((dec i3).length + 1))), .val (.int (Int32.ofNat (22 + ((dec i3).length + 1) + 2))), .val (.int (1 : Int32)), .unset, .unset, .unset] [.int (106 : Int32)]
  refine go_bipush (x := (106 : Int32)) (q := 339) at_337 rfl rfl ?_
  refine go_icN (q := 342) at_339 (by decide) rfl ?_
  refine go_aload (v := .ref r) (q := 344) at_342 rfl rfl rfl ?_
  refine go_bipush (x := (18 : Int32)) (q := 346) at_344 rfl rfl ?_
  refine go_virtual (c' := 32) (s' := 600) (q := 349) (S := []) (argsL := [.int (18 : Int32)]) H (C := "java/lang/String") (w_194 H) (w_195 H) (nf_self (w_197 H)) (w_197 H) (w_196 H) (w_2 H) (w_198 H) (by decide) S.exa (rm_chV H (i := 18) S (rfl : _ = some (115 : Int32))) rfl rfl (lenOf pd_35 rfl) (fun _ q => nomatch q) rfl (by decide) (Nat.le_of_ble_eq_true rfl) rfl rfl (by decide) (by decide) at_346 rfl ?_
  rintro _ _ G - ⟨rfl, rfl⟩
  refine nx_ (v := none) ?_
  show Go _ _ _ _ _ _ _ _ _ _ _ _ _ _ 349 #[.val (.int i0), .val (.int i1), .val (.int i2), .val (.int i3), .val (.int a), .val (.int b), .val (.int c), s7, s8, s9, .val (.ref r), .val (.int (Int32.ofNat (dec i3).length)), .val (.int (Int32.ofNat ((dec i3).length + 1))), .val (.int (Int32.ofNat (22 + ((dec i3).length + 1) + 2))), .val (.int (1 : Int32)), .unset, .unset, .unset] [.int (115 : Int32)]
  refine go_bipush (x := (115 : Int32)) (q := 351) at_349 rfl rfl ?_
  refine go_icN (q := 354) at_351 (by decide) rfl ?_
  refine go_aload (v := .ref r) (q := 356) at_354 rfl rfl rfl ?_
  refine go_bipush (x := (19 : Int32)) (q := 358) at_356 rfl rfl ?_
  refine go_virtual (c' := 32) (s' := 600) (q := 361) (S := []) (argsL := [.int (19 : Int32)]) H (C := "java/lang/String") (w_194 H) (w_195 H) (nf_self (w_197 H)) (w_197 H) (w_196 H) (w_2 H) (w_198 H) (by decide) S.exa (rm_chV H (i := 19) S (rfl : _ = some (111 : Int32))) rfl rfl (lenOf pd_35 rfl) (fun _ q => nomatch q) rfl (by decide) (Nat.le_of_ble_eq_true rfl) rfl rfl (by decide) (by decide) at_358 rfl ?_
  rintro _ _ G - ⟨rfl, rfl⟩
  refine nx_ (v := none) ?_
  show Go _ _ _ _ _ _ _ _ _ _ _ _ _ _ 361 #[.val (.int i0), .val (.int i1), .val (.int i2), .val (.int i3), .val (.int a), .val (.int b), .val (.int c), s7, s8, s9, .val (.ref r), .val (.int (Int32.ofNat (dec i3).length)), .val (.int (Int32.ofNat ((dec i3).length + 1))), .val (.int (Int32.ofNat (22 + ((dec i3).length + 1) + 2))), .val (.int (1 : Int32)), .unset, .unset, .unset] [.int (111 : Int32)]
  refine go_bipush (x := (111 : Int32)) (q := 363) at_361 rfl rfl ?_
  refine go_icN (q := 366) at_363 (by decide) rfl ?_
  refine go_aload (v := .ref r) (q := 368) at_366 rfl rfl rfl ?_
  refine go_bipush (x := (20 : Int32)) (q := 370) at_368 rfl rfl ?_
  refine go_virtual (c' := 32) (s' := 600) (q := 373) (S := []) (argsL := [.int (20 : Int32)]) H (C := "java/lang/String") (w_194 H) (w_195 H) (nf_self (w_197 H)) (w_197 H) (w_196 H) (w_2 H) (w_198 H) (by decide) S.exa (rm_chV H (i := 20) S (rfl : _ = some (110 : Int32))) rfl rfl (lenOf pd_35 rfl) (fun _ q => nomatch q) rfl (by decide) (Nat.le_of_ble_eq_true rfl) rfl rfl (by decide) (by decide) at_370 rfl ?_
  rintro _ _ G - ⟨rfl, rfl⟩
  refine nx_ (v := none) ?_
  show Go _ _ _ _ _ _ _ _ _ _ _ _ _ _ 373 #[.val (.int i0), .val (.int i1), .val (.int i2), .val (.int i3), .val (.int a), .val (.int b), .val (.int c), s7, s8, s9, .val (.ref r), .val (.int (Int32.ofNat (dec i3).length)), .val (.int (Int32.ofNat ((dec i3).length + 1))), .val (.int (Int32.ofNat (22 + ((dec i3).length + 1) + 2))), .val (.int (1 : Int32)), .unset, .unset, .unset] [.int (110 : Int32)]
  refine go_bipush (x := (110 : Int32)) (q := 375) at_373 rfl rfl ?_
  refine go_icN (q := 378) at_375 (by decide) rfl ?_
  refine go_aload (v := .ref r) (q := 380) at_378 rfl rfl rfl ?_
  refine go_bipush (x := (21 : Int32)) (q := 382) at_380 rfl rfl ?_
  refine go_virtual (c' := 32) (s' := 600) (q := 385) (S := []) (argsL := [.int (21 : Int32)]) H (C := "java/lang/String") (w_194 H) (w_195 H) (nf_self (w_197 H)) (w_197 H) (w_196 H) (w_2 H) (w_198 H) (by decide) S.exa (rm_chV H (i := 21) S (rfl : _ = some (47 : Int32))) rfl rfl (lenOf pd_35 rfl) (fun _ q => nomatch q) rfl (by decide) (Nat.le_of_ble_eq_true rfl) rfl rfl (by decide) (by decide) at_382 rfl ?_
  rintro _ _ G - ⟨rfl, rfl⟩
  refine nx_ (v := none) ?_
  show Go _ _ _ _ _ _ _ _ _ _ _ _ _ _ 385 #[.val (.int i0), .val (.int i1), .val (.int i2), .val (.int i3), .val (.int a), .val (.int b), .val (.int c), s7, s8, s9, .val (.ref r), .val (.int (Int32.ofNat (dec i3).length)), .val (.int (Int32.ofNat ((dec i3).length + 1))), .val (.int (Int32.ofNat (22 + ((dec i3).length + 1) + 2))), .val (.int (1 : Int32)), .unset, .unset, .unset] [.int (47 : Int32)]
  refine go_bipush (x := (47 : Int32)) (q := 387) at_385 rfl rfl ?_
  refine go_icN (q := 390) at_387 (by decide) rfl ?_
  refine go_iconst (x := (1 : Int32)) (q := 391) at_390 rfl rfl ?_
  refine go_goto (q := 395) at_391 (by decide) (by decide) ?_
  refine go_istore (L' := #[.val (.int i0), .val (.int i1), .val (.int i2), .val (.int i3), .val (.int a), .val (.int b), .val (.int c), s7, s8, s9, .val (.ref r), .val (.int (Int32.ofNat (dec i3).length)), .val (.int (Int32.ofNat ((dec i3).length + 1))), .val (.int (Int32.ofNat (22 + ((dec i3).length + 1) + 2))), .val (.int (1 : Int32)), .val (.int (1 : Int32)), .unset, .unset]) (q := 397) at_395 rfl rfl ?_
  refine go_iconst (x := (1 : Int32)) (q := 398) at_397 rfl rfl ?_
  refine go_istore (L' := #[.val (.int i0), .val (.int i1), .val (.int i2), .val (.int i3), .val (.int a), .val (.int b), .val (.int c), s7, s8, s9, .val (.ref r), .val (.int (Int32.ofNat (dec i3).length)), .val (.int (Int32.ofNat ((dec i3).length + 1))), .val (.int (Int32.ofNat (22 + ((dec i3).length + 1) + 2))), .val (.int (1 : Int32)), .val (.int (1 : Int32)), .val (.int (1 : Int32)), .unset]) (q := 400) at_398 rfl rfl ?_
  refine go_iloadN (v := i3) (q := 401) at_400 rfl rfl ?_
  refine go_iconst (x := (1 : Int32)) (q := 402) at_401 rfl rfl ?_
  refine go_icN (q := 405) at_402 q1 rfl ?_
  refine go_aload (v := .ref r) (q := 407) at_405 rfl rfl rfl ?_
  refine go_iloadN (v := i3) (q := 408) at_407 rfl rfl ?_
  refine go_iload (v := (Int32.ofNat (dec i3).length)) (q := 410) at_408 rfl rfl ?_
  refine go_iconst (x := (0 : Int32)) (q := 411) at_410 rfl rfl ?_
  refine go_static (c' := 33) (s' := 610) (q := 414) (S := []) (argsL := [.ref r, .int i3, .int (Int32.ofNat (dec i3).length), .int (0 : Int32)]) H (w_247 H) (w_248 H) (w_237 H) (w_249 H) (by decide) (rm_na H (i := 0) S rfl (by decide)) rfl rfl (lenOf pd_37 rfl) (fun _ q => nomatch q) rfl (by decide) (Nat.le_of_ble_eq_true rfl) rfl rfl (by decide) (by decide) at_411 rfl ?_
  rintro _ hn0 G - ⟨rfl, Kn0⟩
  refine nx_ (v := none) ?_
  have S := S.keep0 Kn0
  show Go _ _ _ _ _ _ _ _ _ _ _ _ _ _ 414 #[.val (.int i0), .val (.int i1), .val (.int i2), .val (.int i3), .val (.int a), .val (.int b), .val (.int c), s7, s8, s9, .val (.ref r), .val (.int (Int32.ofNat (dec i3).length)), .val (.int (Int32.ofNat ((dec i3).length + 1))), .val (.int (Int32.ofNat (22 + ((dec i3).length + 1) + 2))), .val (.int (1 : Int32)), .val (.int (1 : Int32)), .val (.int (1 : Int32)), .unset] [.int 1]
  refine go_ifN (q := 417) at_414 (by decide) rfl ?_
  refine go_aload (v := .ref r) (q := 419) at_417 rfl rfl rfl ?_
  refine go_iloadN (v := i3) (q := 420) at_419 rfl rfl ?_
  refine go_iload (v := (Int32.ofNat (dec i3).length)) (q := 422) at_420 rfl rfl ?_
  refine go_iconst (x := (1 : Int32)) (q := 423) at_422 rfl rfl ?_
  refine go_static (c' := 34) (s' := 620) (q := 426) (S := []) (argsL := [.ref r, .int i3, .int (Int32.ofNat (dec i3).length), .int (1 : Int32)]) H (w_247 H) (w_248 H) (w_237 H) (w_249 H) (by decide) (rm_na H (i := 1) S rfl (by decide)) rfl rfl (lenOf pd_37 rfl) (fun _ q => nomatch q) rfl (by decide) (Nat.le_of_ble_eq_true rfl) rfl rfl (by decide) (by decide) at_423 rfl ?_
  rintro _ hn1 G - ⟨rfl, Kn1⟩
  refine nx_ (v := none) ?_
  have S := S.keep0 Kn1
  show Go _ _ _ _ _ _ _ _ _ _ _ _ _ _ 426 #[.val (.int i0), .val (.int i1), .val (.int i2), .val (.int i3), .val (.int a), .val (.int b), .val (.int c), s7, s8, s9, .val (.ref r), .val (.int (Int32.ofNat (dec i3).length)), .val (.int (Int32.ofNat ((dec i3).length + 1))), .val (.int (Int32.ofNat (22 + ((dec i3).length + 1) + 2))), .val (.int (1 : Int32)), .val (.int (1 : Int32)), .val (.int (1 : Int32)), .unset] [.int 1]
  refine go_ifN (q := 429) at_426 (by decide) rfl ?_
  refine go_aload (v := .ref r) (q := 431) at_429 rfl rfl rfl ?_
  refine go_iloadN (v := i3) (q := 432) at_431 rfl rfl ?_
  refine go_iload (v := (Int32.ofNat (dec i3).length)) (q := 434) at_432 rfl rfl ?_
  refine go_iconst (x := (2 : Int32)) (q := 435) at_434 rfl rfl ?_
  refine go_static (c' := 35) (s' := 630) (q := 438) (S := []) (argsL := [.ref r, .int i3, .int (Int32.ofNat (dec i3).length), .int (2 : Int32)]) H (w_247 H) (w_248 H) (w_237 H) (w_249 H) (by decide) (rm_na H (i := 2) S rfl (by decide)) rfl rfl (lenOf pd_37 rfl) (fun _ q => nomatch q) rfl (by decide) (Nat.le_of_ble_eq_true rfl) rfl rfl (by decide) (by decide) at_435 rfl ?_
  rintro _ hn2 G - ⟨rfl, Kn2⟩
  refine nx_ (v := none) ?_
  have S := S.keep0 Kn2
  show Go _ _ _ _ _ _ _ _ _ _ _ _ _ _ 438 #[.val (.int i0), .val (.int i1), .val (.int i2), .val (.int i3), .val (.int a), .val (.int b), .val (.int c), s7, s8, s9, .val (.ref r), .val (.int (Int32.ofNat (dec i3).length)), .val (.int (Int32.ofNat ((dec i3).length + 1))), .val (.int (Int32.ofNat (22 + ((dec i3).length + 1) + 2))), .val (.int (1 : Int32)), .val (.int (1 : Int32)), .val (.int (1 : Int32)), .unset] [.int 1]
  refine go_ifN (q := 441) at_438 (by decide) rfl ?_
  refine go_aload (v := .ref r) (q := 443) at_441 rfl rfl rfl ?_
  refine go_iloadN (v := i3) (q := 444) at_443 rfl rfl ?_
  refine go_iload (v := (Int32.ofNat (dec i3).length)) (q := 446) at_444 rfl rfl ?_
  refine go_iconst (x := (3 : Int32)) (q := 447) at_446 rfl rfl ?_
  refine go_static (c' := 36) (s' := 640) (q := 450) (S := []) (argsL := [.ref r, .int i3, .int (Int32.ofNat (dec i3).length), .int (3 : Int32)]) H (w_247 H) (w_248 H) (w_237 H) (w_249 H) (by decide) (rm_na H (i := 3) S rfl (by decide)) rfl rfl (lenOf pd_37 rfl) (fun _ q => nomatch q) rfl (by decide) (Nat.le_of_ble_eq_true rfl) rfl rfl (by decide) (by decide) at_447 rfl ?_
  rintro _ hn3 G - ⟨rfl, Kn3⟩
  refine nx_ (v := none) ?_
  have S := S.keep0 Kn3
  show Go _ _ _ _ _ _ _ _ _ _ _ _ _ _ 450 #[.val (.int i0), .val (.int i1), .val (.int i2), .val (.int i3), .val (.int a), .val (.int b), .val (.int c), s7, s8, s9, .val (.ref r), .val (.int (Int32.ofNat (dec i3).length)), .val (.int (Int32.ofNat ((dec i3).length + 1))), .val (.int (Int32.ofNat (22 + ((dec i3).length + 1) + 2))), .val (.int (1 : Int32)), .val (.int (1 : Int32)), .val (.int (1 : Int32)), .unset] [.int 1]
  refine go_ifN (q := 453) at_450 (by decide) rfl ?_
  refine go_aload (v := .ref r) (q := 455) at_453 rfl rfl rfl ?_
  refine go_iloadN (v := i3) (q := 456) at_455 rfl rfl ?_
  refine go_iload (v := (Int32.ofNat (dec i3).length)) (q := 458) at_456 rfl rfl ?_
  refine go_iconst (x := (4 : Int32)) (q := 459) at_458 rfl rfl ?_
  refine go_static (c' := 37) (s' := 650) (q := 462) (S := []) (argsL := [.ref r, .int i3, .int (Int32.ofNat (dec i3).length), .int (4 : Int32)]) H (w_247 H) (w_248 H) (w_237 H) (w_249 H) (by decide) (rm_na H (i := 4) S rfl (by decide)) rfl rfl (lenOf pd_37 rfl) (fun _ q => nomatch q) rfl (by decide) (Nat.le_of_ble_eq_true rfl) rfl rfl (by decide) (by decide) at_459 rfl ?_
  rintro _ hn4 G - ⟨rfl, Kn4⟩
  refine nx_ (v := none) ?_
  have S := S.keep0 Kn4
  show Go _ _ _ _ _ _ _ _ _ _ _ _ _ _ 462 #[.val (.int i0), .val (.int i1), .val (.int i2), .val (.int i3), .val (.int a), .val (.int b), .val (.int c), s7, s8, s9, .val (.ref r), .val (.int (Int32.ofNat (dec i3).length)), .val (.int (Int32.ofNat ((dec i3).length + 1))), .val (.int (Int32.ofNat (22 + ((dec i3).length + 1) + 2))), .val (.int (1 : Int32)), .val (.int (1 : Int32)), .val (.int (1 : Int32)), .unset] [.int 1]
  refine go_ifN (q := 465) at_462 (by decide) rfl ?_
  refine go_aload (v := .ref r) (q := 467) at_465 rfl rfl rfl ?_
  refine go_iloadN (v := i3) (q := 468) at_467 rfl rfl ?_
  refine go_iload (v := (Int32.ofNat (dec i3).length)) (q := 470) at_468 rfl rfl ?_
  refine go_iconst (x := (5 : Int32)) (q := 471) at_470 rfl rfl ?_
  refine go_static (c' := 38) (s' := 660) (q := 474) (S := []) (argsL := [.ref r, .int i3, .int (Int32.ofNat (dec i3).length), .int (5 : Int32)]) H (w_247 H) (w_248 H) (w_237 H) (w_249 H) (by decide) (rm_na H (i := 5) S rfl (by decide)) rfl rfl (lenOf pd_37 rfl) (fun _ q => nomatch q) rfl (by decide) (Nat.le_of_ble_eq_true rfl) rfl rfl (by decide) (by decide) at_471 rfl ?_
  rintro _ hn5 G - ⟨rfl, Kn5⟩
  refine nx_ (v := none) ?_
  have S := S.keep0 Kn5
  show Go _ _ _ _ _ _ _ _ _ _ _ _ _ _ 474 #[.val (.int i0), .val (.int i1), .val (.int i2), .val (.int i3), .val (.int a), .val (.int b), .val (.int c), s7, s8, s9, .val (.ref r), .val (.int (Int32.ofNat (dec i3).length)), .val (.int (Int32.ofNat ((dec i3).length + 1))), .val (.int (Int32.ofNat (22 + ((dec i3).length + 1) + 2))), .val (.int (1 : Int32)), .val (.int (1 : Int32)), .val (.int (1 : Int32)), .unset] [.int 1]
  refine go_ifN (q := 477) at_474 (by decide) rfl ?_
  refine go_aload (v := .ref r) (q := 479) at_477 rfl rfl rfl ?_
  refine go_iloadN (v := i3) (q := 480) at_479 rfl rfl ?_
  refine go_iload (v := (Int32.ofNat (dec i3).length)) (q := 482) at_480 rfl rfl ?_
  refine go_bipush (x := (6 : Int32)) (q := 484) at_482 rfl rfl ?_
  refine go_static (c' := 39) (s' := 670) (q := 487) (S := []) (argsL := [.ref r, .int i3, .int (Int32.ofNat (dec i3).length), .int (6 : Int32)]) H (w_247 H) (w_248 H) (w_237 H) (w_249 H) (by decide) (rm_na H (i := 6) S rfl (by decide)) rfl rfl (lenOf pd_37 rfl) (fun _ q => nomatch q) rfl (by decide) (Nat.le_of_ble_eq_true rfl) rfl rfl (by decide) (by decide) at_484 rfl ?_
  rintro _ hn6 G - ⟨rfl, Kn6⟩
  refine nx_ (v := none) ?_
  have S := S.keep0 Kn6
  show Go _ _ _ _ _ _ _ _ _ _ _ _ _ _ 487 #[.val (.int i0), .val (.int i1), .val (.int i2), .val (.int i3), .val (.int a), .val (.int b), .val (.int c), s7, s8, s9, .val (.ref r), .val (.int (Int32.ofNat (dec i3).length)), .val (.int (Int32.ofNat ((dec i3).length + 1))), .val (.int (Int32.ofNat (22 + ((dec i3).length + 1) + 2))), .val (.int (1 : Int32)), .val (.int (1 : Int32)), .val (.int (1 : Int32)), .unset] [.int 1]
  refine go_ifN (q := 490) at_487 (by decide) rfl ?_
  refine go_aload (v := .ref r) (q := 492) at_490 rfl rfl rfl ?_
  refine go_iloadN (v := i3) (q := 493) at_492 rfl rfl ?_
  refine go_iload (v := (Int32.ofNat (dec i3).length)) (q := 495) at_493 rfl rfl ?_
  refine go_bipush (x := (7 : Int32)) (q := 497) at_495 rfl rfl ?_
  refine go_static (c' := 40) (s' := 680) (q := 500) (S := []) (argsL := [.ref r, .int i3, .int (Int32.ofNat (dec i3).length), .int (7 : Int32)]) H (w_247 H) (w_248 H) (w_237 H) (w_249 H) (by decide) (rm_na H (i := 7) S rfl (by decide)) rfl rfl (lenOf pd_37 rfl) (fun _ q => nomatch q) rfl (by decide) (Nat.le_of_ble_eq_true rfl) rfl rfl (by decide) (by decide) at_497 rfl ?_
  rintro _ hn7 G - ⟨rfl, Kn7⟩
  refine nx_ (v := none) ?_
  have S := S.keep0 Kn7
  show Go _ _ _ _ _ _ _ _ _ _ _ _ _ _ 500 #[.val (.int i0), .val (.int i1), .val (.int i2), .val (.int i3), .val (.int a), .val (.int b), .val (.int c), s7, s8, s9, .val (.ref r), .val (.int (Int32.ofNat (dec i3).length)), .val (.int (Int32.ofNat ((dec i3).length + 1))), .val (.int (Int32.ofNat (22 + ((dec i3).length + 1) + 2))), .val (.int (1 : Int32)), .val (.int (1 : Int32)), .val (.int (1 : Int32)), .unset] [.int 1]
  refine go_ifN (q := 503) at_500 (by decide) rfl ?_
  refine go_aload (v := .ref r) (q := 505) at_503 rfl rfl rfl ?_
  refine go_iloadN (v := i3) (q := 506) at_505 rfl rfl ?_
  refine go_iload (v := (Int32.ofNat (dec i3).length)) (q := 508) at_506 rfl rfl ?_
  refine go_bipush (x := (8 : Int32)) (q := 510) at_508 rfl rfl ?_
  refine go_static (c' := 41) (s' := 690) (q := 513) (S := []) (argsL := [.ref r, .int i3, .int (Int32.ofNat (dec i3).length), .int (8 : Int32)]) H (w_247 H) (w_248 H) (w_237 H) (w_249 H) (by decide) (rm_na H (i := 8) S rfl (by decide)) rfl rfl (lenOf pd_37 rfl) (fun _ q => nomatch q) rfl (by decide) (Nat.le_of_ble_eq_true rfl) rfl rfl (by decide) (by decide) at_510 rfl ?_
  rintro _ hn8 G - ⟨rfl, Kn8⟩
  refine nx_ (v := none) ?_
  have S := S.keep0 Kn8
  show Go _ _ _ _ _ _ _ _ _ _ _ _ _ _ 513 #[.val (.int i0), .val (.int i1), .val (.int i2), .val (.int i3), .val (.int a), .val (.int b), .val (.int c), s7, s8, s9, .val (.ref r), .val (.int (Int32.ofNat (dec i3).length)), .val (.int (Int32.ofNat ((dec i3).length + 1))), .val (.int (Int32.ofNat (22 + ((dec i3).length + 1) + 2))), .val (.int (1 : Int32)), .val (.int (1 : Int32)), .val (.int (1 : Int32)), .unset] [.int 1]
  refine go_ifN (q := 516) at_513 (by decide) rfl ?_
  refine go_aload (v := .ref r) (q := 518) at_516 rfl rfl rfl ?_
  refine go_iloadN (v := i3) (q := 519) at_518 rfl rfl ?_
  refine go_iload (v := (Int32.ofNat (dec i3).length)) (q := 521) at_519 rfl rfl ?_
  refine go_bipush (x := (9 : Int32)) (q := 523) at_521 rfl rfl ?_
  refine go_static (c' := 42) (s' := 700) (q := 526) (S := []) (argsL := [.ref r, .int i3, .int (Int32.ofNat (dec i3).length), .int (9 : Int32)]) H (w_247 H) (w_248 H) (w_237 H) (w_249 H) (by decide) (rm_na H (i := 9) S rfl (by decide)) rfl rfl (lenOf pd_37 rfl) (fun _ q => nomatch q) rfl (by decide) (Nat.le_of_ble_eq_true rfl) rfl rfl (by decide) (by decide) at_523 rfl ?_
  rintro _ hn9 G - ⟨rfl, Kn9⟩
  refine nx_ (v := none) ?_
  have S := S.keep0 Kn9
  show Go _ _ _ _ _ _ _ _ _ _ _ _ _ _ 526 #[.val (.int i0), .val (.int i1), .val (.int i2), .val (.int i3), .val (.int a), .val (.int b), .val (.int c), s7, s8, s9, .val (.ref r), .val (.int (Int32.ofNat (dec i3).length)), .val (.int (Int32.ofNat ((dec i3).length + 1))), .val (.int (Int32.ofNat (22 + ((dec i3).length + 1) + 2))), .val (.int (1 : Int32)), .val (.int (1 : Int32)), .val (.int (1 : Int32)), .unset] [.int 1]
  refine go_ifN (q := 529) at_526 (by decide) rfl ?_
  refine go_aload (v := .ref r) (q := 531) at_529 rfl rfl rfl ?_
  refine go_iloadN (v := i3) (q := 532) at_531 rfl rfl ?_
  refine go_iload (v := (Int32.ofNat (dec i3).length)) (q := 534) at_532 rfl rfl ?_
  refine go_bipush (x := (10 : Int32)) (q := 536) at_534 rfl rfl ?_
  refine go_static (c' := 43) (s' := 710) (q := 539) (S := []) (argsL := [.ref r, .int i3, .int (Int32.ofNat (dec i3).length), .int (10 : Int32)]) H (w_247 H) (w_248 H) (w_237 H) (w_249 H) (by decide) (rm_na H (i := 10) S rfl (by decide)) rfl rfl (lenOf pd_37 rfl) (fun _ q => nomatch q) rfl (by decide) (Nat.le_of_ble_eq_true rfl) rfl rfl (by decide) (by decide) at_536 rfl ?_
  rintro _ hn10 G - ⟨rfl, Kn10⟩
  refine nx_ (v := none) ?_
  have S := S.keep0 Kn10
  show Go _ _ _ _ _ _ _ _ _ _ _ _ _ _ 539 #[.val (.int i0), .val (.int i1), .val (.int i2), .val (.int i3), .val (.int a), .val (.int b), .val (.int c), s7, s8, s9, .val (.ref r), .val (.int (Int32.ofNat (dec i3).length)), .val (.int (Int32.ofNat ((dec i3).length + 1))), .val (.int (Int32.ofNat (22 + ((dec i3).length + 1) + 2))), .val (.int (1 : Int32)), .val (.int (1 : Int32)), .val (.int (1 : Int32)), .unset] [.int 1]
  refine go_ifN (q := 542) at_539 (by decide) rfl ?_
  have t0 : (P22 a ++ (dec i3 ++ [47, b, c]))[22 + (dec i3).length + 0]? = some 47 := at_end (pre := P22 a) (es := dec i3) (post := [47, b, c]) (i := 0)
  have t1 : (P22 a ++ (dec i3 ++ [47, b, c]))[22 + (dec i3).length + 1]? = some b := at_end (pre := P22 a) (es := dec i3) (post := [47, b, c]) (i := 1)
  have t2 : (P22 a ++ (dec i3 ++ [47, b, c]))[22 + (dec i3).length + 2]? = some c := at_end (pre := P22 a) (es := dec i3) (post := [47, b, c]) (i := 2)
  refine go_aload (v := .ref r) (q := 544) at_542 rfl rfl rfl ?_
  refine go_bipush (x := (22 : Int32)) (q := 546) at_544 rfl rfl ?_
  refine go_iload (v := (Int32.ofNat (dec i3).length)) (q := 548) at_546 rfl rfl ?_
  refine go_iadd (r := (Int32.ofNat (22 + (dec i3).length + 0))) (q := 549) at_548 (add_ofNat 22 _) rfl ?_
  refine go_virtual (c' := 43) (s' := 710) (q := 552) (S := []) (argsL := [.int (Int32.ofNat (22 + (dec i3).length + 0))]) H (C := "java/lang/String") (w_194 H) (w_195 H) (nf_self (w_197 H)) (w_197 H) (w_196 H) (w_2 H) (w_198 H) (by decide) S.exa (rm_chV H S t0) rfl rfl (lenOf pd_35 rfl) (fun _ q => nomatch q) rfl (by decide) (Nat.le_of_ble_eq_true rfl) rfl rfl (by decide) (by decide) at_549 rfl ?_
  rintro _ _ G - ⟨rfl, rfl⟩
  refine nx_ (v := none) ?_
  show Go _ _ _ _ _ _ _ _ _ _ _ _ _ _ 552 #[.val (.int i0), .val (.int i1), .val (.int i2), .val (.int i3), .val (.int a), .val (.int b), .val (.int c), s7, s8, s9, .val (.ref r), .val (.int (Int32.ofNat (dec i3).length)), .val (.int (Int32.ofNat ((dec i3).length + 1))), .val (.int (Int32.ofNat (22 + ((dec i3).length + 1) + 2))), .val (.int (1 : Int32)), .val (.int (1 : Int32)), .val (.int (1 : Int32)), .unset] [.int (47 : Int32)]
  refine go_bipush (x := (47 : Int32)) (q := 554) at_552 rfl rfl ?_
  refine go_icN (q := 557) at_554 (by decide) rfl ?_
  refine go_iconst (x := (1 : Int32)) (q := 558) at_557 rfl rfl ?_
  refine go_goto (q := 562) at_558 (by decide) (by decide) ?_
  refine go_istore (L' := #[.val (.int i0), .val (.int i1), .val (.int i2), .val (.int i3), .val (.int a), .val (.int b), .val (.int c), s7, s8, s9, .val (.ref r), .val (.int (Int32.ofNat (dec i3).length)), .val (.int (Int32.ofNat ((dec i3).length + 1))), .val (.int (Int32.ofNat (22 + ((dec i3).length + 1) + 2))), .val (.int (1 : Int32)), .val (.int (1 : Int32)), .val (.int (1 : Int32)), .unset]) (q := 564) at_562 rfl rfl ?_
  refine go_aload (v := .ref r) (q := 566) at_564 rfl rfl rfl ?_
  refine go_iload (v := (Int32.ofNat (22 + ((dec i3).length + 1) + 2))) (q := 568) at_566 rfl rfl ?_
  refine go_iconst (x := (2 : Int32)) (q := 569) at_568 rfl rfl ?_
  refine go_isub (r := (Int32.ofNat (22 + (dec i3).length + 1))) (q := 570) at_569 (by rw [show 22 + ((dec i3).length + 1) + 2 = 22 + (dec i3).length + 1 + 2 by omega]; exact subK (k := 2) (by omega)) rfl ?_
  refine go_virtual (c' := 43) (s' := 710) (q := 573) (S := []) (argsL := [.int (Int32.ofNat (22 + (dec i3).length + 1))]) H (C := "java/lang/String") (w_194 H) (w_195 H) (nf_self (w_197 H)) (w_197 H) (w_196 H) (w_2 H) (w_198 H) (by decide) S.exa (rm_chV H S t1) rfl rfl (lenOf pd_35 rfl) (fun _ q => nomatch q) rfl (by decide) (Nat.le_of_ble_eq_true rfl) rfl rfl (by decide) (by decide) at_570 rfl ?_
  rintro _ _ G - ⟨rfl, rfl⟩
  refine nx_ (v := none) ?_
  show Go _ _ _ _ _ _ _ _ _ _ _ _ _ _ 573 #[.val (.int i0), .val (.int i1), .val (.int i2), .val (.int i3), .val (.int a), .val (.int b), .val (.int c), s7, s8, s9, .val (.ref r), .val (.int (Int32.ofNat (dec i3).length)), .val (.int (Int32.ofNat ((dec i3).length + 1))), .val (.int (Int32.ofNat (22 + ((dec i3).length + 1) + 2))), .val (.int (1 : Int32)), .val (.int (1 : Int32)), .val (.int (1 : Int32)), .unset] [.int b]
  refine go_iload (v := b) (q := 575) at_573 rfl rfl ?_
  refine go_icN (q := 578) at_575 rfl rfl ?_
  refine go_aload (v := .ref r) (q := 580) at_578 rfl rfl rfl ?_
  refine go_iload (v := (Int32.ofNat (22 + ((dec i3).length + 1) + 2))) (q := 582) at_580 rfl rfl ?_
  refine go_iconst (x := (1 : Int32)) (q := 583) at_582 rfl rfl ?_
  refine go_isub (r := (Int32.ofNat (22 + (dec i3).length + 2))) (q := 584) at_583 (by rw [show 22 + ((dec i3).length + 1) + 2 = 22 + (dec i3).length + 2 + 1 by omega]; exact subK (k := 1) (by omega)) rfl ?_
  refine go_virtual (c' := 43) (s' := 710) (q := 587) (S := []) (argsL := [.int (Int32.ofNat (22 + (dec i3).length + 2))]) H (C := "java/lang/String") (w_194 H) (w_195 H) (nf_self (w_197 H)) (w_197 H) (w_196 H) (w_2 H) (w_198 H) (by decide) S.exa (rm_chV H S t2) rfl rfl (lenOf pd_35 rfl) (fun _ q => nomatch q) rfl (by decide) (Nat.le_of_ble_eq_true rfl) rfl rfl (by decide) (by decide) at_584 rfl ?_
  rintro _ _ G - ⟨rfl, rfl⟩
  refine nx_ (v := none) ?_
  show Go _ _ _ _ _ _ _ _ _ _ _ _ _ _ 587 #[.val (.int i0), .val (.int i1), .val (.int i2), .val (.int i3), .val (.int a), .val (.int b), .val (.int c), s7, s8, s9, .val (.ref r), .val (.int (Int32.ofNat (dec i3).length)), .val (.int (Int32.ofNat ((dec i3).length + 1))), .val (.int (Int32.ofNat (22 + ((dec i3).length + 1) + 2))), .val (.int (1 : Int32)), .val (.int (1 : Int32)), .val (.int (1 : Int32)), .unset] [.int c]
  refine go_iload (v := c) (q := 589) at_587 rfl rfl ?_
  refine go_icN (q := 592) at_589 rfl rfl ?_
  refine go_iconst (x := (1 : Int32)) (q := 593) at_592 rfl rfl ?_
  refine go_goto (q := 597) at_593 (by decide) (by decide) ?_
  refine go_istore (L' := #[.val (.int i0), .val (.int i1), .val (.int i2), .val (.int i3), .val (.int a), .val (.int b), .val (.int c), s7, s8, s9, .val (.ref r), .val (.int (Int32.ofNat (dec i3).length)), .val (.int (Int32.ofNat ((dec i3).length + 1))), .val (.int (Int32.ofNat (22 + ((dec i3).length + 1) + 2))), .val (.int (1 : Int32)), .val (.int (1 : Int32)), .val (.int (1 : Int32)), .val (.int (1 : Int32))]) (q := 599) at_597 rfl rfl ?_
  refine go_iload (v := (1 : Int32)) (q := 601) at_599 rfl rfl ?_
  refine go_ifN (q := 604) at_601 (by decide) rfl ?_
  refine go_iload (v := (1 : Int32)) (q := 606) at_604 rfl rfl ?_
  refine go_ifN (q := 609) at_606 (by decide) rfl ?_
  refine go_iload (v := (1 : Int32)) (q := 611) at_609 rfl rfl ?_
  refine go_ifN (q := 614) at_611 (by decide) rfl ?_
  refine go_iload (v := (1 : Int32)) (q := 616) at_614 rfl rfl ?_
  refine go_ifN (q := 619) at_616 (by decide) rfl ?_
  refine go_iconst (x := (1 : Int32)) (q := 620) at_619 rfl rfl ?_
  refine go_goto (q := 624) at_620 (by decide) (by decide) ?_
  exact go_ireturn H (G := []) (t := .boolean) rfl (by decide) rfl at_624 (by decide) (by decide) (fun _ q => nomatch q) rfl
set_option maxRecDepth 65536 in
set_option maxHeartbeats 8000000 in
theorem rm_law {l : Launch} {Z : State} {a0 : Array Value} (H : Wd Z a0) {i0 i1 i2 i3 : Int32} (TB : Tabs Z) : MetL l Z x code maxLocals ret room_1 Z.heap [] #[.int i0, .int i1, .int i2, .int i3] (fun v h' G => v = some (.int 1)) := by
  refine MetL.mk (L := #[.val (.int i0), .val (.int i1), .val (.int i2), .val (.int i3), .unset, .unset, .unset, .unset, .unset, .unset, .unset, .unset, .unset, .unset, .unset, .unset, .unset, .unset]) (plainFor_of_name (by first | (simp [plainName, overriddenIn, x]; done) | decide +kernel)) (fun m => by first | (simp [entryFrame, mkF, argsToLocals, Value.category, maxLocals]; done) | rfl) (fun K => ?_)
  show Go _ _ K "com/example/saga/saga/server/SurfaceUrisJsonTimeMapPinLaw" "law" _ 18 _ ({ frames := 11, cells := 80, slots := 4928, locals := 224 } : Room) _ _ _ _ _ 0 _ _
  refine go_iloadN (v := i0) (q := 1) at_0 rfl rfl ?_
  refine go_sipush (x := (255 : Int32)) (q := 4) at_1 rfl rfl ?_
  refine go_iand (r := i0 &&& (255 : Int32)) (q := 5) at_4 rfl rfl ?_
  refine go_i2c (r := (i0 &&& 255)) (q := 6) at_5 (i2c_msk i0) rfl ?_
  refine go_istore (L' := #[.val (.int i0), .val (.int i1), .val (.int i2), .val (.int i3), .val (.int (i0 &&& 255)), .unset, .unset, .unset, .unset, .unset, .unset, .unset, .unset, .unset, .unset, .unset, .unset, .unset]) (q := 8) at_6 rfl rfl ?_
  refine go_iloadN (v := i1) (q := 9) at_8 rfl rfl ?_
  refine go_sipush (x := (255 : Int32)) (q := 12) at_9 rfl rfl ?_
  refine go_iand (r := i1 &&& (255 : Int32)) (q := 13) at_12 rfl rfl ?_
  refine go_i2c (r := (i1 &&& 255)) (q := 14) at_13 (i2c_msk i1) rfl ?_
  refine go_istore (L' := #[.val (.int i0), .val (.int i1), .val (.int i2), .val (.int i3), .val (.int (i0 &&& 255)), .val (.int (i1 &&& 255)), .unset, .unset, .unset, .unset, .unset, .unset, .unset, .unset, .unset, .unset, .unset, .unset]) (q := 16) at_14 rfl rfl ?_
  refine go_iloadN (v := i2) (q := 17) at_16 rfl rfl ?_
  refine go_sipush (x := (255 : Int32)) (q := 20) at_17 rfl rfl ?_
  refine go_iand (r := i2 &&& (255 : Int32)) (q := 21) at_20 rfl rfl ?_
  refine go_i2c (r := (i2 &&& 255)) (q := 22) at_21 (i2c_msk i2) rfl ?_
  refine go_istore (L' := #[.val (.int i0), .val (.int i1), .val (.int i2), .val (.int i3), .val (.int (i0 &&& 255)), .val (.int (i1 &&& 255)), .val (.int (i2 &&& 255)), .unset, .unset, .unset, .unset, .unset, .unset, .unset, .unset, .unset, .unset, .unset]) (q := 24) at_22 rfl rfl ?_
  refine go_iload (v := (i0 &&& 255)) (q := 26) at_24 rfl rfl ?_
  refine go_static (c' := 2) (s' := 5) (q := 29) (S := []) (argsL := [.int (i0 &&& 255)]) H (w_0 H) (w_1 H) (w_2 H) (w_3 H) (by decide) (rm_vofC H (F := []) (msk i0) (fun _ q => nomatch q)) rfl rfl (lenOf pd_38 rfl) (fun _ q => nomatch q) rfl (by decide) (Nat.le_of_ble_eq_true rfl) rfl rfl (by decide) (by decide) at_26 rfl ?_
  rintro _ h1 G - ⟨au, rfl, K1, S1⟩
  refine nx_ (v := none) ?_
  show Go _ _ _ _ _ _ _ _ _ _ _ _ _ _ 29 #[.val (.int i0), .val (.int i1), .val (.int i2), .val (.int i3), .val (.int (i0 &&& 255)), .val (.int (i1 &&& 255)), .val (.int (i2 &&& 255)), .unset, .unset, .unset, .unset, .unset, .unset, .unset, .unset, .unset, .unset, .unset] [.ref au]
  refine go_astore (L' := #[.val (.int i0), .val (.int i1), .val (.int i2), .val (.int i3), .val (.int (i0 &&& 255)), .val (.int (i1 &&& 255)), .val (.int (i2 &&& 255)), .val (.ref au), .unset, .unset, .unset, .unset, .unset, .unset, .unset, .unset, .unset, .unset]) (q := 31) at_29 rfl rfl rfl ?_
  have hFl : ∀ x ∈ ([] : List Addr), x < h1.size := fun _ q => nomatch q
  have Ka : Keep h1 h1 [] := Keep.refl _ _
  have S1_ := S1
  refine go_new (c' := 3) (s' := 9) (q := 34) (w_26 H) (w_10 H) (w_2 H) at_31 rfl rfl rfl (by decide) (by decide) ?_
  intro hu1 xu gu1 Eu1 Au1 Du1
  have f_Ka_xu : h1.size ≤ xu := by rw [gu1]; exact Ka.1
  have Ka : Keep h1 hu1 [] := Ka.ext Eu1
  have Cu1 : Fld Z hu1 xu ST "coder" "B" (.int 0) := Du1 (Or.inr (w_25 H)) (ty := .byte) (by decide)
  have Vu1 : Fld Z hu1 xu ST "value" "[B" .null := Du1 (Or.inr (w_23 H)) (ty := .array .byte) (by decide)
  have Kbu : Keep hu1 hu1 [] := Keep.refl _ _
  refine go_dup (q := 35) at_34 rfl rfl ?_
  refine go_iconst (x := (2 : Int32)) (q := 36) at_35 rfl rfl ?_
  refine go_newarray (ty := .char) (dv := .int 0) (n := 2) (cap := 2) (ad := "[C") (c' := 4) (s' := 11) (q := 38) rfl rfl (by decide) (w_27 H) at_36 (by decide) (by decide) (by decide) rfl rfl rfl rfl (by decide) (by decide) ?_
  intro hu2 yu ku gu2 Eu2 Wu2 Xu2
  have f_Ka_yu : h1.size ≤ yu := by rw [gu2]; exact Ka.1
  have f_Kbu_yu : hu1.size ≤ yu := by rw [gu2]; exact Kbu.1
  have Ka : Keep h1 hu2 [] := Ka.ext Eu2
  have Kbu : Keep hu1 hu2 [] := Kbu.ext Eu2
  have Wu2 : Arv Z hu2 yu ku .char (2 : Int32) [.int 0, .int 0] (.int 0) := Wu2
  refine go_dup (q := 39) at_38 rfl rfl ?_
  refine go_iconst (x := (0 : Int32)) (q := 40) at_39 rfl rfl ?_
  refine go_iload (v := (i1 &&& 255)) (q := 42) at_40 rfl rfl ?_
  refine go_castore (i := 0) (y := (i1 &&& 255)) (q := 43) Wu2 (by decide) rfl (Nat.le_of_ble_eq_true rfl) (by simp) (nar_char ((msk i1)).1 ((msk i1)).2) at_42 rfl ?_
  intro hu3 Ku3 zu3 Wu3
  have Ka : Keep h1 hu3 [] := kfresh Ka Ku3 f_Ka_yu
  have Kbu : Keep hu1 hu3 [] := kfresh Kbu Ku3 f_Kbu_yu
  have Wu3 : Arv Z hu3 yu ku .char (2 : Int32) [.int (i1 &&& 255), .int 0] (.int 0) := Wu3
  refine go_dup (q := 44) at_43 rfl rfl ?_
  refine go_iconst (x := (1 : Int32)) (q := 45) at_44 rfl rfl ?_
  refine go_iload (v := (i2 &&& 255)) (q := 47) at_45 rfl rfl ?_
  refine go_castore (i := 1) (y := (i2 &&& 255)) (q := 48) Wu3 (by decide) rfl (Nat.le_of_ble_eq_true rfl) (by simp) (nar_char ((msk i2)).1 ((msk i2)).2) at_47 rfl ?_
  intro hu4 Ku4 zu4 Wu4
  have Ka : Keep h1 hu4 [] := kfresh Ka Ku4 f_Ka_yu
  have Kbu : Keep hu1 hu4 [] := kfresh Kbu Ku4 f_Kbu_yu
  have Wu4 : Arv Z hu4 yu ku .char (2 : Int32) [.int (i1 &&& 255), .int (i2 &&& 255)] (.int 0) := Wu4
  have Ltu : Lat [(i1 &&& 255), (i2 &&& 255)] := ⟨Nat.le_of_ble_eq_true rfl, (by intro c hc; simp only [List.mem_cons, List.not_mem_nil, or_false] at hc; rcases hc with rfl | rfl <;> first | exact (msk i1) | exact (msk i2))⟩
  refine go_mine fun hMu _ => ?_
  have nFu : xu ∉ [] := fun q => absurd (hFl xu q) (Nat.not_lt.mpr f_Ka_xu)
  refine go_special (c' := 8) (s' := 27) (q := 51) (S := [.ref xu]) (argsL := [.ref yu]) H rfl (w_28 H) (w_29 H) (w_2 H) (w_30 H) (by decide) (rm_new1 H (cs := [(i1 &&& 255), (i2 &&& 255)]) (F := []) (Au1.keep Kbu) (Cu1.keep Kbu nin0) (Vu1.keep Kbu nin0) Wu4 Ltu (Nat.le_of_ble_eq_true rfl) nFu (by simp)) rfl rfl (lenOf pd_39 rfl) (by intro z hz; simp only [List.mem_cons, List.not_mem_nil, or_false] at hz ⊢; first | exact hz | exact Or.inl hz | (rcases hz with hz | hz <;> simp [hz]; done) | (rcases hz with rfl | rfl <;> simp)) rfl (by decide) (Nat.le_of_ble_eq_true rfl) rfl rfl (by decide) (by decide) at_48 rfl ?_
  rintro _ huz G - ⟨rfl, Kcu, Su⟩
  refine nx_ (v := none) ?_
  have Ka : Keep h1 huz [] := kfresh Ka Kcu f_Ka_xu
  show Go _ _ _ _ _ _ _ _ _ _ _ _ _ _ 51 #[.val (.int i0), .val (.int i1), .val (.int i2), .val (.int i3), .val (.int (i0 &&& 255)), .val (.int (i1 &&& 255)), .val (.int (i2 &&& 255)), .val (.ref au), .unset, .unset, .unset, .unset, .unset, .unset, .unset, .unset, .unset, .unset] [.ref xu]
  refine go_less (F' := []) (by intro y hy; simp [hy]) (Nat.le_refl _) (Nat.le_refl _) ?_
  refine go_astore (L' := #[.val (.int i0), .val (.int i1), .val (.int i2), .val (.int i3), .val (.int (i0 &&& 255)), .val (.int (i1 &&& 255)), .val (.int (i2 &&& 255)), .val (.ref au), .val (.ref xu), .unset, .unset, .unset, .unset, .unset, .unset, .unset, .unset, .unset]) (q := 53) at_51 rfl rfl rfl ?_
  have S1 := S1_.keep0 Ka
  have Kq : Keep huz huz [] := Keep.refl _ _
  refine go_new (c' := 9) (s' := 28) (q := 56) (w_44 H) (w_45 H) (w_46 H) at_53 rfl rfl rfl (by decide) (by decide) ?_
  intro hq1 sq gq Exq Aq Dq
  have f_Ka_sq : h1.size ≤ sq := by rw [gq]; exact Ka.1
  have f_Kq_sq : huz.size ≤ sq := by rw [gq]; exact Kq.1
  have Ka : Keep h1 hq1 [] := Ka.ext Exq
  have Kq : Keep huz hq1 [] := Kq.ext Exq
  have Fb : Fld Z hq1 sq SUN "base" SDs .null := Dq (Or.inr (w_165 H)) (ty := .object "java/lang/String") (by decide)
  have S1 := (S1.grow (F' := [sq]) (by intro y q; simp only [List.mem_cons, List.not_mem_nil, or_false] at q; subst q; exact Or.inr f_Kq_sq)).keep0 Kq
  have Su := (Su.grow (F' := [sq]) (by intro y q; simp only [List.mem_cons, List.not_mem_nil, or_false] at q; subst q; exact Or.inr f_Kq_sq)).keep0 Kq
  refine go_dup (q := 57) at_56 rfl rfl ?_
  refine go_aload (v := .ref au) (q := 59) at_57 rfl rfl rfl ?_
  refine go_special (c' := 15) (s' := 124) (q := 62) (S := [.ref sq]) (argsL := [.ref au]) H rfl (w_47 H) (w_48 H) (w_46 H) (w_49 H) (by decide) (rm_suI H (F := []) Aq Fb S1 (Nat.le_of_ble_eq_true rfl)) rfl rfl (lenOf pd_14 rfl) (fun _ q => by simpa using q) rfl (by decide) (Nat.le_of_ble_eq_true rfl) rfl rfl (by decide) (by decide) at_59 rfl ?_
  rintro _ hq2 G - ⟨rfl, Ks, sb, Fs, Sb⟩
  refine nx_ (v := none) ?_
  have Ka : Keep h1 hq2 [] := kfresh Ka Ks f_Ka_sq
  have Kq : Keep huz hq2 [] := kfresh Kq Ks f_Kq_sq
  show Go _ _ _ _ _ _ _ _ _ _ _ _ _ _ 62 #[.val (.int i0), .val (.int i1), .val (.int i2), .val (.int i3), .val (.int (i0 &&& 255)), .val (.int (i1 &&& 255)), .val (.int (i2 &&& 255)), .val (.ref au), .val (.ref xu), .unset, .unset, .unset, .unset, .unset, .unset, .unset, .unset, .unset] [.ref sq]
  have Su := Su.keep Ks (by intro y q; exact Or.inl q)
  refine go_astore (L' := #[.val (.int i0), .val (.int i1), .val (.int i2), .val (.int i3), .val (.int (i0 &&& 255)), .val (.int (i1 &&& 255)), .val (.int (i2 &&& 255)), .val (.ref au), .val (.ref xu), .val (.ref sq), .unset, .unset, .unset, .unset, .unset, .unset, .unset, .unset]) (q := 64) at_62 rfl rfl rfl ?_
  refine go_aload (v := .ref sq) (q := 66) at_64 rfl rfl rfl ?_
  refine go_aload (v := .ref xu) (q := 68) at_66 rfl rfl rfl ?_
  refine go_iloadN (v := i3) (q := 69) at_68 rfl rfl ?_
  refine go_virtual (c' := 30) (s' := 530) (q := 72) (S := []) (argsL := [.ref xu, .int i3]) H (C := "com/example/saga/saga/server/SurfaceUris") (w_166 H) (w_167 H) (nf_self (w_169 H)) (w_169 H) (w_168 H) (w_46 H) (w_170 H) (by decide) (Aq.keep Ks) (rm_tm H (F := [sq]) TB (Aq.keep Ks) Fs Sb Su (Nat.le_of_ble_eq_true rfl) (Nat.le_of_ble_eq_true rfl) (Nat.le_of_ble_eq_true rfl)) rfl rfl (lenOf pd_40 rfl) (fun _ q => by simpa using q) rfl (by decide) (Nat.le_of_ble_eq_true rfl) rfl rfl (by decide) (by decide) at_69 rfl ?_
  rintro _ hr G - ⟨r, rfl, Kr, Sr⟩
  refine nx_ (v := none) ?_
  show Go _ _ _ _ _ _ _ _ _ _ _ _ _ _ 72 #[.val (.int i0), .val (.int i1), .val (.int i2), .val (.int i3), .val (.int (i0 &&& 255)), .val (.int (i1 &&& 255)), .val (.int (i2 &&& 255)), .val (.ref au), .val (.ref xu), .val (.ref sq), .unset, .unset, .unset, .unset, .unset, .unset, .unset, .unset] [.ref r]
  have Sr := Sr.nil
  have Sr : Str Z hr [] r (P22 (i0 &&& 255) ++ (pnl i3 ++ [(i1 &&& 255), (i2 &&& 255)])) := by rw [List.append_assoc] at Sr; exact Sr
  refine go_astore (L' := #[.val (.int i0), .val (.int i1), .val (.int i2), .val (.int i3), .val (.int (i0 &&& 255)), .val (.int (i1 &&& 255)), .val (.int (i2 &&& 255)), .val (.ref au), .val (.ref xu), .val (.ref sq), .val (.ref r), .unset, .unset, .unset, .unset, .unset, .unset, .unset]) (q := 74) at_72 rfl rfl rfl ?_
  refine go_less (F' := []) (c' := 32) (s' := 600) (fun _ q => nomatch q) (by decide) (by decide) ?_
  by_cases q1 : i3 = 1
  · exact j74a H (by rw [pnl_1 q1] at Sr; exact Sr) q1
  · exact j74b H (by rw [pnl_n q1, List.append_assoc] at Sr; exact Sr) q1
set_option maxRecDepth 65536 in
set_option maxHeartbeats 4000000 in
theorem comes_1 {Post : Tables → Env → Array Value → State → Outcome → State → Prop} (hpost : ∀ tb e args s v u, (limb_1_1.after args s (.returned v) u = true ∧ limb_1_2.after args s (.returned v) u = true ∧ True) → Jvm.D.FramedW s (.returned v) u (Jvm.fieldLocs frame_1_writes args s ++ Jvm.arrayLocs frame_1_arrays args s ++ Jvm.staticLocs frame_1_statics s) 80 4928 → Post tb e args s (.returned v) u) :
    Jvm.D.ArmFor flags0 classFile x code maxLocals ret World_1 tables_1 room_1 Calls_1 rest_1 Pre_1 Post := by
  intro l hfl _ _ p e ha hc hk s m args below hf hA hF happ hP
  obtain ⟨hcalls, hrest, hpre⟩ := hP
  obtain ⟨-, -, -, hnamed, -, -, -, hat⟩ := (Spec.applies_iff hf).mp happ
  obtain ⟨hg, hn⟩ := and_e (Cond.before_iff.mp (show (Jvm.Cond.and given_1 narrow_1).before args s = true from hpre))
  obtain ⟨g0, r0⟩ := and_e hg
  obtain ⟨g1, r1⟩ := and_e r0
  obtain ⟨g2, r2⟩ := and_e r1
  obtain ⟨g3, r3⟩ := and_e r2
  obtain ⟨w0, w1, w2, w3, rfl⟩ : ∃ w0 w1 w2 w3 : Value, args = #[w0, w1, w2, w3] := by
    have hs : args.size = 4 := by simpa [Cond.value, given_1] using g0
    obtain ⟨L⟩ := args
    match L, hs with
    | [w0, w1, w2, w3], _ => exact ⟨w0, w1, w2, w3, rfl⟩
  have hw := fun d (hd : d ∈ tables_1) => atoms_spec (ws := Jvm.Cond.code x code maxLocals ret :: tables_1) hat d (List.mem_cons_of_mem _ hd)
  obtain ⟨hsets, hown0⟩ := atoms_of _ (rest_1_c_eq ▸ (show rest_1_c.before _ s = true from hrest))
  have hfit : Fit s := fun {y c} hc i hi => by
    obtain ⟨ha, rfl⟩ := Array.getElem?_eq_some_iff.mp hc
    have q := List.all_eq_true.mp ((Array.all_eq_true_iff_forall_mem.mp hF) _ (Array.getElem_mem ha)) i (List.mem_range.mpr hi)
    simpa [Array.getElem?_eq_getElem hi] using q
  obtain ⟨i0, e0⟩ := is_v g1
  obtain rfl : w0 = (.int i0) := Option.some.inj e0
  obtain ⟨i1, e1⟩ := is_v g2
  obtain rfl : w1 = (.int i1) := Option.some.inj e1
  obtain ⟨i2, e2⟩ := is_v g3
  obtain rfl : w2 = (.int i2) := Option.some.inj e2
  obtain ⟨i3, e3⟩ := is_v r3
  obtain rfl : w3 = (.int i3) := Option.some.inj e3
  obtain ⟨cz, ecz⟩ := is_v (Cond.before_iff.mp (hsets _ (List.mem_of_getElem? (i := 1) rfl)))
  have Scz : Sta s s.heap "java/lang/String" "COMPACT_STRINGS" "Z" (.int cz) := Sta.start ecz (Or.inl (hsets _ (List.mem_of_getElem? (i := 0) rfl)))
  have ncz : ¬ cz = (0 : Int32) := gotF (Cond.eq_ints ecz (Term.int_eval (0))) (not_v (Cond.before_iff.mp (hsets _ (List.mem_of_getElem? (i := 2) rfl))))
  obtain ⟨fm, efm, rfm⟩ := isR_v (Cond.before_iff.mp (hsets _ (List.mem_of_getElem? (i := 8) rfl)))
  have Sfm : Sta s s.heap "jdk/internal/util/Preconditions" "SIOOBE_FORMATTER" "Ljava/util/function/BiFunction;" fm := Sta.start efm (Or.inl (hsets _ (List.mem_of_getElem? (i := 7) rfl)))
  have hS : ∀ d ∈ Bundle.stringAtoms, d.before #[.int i0, .int i1, .int i2, .int i3] s = true := by
    intro d hd
    simp only [Bundle.stringAtoms, List.mem_cons, List.not_mem_nil, or_false] at hd
    rcases hd with rfl | rfl | rfl | rfl | rfl | rfl | rfl
    · exact hw _ (List.mem_of_getElem? (i := 2) rfl)
    · exact hw _ (List.mem_of_getElem? (i := 10) rfl)
    · exact hw _ (List.mem_of_getElem? (i := 14) rfl)
    · exact hw _ (List.mem_of_getElem? (i := 23) rfl)
    · exact hw _ (List.mem_of_getElem? (i := 25) rfl)
    · exact hw _ (List.mem_of_getElem? (i := 70) rfl)
    · exact hw _ (List.mem_of_getElem? (i := 71) rfl)
  have hE : EW s #[.int i0, .int i1, .int i2, .int i3] consts_1 := (EW.cons (hw _ (List.mem_of_getElem? (i := 69) rfl)) (by decide) (EW.cons (hw _ (List.mem_of_getElem? (i := 171) rfl)) (by decide) (EW.cons (hw _ (List.mem_of_getElem? (i := 234) rfl)) (by decide) (EW.cons (hw _ (List.mem_of_getElem? (i := 192) rfl)) (by decide) EW.nil))))
  have H : Wd s #[.int i0, .int i1, .int i2, .int i3] := ⟨hw, hE, hS, ⟨cz, Scz, ncz⟩, ⟨fm, Sfm, rfm⟩, hsets⟩
  have hC : CHv s consts_1 s.vm s.heap := CHv.start hE (fun q hq => hcalls.1 q hq) (Cond.before_iff.mpr (Cond.before_iff.mp (hsets _ (List.mem_of_getElem? (i := 2) rfl)))) (hw _ (List.mem_of_getElem? (i := 14) rfl)) (hw _ (List.mem_of_getElem? (i := 10) rfl))
  obtain ⟨dd1, dk1, de1, dA1⟩ := tab_start (F := fun r => 48 + r % 10) hfit (fun _ => by simp only [Term.eval]) (hw _ (List.mem_of_getElem? (i := 14) rfl)) (hsets _ (List.mem_of_getElem? (i := 12) rfl)) (Cond.before_iff.mp (hsets _ (List.mem_of_getElem? (i := 13) rfl))) (Cond.before_iff.mp (hsets _ (List.mem_of_getElem? (i := 14) rfl))) (fun r hr => by rw [← Jvm.Free.SBG.ones_num r hr]; rfl)
  have dS1 : Sta s s.heap "java/lang/Integer" "DigitOnes" "[B" (.ref dd1) := Sta.start de1 (Or.inl (hsets _ (List.mem_of_getElem? (i := 11) rfl)))
  obtain ⟨dd2, dk2, de2, dA2⟩ := tab_start (F := fun r => 48 + r / 10) hfit (fun _ => by simp only [Term.eval]) (hw _ (List.mem_of_getElem? (i := 14) rfl)) (hsets _ (List.mem_of_getElem? (i := 17) rfl)) (Cond.before_iff.mp (hsets _ (List.mem_of_getElem? (i := 18) rfl))) (Cond.before_iff.mp (hsets _ (List.mem_of_getElem? (i := 19) rfl))) (fun r hr => by rw [← Jvm.Free.SBG.tens_num r hr]; rfl)
  have dS2 : Sta s s.heap "java/lang/Integer" "DigitTens" "[B" (.ref dd2) := Sta.start de2 (Or.inl (hsets _ (List.mem_of_getElem? (i := 16) rfl)))
  have TB : Tabs s := ⟨⟨dd1, dk1, dS1, dA1⟩, ⟨dd2, dk2, dS2, dA2⟩⟩
  obtain ⟨n, o, h1, h2, h3, v, L, G, rfl, hq, N, -, -, -, hE2⟩ := rm_law (l := l) H TB p e ha hc hk s m _ below hf ((Spec.applies_iff_loose hf).mp happ).1 ⟨rfl, State.Warmed39.refl s, rfl, hC, (fun _ q => nomatch q), Old.start s⟩ trivial
  subst hq
  refine ⟨n, _, h1, h2, h3, hpost _ _ _ _ _ _ ⟨Cond.after_iff.mpr rfl, Cond.after_iff.mpr (eq_i res_at (Term.int_eval (1)) rfl), trivial⟩ ⟨hE2.1, hE2.2.1, hE2.2.2.1, (hE2.2.2.2.sift fun y hy => Or.inr (N y hy)).mono (by decide) (by decide)⟩⟩
end Own
end Jvm.Pilot.@@N@@
namespace Jvm.Pilot.@@N@@
theorem main_1_1 : Claimed_1_1 := Own.comes_1 fun _ _ _ _ _ _ h hF => ⟨h.1, hF⟩
theorem main_1_2 : Claimed_1_2 := Own.comes_1 fun _ _ _ _ _ _ h hF => ⟨h.2.1, hF⟩
end Jvm.Pilot.@@N@@
namespace Jvm.Pilot.@@N@@
open Jvm Jvm.ClassFile Sem Op Lib Jvm.Free Jvm.Stand Jvm.Pilot.@@N@@.Jvm.D
/-! MADE BY PROGRAM (witnessworld.py) out of the Statement's table words and the real class files: 30 classes; the members and pool entries that the words name. The judged class is class 1, her method 5. -/
namespace start1
open Jvm.ClassFile
def u (s : String) : CpInfo := .utf8 (stringToUtf16 s)
/-- a pool by its gaps: so many unusable entries, then the entry; so many at the end -/
def gap : Nat → List CpInfo → List CpInfo
  | 0, r => r
  | n + 1, r => .unusable :: gap n r
def poolList (es : List (Nat × CpInfo)) (last : Nat) : List CpInfo := es.foldr (fun e r => gap e.1 (e.2 :: r)) (gap last [])
def pool (es : List (Nat × CpInfo)) (last : Nat) : Array CpInfo := ⟨poolList es last⟩
def fileOf (pool : Array CpInfo) (this : Nat) (attrs : Array Attribute := #[]) (ms : Array MethodInfo := #[]) (fl : Nat := 33) (sup : Nat := 0) (ifs : Array Nat := #[]) (fds : Array FieldInfo := #[]) : ClassFile where
  minorVersion := 0
  majorVersion := 65
  constantPool := pool
  accessFlags := fl
  thisClass := this
  superClass := sup
  interfaces := ifs
  fields := fds
  methods := ms
  attributes := attrs
def plain (name : String) (sup : Option ClassId) : Class where
  name := name
  kind := .ordinary
  loader := none
  accessFlags := 33
  super := sup
  interfaces := #[]
  cf := none
  fields := #[]
  methods := #[]
  instanceTypes := #[]
  staticTypes := #[]
  resolved := #[]
  callSites := []
  init := .initialized
  statics := none
  mirror := none

def pool0 : Array CpInfo := pool [(5, u "<init>"), (0, u "()V"), (1, .class_ 10), (1, u "java/lang/Object"), (85, u "clone"), (0, u "()Ljava/lang/Object;")] 26

def k0c0 : Code := { maxStack := 0, maxLocals := 1, code := object_method_1_code, exceptionTable := #[], attributes := #[] }
def k0m0 : Method := { name := "<init>", desc := "()V", sig := { parameters := [], returnType := none }, accessFlags := 1, code := some k0c0 }
def k0m1 : Method := { name := "clone", desc := "()Ljava/lang/Object;", sig := { parameters := [], returnType := some (.object "java/lang/Object") }, accessFlags := 260, code := none }
/-- java/lang/Object -/
def k0 : Class := { plain "java/lang/Object" none with
  accessFlags := 33
  interfaces := #[]
  cf := some (fileOf pool0 8 #[] #[{ accessFlags := 1, nameIndex := 5, descriptorIndex := 6, attributes := #[] }, { accessFlags := 260, nameIndex := 96, descriptorIndex := 97, attributes := #[] }] 33 0 #[] #[])
  fields := #[]
  methods := #[k0m0, k0m1]
  instanceTypes := #[]
  staticTypes := #[]
  resolved := Array.replicate 124 none
  statics := none }

def pool1 : Array CpInfo := pool [(2, .class_ 4), (1, u "java/lang/Object"), (0, u "<init>"), (0, u "()V"), (0, .long 10), (1, .long 100), (1, .long 1000), (1, .long 10000), (1, .long 100000), (1, .long 1000000), (1, .long 10000000), (1, .long 100000000), (1, .long 1000000000), (1, .methodref 26 27), (0, .class_ 28), (0, .nameAndType 29 30), (0, u "java/lang/Math"), (0, u "abs"), (0, u "(J)J"), (0, .methodref 32 33), (0, .class_ 34), (0, .nameAndType 35 36), (0, u "com/example/saga/saga/server/SurfaceUrisJsonTimeMapPinLaw"), (0, u "digits"), (0, u "(J)I"), (0, .methodref 38 39), (0, .class_ 40), (0, .nameAndType 41 42), (0, u "java/lang/String"), (0, u "charAt"), (0, u "(I)C"), (0, .methodref 32 44), (0, .nameAndType 45 46), (0, u "expectedAt"), (0, u "(II)C"), (0, .methodref 38 48), (0, .nameAndType 49 50), (0, u "valueOf"), (0, u "(C)Ljava/lang/String;"), (0, .methodref 38 52), (0, .nameAndType 5 53), (0, u "([C)V"), (0, .class_ 55), (0, u "com/example/saga/saga/server/SurfaceUris"), (0, .methodref 54 57), (0, .nameAndType 5 58), (0, u "(Ljava/lang/String;)V"), (0, .methodref 54 60), (0, .nameAndType 61 62), (0, u "jsonTimeMap"), (0, u "(Ljava/lang/String;I)Ljava/lang/String;"), (0, .methodref 32 64), (0, .nameAndType 65 66), (0, u "decimalLength"), (0, u "(I)I"), (0, .methodref 38 68), (0, .nameAndType 69 70), (0, u "length"), (0, u "()I"), (0, .methodref 32 72), (0, .nameAndType 73 74), (0, u "numAt"), (0, u "(Ljava/lang/String;III)Z"), (3, u "law"), (0, u "(IIII)Z")] 2

def k1m0 : Method := { name := "<init>", desc := "()V", sig := { parameters := [], returnType := none }, accessFlags := 2, code := none }
def k1c1 : Code := { maxStack := 4, maxLocals := 2, code := method_2_code, exceptionTable := #[], attributes := #[] }
def k1m1 : Method := { name := "digits", desc := "(J)I", sig := { parameters := [.long], returnType := some .int }, accessFlags := 10, code := some k1c1 }
def k1c2 : Code := { maxStack := 2, maxLocals := 3, code := method_3_code, exceptionTable := #[], attributes := #[] }
def k1m2 : Method := { name := "decimalLength", desc := "(I)I", sig := { parameters := [.int], returnType := some .int }, accessFlags := 10, code := some k1c2 }
def k1c3 : Code := { maxStack := 5, maxLocals := 11, code := method_4_code, exceptionTable := #[], attributes := #[] }
def k1m3 : Method := { name := "expectedAt", desc := "(II)C", sig := { parameters := [.int, .int], returnType := some .char }, accessFlags := 10, code := some k1c3 }
def k1c4 : Code := { maxStack := 3, maxLocals := 4, code := method_5_code, exceptionTable := #[], attributes := #[] }
def k1m4 : Method := { name := "numAt", desc := "(Ljava/lang/String;III)Z", sig := { parameters := [(.object "java/lang/String"), .int, .int, .int], returnType := some .boolean }, accessFlags := 10, code := some k1c4 }
def k1c5 : Code := { maxStack := 6, maxLocals := 18, code := code, exceptionTable := #[], attributes := #[] }
def k1m5 : Method := { name := "law", desc := "(IIII)Z", sig := { parameters := [.int, .int, .int, .int], returnType := some .boolean }, accessFlags := 9, code := some k1c5 }
/-- com/example/saga/saga/server/SurfaceUrisJsonTimeMapPinLaw -/
def k1 : Class := { plain "com/example/saga/saga/server/SurfaceUrisJsonTimeMapPinLaw" (some 0) with
  accessFlags := 49
  interfaces := #[]
  cf := some (fileOf pool1 32 #[] #[{ accessFlags := 2, nameIndex := 5, descriptorIndex := 6, attributes := #[] }, { accessFlags := 10, nameIndex := 35, descriptorIndex := 36, attributes := #[] }, { accessFlags := 10, nameIndex := 65, descriptorIndex := 66, attributes := #[] }, { accessFlags := 10, nameIndex := 45, descriptorIndex := 46, attributes := #[] }, { accessFlags := 10, nameIndex := 73, descriptorIndex := 74, attributes := #[] }, { accessFlags := 9, nameIndex := 78, descriptorIndex := 79, attributes := #[] }] 49 2 #[] #[])
  fields := #[]
  methods := #[k1m0, k1m1, k1m2, k1m3, k1m4, k1m5]
  instanceTypes := #[]
  staticTypes := #[]
  resolved := Array.replicate 82 none
  statics := none }

def pool2 : Array CpInfo := pool [(1, .class_ 2), (0, u "java/io/Serializable"), (0, .class_ 4), (0, u "java/lang/Object")] 2

/-- java/io/Serializable -/
def k2 : Class := { plain "java/io/Serializable" (some 0) with
  accessFlags := 1537
  interfaces := #[]
  cf := some (fileOf pool2 1 #[] #[] 1537 3 #[] #[])
  fields := #[]
  methods := #[]
  instanceTypes := #[]
  staticTypes := #[]
  resolved := Array.replicate 7 none
  statics := none }

def pool3 : Array CpInfo := pool [(1, .class_ 2), (0, u "java/lang/Comparable"), (0, .class_ 4), (0, u "java/lang/Object")] 7

/-- java/lang/Comparable -/
def k3 : Class := { plain "java/lang/Comparable" (some 0) with
  accessFlags := 1537
  interfaces := #[]
  cf := some (fileOf pool3 1 #[] #[] 1537 3 #[] #[])
  fields := #[]
  methods := #[]
  instanceTypes := #[]
  staticTypes := #[]
  resolved := Array.replicate 12 none
  statics := none }

def pool4 : Array CpInfo := pool [(2, .class_ 4), (1, u "java/lang/CharSequence"), (42, .class_ 48), (0, u "java/lang/CharSequence$1CodePointIterator"), (10, .class_ 60), (0, u "java/lang/CharSequence$1CharIterator"), (5, .class_ 67), (0, u "java/lang/Object")] 63

/-- java/lang/CharSequence -/
def k4 : Class := { plain "java/lang/CharSequence" (some 0) with
  accessFlags := 1537
  interfaces := #[]
  cf := some (fileOf pool4 2 #[.nestMembers #[47, 59]] #[] 1537 66 #[] #[])
  fields := #[]
  methods := #[]
  instanceTypes := #[]
  staticTypes := #[]
  resolved := Array.replicate 131 none
  statics := none }

def pool5 : Array CpInfo := pool [(1, .class_ 2), (0, u "java/lang/constant/Constable"), (0, .class_ 4), (0, u "java/lang/Object")] 6

/-- java/lang/constant/Constable -/
def k5 : Class := { plain "java/lang/constant/Constable" (some 0) with
  accessFlags := 1537
  interfaces := #[]
  cf := some (fileOf pool5 1 #[] #[] 1537 3 #[] #[])
  fields := #[]
  methods := #[]
  instanceTypes := #[]
  staticTypes := #[]
  resolved := Array.replicate 11 none
  statics := none }

def pool6 : Array CpInfo := pool [(1, .class_ 2), (0, u "java/lang/constant/ConstantDesc"), (0, .class_ 4), (0, u "java/lang/Object")] 32

/-- java/lang/constant/ConstantDesc -/
def k6 : Class := { plain "java/lang/constant/ConstantDesc" (some 0) with
  accessFlags := 1537
  interfaces := #[]
  cf := some (fileOf pool6 1 #[] #[] 1537 3 #[] #[])
  fields := #[]
  methods := #[]
  instanceTypes := #[]
  staticTypes := #[]
  resolved := Array.replicate 37 none
  statics := none }

def pool7 : Array CpInfo := pool [(1, .methodref 2 3), (0, .class_ 4), (0, .nameAndType 5 6), (0, u "java/lang/Object"), (0, u "<init>"), (0, u "()V"), (2, .fieldref 10 11), (0, .class_ 12), (0, .nameAndType 13 14), (0, u "java/lang/String"), (0, u "value"), (0, u "[B"), (0, .fieldref 10 16), (0, .nameAndType 17 18), (0, u "coder"), (0, u "B"), (2, u "hash"), (0, u "I"), (2, u "hashIsZero"), (0, u "Z"), (0, .methodref 10 28), (0, .nameAndType 5 29), (0, u "([CIILjava/lang/Void;)V"), (8, .fieldref 10 39), (0, .nameAndType 40 26), (0, u "COMPACT_STRINGS"), (1, .class_ 44), (1, u "java/lang/StringUTF16"), (0, u "compress"), (1, .methodref 42 48), (0, .nameAndType 49 50), (0, u "coderFromArrayLen"), (0, u "([BI)B"), (2, u "toBytes"), (0, .methodref 55 56), (0, .class_ 57), (0, .nameAndType 58 59), (0, u "java/util/Arrays"), (0, u "copyOfRange"), (0, u "([BII)[B"), (47, .class_ 109), (1, u "java/lang/StringLatin1"), (32, u "()Z"), (34, .methodref 42 178), (0, .nameAndType 45 179), (0, u "([CII)[B"), (13, .class_ 195), (1, u "java/lang/System"), (13, .methodref 10 210), (0, .nameAndType 5 211), (0, u "([BB)V"), (0, .methodref 193 213), (0, .nameAndType 214 215), (0, u "arraycopy"), (0, u "(Ljava/lang/Object;ILjava/lang/Object;II)V"), (118, u "()I"), (0, .methodref 10 336), (0, .nameAndType 17 337), (0, u "()B"), (2, u "()[B"), (22, u "([BI)C"), (5, u "(C)Z"), (21, u "(II)V"), (35, u "(I)C"), (61, .methodref 10 490), (0, .nameAndType 5 491), (0, u "(Ljava/lang/AbstractStringBuilder;Ljava/lang/Void;)V"), (0, .methodref 10 493), (0, .nameAndType 494 142), (0, u "isLatin1"), (0, .methodref 107 496), (0, .nameAndType 497 363), (0, u "charAt"), (3, u "checkIndex"), (4, .nameAndType 507 334), (0, u "length"), (24, u "getBytes"), (16, .methodref 550 506), (0, .class_ 551), (0, u "java/lang/AbstractStringBuilder"), (0, .methodref 550 553), (0, .nameAndType 554 340), (0, u "getValue"), (20, .class_ 576), (0, u "java/lang/CharSequence"), (22, u "CASE_INSENSITIVE_ORDER"), (0, u "Ljava/util/Comparator;"), (181, u "valueOf"), (0, u "(C)Ljava/lang/String;"), (37, u "([BIB)V"), (188, u "([C)V"), (4, .methodref 107 1016), (0, .nameAndType 1017 369), (0, u "canEncode"), (0, .methodref 107 1019), (0, .nameAndType 53 1020), (0, u "(C)[B"), (26, .methodref 550 493), (5, .fieldref 1054 1055), (0, .class_ 1056), (0, .nameAndType 1057 1058), (0, u "jdk/internal/util/Preconditions"), (0, u "SIOOBE_FORMATTER"), (0, u "Ljava/util/function/BiFunction;"), (0, .methodref 1054 1060), (0, .nameAndType 501 1061), (0, u "(IILjava/util/function/BiFunction;)I"), (39, u "serialPersistentFields"), (0, u "[Ljava/io/ObjectStreamField;"), (0, .class_ 1104), (0, u "java/lang/String$CaseInsensitiveComparator"), (1, .class_ 1107), (0, u "java/io/Serializable"), (0, .class_ 1109), (0, u "java/lang/Comparable"), (0, .class_ 1111), (0, u "java/lang/constant/Constable"), (0, .class_ 1113), (0, u "java/lang/constant/ConstantDesc"), (2, u "serialVersionUID"), (0, u "J"), (3, u "REPL"), (0, u "C"), (2, u "LATIN1"), (1, u "UTF16"), (105, u "(Ljava/lang/StringBuilder;)V")] 217

def k7m0 : Method := { name := "<init>", desc := "()V", sig := { parameters := [], returnType := none }, accessFlags := 1, code := none }
def k7c1 : Code := { maxStack := 5, maxLocals := 2, code := jdk_42_method_3_code, exceptionTable := #[], attributes := #[] }
def k7m1 : Method := { name := "<init>", desc := "([C)V", sig := { parameters := [(.array .char)], returnType := none }, accessFlags := 1, code := some k7c1 }
def k7c2 : Code := { maxStack := 3, maxLocals := 2, code := jdk_42_method_53_code, exceptionTable := #[], attributes := #[] }
def k7m2 : Method := { name := "<init>", desc := "(Ljava/lang/StringBuilder;)V", sig := { parameters := [(.object "java/lang/StringBuilder")], returnType := none }, accessFlags := 1, code := some k7c2 }
def k7c3 : Code := { maxStack := 2, maxLocals := 1, code := jdk_42_method_54_code, exceptionTable := #[], attributes := #[] }
def k7m3 : Method := { name := "length", desc := "()I", sig := { parameters := [], returnType := some .int }, accessFlags := 1, code := some k7c3 }
def k7c4 : Code := { maxStack := 2, maxLocals := 2, code := jdk_42_method_56_code, exceptionTable := #[], attributes := #[] }
def k7m4 : Method := { name := "charAt", desc := "(I)C", sig := { parameters := [.int], returnType := some .char }, accessFlags := 1, code := some k7c4 }
def k7c5 : Code := { maxStack := 4, maxLocals := 1, code := jdk_42_method_139_code, exceptionTable := #[], attributes := #[] }
def k7m5 : Method := { name := "valueOf", desc := "(C)Ljava/lang/String;", sig := { parameters := [.char], returnType := some (.object "java/lang/String") }, accessFlags := 9, code := some k7c5 }
def k7c6 : Code := { maxStack := 5, maxLocals := 4, code := jdk_42_method_147_code, exceptionTable := #[], attributes := #[] }
def k7m6 : Method := { name := "getBytes", desc := "([BIB)V", sig := { parameters := [(.array .byte), .int, .byte], returnType := none }, accessFlags := 0, code := some k7c6 }
def k7c7 : Code := { maxStack := 4, maxLocals := 6, code := jdk_42_method_149_code, exceptionTable := #[], attributes := #[] }
def k7m7 : Method := { name := "<init>", desc := "([CIILjava/lang/Void;)V", sig := { parameters := [(.array .char), .int, .int, (.object "java/lang/Void")], returnType := none }, accessFlags := 2, code := some k7c7 }
def k7c8 : Code := { maxStack := 5, maxLocals := 5, code := jdk_42_method_150_code, exceptionTable := #[], attributes := #[] }
def k7m8 : Method := { name := "<init>", desc := "(Ljava/lang/AbstractStringBuilder;Ljava/lang/Void;)V", sig := { parameters := [(.object "java/lang/AbstractStringBuilder"), (.object "java/lang/Void")], returnType := none }, accessFlags := 0, code := some k7c8 }
def k7c9 : Code := { maxStack := 2, maxLocals := 3, code := jdk_42_method_151_code, exceptionTable := #[], attributes := #[] }
def k7m9 : Method := { name := "<init>", desc := "([BB)V", sig := { parameters := [(.array .byte), .byte], returnType := none }, accessFlags := 0, code := some k7c9 }
def k7c10 : Code := { maxStack := 1, maxLocals := 1, code := jdk_42_method_152_code, exceptionTable := #[], attributes := #[] }
def k7m10 : Method := { name := "coder", desc := "()B", sig := { parameters := [], returnType := some .byte }, accessFlags := 0, code := some k7c10 }
def k7c11 : Code := { maxStack := 1, maxLocals := 1, code := jdk_42_method_154_code, exceptionTable := #[], attributes := #[] }
def k7m11 : Method := { name := "isLatin1", desc := "()Z", sig := { parameters := [], returnType := some .boolean }, accessFlags := 0, code := some k7c11 }
def k7c12 : Code := { maxStack := 3, maxLocals := 2, code := jdk_42_method_155_code, exceptionTable := #[], attributes := #[] }
def k7m12 : Method := { name := "checkIndex", desc := "(II)V", sig := { parameters := [.int, .int], returnType := none }, accessFlags := 8, code := some k7c12 }
/-- java/lang/String -/
def k7 : Class := { plain "java/lang/String" (some 0) with
  accessFlags := 49
  interfaces := #[2, 3, 4, 5, 6]
  cf := some (fileOf pool7 10 #[.nestMembers #[1103]] #[{ accessFlags := 1, nameIndex := 5, descriptorIndex := 6, attributes := #[] }, { accessFlags := 1, nameIndex := 5, descriptorIndex := 1010, attributes := #[] }, { accessFlags := 1, nameIndex := 5, descriptorIndex := 1233, attributes := #[] }, { accessFlags := 1, nameIndex := 507, descriptorIndex := 334, attributes := #[] }, { accessFlags := 1, nameIndex := 497, descriptorIndex := 427, attributes := #[] }, { accessFlags := 9, nameIndex := 782, descriptorIndex := 783, attributes := #[] }, { accessFlags := 0, nameIndex := 532, descriptorIndex := 821, attributes := #[] }, { accessFlags := 2, nameIndex := 5, descriptorIndex := 29, attributes := #[] }, { accessFlags := 0, nameIndex := 5, descriptorIndex := 491, attributes := #[] }, { accessFlags := 0, nameIndex := 5, descriptorIndex := 211, attributes := #[] }, { accessFlags := 0, nameIndex := 17, descriptorIndex := 337, attributes := #[] }, { accessFlags := 0, nameIndex := 494, descriptorIndex := 142, attributes := #[] }, { accessFlags := 8, nameIndex := 501, descriptorIndex := 391, attributes := #[] }] 49 2 #[1106, 1108, 575, 1110, 1112] #[{ accessFlags := 18, nameIndex := 13, descriptorIndex := 14, attributes := #[] }, { accessFlags := 18, nameIndex := 17, descriptorIndex := 18, attributes := #[] }, { accessFlags := 2, nameIndex := 21, descriptorIndex := 22, attributes := #[] }, { accessFlags := 2, nameIndex := 25, descriptorIndex := 26, attributes := #[] }, { accessFlags := 26, nameIndex := 1116, descriptorIndex := 1117, attributes := #[] }, { accessFlags := 24, nameIndex := 40, descriptorIndex := 26, attributes := #[] }, { accessFlags := 26, nameIndex := 1101, descriptorIndex := 1102, attributes := #[] }, { accessFlags := 26, nameIndex := 1121, descriptorIndex := 1122, attributes := #[] }, { accessFlags := 25, nameIndex := 599, descriptorIndex := 600, attributes := #[] }, { accessFlags := 24, nameIndex := 1125, descriptorIndex := 18, attributes := #[] }, { accessFlags := 24, nameIndex := 1127, descriptorIndex := 18, attributes := #[] }])
  fields := #[{ name := "value", type := (.array .byte), accessFlags := 18, slot := 0, constantValue := 0 }, { name := "coder", type := .byte, accessFlags := 18, slot := 1, constantValue := 0 }, { name := "hash", type := .int, accessFlags := 2, slot := 2, constantValue := 0 }, { name := "hashIsZero", type := .boolean, accessFlags := 2, slot := 3, constantValue := 0 }, { name := "serialVersionUID", type := .long, accessFlags := 26, slot := 0, constantValue := 0 }, { name := "COMPACT_STRINGS", type := .boolean, accessFlags := 24, slot := 1, constantValue := 0 }, { name := "serialPersistentFields", type := (.array (.object "java/io/ObjectStreamField")), accessFlags := 26, slot := 2, constantValue := 0 }, { name := "REPL", type := .char, accessFlags := 26, slot := 3, constantValue := 0 }, { name := "CASE_INSENSITIVE_ORDER", type := (.object "java/util/Comparator"), accessFlags := 25, slot := 4, constantValue := 0 }, { name := "LATIN1", type := .byte, accessFlags := 24, slot := 5, constantValue := 0 }, { name := "UTF16", type := .byte, accessFlags := 24, slot := 6, constantValue := 0 }]
  methods := #[k7m0, k7m1, k7m2, k7m3, k7m4, k7m5, k7m6, k7m7, k7m8, k7m9, k7m10, k7m11, k7m12]
  instanceTypes := #[(.array .byte), .byte, .int, .boolean]
  staticTypes := #[.long, .boolean, (.array (.object "java/io/ObjectStreamField")), .char, (.object "java/util/Comparator"), .byte, .byte]
  resolved := Array.replicate 1451 none
  statics := some 0 }

def pool8 : Array CpInfo := pool [(1, .class_ 2), (0, u "java/lang/String"), (1, .class_ 6), (1, u "java/lang/Object"), (0, u "<init>"), (0, u "()V"), (0, .methodref 1 10), (0, .nameAndType 11 12), (0, u "checkIndex"), (0, u "(II)V"), (1, .class_ 16), (1, u "java/lang/StringLatin1"), (36, u "([BI)C"), (36, u "canEncode"), (14, u "(C)Z"), (15, u "$assertionsDisabled"), (0, u "Z"), (98, .class_ 223), (1, u "java/lang/StringLatin1$LinesSpliterator"), (28, u "charAt"), (127, u "toBytes"), (1, u "(C)[B"), (7, .class_ 391), (0, u "java/lang/StringLatin1$CharsSpliterator")] 3

def k8m0 : Method := { name := "<init>", desc := "()V", sig := { parameters := [], returnType := none }, accessFlags := 0, code := none }
def k8c1 : Code := { maxStack := 2, maxLocals := 2, code := jdk_43_method_2_code, exceptionTable := #[], attributes := #[] }
def k8m1 : Method := { name := "charAt", desc := "([BI)C", sig := { parameters := [(.array .byte), .int], returnType := some .char }, accessFlags := 9, code := some k8c1 }
def k8c2 : Code := { maxStack := 2, maxLocals := 1, code := jdk_43_method_3_code, exceptionTable := #[], attributes := #[] }
def k8m2 : Method := { name := "canEncode", desc := "(C)Z", sig := { parameters := [.char], returnType := some .boolean }, accessFlags := 9, code := some k8c2 }
def k8c3 : Code := { maxStack := 4, maxLocals := 1, code := jdk_43_method_46_code, exceptionTable := #[], attributes := #[] }
def k8m3 : Method := { name := "toBytes", desc := "(C)[B", sig := { parameters := [.char], returnType := some (.array .byte) }, accessFlags := 9, code := some k8c3 }
/-- java/lang/StringLatin1 -/
def k8 : Class := { plain "java/lang/StringLatin1" (some 0) with
  accessFlags := 48
  interfaces := #[]
  cf := some (fileOf pool8 14 #[.nestMembers #[390, 221]] #[{ accessFlags := 0, nameIndex := 7, descriptorIndex := 8, attributes := #[] }, { accessFlags := 9, nameIndex := 252, descriptorIndex := 53, attributes := #[] }, { accessFlags := 9, nameIndex := 90, descriptorIndex := 105, attributes := #[] }, { accessFlags := 9, nameIndex := 380, descriptorIndex := 382, attributes := #[] }] 48 4 #[] #[{ accessFlags := 4120, nameIndex := 121, descriptorIndex := 122, attributes := #[] }])
  fields := #[{ name := "$assertionsDisabled", type := .boolean, accessFlags := 4120, slot := 0, constantValue := 0 }]
  methods := #[k8m0, k8m1, k8m2, k8m3]
  instanceTypes := #[]
  staticTypes := #[.boolean]
  resolved := Array.replicate 395 none
  statics := none }

def pool9 : Array CpInfo := pool [(6, .class_ 8), (1, u "java/lang/Object"), (0, u "<init>"), (0, u "()V"), (1, .class_ 14), (1, u "java/lang/StringUTF16"), (31, u "$assertionsDisabled"), (0, u "Z"), (13, u "HI_BYTE_SHIFT"), (0, u "I"), (2, u "LO_BYTE_SHIFT"), (49, .methodref 12 116), (0, .nameAndType 117 118), (0, u "compress"), (0, u "([CI[BII)I"), (3, u "([CII)[B"), (138, u "coderFromArrayLen"), (0, u "([BI)B"), (106, .class_ 371), (1, u "java/lang/StringUTF16$LinesSpliterator"), (58, u "MAX_LENGTH"), (196, .class_ 628), (0, u "java/lang/StringUTF16$CodePointsSpliterator"), (0, .class_ 630), (0, u "java/lang/StringUTF16$CharsSpliterator")] 4

def k9m0 : Method := { name := "<init>", desc := "()V", sig := { parameters := [], returnType := none }, accessFlags := 0, code := none }
def k9c1 : Code := { maxStack := 2, maxLocals := 2, code := jdk_52_method_15_code, exceptionTable := #[], attributes := #[] }
def k9m1 : Method := { name := "coderFromArrayLen", desc := "([BI)B", sig := { parameters := [(.array .byte), .int], returnType := some .byte }, accessFlags := 8, code := some k9c1 }
def k9c2 : Code := { maxStack := 5, maxLocals := 6, code := jdk_52_method_16_code, exceptionTable := #[], attributes := #[] }
def k9m2 : Method := { name := "compress", desc := "([CII)[B", sig := { parameters := [(.array .char), .int, .int], returnType := some (.array .byte) }, accessFlags := 9, code := some k9c2 }
def k9c3 : Code := { maxStack := 3, maxLocals := 7, code := jdk_52_method_21_code, exceptionTable := #[], attributes := #[] }
def k9m3 : Method := { name := "compress", desc := "([CI[BII)I", sig := { parameters := [(.array .char), .int, (.array .byte), .int, .int], returnType := some .int }, accessFlags := 9, code := some k9c3 }
/-- java/lang/StringUTF16 -/
def k9 : Class := { plain "java/lang/StringUTF16" (some 0) with
  accessFlags := 48
  interfaces := #[]
  cf := some (fileOf pool9 12 #[.nestMembers #[627, 629, 369]] #[{ accessFlags := 0, nameIndex := 9, descriptorIndex := 10, attributes := #[] }, { accessFlags := 8, nameIndex := 261, descriptorIndex := 262, attributes := #[] }, { accessFlags := 9, nameIndex := 117, descriptorIndex := 122, attributes := #[] }, { accessFlags := 9, nameIndex := 117, descriptorIndex := 118, attributes := #[] }] 48 6 #[] #[{ accessFlags := 26, nameIndex := 61, descriptorIndex := 62, attributes := #[] }, { accessFlags := 26, nameIndex := 65, descriptorIndex := 62, attributes := #[] }, { accessFlags := 24, nameIndex := 430, descriptorIndex := 62, attributes := #[] }, { accessFlags := 4120, nameIndex := 46, descriptorIndex := 47, attributes := #[] }])
  fields := #[{ name := "HI_BYTE_SHIFT", type := .int, accessFlags := 26, slot := 0, constantValue := 0 }, { name := "LO_BYTE_SHIFT", type := .int, accessFlags := 26, slot := 1, constantValue := 0 }, { name := "MAX_LENGTH", type := .int, accessFlags := 24, slot := 2, constantValue := 0 }, { name := "$assertionsDisabled", type := .boolean, accessFlags := 4120, slot := 3, constantValue := 0 }]
  methods := #[k9m0, k9m1, k9m2, k9m3]
  instanceTypes := #[]
  staticTypes := #[.int, .int, .int, .boolean]
  resolved := Array.replicate 635 none
  statics := none }

def pool10 : Array CpInfo := pool [(1, .methodref 2 3), (0, .class_ 4), (0, .nameAndType 5 6), (0, u "java/lang/Object"), (0, u "<init>"), (0, u "()V"), (0, .class_ 8), (0, u "java/lang/StringBuilder"), (0, .methodref 7 3), (0, .string 11), (0, u "http://"), (0, .methodref 7 13), (0, .nameAndType 14 15), (0, u "append"), (0, u "(Ljava/lang/String;)Ljava/lang/StringBuilder;"), (0, .methodref 7 17), (0, .nameAndType 18 19), (0, u "toString"), (0, u "()Ljava/lang/String;"), (0, .fieldref 21 22), (0, .class_ 23), (0, .nameAndType 24 25), (0, u "com/example/saga/saga/server/SurfaceUris"), (0, u "base"), (0, u "Ljava/lang/String;"), (3, u "(Ljava/lang/String;I)Ljava/lang/String;"), (2, .methodref 21 33), (0, .nameAndType 34 35), (0, u "pageNumber"), (0, u "(I)Ljava/lang/String;"), (2, u "jsonTimeMap"), (0, .string 40), (0, u "/timemap/json/"), (16, .string 58), (0, u "/"), (3, .string 63), (0, u ""), (0, .methodref 7 65), (0, .nameAndType 14 66), (0, u "(I)Ljava/lang/StringBuilder;"), (0, u "LINK_TIMEMAP"), (1, u "JSON_TIMEMAP"), (0, u "TIMEGATE"), (0, u "MEMENTO"), (0, u "CAPTURES"), (2, u "(Ljava/lang/String;)V")] 11

def k10c0 : Code := { maxStack := 3, maxLocals := 2, code := prog_12_method_1_code, exceptionTable := #[], attributes := #[] }
def k10m0 : Method := { name := "<init>", desc := "(Ljava/lang/String;)V", sig := { parameters := [(.object "java/lang/String")], returnType := none }, accessFlags := 0, code := some k10c0 }
def k10c1 : Code := { maxStack := 2, maxLocals := 3, code := prog_12_method_5_code, exceptionTable := #[], attributes := #[] }
def k10m1 : Method := { name := "jsonTimeMap", desc := "(Ljava/lang/String;I)Ljava/lang/String;", sig := { parameters := [(.object "java/lang/String"), .int], returnType := some (.object "java/lang/String") }, accessFlags := 0, code := some k10c1 }
def k10c2 : Code := { maxStack := 2, maxLocals := 1, code := prog_12_method_8_code, exceptionTable := #[], attributes := #[] }
def k10m2 : Method := { name := "pageNumber", desc := "(I)Ljava/lang/String;", sig := { parameters := [.int], returnType := some (.object "java/lang/String") }, accessFlags := 10, code := some k10c2 }
/-- com/example/saga/saga/server/SurfaceUris -/
def k10 : Class := { plain "com/example/saga/saga/server/SurfaceUris" (some 0) with
  accessFlags := 48
  interfaces := #[]
  cf := some (fileOf pool10 21 #[] #[{ accessFlags := 0, nameIndex := 5, descriptorIndex := 75, attributes := #[] }, { accessFlags := 0, nameIndex := 38, descriptorIndex := 29, attributes := #[] }, { accessFlags := 10, nameIndex := 34, descriptorIndex := 35, attributes := #[] }] 48 2 #[] #[{ accessFlags := 24, nameIndex := 67, descriptorIndex := 25, attributes := #[] }, { accessFlags := 24, nameIndex := 69, descriptorIndex := 25, attributes := #[] }, { accessFlags := 24, nameIndex := 70, descriptorIndex := 25, attributes := #[] }, { accessFlags := 24, nameIndex := 71, descriptorIndex := 25, attributes := #[] }, { accessFlags := 24, nameIndex := 72, descriptorIndex := 25, attributes := #[] }, { accessFlags := 18, nameIndex := 24, descriptorIndex := 25, attributes := #[] }])
  fields := #[{ name := "LINK_TIMEMAP", type := (.object "java/lang/String"), accessFlags := 24, slot := 0, constantValue := 0 }, { name := "JSON_TIMEMAP", type := (.object "java/lang/String"), accessFlags := 24, slot := 1, constantValue := 0 }, { name := "TIMEGATE", type := (.object "java/lang/String"), accessFlags := 24, slot := 2, constantValue := 0 }, { name := "MEMENTO", type := (.object "java/lang/String"), accessFlags := 24, slot := 3, constantValue := 0 }, { name := "CAPTURES", type := (.object "java/lang/String"), accessFlags := 24, slot := 4, constantValue := 0 }, { name := "base", type := (.object "java/lang/String"), accessFlags := 18, slot := 0, constantValue := 0 }]
  methods := #[k10m0, k10m1, k10m2]
  instanceTypes := #[(.object "java/lang/String")]
  staticTypes := #[(.object "java/lang/String"), (.object "java/lang/String"), (.object "java/lang/String"), (.object "java/lang/String"), (.object "java/lang/String")]
  resolved := Array.replicate 87 none
  statics := none }

def pool11 : Array CpInfo := pool [(1, .class_ 2), (0, u "java/lang/Appendable"), (0, .class_ 4), (0, u "java/lang/Object")] 9

/-- java/lang/Appendable -/
def k11 : Class := { plain "java/lang/Appendable" (some 0) with
  accessFlags := 1537
  interfaces := #[]
  cf := some (fileOf pool11 1 #[] #[] 1537 3 #[] #[])
  fields := #[]
  methods := #[]
  instanceTypes := #[]
  staticTypes := #[]
  resolved := Array.replicate 14 none
  statics := none }

def pool12 : Array CpInfo := pool [(1, .class_ 2), (0, u "java/lang/String"), (0, .methodref 4 5), (0, .class_ 6), (0, .nameAndType 7 8), (0, u "java/lang/Object"), (0, u "<init>"), (0, u "()V"), (1, .class_ 12), (1, u "java/lang/AbstractStringBuilder"), (0, u "EMPTYVALUE"), (0, u "[B"), (0, .fieldref 10 16), (0, .nameAndType 17 14), (0, u "value"), (0, .fieldref 1 19), (0, .nameAndType 20 21), (0, u "COMPACT_STRINGS"), (0, u "Z"), (0, .fieldref 10 23), (0, .nameAndType 24 25), (0, u "coder"), (0, u "B"), (6, .methodref 1 33), (0, .nameAndType 34 35), (0, u "length"), (0, u "()I"), (0, .class_ 37), (0, u "java/lang/Integer"), (1, .integer 2147483647), (0, .methodref 1 41), (0, .nameAndType 24 42), (0, u "()B"), (2, u "append"), (0, u "(Ljava/lang/String;)Ljava/lang/AbstractStringBuilder;"), (1, .class_ 49), (0, u "java/lang/CharSequence"), (19, u "(Ljava/lang/String;)V"), (5, u "maybeLatin1"), (3, .fieldref 10 80), (0, .nameAndType 81 82), (0, u "count"), (0, u "I"), (0, .methodref 10 84), (0, .nameAndType 85 86), (0, u "isLatin1"), (0, u "()Z"), (13, .methodref 10 101), (0, .nameAndType 102 103), (0, u "ensureCapacityInternal"), (0, u "(I)V"), (0, .methodref 10 105), (0, .nameAndType 106 107), (0, u "newCapacity"), (0, u "(I)I"), (0, .methodref 109 110), (0, .class_ 111), (0, .nameAndType 112 113), (0, u "java/util/Arrays"), (0, u "copyOf"), (0, u "([BI)[B"), (0, .methodref 115 116), (0, .class_ 117), (0, .nameAndType 118 119), (0, u "jdk/internal/util/ArraysSupport"), (0, u "newLength"), (0, u "(III)I"), (68, u "getChars"), (19, .methodref 10 209), (0, .nameAndType 210 211), (0, u "putStringAt"), (0, u "(ILjava/lang/String;)V"), (5, u "inflateIfNeededFor"), (2, .nameAndType 221 222), (0, u "getBytes"), (0, u "([BIB)V"), (22, .methodref 36 246), (0, .nameAndType 247 107), (0, u "stringSize"), (0, .methodref 36 249), (0, .nameAndType 188 250), (0, u "(II[B)I"), (146, .methodref 10 398), (0, .nameAndType 217 69), (0, .methodref 1 220), (3, u "()[B"), (40, .class_ 445), (0, u "java/lang/Appendable"), (65, u "(I)Ljava/lang/AbstractStringBuilder;"), (40, u "getValue")] 56

def k12m0 : Method := { name := "<init>", desc := "()V", sig := { parameters := [], returnType := none }, accessFlags := 0, code := none }
def k12c1 : Code := { maxStack := 2, maxLocals := 2, code := jdk_68_method_2_code, exceptionTable := #[], attributes := #[] }
def k12m1 : Method := { name := "<init>", desc := "(I)V", sig := { parameters := [.int], returnType := none }, accessFlags := 0, code := some k12c1 }
def k12c2 : Code := { maxStack := 1, maxLocals := 1, code := jdk_68_method_6_code, exceptionTable := #[], attributes := #[] }
def k12m2 : Method := { name := "length", desc := "()I", sig := { parameters := [], returnType := some .int }, accessFlags := 1, code := some k12c2 }
def k12c3 : Code := { maxStack := 4, maxLocals := 3, code := jdk_68_method_9_code, exceptionTable := #[], attributes := #[] }
def k12m3 : Method := { name := "ensureCapacityInternal", desc := "(I)V", sig := { parameters := [.int], returnType := none }, accessFlags := 2, code := some k12c3 }
def k12c4 : Code := { maxStack := 5, maxLocals := 6, code := jdk_68_method_10_code, exceptionTable := #[], attributes := #[] }
def k12m4 : Method := { name := "newCapacity", desc := "(I)I", sig := { parameters := [.int], returnType := some .int }, accessFlags := 2, code := some k12c4 }
def k12c5 : Code := { maxStack := 3, maxLocals := 3, code := jdk_68_method_22_code, exceptionTable := #[], attributes := #[] }
def k12m5 : Method := { name := "append", desc := "(Ljava/lang/String;)Ljava/lang/AbstractStringBuilder;", sig := { parameters := [(.object "java/lang/String")], returnType := some (.object "java/lang/AbstractStringBuilder") }, accessFlags := 1, code := some k12c5 }
def k12c6 : Code := { maxStack := 4, maxLocals := 4, code := jdk_68_method_32_code, exceptionTable := #[], attributes := #[] }
def k12m6 : Method := { name := "append", desc := "(I)Ljava/lang/AbstractStringBuilder;", sig := { parameters := [.int], returnType := some (.object "java/lang/AbstractStringBuilder") }, accessFlags := 1, code := some k12c6 }
def k12c7 : Code := { maxStack := 1, maxLocals := 1, code := jdk_68_method_64_code, exceptionTable := #[], attributes := #[] }
def k12m7 : Method := { name := "getValue", desc := "()[B", sig := { parameters := [], returnType := some (.array .byte) }, accessFlags := 16, code := some k12c7 }
def k12c8 : Code := { maxStack := 1, maxLocals := 1, code := jdk_68_method_68_code, exceptionTable := #[], attributes := #[] }
def k12m8 : Method := { name := "isLatin1", desc := "()Z", sig := { parameters := [], returnType := some .boolean }, accessFlags := 16, code := some k12c8 }
def k12c9 : Code := { maxStack := 2, maxLocals := 2, code := jdk_68_method_71_code, exceptionTable := #[], attributes := #[] }
def k12m9 : Method := { name := "inflateIfNeededFor", desc := "(Ljava/lang/String;)V", sig := { parameters := [(.object "java/lang/String")], returnType := none }, accessFlags := 2, code := some k12c9 }
def k12c10 : Code := { maxStack := 4, maxLocals := 3, code := jdk_68_method_73_code, exceptionTable := #[], attributes := #[] }
def k12m10 : Method := { name := "putStringAt", desc := "(ILjava/lang/String;)V", sig := { parameters := [.int, (.object "java/lang/String")], returnType := none }, accessFlags := 2, code := some k12c10 }
/-- java/lang/AbstractStringBuilder -/
def k12 : Class := { plain "java/lang/AbstractStringBuilder" (some 0) with
  accessFlags := 1056
  interfaces := #[11, 4]
  cf := some (fileOf pool12 10 #[] #[{ accessFlags := 0, nameIndex := 7, descriptorIndex := 8, attributes := #[] }, { accessFlags := 0, nameIndex := 7, descriptorIndex := 103, attributes := #[] }, { accessFlags := 1, nameIndex := 34, descriptorIndex := 35, attributes := #[] }, { accessFlags := 2, nameIndex := 102, descriptorIndex := 103, attributes := #[] }, { accessFlags := 2, nameIndex := 106, descriptorIndex := 107, attributes := #[] }, { accessFlags := 1, nameIndex := 45, descriptorIndex := 46, attributes := #[] }, { accessFlags := 1, nameIndex := 45, descriptorIndex := 511, attributes := #[] }, { accessFlags := 16, nameIndex := 552, descriptorIndex := 403, attributes := #[] }, { accessFlags := 16, nameIndex := 85, descriptorIndex := 86, attributes := #[] }, { accessFlags := 2, nameIndex := 217, descriptorIndex := 69, attributes := #[] }, { accessFlags := 2, nameIndex := 210, descriptorIndex := 211, attributes := #[] }] 1056 4 #[444, 48] #[{ accessFlags := 0, nameIndex := 17, descriptorIndex := 14, attributes := #[] }, { accessFlags := 0, nameIndex := 24, descriptorIndex := 25, attributes := #[] }, { accessFlags := 0, nameIndex := 75, descriptorIndex := 21, attributes := #[] }, { accessFlags := 0, nameIndex := 81, descriptorIndex := 82, attributes := #[] }, { accessFlags := 26, nameIndex := 13, descriptorIndex := 14, attributes := #[] }])
  fields := #[{ name := "value", type := (.array .byte), accessFlags := 0, slot := 0, constantValue := 0 }, { name := "coder", type := .byte, accessFlags := 0, slot := 1, constantValue := 0 }, { name := "maybeLatin1", type := .boolean, accessFlags := 0, slot := 2, constantValue := 0 }, { name := "count", type := .int, accessFlags := 0, slot := 3, constantValue := 0 }, { name := "EMPTYVALUE", type := (.array .byte), accessFlags := 26, slot := 0, constantValue := 0 }]
  methods := #[k12m0, k12m1, k12m2, k12m3, k12m4, k12m5, k12m6, k12m7, k12m8, k12m9, k12m10]
  instanceTypes := #[(.array .byte), .byte, .boolean, .int]
  staticTypes := #[(.array .byte)]
  resolved := Array.replicate 609 none
  statics := none }

def pool13 : Array CpInfo := pool [(1, .methodref 2 3), (0, .class_ 4), (0, .nameAndType 5 6), (0, u "java/lang/AbstractStringBuilder"), (0, u "<init>"), (0, u "(I)V"), (11, .class_ 20), (1, u "java/lang/String"), (3, .class_ 26), (1, u "java/lang/StringBuilder"), (0, u "append"), (0, u "(Ljava/lang/String;)Ljava/lang/StringBuilder;"), (0, .methodref 2 30), (0, .nameAndType 27 31), (0, u "(Ljava/lang/String;)Ljava/lang/AbstractStringBuilder;"), (21, .methodref 2 54), (0, .nameAndType 27 55), (0, u "(I)Ljava/lang/AbstractStringBuilder;"), (81, .methodref 18 138), (0, .nameAndType 5 139), (0, u "(Ljava/lang/StringBuilder;)V"), (5, u "()V"), (10, u "()I"), (111, u "(I)Ljava/lang/StringBuilder;"), (74, .methodref 2 344), (0, .nameAndType 345 156), (0, u "length"), (3, .class_ 350), (0, u "java/lang/Appendable"), (0, .class_ 352), (0, u "java/io/Serializable"), (0, .class_ 354), (0, u "java/lang/Comparable"), (0, .class_ 356), (0, u "java/lang/CharSequence"), (0, u "serialVersionUID"), (0, u "J"), (40, u "toString"), (0, u "()Ljava/lang/String;")] 21

def k13c0 : Code := { maxStack := 2, maxLocals := 1, code := jdk_67_method_1_code, exceptionTable := #[], attributes := #[] }
def k13m0 : Method := { name := "<init>", desc := "()V", sig := { parameters := [], returnType := none }, accessFlags := 1, code := some k13c0 }
def k13c1 : Code := { maxStack := 2, maxLocals := 2, code := jdk_67_method_7_code, exceptionTable := #[], attributes := #[] }
def k13m1 : Method := { name := "append", desc := "(Ljava/lang/String;)Ljava/lang/StringBuilder;", sig := { parameters := [(.object "java/lang/String")], returnType := some (.object "java/lang/StringBuilder") }, accessFlags := 1, code := some k13c1 }
def k13c2 : Code := { maxStack := 2, maxLocals := 2, code := jdk_67_method_15_code, exceptionTable := #[], attributes := #[] }
def k13m2 : Method := { name := "append", desc := "(I)Ljava/lang/StringBuilder;", sig := { parameters := [.int], returnType := some (.object "java/lang/StringBuilder") }, accessFlags := 1, code := some k13c2 }
def k13c3 : Code := { maxStack := 3, maxLocals := 1, code := jdk_67_method_42_code, exceptionTable := #[], attributes := #[] }
def k13m3 : Method := { name := "toString", desc := "()Ljava/lang/String;", sig := { parameters := [], returnType := some (.object "java/lang/String") }, accessFlags := 1, code := some k13c3 }
def k13c4 : Code := { maxStack := 1, maxLocals := 1, code := jdk_67_method_93_code, exceptionTable := #[], attributes := #[] }
def k13m4 : Method := { name := "length", desc := "()I", sig := { parameters := [], returnType := some .int }, accessFlags := 4161, code := some k13c4 }
/-- java/lang/StringBuilder -/
def k13 : Class := { plain "java/lang/StringBuilder" (some 12) with
  accessFlags := 49
  interfaces := #[11, 2, 3, 4]
  cf := some (fileOf pool13 24 #[] #[{ accessFlags := 1, nameIndex := 5, descriptorIndex := 145, attributes := #[] }, { accessFlags := 1, nameIndex := 27, descriptorIndex := 28, attributes := #[] }, { accessFlags := 1, nameIndex := 27, descriptorIndex := 268, attributes := #[] }, { accessFlags := 1, nameIndex := 399, descriptorIndex := 400, attributes := #[] }, { accessFlags := 4161, nameIndex := 345, descriptorIndex := 156, attributes := #[] }] 49 2 #[349, 351, 353, 355] #[{ accessFlags := 24, nameIndex := 357, descriptorIndex := 358, attributes := #[] }])
  fields := #[{ name := "serialVersionUID", type := .long, accessFlags := 24, slot := 0, constantValue := 0 }]
  methods := #[k13m0, k13m1, k13m2, k13m3, k13m4]
  instanceTypes := #[(.array .byte), .byte, .boolean, .int]
  staticTypes := #[.long]
  resolved := Array.replicate 422 none
  statics := none }

def pool14 : Array CpInfo := pool [(2, .class_ 4), (1, u "java/lang/Object"), (0, u "<init>"), (0, u "()V"), (1, .class_ 10), (1, u "java/lang/System"), (0, u "allowSecurityManager"), (0, u "I"), (16, u "cons"), (0, u "Ljava/io/Console;"), (77, .class_ 110), (1, u "java/lang/System$CallersHolder"), (43, u "initialErrStream"), (0, u "Ljava/io/PrintStream;"), (19, u "security"), (0, u "Ljava/lang/SecurityManager;"), (31, .class_ 209), (0, u "java/lang/System$1"), (7, u "props"), (0, u "Ljava/util/Properties;"), (2, u "lineSeparator"), (0, u "Ljava/lang/String;"), (96, .class_ 321), (1, u "java/lang/System$LoggerFinder"), (5, .class_ 328), (0, u "java/lang/System$Logger"), (67, u "err"), (2, u "out"), (91, u "notSupportedJnuEncoding"), (15, u "in"), (17, u "initialIn"), (0, u "Ljava/io/InputStream;"), (35, u "bootLayer"), (0, u "Ljava/lang/ModuleLayer;"), (99, .class_ 664), (0, u "java/lang/System$2"), (9, u "NEVER"), (2, u "MAYBE"), (49, u "arraycopy"), (0, u "(Ljava/lang/Object;ILjava/lang/Object;II)V"), (72, .class_ 802), (0, u "java/lang/System$Logger$Level")] 31

def k14m0 : Method := { name := "<init>", desc := "()V", sig := { parameters := [], returnType := none }, accessFlags := 2, code := none }
def k14m1 : Method := { name := "arraycopy", desc := "(Ljava/lang/Object;ILjava/lang/Object;II)V", sig := { parameters := [(.object "java/lang/Object"), .int, (.object "java/lang/Object"), .int, .int], returnType := none }, accessFlags := 265, code := none }
/-- java/lang/System -/
def k14 : Class := { plain "java/lang/System" (some 0) with
  accessFlags := 49
  interfaces := #[]
  cf := some (fileOf pool14 8 #[.nestMembers #[319, 327, 801, 108, 663, 208]] #[{ accessFlags := 2, nameIndex := 5, descriptorIndex := 6, attributes := #[] }, { accessFlags := 265, nameIndex := 727, descriptorIndex := 728, attributes := #[] }] 49 2 #[] #[{ accessFlags := 25, nameIndex := 507, descriptorIndex := 526, attributes := #[] }, { accessFlags := 25, nameIndex := 399, descriptorIndex := 155, attributes := #[] }, { accessFlags := 25, nameIndex := 396, descriptorIndex := 155, attributes := #[] }, { accessFlags := 10, nameIndex := 525, descriptorIndex := 526, attributes := #[] }, { accessFlags := 26, nameIndex := 674, descriptorIndex := 12, attributes := #[] }, { accessFlags := 26, nameIndex := 677, descriptorIndex := 12, attributes := #[] }, { accessFlags := 10, nameIndex := 11, descriptorIndex := 12, attributes := #[] }, { accessFlags := 74, nameIndex := 175, descriptorIndex := 176, attributes := #[] }, { accessFlags := 10, nameIndex := 491, descriptorIndex := 222, attributes := #[] }, { accessFlags := 74, nameIndex := 29, descriptorIndex := 30, attributes := #[] }, { accessFlags := 74, nameIndex := 154, descriptorIndex := 155, attributes := #[] }, { accessFlags := 10, nameIndex := 217, descriptorIndex := 218, attributes := #[] }, { accessFlags := 10, nameIndex := 221, descriptorIndex := 222, attributes := #[] }, { accessFlags := 8, nameIndex := 562, descriptorIndex := 563, attributes := #[] }])
  fields := #[{ name := "in", type := (.object "java/io/InputStream"), accessFlags := 25, slot := 0, constantValue := 0 }, { name := "out", type := (.object "java/io/PrintStream"), accessFlags := 25, slot := 1, constantValue := 0 }, { name := "err", type := (.object "java/io/PrintStream"), accessFlags := 25, slot := 2, constantValue := 0 }, { name := "initialIn", type := (.object "java/io/InputStream"), accessFlags := 10, slot := 3, constantValue := 0 }, { name := "NEVER", type := .int, accessFlags := 26, slot := 4, constantValue := 0 }, { name := "MAYBE", type := .int, accessFlags := 26, slot := 5, constantValue := 0 }, { name := "allowSecurityManager", type := .int, accessFlags := 10, slot := 6, constantValue := 0 }, { name := "security", type := (.object "java/lang/SecurityManager"), accessFlags := 74, slot := 7, constantValue := 0 }, { name := "notSupportedJnuEncoding", type := (.object "java/lang/String"), accessFlags := 10, slot := 8, constantValue := 0 }, { name := "cons", type := (.object "java/io/Console"), accessFlags := 74, slot := 9, constantValue := 0 }, { name := "initialErrStream", type := (.object "java/io/PrintStream"), accessFlags := 74, slot := 10, constantValue := 0 }, { name := "props", type := (.object "java/util/Properties"), accessFlags := 10, slot := 11, constantValue := 0 }, { name := "lineSeparator", type := (.object "java/lang/String"), accessFlags := 10, slot := 12, constantValue := 0 }, { name := "bootLayer", type := (.object "java/lang/ModuleLayer"), accessFlags := 8, slot := 13, constantValue := 0 }]
  methods := #[k14m0, k14m1]
  instanceTypes := #[]
  staticTypes := #[(.object "java/io/InputStream"), (.object "java/io/PrintStream"), (.object "java/io/PrintStream"), (.object "java/io/InputStream"), .int, .int, .int, (.object "java/lang/SecurityManager"), (.object "java/lang/String"), (.object "java/io/Console"), (.object "java/io/PrintStream"), (.object "java/util/Properties"), (.object "java/lang/String"), (.object "java/lang/ModuleLayer")]
  resolved := Array.replicate 834 none
  statics := none }

def pool15 : Array CpInfo := pool [(2, .class_ 4), (1, u "java/lang/Object"), (0, u "<init>"), (0, u "()V"), (7, .class_ 16), (1, u "java/util/Arrays"), (57, .class_ 76), (1, u "java/util/Arrays$NaturalOrder"), (32, u "()Ljava/lang/Object;"), (3, .class_ 115), (1, u "java/util/Arrays$LegacyMergeSort"), (1, u "Z"), (10, .nameAndType 129 109), (0, u "clone"), (9, u "copyOfRange"), (10, .methodref 151 152), (0, .class_ 153), (0, .nameAndType 154 155), (0, u "java/lang/System"), (0, u "arraycopy"), (0, u "(Ljava/lang/Object;ILjava/lang/Object;II)V"), (146, u "copyOf"), (1, .methodref 305 306), (0, .class_ 307), (0, .nameAndType 308 309), (0, u "java/lang/Math"), (0, u "min"), (0, u "(II)I"), (0, .methodref 311 128), (0, .class_ 312), (0, u "[B"), (26, .methodref 14 340), (0, .nameAndType 341 342), (0, u "copyOfRangeByte"), (0, u "([BII)[B"), (0, .methodref 14 344), (0, .nameAndType 345 346), (0, u "checkLength"), (0, u "(II)V"), (28, .class_ 376), (0, u "java/util/Arrays$ArrayList"), (68, u "$assertionsDisabled"), (269, u "MIN_ARRAY_SORT_GRAN"), (0, u "I"), (2, u "INSERTIONSORT_THRESHOLD"), (149, u "([BI)[B"), (105, .class_ 976), (0, u "java/util/Arrays$ArrayItr")] 52

def k15m0 : Method := { name := "<init>", desc := "()V", sig := { parameters := [], returnType := none }, accessFlags := 2, code := none }
def k15c1 : Code := { maxStack := 6, maxLocals := 3, code := jdk_65_method_121_code, exceptionTable := #[], attributes := #[] }
def k15m1 : Method := { name := "copyOf", desc := "([BI)[B", sig := { parameters := [(.array .byte), .int], returnType := some (.array .byte) }, accessFlags := 9, code := some k15c1 }
def k15c2 : Code := { maxStack := 4, maxLocals := 2, code := jdk_65_method_131_code, exceptionTable := #[], attributes := #[] }
def k15m2 : Method := { name := "checkLength", desc := "(II)V", sig := { parameters := [.int, .int], returnType := none }, accessFlags := 10, code := some k15c2 }
def k15c3 : Code := { maxStack := 3, maxLocals := 3, code := jdk_65_method_132_code, exceptionTable := #[], attributes := #[] }
def k15m3 : Method := { name := "copyOfRange", desc := "([BII)[B", sig := { parameters := [(.array .byte), .int, .int], returnType := some (.array .byte) }, accessFlags := 9, code := some k15c3 }
def k15c4 : Code := { maxStack := 6, maxLocals := 5, code := jdk_65_method_133_code, exceptionTable := #[], attributes := #[] }
def k15m4 : Method := { name := "copyOfRangeByte", desc := "([BII)[B", sig := { parameters := [(.array .byte), .int, .int], returnType := some (.array .byte) }, accessFlags := 10, code := some k15c4 }
/-- java/util/Arrays -/
def k15 : Class := { plain "java/util/Arrays" (some 0) with
  accessFlags := 49
  interfaces := #[]
  cf := some (fileOf pool15 14 #[.nestMembers #[975, 375, 113, 74]] #[{ accessFlags := 2, nameIndex := 5, descriptorIndex := 6, attributes := #[] }, { accessFlags := 9, nameIndex := 302, descriptorIndex := 869, attributes := #[] }, { accessFlags := 10, nameIndex := 345, descriptorIndex := 346, attributes := #[] }, { accessFlags := 9, nameIndex := 139, descriptorIndex := 342, attributes := #[] }, { accessFlags := 10, nameIndex := 341, descriptorIndex := 342, attributes := #[] }] 49 2 #[] #[{ accessFlags := 26, nameIndex := 715, descriptorIndex := 716, attributes := #[] }, { accessFlags := 26, nameIndex := 719, descriptorIndex := 716, attributes := #[] }, { accessFlags := 4120, nameIndex := 445, descriptorIndex := 117, attributes := #[] }])
  fields := #[{ name := "MIN_ARRAY_SORT_GRAN", type := .int, accessFlags := 26, slot := 0, constantValue := 0 }, { name := "INSERTIONSORT_THRESHOLD", type := .int, accessFlags := 26, slot := 1, constantValue := 0 }, { name := "$assertionsDisabled", type := .boolean, accessFlags := 4120, slot := 2, constantValue := 0 }]
  methods := #[k15m0, k15m1, k15m2, k15m3, k15m4]
  instanceTypes := #[]
  staticTypes := #[.int, .int, .boolean]
  resolved := Array.replicate 1029 none
  statics := none }

def pool16 : Array CpInfo := pool [(1, .class_ 2), (0, u "java/lang/Math"), (1, .class_ 6), (1, u "java/lang/Object"), (0, u "<init>"), (0, u "()V"), (89, .class_ 100), (1, u "java/lang/Math$RandomNumberGeneratorHolder"), (23, u "abs"), (0, u "(J)J"), (46, u "negativeZeroFloatBits"), (0, u "J"), (2, u "negativeZeroDoubleBits"), (21, u "max"), (2, u "min"), (43, u "$assertionsDisabled"), (0, u "Z"), (88, u "(II)I"), (2, u "twoToTheDoubleScaleDown"), (0, u "D"), (4, u "twoToTheDoubleScaleUp"), (9, u "E"), (3, u "PI"), (2, u "TAU"), (2, u "DEGREES_TO_RADIANS"), (0, u "RADIANS_TO_DEGREES")] 94

def k16m0 : Method := { name := "<init>", desc := "()V", sig := { parameters := [], returnType := none }, accessFlags := 2, code := none }
def k16c1 : Code := { maxStack := 4, maxLocals := 2, code := jdk_29_method_61_code, exceptionTable := #[], attributes := #[] }
def k16m1 : Method := { name := "abs", desc := "(J)J", sig := { parameters := [.long], returnType := some .long }, accessFlags := 9, code := some k16c1 }
def k16c2 : Code := { maxStack := 2, maxLocals := 2, code := jdk_29_method_65_code, exceptionTable := #[], attributes := #[] }
def k16m2 : Method := { name := "max", desc := "(II)I", sig := { parameters := [.int, .int], returnType := some .int }, accessFlags := 9, code := some k16c2 }
def k16c3 : Code := { maxStack := 2, maxLocals := 2, code := jdk_29_method_69_code, exceptionTable := #[], attributes := #[] }
def k16m3 : Method := { name := "min", desc := "(II)I", sig := { parameters := [.int, .int], returnType := some .int }, accessFlags := 9, code := some k16c3 }
/-- java/lang/Math -/
def k16 : Class := { plain "java/lang/Math" (some 0) with
  accessFlags := 49
  interfaces := #[]
  cf := some (fileOf pool16 1 #[.nestMembers #[98]] #[{ accessFlags := 2, nameIndex := 7, descriptorIndex := 8, attributes := #[] }, { accessFlags := 9, nameIndex := 124, descriptorIndex := 125, attributes := #[] }, { accessFlags := 9, nameIndex := 198, descriptorIndex := 335, attributes := #[] }, { accessFlags := 9, nameIndex := 201, descriptorIndex := 335, attributes := #[] }] 49 4 #[] #[{ accessFlags := 25, nameIndex := 354, descriptorIndex := 339, attributes := #[] }, { accessFlags := 25, nameIndex := 358, descriptorIndex := 339, attributes := #[] }, { accessFlags := 25, nameIndex := 361, descriptorIndex := 339, attributes := #[] }, { accessFlags := 26, nameIndex := 364, descriptorIndex := 339, attributes := #[] }, { accessFlags := 26, nameIndex := 365, descriptorIndex := 339, attributes := #[] }, { accessFlags := 26, nameIndex := 172, descriptorIndex := 173, attributes := #[] }, { accessFlags := 26, nameIndex := 176, descriptorIndex := 173, attributes := #[] }, { accessFlags := 8, nameIndex := 344, descriptorIndex := 339, attributes := #[] }, { accessFlags := 8, nameIndex := 338, descriptorIndex := 339, attributes := #[] }, { accessFlags := 4120, nameIndex := 245, descriptorIndex := 246, attributes := #[] }])
  fields := #[{ name := "E", type := .double, accessFlags := 25, slot := 0, constantValue := 0 }, { name := "PI", type := .double, accessFlags := 25, slot := 1, constantValue := 0 }, { name := "TAU", type := .double, accessFlags := 25, slot := 2, constantValue := 0 }, { name := "DEGREES_TO_RADIANS", type := .double, accessFlags := 26, slot := 3, constantValue := 0 }, { name := "RADIANS_TO_DEGREES", type := .double, accessFlags := 26, slot := 4, constantValue := 0 }, { name := "negativeZeroFloatBits", type := .long, accessFlags := 26, slot := 5, constantValue := 0 }, { name := "negativeZeroDoubleBits", type := .long, accessFlags := 26, slot := 6, constantValue := 0 }, { name := "twoToTheDoubleScaleUp", type := .double, accessFlags := 8, slot := 7, constantValue := 0 }, { name := "twoToTheDoubleScaleDown", type := .double, accessFlags := 8, slot := 8, constantValue := 0 }, { name := "$assertionsDisabled", type := .boolean, accessFlags := 4120, slot := 9, constantValue := 0 }]
  methods := #[k16m0, k16m1, k16m2, k16m3]
  instanceTypes := #[]
  staticTypes := #[.double, .double, .double, .double, .double, .long, .long, .double, .double, .boolean]
  resolved := Array.replicate 460 none
  statics := none }

def pool17 : Array CpInfo := pool [(9, u "<init>"), (6, .class_ 18), (1, u "java/lang/Object"), (0, u "()V"), (1, .class_ 23), (1, u "jdk/internal/util/ArraysSupport"), (0, u "LOG2_ARRAY_LONG_INDEX_SCALE"), (0, u "I"), (2, u "U"), (0, u "Ljdk/internal/misc/Unsafe;"), (8, u "BIG_ENDIAN"), (0, u "Z"), (8, u "LOG2_BYTE_BIT_SIZE"), (4, u "LOG2_ARRAY_INT_INDEX_SCALE"), (54, u "JLA"), (0, u "Ljdk/internal/access/JavaLangAccess;"), (11, u "LOG2_ARRAY_BOOLEAN_INDEX_SCALE"), (9, u "LOG2_ARRAY_BYTE_INDEX_SCALE"), (5, u "LOG2_ARRAY_CHAR_INDEX_SCALE"), (5, u "LOG2_ARRAY_SHORT_INDEX_SCALE"), (18, u "LOG2_ARRAY_FLOAT_INDEX_SCALE"), (24, u "LOG2_ARRAY_DOUBLE_INDEX_SCALE"), (6, .methodref 195 196), (0, .class_ 197), (0, .nameAndType 198 199), (0, u "java/lang/Math"), (0, u "max"), (0, u "(II)I"), (0, .integer 2147483639), (76, u "T_BOOLEAN"), (2, u "T_CHAR"), (1, u "T_FLOAT"), (1, u "T_DOUBLE"), (1, u "T_BYTE"), (1, u "T_SHORT"), (1, u "T_INT"), (1, u "T_LONG"), (1, u "SOFT_MAX_ARRAY_LENGTH"), (56, u "newLength"), (0, u "(III)I")] 25

def k17m0 : Method := { name := "<init>", desc := "()V", sig := { parameters := [], returnType := none }, accessFlags := 2, code := none }
def k17c1 : Code := { maxStack := 3, maxLocals := 4, code := jdk_48_method_27_code, exceptionTable := #[], attributes := #[] }
def k17m1 : Method := { name := "newLength", desc := "(III)I", sig := { parameters := [.int, .int, .int], returnType := some .int }, accessFlags := 9, code := some k17c1 }
/-- jdk/internal/util/ArraysSupport -/
def k17 : Class := { plain "jdk/internal/util/ArraysSupport" (some 0) with
  accessFlags := 33
  interfaces := #[]
  cf := some (fileOf pool17 21 #[] #[{ accessFlags := 2, nameIndex := 9, descriptorIndex := 19, attributes := #[] }, { accessFlags := 9, nameIndex := 351, descriptorIndex := 352, attributes := #[] }] 33 16 #[] #[{ accessFlags := 24, nameIndex := 28, descriptorIndex := 29, attributes := #[] }, { accessFlags := 26, nameIndex := 38, descriptorIndex := 39, attributes := #[] }, { accessFlags := 25, nameIndex := 121, descriptorIndex := 25, attributes := #[] }, { accessFlags := 25, nameIndex := 131, descriptorIndex := 25, attributes := #[] }, { accessFlags := 25, nameIndex := 137, descriptorIndex := 25, attributes := #[] }, { accessFlags := 25, nameIndex := 143, descriptorIndex := 25, attributes := #[] }, { accessFlags := 25, nameIndex := 53, descriptorIndex := 25, attributes := #[] }, { accessFlags := 25, nameIndex := 24, descriptorIndex := 25, attributes := #[] }, { accessFlags := 25, nameIndex := 162, descriptorIndex := 25, attributes := #[] }, { accessFlags := 25, nameIndex := 187, descriptorIndex := 25, attributes := #[] }, { accessFlags := 26, nameIndex := 48, descriptorIndex := 25, attributes := #[] }, { accessFlags := 25, nameIndex := 277, descriptorIndex := 25, attributes := #[] }, { accessFlags := 25, nameIndex := 280, descriptorIndex := 25, attributes := #[] }, { accessFlags := 25, nameIndex := 282, descriptorIndex := 25, attributes := #[] }, { accessFlags := 25, nameIndex := 284, descriptorIndex := 25, attributes := #[] }, { accessFlags := 25, nameIndex := 286, descriptorIndex := 25, attributes := #[] }, { accessFlags := 25, nameIndex := 288, descriptorIndex := 25, attributes := #[] }, { accessFlags := 25, nameIndex := 290, descriptorIndex := 25, attributes := #[] }, { accessFlags := 25, nameIndex := 292, descriptorIndex := 25, attributes := #[] }, { accessFlags := 26, nameIndex := 108, descriptorIndex := 109, attributes := #[] }, { accessFlags := 25, nameIndex := 294, descriptorIndex := 25, attributes := #[] }])
  fields := #[{ name := "U", type := (.object "jdk/internal/misc/Unsafe"), accessFlags := 24, slot := 0, constantValue := 0 }, { name := "BIG_ENDIAN", type := .boolean, accessFlags := 26, slot := 1, constantValue := 0 }, { name := "LOG2_ARRAY_BOOLEAN_INDEX_SCALE", type := .int, accessFlags := 25, slot := 2, constantValue := 0 }, { name := "LOG2_ARRAY_BYTE_INDEX_SCALE", type := .int, accessFlags := 25, slot := 3, constantValue := 0 }, { name := "LOG2_ARRAY_CHAR_INDEX_SCALE", type := .int, accessFlags := 25, slot := 4, constantValue := 0 }, { name := "LOG2_ARRAY_SHORT_INDEX_SCALE", type := .int, accessFlags := 25, slot := 5, constantValue := 0 }, { name := "LOG2_ARRAY_INT_INDEX_SCALE", type := .int, accessFlags := 25, slot := 6, constantValue := 0 }, { name := "LOG2_ARRAY_LONG_INDEX_SCALE", type := .int, accessFlags := 25, slot := 7, constantValue := 0 }, { name := "LOG2_ARRAY_FLOAT_INDEX_SCALE", type := .int, accessFlags := 25, slot := 8, constantValue := 0 }, { name := "LOG2_ARRAY_DOUBLE_INDEX_SCALE", type := .int, accessFlags := 25, slot := 9, constantValue := 0 }, { name := "LOG2_BYTE_BIT_SIZE", type := .int, accessFlags := 26, slot := 10, constantValue := 0 }, { name := "T_BOOLEAN", type := .int, accessFlags := 25, slot := 11, constantValue := 0 }, { name := "T_CHAR", type := .int, accessFlags := 25, slot := 12, constantValue := 0 }, { name := "T_FLOAT", type := .int, accessFlags := 25, slot := 13, constantValue := 0 }, { name := "T_DOUBLE", type := .int, accessFlags := 25, slot := 14, constantValue := 0 }, { name := "T_BYTE", type := .int, accessFlags := 25, slot := 15, constantValue := 0 }, { name := "T_SHORT", type := .int, accessFlags := 25, slot := 16, constantValue := 0 }, { name := "T_INT", type := .int, accessFlags := 25, slot := 17, constantValue := 0 }, { name := "T_LONG", type := .int, accessFlags := 25, slot := 18, constantValue := 0 }, { name := "JLA", type := (.object "jdk/internal/access/JavaLangAccess"), accessFlags := 26, slot := 19, constantValue := 0 }, { name := "SOFT_MAX_ARRAY_LENGTH", type := .int, accessFlags := 25, slot := 20, constantValue := 0 }]
  methods := #[k17m0, k17m1]
  instanceTypes := #[]
  staticTypes := #[(.object "jdk/internal/misc/Unsafe"), .boolean, .int, .int, .int, .int, .int, .int, .int, .int, .int, .int, .int, .int, .int, .int, .int, .int, .int, (.object "jdk/internal/access/JavaLangAccess"), .int]
  resolved := Array.replicate 378 none
  statics := none }

def pool18 : Array CpInfo := pool [(2, .class_ 4), (1, u "java/lang/Object"), (0, u "<init>"), (0, u "()V"), (17, .class_ 26), (1, u "jdk/internal/util/Preconditions"), (6, u "checkIndex"), (21, .class_ 56), (0, u "jdk/internal/util/Preconditions$4"), (57, .class_ 115), (0, u "jdk/internal/util/Preconditions$1"), (7, u "SIOOBE_FORMATTER"), (0, u "Ljava/util/function/BiFunction;"), (0, .class_ 126), (0, u "jdk/internal/util/Preconditions$2"), (3, u "AIOOBE_FORMATTER"), (0, .class_ 132), (0, u "jdk/internal/util/Preconditions$3"), (3, u "IOOBE_FORMATTER"), (41, u "(IILjava/util/function/BiFunction;)I")] 15

def k18m0 : Method := { name := "<init>", desc := "()V", sig := { parameters := [], returnType := none }, accessFlags := 1, code := none }
def k18c1 : Code := { maxStack := 3, maxLocals := 3, code := jdk_41_method_11_code, exceptionTable := #[], attributes := #[] }
def k18m1 : Method := { name := "checkIndex", desc := "(IILjava/util/function/BiFunction;)I", sig := { parameters := [.int, .int, (.object "java/util/function/BiFunction")], returnType := some .int }, accessFlags := 9, code := some k18c1 }
/-- jdk/internal/util/Preconditions -/
def k18 : Class := { plain "jdk/internal/util/Preconditions" (some 0) with
  accessFlags := 33
  interfaces := #[]
  cf := some (fileOf pool18 24 #[.nestMembers #[55, 131, 125, 114]] #[{ accessFlags := 1, nameIndex := 5, descriptorIndex := 6, attributes := #[] }, { accessFlags := 9, nameIndex := 33, descriptorIndex := 178, attributes := #[] }] 33 2 #[] #[{ accessFlags := 25, nameIndex := 123, descriptorIndex := 124, attributes := #[] }, { accessFlags := 25, nameIndex := 130, descriptorIndex := 124, attributes := #[] }, { accessFlags := 25, nameIndex := 136, descriptorIndex := 124, attributes := #[] }])
  fields := #[{ name := "SIOOBE_FORMATTER", type := (.object "java/util/function/BiFunction"), accessFlags := 25, slot := 0, constantValue := 0 }, { name := "AIOOBE_FORMATTER", type := (.object "java/util/function/BiFunction"), accessFlags := 25, slot := 1, constantValue := 0 }, { name := "IOOBE_FORMATTER", type := (.object "java/util/function/BiFunction"), accessFlags := 25, slot := 2, constantValue := 0 }]
  methods := #[k18m0, k18m1]
  instanceTypes := #[]
  staticTypes := #[(.object "java/util/function/BiFunction"), (.object "java/util/function/BiFunction"), (.object "java/util/function/BiFunction")]
  resolved := Array.replicate 194 none
  statics := some 1 }

def pool19 : Array CpInfo := pool [(2, .class_ 4), (1, u "java/lang/Object"), (0, u "<init>"), (0, u "()V"), (1, .class_ 10), (1, u "java/lang/Number"), (2, .class_ 14), (0, u "java/io/Serializable"), (0, u "serialVersionUID"), (0, u "J")] 20

def k19m0 : Method := { name := "<init>", desc := "()V", sig := { parameters := [], returnType := none }, accessFlags := 1, code := none }
/-- java/lang/Number -/
def k19 : Class := { plain "java/lang/Number" (some 0) with
  accessFlags := 1057
  interfaces := #[2]
  cf := some (fileOf pool19 8 #[] #[{ accessFlags := 1, nameIndex := 5, descriptorIndex := 6, attributes := #[] }] 1057 2 #[13] #[{ accessFlags := 26, nameIndex := 15, descriptorIndex := 16, attributes := #[] }])
  fields := #[{ name := "serialVersionUID", type := .long, accessFlags := 26, slot := 0, constantValue := 0 }]
  methods := #[k19m0]
  instanceTypes := #[]
  staticTypes := #[.long]
  resolved := Array.replicate 37 none
  statics := none }

def pool20 : Array CpInfo := pool [(1, .class_ 2), (0, u "java/lang/Integer"), (16, u "digits"), (0, u "[C"), (33, u "(I)I"), (19, u "stringSize"), (2, u "getChars"), (0, u "(II[B)I"), (4, .fieldref 1 84), (0, .nameAndType 85 86), (0, u "DigitOnes"), (0, u "[B"), (0, .fieldref 1 88), (0, .nameAndType 89 86), (0, u "DigitTens"), (99, .class_ 190), (0, u "java/lang/Integer$IntegerCache"), (3, u "I"), (8, .class_ 204), (0, u "java/lang/Number"), (2, u "value"), (94, u "TYPE"), (0, u "Ljava/lang/Class;"), (0, .class_ 305), (0, u "java/lang/Comparable"), (0, .class_ 307), (0, u "java/lang/constant/Constable"), (0, .class_ 309), (0, u "java/lang/constant/ConstantDesc"), (0, u "MIN_VALUE"), (1, u "MAX_VALUE"), (3, u "SIZE"), (1, u "BYTES"), (1, u "serialVersionUID"), (0, u "J")] 131

def k20c0 : Code := { maxStack := 4, maxLocals := 7, code := jdk_33_method_12_code, exceptionTable := #[], attributes := #[] }
def k20m0 : Method := { name := "getChars", desc := "(II[B)I", sig := { parameters := [.int, .int, (.array .byte)], returnType := some .int }, accessFlags := 8, code := some k20c0 }
def k20c1 : Code := { maxStack := 2, maxLocals := 4, code := jdk_33_method_13_code, exceptionTable := #[], attributes := #[] }
def k20m1 : Method := { name := "stringSize", desc := "(I)I", sig := { parameters := [.int], returnType := some .int }, accessFlags := 8, code := some k20c1 }
/-- java/lang/Integer -/
def k20 : Class := { plain "java/lang/Integer" (some 19) with
  accessFlags := 49
  interfaces := #[3, 5, 6]
  cf := some (fileOf pool20 1 #[.nestMembers #[189]] #[{ accessFlags := 8, nameIndex := 77, descriptorIndex := 78, attributes := #[] }, { accessFlags := 8, nameIndex := 74, descriptorIndex := 54, attributes := #[] }] 49 203 #[304, 306, 308] #[{ accessFlags := 25, nameIndex := 310, descriptorIndex := 194, attributes := #[] }, { accessFlags := 25, nameIndex := 312, descriptorIndex := 194, attributes := #[] }, { accessFlags := 25, nameIndex := 302, descriptorIndex := 303, attributes := #[] }, { accessFlags := 24, nameIndex := 19, descriptorIndex := 20, attributes := #[] }, { accessFlags := 24, nameIndex := 89, descriptorIndex := 86, attributes := #[] }, { accessFlags := 24, nameIndex := 85, descriptorIndex := 86, attributes := #[] }, { accessFlags := 18, nameIndex := 207, descriptorIndex := 194, attributes := #[] }, { accessFlags := 25, nameIndex := 316, descriptorIndex := 194, attributes := #[] }, { accessFlags := 25, nameIndex := 318, descriptorIndex := 194, attributes := #[] }, { accessFlags := 26, nameIndex := 320, descriptorIndex := 321, attributes := #[] }])
  fields := #[{ name := "MIN_VALUE", type := .int, accessFlags := 25, slot := 0, constantValue := 0 }, { name := "MAX_VALUE", type := .int, accessFlags := 25, slot := 1, constantValue := 0 }, { name := "TYPE", type := (.object "java/lang/Class"), accessFlags := 25, slot := 2, constantValue := 0 }, { name := "digits", type := (.array .char), accessFlags := 24, slot := 3, constantValue := 0 }, { name := "DigitTens", type := (.array .byte), accessFlags := 24, slot := 4, constantValue := 0 }, { name := "DigitOnes", type := (.array .byte), accessFlags := 24, slot := 5, constantValue := 0 }, { name := "value", type := .int, accessFlags := 18, slot := 0, constantValue := 0 }, { name := "SIZE", type := .int, accessFlags := 25, slot := 6, constantValue := 0 }, { name := "BYTES", type := .int, accessFlags := 25, slot := 7, constantValue := 0 }, { name := "serialVersionUID", type := .long, accessFlags := 26, slot := 8, constantValue := 0 }]
  methods := #[k20m0, k20m1]
  instanceTypes := #[.int]
  staticTypes := #[.int, .int, (.object "java/lang/Class"), (.array .char), (.array .byte), (.array .byte), .int, .int, .long]
  resolved := Array.replicate 453 none
  statics := some 2 }

def pool21 : Array CpInfo := pool [(1, .class_ 2), (0, u "java/lang/Cloneable"), (0, .class_ 4), (0, u "java/lang/Object")] 2

/-- java/lang/Cloneable -/
def k21 : Class := { plain "java/lang/Cloneable" (some 0) with
  accessFlags := 1537
  interfaces := #[]
  cf := some (fileOf pool21 1 #[] #[] 1537 3 #[] #[])
  fields := #[]
  methods := #[]
  instanceTypes := #[]
  staticTypes := #[]
  resolved := Array.replicate 7 none
  statics := none }

/-- the primitive byte -/
def k22 : Class := { plain "byte" none with kind := .primitive 'B', accessFlags := 0x411 }
/-- [B -/
def k23 : Class := { plain "[B" (some 0) with kind := .array 22 .byte, interfaces := #[21, 2], accessFlags := 1041 }

/-- the primitive char -/
def k24 : Class := { plain "char" none with kind := .primitive 'C', accessFlags := 0x411 }
/-- [C -/
def k25 : Class := { plain "[C" (some 0) with kind := .array 24 .char, interfaces := #[21, 2], accessFlags := 1041 }

/-- the primitive int -/
def k26 : Class := { plain "int" none with kind := .primitive 'I', accessFlags := 0x411 }
/-- [I -/
def k27 : Class := { plain "[I" (some 0) with kind := .array 26 .int, interfaces := #[21, 2], accessFlags := 1041 }

/-- the primitive long -/
def k28 : Class := { plain "long" none with kind := .primitive 'J', accessFlags := 0x411 }
/-- [J -/
def k29 : Class := { plain "[J" (some 0) with kind := .array 28 .long, interfaces := #[21, 2], accessFlags := 1041 }

def heap : Heap := #[{ cls := 7, slots := #[.long 0, .int 1, .null, .int 0, .null, .int 0, .int 0], vm := .statics 7 },
  { cls := 18, slots := #[.null, .null, .null], vm := .statics 18 },
  { cls := 20, slots := #[.int 0, .int 0, .null, .null, .ref 4, .ref 3, .int 0, .int 0, .long 0], vm := .statics 20 },
  { cls := 23, slots := #[.int 48, .int 49, .int 50, .int 51, .int 52, .int 53, .int 54, .int 55, .int 56, .int 57, .int 48, .int 49, .int 50, .int 51, .int 52, .int 53, .int 54, .int 55, .int 56, .int 57, .int 48, .int 49, .int 50, .int 51, .int 52, .int 53, .int 54, .int 55, .int 56, .int 57, .int 48, .int 49, .int 50, .int 51, .int 52, .int 53, .int 54, .int 55, .int 56, .int 57, .int 48, .int 49, .int 50, .int 51, .int 52, .int 53, .int 54, .int 55, .int 56, .int 57, .int 48, .int 49, .int 50, .int 51, .int 52, .int 53, .int 54, .int 55, .int 56, .int 57, .int 48, .int 49, .int 50, .int 51, .int 52, .int 53, .int 54, .int 55, .int 56, .int 57, .int 48, .int 49, .int 50, .int 51, .int 52, .int 53, .int 54, .int 55, .int 56, .int 57, .int 48, .int 49, .int 50, .int 51, .int 52, .int 53, .int 54, .int 55, .int 56, .int 57, .int 48, .int 49, .int 50, .int 51, .int 52, .int 53, .int 54, .int 55, .int 56, .int 57], vm := .none },
  { cls := 23, slots := #[.int 48, .int 48, .int 48, .int 48, .int 48, .int 48, .int 48, .int 48, .int 48, .int 48, .int 49, .int 49, .int 49, .int 49, .int 49, .int 49, .int 49, .int 49, .int 49, .int 49, .int 50, .int 50, .int 50, .int 50, .int 50, .int 50, .int 50, .int 50, .int 50, .int 50, .int 51, .int 51, .int 51, .int 51, .int 51, .int 51, .int 51, .int 51, .int 51, .int 51, .int 52, .int 52, .int 52, .int 52, .int 52, .int 52, .int 52, .int 52, .int 52, .int 52, .int 53, .int 53, .int 53, .int 53, .int 53, .int 53, .int 53, .int 53, .int 53, .int 53, .int 54, .int 54, .int 54, .int 54, .int 54, .int 54, .int 54, .int 54, .int 54, .int 54, .int 55, .int 55, .int 55, .int 55, .int 55, .int 55, .int 55, .int 55, .int 55, .int 55, .int 56, .int 56, .int 56, .int 56, .int 56, .int 56, .int 56, .int 56, .int 56, .int 56, .int 57, .int 57, .int 57, .int 57, .int 57, .int 57, .int 57, .int 57, .int 57, .int 57], vm := .none }]
def classes : Array Class := #[k0, k1, k2, k3, k4, k5, k6, k7, k8, k9, k10, k11, k12, k13, k14, k15, k16, k17, k18, k19, k20, k21, k22, k23, k24, k25, k26, k27, k28, k29]
def interned : List (Array UInt16 × Addr) := []
def slotsUsed : Nat := 219
def theMethod : MethodId := ⟨1, 5⟩
def args0 : Array Value := #[.int 5, .int 5, .int 5, .int 5]
def aboutOver (below : List Frame) : State where
  vm := { classes := classes, interned := interned.toArray }
  heap := heap
  slotsUsed := slotsUsed
  threads := #[{ frames := .invoking theMethod args0 :: below }]
def below0 : List Frame := [.native { method := ⟨0, 0⟩, args := #[] }]
def about1 : State := aboutOver below0
def p0 : Program := .bare "" "" ""
def e0 : Env := launch0.env 0 0 0
theorem w_frames : about1.frames = Frame.invoking theMethod args0 :: below0 := rfl
set_option maxRecDepth 65536 in
theorem w_args : argsFit about1.vm theMethod args0 = true := by decide +kernel
set_option maxRecDepth 65536 in
theorem w_heap : heapFits about1 = true := by decide +kernel
set_option maxRecDepth 65536 in
theorem w_runnable : about1.curStatus? = some .runnable := by decide +kernel
set_option maxRecDepth 65536 in
theorem w_alone : about1.alone = true := by decide +kernel
set_option maxRecDepth 65536 in
theorem w_named : about1.methodNamed? x = some theMethod := by decide +kernel
set_option maxRecDepth 65536 in
theorem w_hears : about1.hears theMethod below0 = true := by decide +kernel
set_option maxRecDepth 65536 in
theorem w_ripe : about1.ripe theMethod args0 below0 = true := by decide +kernel
theorem w_running : about1.status = .running := rfl
set_option maxRecDepth 65536 in
theorem w_room : about1.hasRoom e0.platform room_1 = true :=
  launch0.hasRoom_least _ room_1 (by decide +kernel) (by decide +kernel) (by decide +kernel) (by decide +kernel) (by decide +kernel) (by decide +kernel)
theorem allAtoms_all (ts : List Jvm.Cond) (a : Array Jvm.Value) (st : Jvm.State) : (allAtoms ts).before a st = ts.all (fun c => c.before a st) := by
  induction ts with
  | nil => rfl
  | cons c t ih =>
    show (Jvm.Cond.and c (allAtoms t)).before a st = _
    rw [Jvm.Cond.before_and, ih, List.all_cons]
def words1 : List Jvm.Cond := Jvm.Cond.code x code maxLocals ret :: tables_1
/-- a 'code' word, met by the world's own term for the bytes: nothing is compared byte by byte -/
theorem code_word {y : MethodName} {bytes : ByteArray} {mx : Nat} {rt : Option FieldType} {a : Array Value} {s : State} {m : MethodId} {meth : Method} {c : Code} (h1 : s.methodNamed? y = some m) (h2 : s.vm.method? m = some meth) (h3 : meth.code = some c) (h4 : c.code = bytes)
    (h5 : (c.maxLocals == mx && c.exceptionTable.isEmpty && decide (c.maxStack ≤ mostOperands) && decide (meth.sig.returnType = rt) && !meth.locks && decide (parseMethodDescriptor y.desc = some meth.sig)) = true) : (Jvm.Cond.code y bytes mx rt).before a s = true := by
  simp only [Bool.and_eq_true, beq_iff_eq, Bool.not_eq_true', decide_eq_true_eq] at h5
  obtain ⟨⟨⟨⟨⟨g1, g2⟩, g3⟩, g4⟩, g5⟩, g6⟩ := h5
  simp [Cond.before, Cond.holds, Cond.value, h1, h2, h3, h4, g1, g2, g3, g4, g5, g6]
def isCode : Jvm.Cond → Bool
  | .code _ _ _ _ => true
  | _ => false
theorem all_split {L : List Jvm.Cond} {P : Jvm.Cond → Bool} (h1 : L.all (fun c => isCode c || P c) = true) (h2 : ∀ c ∈ L.filter isCode, P c = true) : L.all P = true := by
  refine List.all_eq_true.mpr fun c hc => ?_
  have h := List.all_eq_true.mp h1 c hc
  rcases Bool.eq_false_or_eq_true (isCode c) with hi | hi
  · exact h2 c (List.mem_filter.mpr ⟨hc, hi⟩)
  · simpa [hi] using h
set_option maxRecDepth 65536 in
theorem w_c0 : (Jvm.Cond.code x code maxLocals ret).before args0 about1 = true := code_word (m := ⟨1, 5⟩) (meth := k1m5) (c := k1c5) (by decide +kernel) rfl rfl rfl (by decide +kernel)
set_option maxRecDepth 65536 in
theorem w_c1 : (Jvm.Cond.code ({ cls := "java/lang/String", name := "valueOf", desc := "(C)Ljava/lang/String;" } : Jvm.MethodName) jdk_42_method_139_code (1 : Nat) (Option.some (Jvm.ClassFile.FieldType.object "java/lang/String"))).before args0 about1 = true := code_word (m := ⟨7, 5⟩) (meth := k7m5) (c := k7c5) (by decide +kernel) rfl rfl rfl (by decide +kernel)
set_option maxRecDepth 65536 in
theorem w_c2 : (Jvm.Cond.code ({ cls := "java/lang/StringLatin1", name := "canEncode", desc := "(C)Z" } : Jvm.MethodName) jdk_43_method_3_code (1 : Nat) (Option.some Jvm.ClassFile.FieldType.boolean)).before args0 about1 = true := code_word (m := ⟨8, 2⟩) (meth := k8m2) (c := k8c2) (by decide +kernel) rfl rfl rfl (by decide +kernel)
set_option maxRecDepth 65536 in
theorem w_c3 : (Jvm.Cond.code ({ cls := "java/lang/StringLatin1", name := "toBytes", desc := "(C)[B" } : Jvm.MethodName) jdk_43_method_46_code (1 : Nat) (Option.some (Jvm.ClassFile.FieldType.array Jvm.ClassFile.FieldType.byte))).before args0 about1 = true := code_word (m := ⟨8, 3⟩) (meth := k8m3) (c := k8c3) (by decide +kernel) rfl rfl rfl (by decide +kernel)
set_option maxRecDepth 65536 in
theorem w_c4 : (Jvm.Cond.code ({ cls := "java/lang/String", name := "<init>", desc := "([BB)V" } : Jvm.MethodName) jdk_42_method_151_code (3 : Nat) (Option.none : Option Jvm.ClassFile.FieldType)).before args0 about1 = true := code_word (m := ⟨7, 9⟩) (meth := k7m9) (c := k7c9) (by decide +kernel) rfl rfl rfl (by decide +kernel)
set_option maxRecDepth 65536 in
theorem w_c5 : (Jvm.Cond.code ({ cls := "java/lang/Object", name := "<init>", desc := "()V" } : Jvm.MethodName) object_method_1_code (1 : Nat) (Option.none : Option Jvm.ClassFile.FieldType)).before args0 about1 = true := code_word (m := ⟨0, 0⟩) (meth := k0m0) (c := k0c0) (by decide +kernel) rfl rfl rfl (by decide +kernel)
set_option maxRecDepth 65536 in
theorem w_c6 : (Jvm.Cond.code ({ cls := "java/lang/String", name := "<init>", desc := "([C)V" } : Jvm.MethodName) jdk_42_method_3_code (2 : Nat) (Option.none : Option Jvm.ClassFile.FieldType)).before args0 about1 = true := code_word (m := ⟨7, 1⟩) (meth := k7m1) (c := k7c1) (by decide +kernel) rfl rfl rfl (by decide +kernel)
set_option maxRecDepth 65536 in
theorem w_c7 : (Jvm.Cond.code ({ cls := "java/lang/String", name := "<init>", desc := "([CIILjava/lang/Void;)V" } : Jvm.MethodName) jdk_42_method_149_code (6 : Nat) (Option.none : Option Jvm.ClassFile.FieldType)).before args0 about1 = true := code_word (m := ⟨7, 7⟩) (meth := k7m7) (c := k7c7) (by decide +kernel) rfl rfl rfl (by decide +kernel)
set_option maxRecDepth 65536 in
theorem w_c8 : (Jvm.Cond.code ({ cls := "java/lang/StringUTF16", name := "compress", desc := "([CII)[B" } : Jvm.MethodName) jdk_52_method_16_code (6 : Nat) (Option.some (Jvm.ClassFile.FieldType.array Jvm.ClassFile.FieldType.byte))).before args0 about1 = true := code_word (m := ⟨9, 2⟩) (meth := k9m2) (c := k9c2) (by decide +kernel) rfl rfl rfl (by decide +kernel)
set_option maxRecDepth 65536 in
theorem w_c9 : (Jvm.Cond.code ({ cls := "java/lang/StringUTF16", name := "compress", desc := "([CI[BII)I" } : Jvm.MethodName) jdk_52_method_21_code (7 : Nat) (Option.some Jvm.ClassFile.FieldType.int)).before args0 about1 = true := code_word (m := ⟨9, 3⟩) (meth := k9m3) (c := k9c3) (by decide +kernel) rfl rfl rfl (by decide +kernel)
set_option maxRecDepth 65536 in
theorem w_c10 : (Jvm.Cond.code ({ cls := "java/lang/StringUTF16", name := "coderFromArrayLen", desc := "([BI)B" } : Jvm.MethodName) jdk_52_method_15_code (2 : Nat) (Option.some Jvm.ClassFile.FieldType.byte)).before args0 about1 = true := code_word (m := ⟨9, 1⟩) (meth := k9m1) (c := k9c1) (by decide +kernel) rfl rfl rfl (by decide +kernel)
set_option maxRecDepth 65536 in
theorem w_c11 : (Jvm.Cond.code ({ cls := "com/example/saga/saga/server/SurfaceUris", name := "<init>", desc := "(Ljava/lang/String;)V" } : Jvm.MethodName) prog_12_method_1_code (2 : Nat) (Option.none : Option Jvm.ClassFile.FieldType)).before args0 about1 = true := code_word (m := ⟨10, 0⟩) (meth := k10m0) (c := k10c0) (by decide +kernel) rfl rfl rfl (by decide +kernel)
set_option maxRecDepth 65536 in
theorem w_c12 : (Jvm.Cond.code ({ cls := "java/lang/StringBuilder", name := "<init>", desc := "()V" } : Jvm.MethodName) jdk_67_method_1_code (1 : Nat) (Option.none : Option Jvm.ClassFile.FieldType)).before args0 about1 = true := code_word (m := ⟨13, 0⟩) (meth := k13m0) (c := k13c0) (by decide +kernel) rfl rfl rfl (by decide +kernel)
set_option maxRecDepth 65536 in
theorem w_c13 : (Jvm.Cond.code ({ cls := "java/lang/AbstractStringBuilder", name := "<init>", desc := "(I)V" } : Jvm.MethodName) jdk_68_method_2_code (2 : Nat) (Option.none : Option Jvm.ClassFile.FieldType)).before args0 about1 = true := code_word (m := ⟨12, 1⟩) (meth := k12m1) (c := k12c1) (by decide +kernel) rfl rfl rfl (by decide +kernel)
set_option maxRecDepth 65536 in
theorem w_c14 : (Jvm.Cond.code ({ cls := "java/lang/StringBuilder", name := "append", desc := "(Ljava/lang/String;)Ljava/lang/StringBuilder;" } : Jvm.MethodName) jdk_67_method_7_code (2 : Nat) (Option.some (Jvm.ClassFile.FieldType.object "java/lang/StringBuilder"))).before args0 about1 = true := code_word (m := ⟨13, 1⟩) (meth := k13m1) (c := k13c1) (by decide +kernel) rfl rfl rfl (by decide +kernel)
set_option maxRecDepth 65536 in
theorem w_c15 : (Jvm.Cond.code ({ cls := "java/lang/AbstractStringBuilder", name := "append", desc := "(Ljava/lang/String;)Ljava/lang/AbstractStringBuilder;" } : Jvm.MethodName) jdk_68_method_22_code (3 : Nat) (Option.some (Jvm.ClassFile.FieldType.object "java/lang/AbstractStringBuilder"))).before args0 about1 = true := code_word (m := ⟨12, 5⟩) (meth := k12m5) (c := k12c5) (by decide +kernel) rfl rfl rfl (by decide +kernel)
set_option maxRecDepth 65536 in
theorem w_c16 : (Jvm.Cond.code ({ cls := "java/lang/String", name := "length", desc := "()I" } : Jvm.MethodName) jdk_42_method_54_code (1 : Nat) (Option.some Jvm.ClassFile.FieldType.int)).before args0 about1 = true := code_word (m := ⟨7, 3⟩) (meth := k7m3) (c := k7c3) (by decide +kernel) rfl rfl rfl (by decide +kernel)
set_option maxRecDepth 65536 in
theorem w_c17 : (Jvm.Cond.code ({ cls := "java/lang/String", name := "coder", desc := "()B" } : Jvm.MethodName) jdk_42_method_152_code (1 : Nat) (Option.some Jvm.ClassFile.FieldType.byte)).before args0 about1 = true := code_word (m := ⟨7, 10⟩) (meth := k7m10) (c := k7c10) (by decide +kernel) rfl rfl rfl (by decide +kernel)
set_option maxRecDepth 65536 in
theorem w_c18 : (Jvm.Cond.code ({ cls := "java/lang/AbstractStringBuilder", name := "ensureCapacityInternal", desc := "(I)V" } : Jvm.MethodName) jdk_68_method_9_code (3 : Nat) (Option.none : Option Jvm.ClassFile.FieldType)).before args0 about1 = true := code_word (m := ⟨12, 3⟩) (meth := k12m3) (c := k12c3) (by decide +kernel) rfl rfl rfl (by decide +kernel)
set_option maxRecDepth 65536 in
theorem w_c19 : (Jvm.Cond.code ({ cls := "java/lang/AbstractStringBuilder", name := "putStringAt", desc := "(ILjava/lang/String;)V" } : Jvm.MethodName) jdk_68_method_73_code (3 : Nat) (Option.none : Option Jvm.ClassFile.FieldType)).before args0 about1 = true := code_word (m := ⟨12, 10⟩) (meth := k12m10) (c := k12c10) (by decide +kernel) rfl rfl rfl (by decide +kernel)
set_option maxRecDepth 65536 in
theorem w_c20 : (Jvm.Cond.code ({ cls := "java/lang/AbstractStringBuilder", name := "inflateIfNeededFor", desc := "(Ljava/lang/String;)V" } : Jvm.MethodName) jdk_68_method_71_code (2 : Nat) (Option.none : Option Jvm.ClassFile.FieldType)).before args0 about1 = true := code_word (m := ⟨12, 9⟩) (meth := k12m9) (c := k12c9) (by decide +kernel) rfl rfl rfl (by decide +kernel)
set_option maxRecDepth 65536 in
theorem w_c21 : (Jvm.Cond.code ({ cls := "java/lang/String", name := "getBytes", desc := "([BIB)V" } : Jvm.MethodName) jdk_42_method_147_code (4 : Nat) (Option.none : Option Jvm.ClassFile.FieldType)).before args0 about1 = true := code_word (m := ⟨7, 6⟩) (meth := k7m6) (c := k7c6) (by decide +kernel) rfl rfl rfl (by decide +kernel)
set_option maxRecDepth 65536 in
theorem w_c22 : (Jvm.Cond.code ({ cls := "java/lang/StringBuilder", name := "toString", desc := "()Ljava/lang/String;" } : Jvm.MethodName) jdk_67_method_42_code (1 : Nat) (Option.some (Jvm.ClassFile.FieldType.object "java/lang/String"))).before args0 about1 = true := code_word (m := ⟨13, 3⟩) (meth := k13m3) (c := k13c3) (by decide +kernel) rfl rfl rfl (by decide +kernel)
set_option maxRecDepth 65536 in
theorem w_c23 : (Jvm.Cond.code ({ cls := "java/lang/String", name := "<init>", desc := "(Ljava/lang/StringBuilder;)V" } : Jvm.MethodName) jdk_42_method_53_code (2 : Nat) (Option.none : Option Jvm.ClassFile.FieldType)).before args0 about1 = true := code_word (m := ⟨7, 2⟩) (meth := k7m2) (c := k7c2) (by decide +kernel) rfl rfl rfl (by decide +kernel)
set_option maxRecDepth 65536 in
theorem w_c24 : (Jvm.Cond.code ({ cls := "java/lang/String", name := "<init>", desc := "(Ljava/lang/AbstractStringBuilder;Ljava/lang/Void;)V" } : Jvm.MethodName) jdk_42_method_150_code (5 : Nat) (Option.none : Option Jvm.ClassFile.FieldType)).before args0 about1 = true := code_word (m := ⟨7, 8⟩) (meth := k7m8) (c := k7c8) (by decide +kernel) rfl rfl rfl (by decide +kernel)
set_option maxRecDepth 65536 in
theorem w_c25 : (Jvm.Cond.code ({ cls := "java/lang/AbstractStringBuilder", name := "getValue", desc := "()[B" } : Jvm.MethodName) jdk_68_method_64_code (1 : Nat) (Option.some (Jvm.ClassFile.FieldType.array Jvm.ClassFile.FieldType.byte))).before args0 about1 = true := code_word (m := ⟨12, 7⟩) (meth := k12m7) (c := k12c7) (by decide +kernel) rfl rfl rfl (by decide +kernel)
set_option maxRecDepth 65536 in
theorem w_c26 : (Jvm.Cond.code ({ cls := "java/lang/StringBuilder", name := "length", desc := "()I" } : Jvm.MethodName) jdk_67_method_93_code (1 : Nat) (Option.some Jvm.ClassFile.FieldType.int)).before args0 about1 = true := code_word (m := ⟨13, 4⟩) (meth := k13m4) (c := k13c4) (by decide +kernel) rfl rfl rfl (by decide +kernel)
set_option maxRecDepth 65536 in
theorem w_c27 : (Jvm.Cond.code ({ cls := "java/lang/AbstractStringBuilder", name := "length", desc := "()I" } : Jvm.MethodName) jdk_68_method_6_code (1 : Nat) (Option.some Jvm.ClassFile.FieldType.int)).before args0 about1 = true := code_word (m := ⟨12, 2⟩) (meth := k12m2) (c := k12c2) (by decide +kernel) rfl rfl rfl (by decide +kernel)
set_option maxRecDepth 65536 in
theorem w_c28 : (Jvm.Cond.code ({ cls := "java/lang/AbstractStringBuilder", name := "isLatin1", desc := "()Z" } : Jvm.MethodName) jdk_68_method_68_code (1 : Nat) (Option.some Jvm.ClassFile.FieldType.boolean)).before args0 about1 = true := code_word (m := ⟨12, 8⟩) (meth := k12m8) (c := k12c8) (by decide +kernel) rfl rfl rfl (by decide +kernel)
set_option maxRecDepth 65536 in
theorem w_c29 : (Jvm.Cond.code ({ cls := "java/util/Arrays", name := "copyOfRange", desc := "([BII)[B" } : Jvm.MethodName) jdk_65_method_132_code (3 : Nat) (Option.some (Jvm.ClassFile.FieldType.array Jvm.ClassFile.FieldType.byte))).before args0 about1 = true := code_word (m := ⟨15, 3⟩) (meth := k15m3) (c := k15c3) (by decide +kernel) rfl rfl rfl (by decide +kernel)
set_option maxRecDepth 65536 in
theorem w_c30 : (Jvm.Cond.code ({ cls := "java/util/Arrays", name := "copyOfRangeByte", desc := "([BII)[B" } : Jvm.MethodName) jdk_65_method_133_code (5 : Nat) (Option.some (Jvm.ClassFile.FieldType.array Jvm.ClassFile.FieldType.byte))).before args0 about1 = true := code_word (m := ⟨15, 4⟩) (meth := k15m4) (c := k15c4) (by decide +kernel) rfl rfl rfl (by decide +kernel)
set_option maxRecDepth 65536 in
theorem w_c31 : (Jvm.Cond.code ({ cls := "java/util/Arrays", name := "checkLength", desc := "(II)V" } : Jvm.MethodName) jdk_65_method_131_code (2 : Nat) (Option.none : Option Jvm.ClassFile.FieldType)).before args0 about1 = true := code_word (m := ⟨15, 2⟩) (meth := k15m2) (c := k15c2) (by decide +kernel) rfl rfl rfl (by decide +kernel)
set_option maxRecDepth 65536 in
theorem w_c32 : (Jvm.Cond.code ({ cls := "java/lang/Math", name := "min", desc := "(II)I" } : Jvm.MethodName) jdk_29_method_69_code (2 : Nat) (Option.some Jvm.ClassFile.FieldType.int)).before args0 about1 = true := code_word (m := ⟨16, 3⟩) (meth := k16m3) (c := k16c3) (by decide +kernel) rfl rfl rfl (by decide +kernel)
set_option maxRecDepth 65536 in
theorem w_c33 : (Jvm.Cond.code ({ cls := "com/example/saga/saga/server/SurfaceUris", name := "jsonTimeMap", desc := "(Ljava/lang/String;I)Ljava/lang/String;" } : Jvm.MethodName) prog_12_method_5_code (3 : Nat) (Option.some (Jvm.ClassFile.FieldType.object "java/lang/String"))).before args0 about1 = true := code_word (m := ⟨10, 1⟩) (meth := k10m1) (c := k10c1) (by decide +kernel) rfl rfl rfl (by decide +kernel)
set_option maxRecDepth 65536 in
theorem w_c34 : (Jvm.Cond.code ({ cls := "java/lang/AbstractStringBuilder", name := "newCapacity", desc := "(I)I" } : Jvm.MethodName) jdk_68_method_10_code (6 : Nat) (Option.some Jvm.ClassFile.FieldType.int)).before args0 about1 = true := code_word (m := ⟨12, 4⟩) (meth := k12m4) (c := k12c4) (by decide +kernel) rfl rfl rfl (by decide +kernel)
set_option maxRecDepth 65536 in
theorem w_c35 : (Jvm.Cond.code ({ cls := "jdk/internal/util/ArraysSupport", name := "newLength", desc := "(III)I" } : Jvm.MethodName) jdk_48_method_27_code (4 : Nat) (Option.some Jvm.ClassFile.FieldType.int)).before args0 about1 = true := code_word (m := ⟨17, 1⟩) (meth := k17m1) (c := k17c1) (by decide +kernel) rfl rfl rfl (by decide +kernel)
set_option maxRecDepth 65536 in
theorem w_c36 : (Jvm.Cond.code ({ cls := "java/lang/Math", name := "max", desc := "(II)I" } : Jvm.MethodName) jdk_29_method_65_code (2 : Nat) (Option.some Jvm.ClassFile.FieldType.int)).before args0 about1 = true := code_word (m := ⟨16, 2⟩) (meth := k16m2) (c := k16c2) (by decide +kernel) rfl rfl rfl (by decide +kernel)
set_option maxRecDepth 65536 in
theorem w_c37 : (Jvm.Cond.code ({ cls := "java/util/Arrays", name := "copyOf", desc := "([BI)[B" } : Jvm.MethodName) jdk_65_method_121_code (3 : Nat) (Option.some (Jvm.ClassFile.FieldType.array Jvm.ClassFile.FieldType.byte))).before args0 about1 = true := code_word (m := ⟨15, 1⟩) (meth := k15m1) (c := k15c1) (by decide +kernel) rfl rfl rfl (by decide +kernel)
set_option maxRecDepth 65536 in
theorem w_c38 : (Jvm.Cond.code ({ cls := "com/example/saga/saga/server/SurfaceUris", name := "pageNumber", desc := "(I)Ljava/lang/String;" } : Jvm.MethodName) prog_12_method_8_code (1 : Nat) (Option.some (Jvm.ClassFile.FieldType.object "java/lang/String"))).before args0 about1 = true := code_word (m := ⟨10, 2⟩) (meth := k10m2) (c := k10c2) (by decide +kernel) rfl rfl rfl (by decide +kernel)
set_option maxRecDepth 65536 in
theorem w_c39 : (Jvm.Cond.code ({ cls := "java/lang/String", name := "charAt", desc := "(I)C" } : Jvm.MethodName) jdk_42_method_56_code (2 : Nat) (Option.some Jvm.ClassFile.FieldType.char)).before args0 about1 = true := code_word (m := ⟨7, 4⟩) (meth := k7m4) (c := k7c4) (by decide +kernel) rfl rfl rfl (by decide +kernel)
set_option maxRecDepth 65536 in
theorem w_c40 : (Jvm.Cond.code ({ cls := "java/lang/String", name := "isLatin1", desc := "()Z" } : Jvm.MethodName) jdk_42_method_154_code (1 : Nat) (Option.some Jvm.ClassFile.FieldType.boolean)).before args0 about1 = true := code_word (m := ⟨7, 11⟩) (meth := k7m11) (c := k7c11) (by decide +kernel) rfl rfl rfl (by decide +kernel)
set_option maxRecDepth 65536 in
theorem w_c41 : (Jvm.Cond.code ({ cls := "java/lang/StringLatin1", name := "charAt", desc := "([BI)C" } : Jvm.MethodName) jdk_43_method_2_code (2 : Nat) (Option.some Jvm.ClassFile.FieldType.char)).before args0 about1 = true := code_word (m := ⟨8, 1⟩) (meth := k8m1) (c := k8c1) (by decide +kernel) rfl rfl rfl (by decide +kernel)
set_option maxRecDepth 65536 in
theorem w_c42 : (Jvm.Cond.code ({ cls := "java/lang/String", name := "checkIndex", desc := "(II)V" } : Jvm.MethodName) jdk_42_method_155_code (2 : Nat) (Option.none : Option Jvm.ClassFile.FieldType)).before args0 about1 = true := code_word (m := ⟨7, 12⟩) (meth := k7m12) (c := k7c12) (by decide +kernel) rfl rfl rfl (by decide +kernel)
set_option maxRecDepth 65536 in
theorem w_c43 : (Jvm.Cond.code ({ cls := "jdk/internal/util/Preconditions", name := "checkIndex", desc := "(IILjava/util/function/BiFunction;)I" } : Jvm.MethodName) jdk_41_method_11_code (3 : Nat) (Option.some Jvm.ClassFile.FieldType.int)).before args0 about1 = true := code_word (m := ⟨18, 1⟩) (meth := k18m1) (c := k18c1) (by decide +kernel) rfl rfl rfl (by decide +kernel)
set_option maxRecDepth 65536 in
theorem w_c44 : (Jvm.Cond.code ({ cls := "java/lang/StringBuilder", name := "append", desc := "(I)Ljava/lang/StringBuilder;" } : Jvm.MethodName) jdk_67_method_15_code (2 : Nat) (Option.some (Jvm.ClassFile.FieldType.object "java/lang/StringBuilder"))).before args0 about1 = true := code_word (m := ⟨13, 2⟩) (meth := k13m2) (c := k13c2) (by decide +kernel) rfl rfl rfl (by decide +kernel)
set_option maxRecDepth 65536 in
theorem w_c45 : (Jvm.Cond.code ({ cls := "java/lang/AbstractStringBuilder", name := "append", desc := "(I)Ljava/lang/AbstractStringBuilder;" } : Jvm.MethodName) jdk_68_method_32_code (4 : Nat) (Option.some (Jvm.ClassFile.FieldType.object "java/lang/AbstractStringBuilder"))).before args0 about1 = true := code_word (m := ⟨12, 6⟩) (meth := k12m6) (c := k12c6) (by decide +kernel) rfl rfl rfl (by decide +kernel)
set_option maxRecDepth 65536 in
theorem w_c46 : (Jvm.Cond.code ({ cls := "java/lang/Integer", name := "stringSize", desc := "(I)I" } : Jvm.MethodName) jdk_33_method_13_code (4 : Nat) (Option.some Jvm.ClassFile.FieldType.int)).before args0 about1 = true := code_word (m := ⟨20, 1⟩) (meth := k20m1) (c := k20c1) (by decide +kernel) rfl rfl rfl (by decide +kernel)
set_option maxRecDepth 65536 in
theorem w_c47 : (Jvm.Cond.code ({ cls := "java/lang/Integer", name := "getChars", desc := "(II[B)I" } : Jvm.MethodName) jdk_33_method_12_code (7 : Nat) (Option.some Jvm.ClassFile.FieldType.int)).before args0 about1 = true := code_word (m := ⟨20, 0⟩) (meth := k20m0) (c := k20c0) (by decide +kernel) rfl rfl rfl (by decide +kernel)
set_option maxRecDepth 65536 in
theorem w_c48 : (Jvm.Cond.code ({ cls := "com/example/saga/saga/server/SurfaceUrisJsonTimeMapPinLaw", name := "decimalLength", desc := "(I)I" } : Jvm.MethodName) method_3_code (3 : Nat) (Option.some Jvm.ClassFile.FieldType.int)).before args0 about1 = true := code_word (m := ⟨1, 2⟩) (meth := k1m2) (c := k1c2) (by decide +kernel) rfl rfl rfl (by decide +kernel)
set_option maxRecDepth 65536 in
theorem w_c49 : (Jvm.Cond.code ({ cls := "java/lang/Math", name := "abs", desc := "(J)J" } : Jvm.MethodName) jdk_29_method_61_code (2 : Nat) (Option.some Jvm.ClassFile.FieldType.long)).before args0 about1 = true := code_word (m := ⟨16, 1⟩) (meth := k16m1) (c := k16c1) (by decide +kernel) rfl rfl rfl (by decide +kernel)
set_option maxRecDepth 65536 in
theorem w_c50 : (Jvm.Cond.code ({ cls := "com/example/saga/saga/server/SurfaceUrisJsonTimeMapPinLaw", name := "digits", desc := "(J)I" } : Jvm.MethodName) method_2_code (2 : Nat) (Option.some Jvm.ClassFile.FieldType.int)).before args0 about1 = true := code_word (m := ⟨1, 1⟩) (meth := k1m1) (c := k1c1) (by decide +kernel) rfl rfl rfl (by decide +kernel)
set_option maxRecDepth 65536 in
theorem w_c51 : (Jvm.Cond.code ({ cls := "com/example/saga/saga/server/SurfaceUrisJsonTimeMapPinLaw", name := "numAt", desc := "(Ljava/lang/String;III)Z" } : Jvm.MethodName) method_5_code (4 : Nat) (Option.some Jvm.ClassFile.FieldType.boolean)).before args0 about1 = true := code_word (m := ⟨1, 4⟩) (meth := k1m4) (c := k1c4) (by decide +kernel) rfl rfl rfl (by decide +kernel)
set_option maxRecDepth 65536 in
theorem w_c52 : (Jvm.Cond.code ({ cls := "com/example/saga/saga/server/SurfaceUrisJsonTimeMapPinLaw", name := "expectedAt", desc := "(II)C" } : Jvm.MethodName) method_4_code (11 : Nat) (Option.some Jvm.ClassFile.FieldType.char)).before args0 about1 = true := code_word (m := ⟨1, 3⟩) (meth := k1m3) (c := k1c3) (by decide +kernel) rfl rfl rfl (by decide +kernel)
def codes1 : List Jvm.Cond := [Jvm.Cond.code x code maxLocals ret, Jvm.Cond.code ({ cls := "java/lang/String", name := "valueOf", desc := "(C)Ljava/lang/String;" } : Jvm.MethodName) jdk_42_method_139_code (1 : Nat) (Option.some (Jvm.ClassFile.FieldType.object "java/lang/String")), Jvm.Cond.code ({ cls := "java/lang/StringLatin1", name := "canEncode", desc := "(C)Z" } : Jvm.MethodName) jdk_43_method_3_code (1 : Nat) (Option.some Jvm.ClassFile.FieldType.boolean), Jvm.Cond.code ({ cls := "java/lang/StringLatin1", name := "toBytes", desc := "(C)[B" } : Jvm.MethodName) jdk_43_method_46_code (1 : Nat) (Option.some (Jvm.ClassFile.FieldType.array Jvm.ClassFile.FieldType.byte)), Jvm.Cond.code ({ cls := "java/lang/String", name := "<init>", desc := "([BB)V" } : Jvm.MethodName) jdk_42_method_151_code (3 : Nat) (Option.none : Option Jvm.ClassFile.FieldType), Jvm.Cond.code ({ cls := "java/lang/Object", name := "<init>", desc := "()V" } : Jvm.MethodName) object_method_1_code (1 : Nat) (Option.none : Option Jvm.ClassFile.FieldType), Jvm.Cond.code ({ cls := "java/lang/String", name := "<init>", desc := "([C)V" } : Jvm.MethodName) jdk_42_method_3_code (2 : Nat) (Option.none : Option Jvm.ClassFile.FieldType), Jvm.Cond.code ({ cls := "java/lang/String", name := "<init>", desc := "([CIILjava/lang/Void;)V" } : Jvm.MethodName) jdk_42_method_149_code (6 : Nat) (Option.none : Option Jvm.ClassFile.FieldType), Jvm.Cond.code ({ cls := "java/lang/StringUTF16", name := "compress", desc := "([CII)[B" } : Jvm.MethodName) jdk_52_method_16_code (6 : Nat) (Option.some (Jvm.ClassFile.FieldType.array Jvm.ClassFile.FieldType.byte)), Jvm.Cond.code ({ cls := "java/lang/StringUTF16", name := "compress", desc := "([CI[BII)I" } : Jvm.MethodName) jdk_52_method_21_code (7 : Nat) (Option.some Jvm.ClassFile.FieldType.int), Jvm.Cond.code ({ cls := "java/lang/StringUTF16", name := "coderFromArrayLen", desc := "([BI)B" } : Jvm.MethodName) jdk_52_method_15_code (2 : Nat) (Option.some Jvm.ClassFile.FieldType.byte), Jvm.Cond.code ({ cls := "com/example/saga/saga/server/SurfaceUris", name := "<init>", desc := "(Ljava/lang/String;)V" } : Jvm.MethodName) prog_12_method_1_code (2 : Nat) (Option.none : Option Jvm.ClassFile.FieldType), Jvm.Cond.code ({ cls := "java/lang/StringBuilder", name := "<init>", desc := "()V" } : Jvm.MethodName) jdk_67_method_1_code (1 : Nat) (Option.none : Option Jvm.ClassFile.FieldType), Jvm.Cond.code ({ cls := "java/lang/AbstractStringBuilder", name := "<init>", desc := "(I)V" } : Jvm.MethodName) jdk_68_method_2_code (2 : Nat) (Option.none : Option Jvm.ClassFile.FieldType), Jvm.Cond.code ({ cls := "java/lang/StringBuilder", name := "append", desc := "(Ljava/lang/String;)Ljava/lang/StringBuilder;" } : Jvm.MethodName) jdk_67_method_7_code (2 : Nat) (Option.some (Jvm.ClassFile.FieldType.object "java/lang/StringBuilder")), Jvm.Cond.code ({ cls := "java/lang/AbstractStringBuilder", name := "append", desc := "(Ljava/lang/String;)Ljava/lang/AbstractStringBuilder;" } : Jvm.MethodName) jdk_68_method_22_code (3 : Nat) (Option.some (Jvm.ClassFile.FieldType.object "java/lang/AbstractStringBuilder")), Jvm.Cond.code ({ cls := "java/lang/String", name := "length", desc := "()I" } : Jvm.MethodName) jdk_42_method_54_code (1 : Nat) (Option.some Jvm.ClassFile.FieldType.int), Jvm.Cond.code ({ cls := "java/lang/String", name := "coder", desc := "()B" } : Jvm.MethodName) jdk_42_method_152_code (1 : Nat) (Option.some Jvm.ClassFile.FieldType.byte), Jvm.Cond.code ({ cls := "java/lang/AbstractStringBuilder", name := "ensureCapacityInternal", desc := "(I)V" } : Jvm.MethodName) jdk_68_method_9_code (3 : Nat) (Option.none : Option Jvm.ClassFile.FieldType), Jvm.Cond.code ({ cls := "java/lang/AbstractStringBuilder", name := "putStringAt", desc := "(ILjava/lang/String;)V" } : Jvm.MethodName) jdk_68_method_73_code (3 : Nat) (Option.none : Option Jvm.ClassFile.FieldType), Jvm.Cond.code ({ cls := "java/lang/AbstractStringBuilder", name := "inflateIfNeededFor", desc := "(Ljava/lang/String;)V" } : Jvm.MethodName) jdk_68_method_71_code (2 : Nat) (Option.none : Option Jvm.ClassFile.FieldType), Jvm.Cond.code ({ cls := "java/lang/String", name := "getBytes", desc := "([BIB)V" } : Jvm.MethodName) jdk_42_method_147_code (4 : Nat) (Option.none : Option Jvm.ClassFile.FieldType), Jvm.Cond.code ({ cls := "java/lang/StringBuilder", name := "toString", desc := "()Ljava/lang/String;" } : Jvm.MethodName) jdk_67_method_42_code (1 : Nat) (Option.some (Jvm.ClassFile.FieldType.object "java/lang/String")), Jvm.Cond.code ({ cls := "java/lang/String", name := "<init>", desc := "(Ljava/lang/StringBuilder;)V" } : Jvm.MethodName) jdk_42_method_53_code (2 : Nat) (Option.none : Option Jvm.ClassFile.FieldType), Jvm.Cond.code ({ cls := "java/lang/String", name := "<init>", desc := "(Ljava/lang/AbstractStringBuilder;Ljava/lang/Void;)V" } : Jvm.MethodName) jdk_42_method_150_code (5 : Nat) (Option.none : Option Jvm.ClassFile.FieldType), Jvm.Cond.code ({ cls := "java/lang/AbstractStringBuilder", name := "getValue", desc := "()[B" } : Jvm.MethodName) jdk_68_method_64_code (1 : Nat) (Option.some (Jvm.ClassFile.FieldType.array Jvm.ClassFile.FieldType.byte)), Jvm.Cond.code ({ cls := "java/lang/StringBuilder", name := "length", desc := "()I" } : Jvm.MethodName) jdk_67_method_93_code (1 : Nat) (Option.some Jvm.ClassFile.FieldType.int), Jvm.Cond.code ({ cls := "java/lang/AbstractStringBuilder", name := "length", desc := "()I" } : Jvm.MethodName) jdk_68_method_6_code (1 : Nat) (Option.some Jvm.ClassFile.FieldType.int), Jvm.Cond.code ({ cls := "java/lang/AbstractStringBuilder", name := "isLatin1", desc := "()Z" } : Jvm.MethodName) jdk_68_method_68_code (1 : Nat) (Option.some Jvm.ClassFile.FieldType.boolean), Jvm.Cond.code ({ cls := "java/util/Arrays", name := "copyOfRange", desc := "([BII)[B" } : Jvm.MethodName) jdk_65_method_132_code (3 : Nat) (Option.some (Jvm.ClassFile.FieldType.array Jvm.ClassFile.FieldType.byte)), Jvm.Cond.code ({ cls := "java/util/Arrays", name := "copyOfRangeByte", desc := "([BII)[B" } : Jvm.MethodName) jdk_65_method_133_code (5 : Nat) (Option.some (Jvm.ClassFile.FieldType.array Jvm.ClassFile.FieldType.byte)), Jvm.Cond.code ({ cls := "java/util/Arrays", name := "checkLength", desc := "(II)V" } : Jvm.MethodName) jdk_65_method_131_code (2 : Nat) (Option.none : Option Jvm.ClassFile.FieldType), Jvm.Cond.code ({ cls := "java/lang/Math", name := "min", desc := "(II)I" } : Jvm.MethodName) jdk_29_method_69_code (2 : Nat) (Option.some Jvm.ClassFile.FieldType.int), Jvm.Cond.code ({ cls := "com/example/saga/saga/server/SurfaceUris", name := "jsonTimeMap", desc := "(Ljava/lang/String;I)Ljava/lang/String;" } : Jvm.MethodName) prog_12_method_5_code (3 : Nat) (Option.some (Jvm.ClassFile.FieldType.object "java/lang/String")), Jvm.Cond.code ({ cls := "java/lang/AbstractStringBuilder", name := "newCapacity", desc := "(I)I" } : Jvm.MethodName) jdk_68_method_10_code (6 : Nat) (Option.some Jvm.ClassFile.FieldType.int), Jvm.Cond.code ({ cls := "jdk/internal/util/ArraysSupport", name := "newLength", desc := "(III)I" } : Jvm.MethodName) jdk_48_method_27_code (4 : Nat) (Option.some Jvm.ClassFile.FieldType.int), Jvm.Cond.code ({ cls := "java/lang/Math", name := "max", desc := "(II)I" } : Jvm.MethodName) jdk_29_method_65_code (2 : Nat) (Option.some Jvm.ClassFile.FieldType.int), Jvm.Cond.code ({ cls := "java/util/Arrays", name := "copyOf", desc := "([BI)[B" } : Jvm.MethodName) jdk_65_method_121_code (3 : Nat) (Option.some (Jvm.ClassFile.FieldType.array Jvm.ClassFile.FieldType.byte)), Jvm.Cond.code ({ cls := "com/example/saga/saga/server/SurfaceUris", name := "pageNumber", desc := "(I)Ljava/lang/String;" } : Jvm.MethodName) prog_12_method_8_code (1 : Nat) (Option.some (Jvm.ClassFile.FieldType.object "java/lang/String")), Jvm.Cond.code ({ cls := "java/lang/String", name := "charAt", desc := "(I)C" } : Jvm.MethodName) jdk_42_method_56_code (2 : Nat) (Option.some Jvm.ClassFile.FieldType.char), Jvm.Cond.code ({ cls := "java/lang/String", name := "isLatin1", desc := "()Z" } : Jvm.MethodName) jdk_42_method_154_code (1 : Nat) (Option.some Jvm.ClassFile.FieldType.boolean), Jvm.Cond.code ({ cls := "java/lang/StringLatin1", name := "charAt", desc := "([BI)C" } : Jvm.MethodName) jdk_43_method_2_code (2 : Nat) (Option.some Jvm.ClassFile.FieldType.char), Jvm.Cond.code ({ cls := "java/lang/String", name := "checkIndex", desc := "(II)V" } : Jvm.MethodName) jdk_42_method_155_code (2 : Nat) (Option.none : Option Jvm.ClassFile.FieldType), Jvm.Cond.code ({ cls := "jdk/internal/util/Preconditions", name := "checkIndex", desc := "(IILjava/util/function/BiFunction;)I" } : Jvm.MethodName) jdk_41_method_11_code (3 : Nat) (Option.some Jvm.ClassFile.FieldType.int), Jvm.Cond.code ({ cls := "java/lang/StringBuilder", name := "append", desc := "(I)Ljava/lang/StringBuilder;" } : Jvm.MethodName) jdk_67_method_15_code (2 : Nat) (Option.some (Jvm.ClassFile.FieldType.object "java/lang/StringBuilder")), Jvm.Cond.code ({ cls := "java/lang/AbstractStringBuilder", name := "append", desc := "(I)Ljava/lang/AbstractStringBuilder;" } : Jvm.MethodName) jdk_68_method_32_code (4 : Nat) (Option.some (Jvm.ClassFile.FieldType.object "java/lang/AbstractStringBuilder")), Jvm.Cond.code ({ cls := "java/lang/Integer", name := "stringSize", desc := "(I)I" } : Jvm.MethodName) jdk_33_method_13_code (4 : Nat) (Option.some Jvm.ClassFile.FieldType.int), Jvm.Cond.code ({ cls := "java/lang/Integer", name := "getChars", desc := "(II[B)I" } : Jvm.MethodName) jdk_33_method_12_code (7 : Nat) (Option.some Jvm.ClassFile.FieldType.int), Jvm.Cond.code ({ cls := "com/example/saga/saga/server/SurfaceUrisJsonTimeMapPinLaw", name := "decimalLength", desc := "(I)I" } : Jvm.MethodName) method_3_code (3 : Nat) (Option.some Jvm.ClassFile.FieldType.int), Jvm.Cond.code ({ cls := "java/lang/Math", name := "abs", desc := "(J)J" } : Jvm.MethodName) jdk_29_method_61_code (2 : Nat) (Option.some Jvm.ClassFile.FieldType.long), Jvm.Cond.code ({ cls := "com/example/saga/saga/server/SurfaceUrisJsonTimeMapPinLaw", name := "digits", desc := "(J)I" } : Jvm.MethodName) method_2_code (2 : Nat) (Option.some Jvm.ClassFile.FieldType.int), Jvm.Cond.code ({ cls := "com/example/saga/saga/server/SurfaceUrisJsonTimeMapPinLaw", name := "numAt", desc := "(Ljava/lang/String;III)Z" } : Jvm.MethodName) method_5_code (4 : Nat) (Option.some Jvm.ClassFile.FieldType.boolean), Jvm.Cond.code ({ cls := "com/example/saga/saga/server/SurfaceUrisJsonTimeMapPinLaw", name := "expectedAt", desc := "(II)C" } : Jvm.MethodName) method_4_code (11 : Nat) (Option.some Jvm.ClassFile.FieldType.char)]
set_option maxRecDepth 65536 in
theorem codes_eq : words1.filter isCode = codes1 := rfl
theorem w_codes : ∀ c ∈ words1.filter isCode, c.before args0 about1 = true := by
  rw [codes_eq]
  intro c hc
  simp only [codes1, List.mem_cons, List.not_mem_nil, or_false] at hc
  rcases hc with rfl | rfl | rfl | rfl | rfl | rfl | rfl | rfl | rfl | rfl | rfl | rfl | rfl | rfl | rfl | rfl | rfl | rfl | rfl | rfl | rfl | rfl | rfl | rfl | rfl | rfl | rfl | rfl | rfl | rfl | rfl | rfl | rfl | rfl | rfl | rfl | rfl | rfl | rfl | rfl | rfl | rfl | rfl | rfl | rfl | rfl | rfl | rfl | rfl | rfl | rfl | rfl | rfl
  · exact w_c0
  · exact w_c1
  · exact w_c2
  · exact w_c3
  · exact w_c4
  · exact w_c5
  · exact w_c6
  · exact w_c7
  · exact w_c8
  · exact w_c9
  · exact w_c10
  · exact w_c11
  · exact w_c12
  · exact w_c13
  · exact w_c14
  · exact w_c15
  · exact w_c16
  · exact w_c17
  · exact w_c18
  · exact w_c19
  · exact w_c20
  · exact w_c21
  · exact w_c22
  · exact w_c23
  · exact w_c24
  · exact w_c25
  · exact w_c26
  · exact w_c27
  · exact w_c28
  · exact w_c29
  · exact w_c30
  · exact w_c31
  · exact w_c32
  · exact w_c33
  · exact w_c34
  · exact w_c35
  · exact w_c36
  · exact w_c37
  · exact w_c38
  · exact w_c39
  · exact w_c40
  · exact w_c41
  · exact w_c42
  · exact w_c43
  · exact w_c44
  · exact w_c45
  · exact w_c46
  · exact w_c47
  · exact w_c48
  · exact w_c49
  · exact w_c50
  · exact w_c51
  · exact w_c52
set_option maxRecDepth 65536 in
theorem w_t1 : (words1.take 24).all (fun c => isCode c || c.before args0 about1) = true := by decide +kernel
set_option maxRecDepth 65536 in
theorem w_t2 : ((words1.drop 24).take 24).all (fun c => isCode c || c.before args0 about1) = true := by decide +kernel
set_option maxRecDepth 65536 in
theorem w_t3 : (((words1.drop 24).drop 24).take 24).all (fun c => isCode c || c.before args0 about1) = true := by decide +kernel
set_option maxRecDepth 65536 in
theorem w_t4 : ((((words1.drop 24).drop 24).drop 24).take 24).all (fun c => isCode c || c.before args0 about1) = true := by decide +kernel
set_option maxRecDepth 65536 in
theorem w_t5 : (((((words1.drop 24).drop 24).drop 24).drop 24).take 24).all (fun c => isCode c || c.before args0 about1) = true := by decide +kernel
set_option maxRecDepth 65536 in
theorem w_t6 : ((((((words1.drop 24).drop 24).drop 24).drop 24).drop 24).take 24).all (fun c => isCode c || c.before args0 about1) = true := by decide +kernel
set_option maxRecDepth 65536 in
theorem w_t7 : (((((((words1.drop 24).drop 24).drop 24).drop 24).drop 24).drop 24).take 24).all (fun c => isCode c || c.before args0 about1) = true := by decide +kernel
set_option maxRecDepth 65536 in
theorem w_t8 : ((((((((words1.drop 24).drop 24).drop 24).drop 24).drop 24).drop 24).drop 24).take 24).all (fun c => isCode c || c.before args0 about1) = true := by decide +kernel
set_option maxRecDepth 65536 in
theorem w_t9 : (((((((((words1.drop 24).drop 24).drop 24).drop 24).drop 24).drop 24).drop 24).drop 24).take 24).all (fun c => isCode c || c.before args0 about1) = true := by decide +kernel
set_option maxRecDepth 65536 in
theorem w_t10 : ((((((((((words1.drop 24).drop 24).drop 24).drop 24).drop 24).drop 24).drop 24).drop 24).drop 24).take 24).all (fun c => isCode c || c.before args0 about1) = true := by decide +kernel
set_option maxRecDepth 65536 in
theorem w_t11 : (((((((((((words1.drop 24).drop 24).drop 24).drop 24).drop 24).drop 24).drop 24).drop 24).drop 24).drop 24).take 24).all (fun c => isCode c || c.before args0 about1) = true := by decide +kernel
set_option maxRecDepth 65536 in
theorem w_t12 : (((((((((((words1.drop 24).drop 24).drop 24).drop 24).drop 24).drop 24).drop 24).drop 24).drop 24).drop 24).drop 24).all (fun c => isCode c || c.before args0 about1) = true := by decide +kernel
theorem w_tables : (allAtoms (Jvm.Cond.code x code maxLocals ret :: tables_1)).before args0 about1 = true := by
  rw [allAtoms_all]
  show words1.all (fun c => c.before args0 about1) = true
  refine all_split ?_ w_codes
  rw [← List.take_append_drop 24 words1, List.all_append, w_t1, ← List.take_append_drop 24 (words1.drop 24), List.all_append, w_t2, ← List.take_append_drop 24 ((words1.drop 24).drop 24), List.all_append, w_t3, ← List.take_append_drop 24 (((words1.drop 24).drop 24).drop 24), List.all_append, w_t4, ← List.take_append_drop 24 ((((words1.drop 24).drop 24).drop 24).drop 24), List.all_append, w_t5, ← List.take_append_drop 24 (((((words1.drop 24).drop 24).drop 24).drop 24).drop 24), List.all_append, w_t6, ← List.take_append_drop 24 ((((((words1.drop 24).drop 24).drop 24).drop 24).drop 24).drop 24), List.all_append, w_t7, ← List.take_append_drop 24 (((((((words1.drop 24).drop 24).drop 24).drop 24).drop 24).drop 24).drop 24), List.all_append, w_t8, ← List.take_append_drop 24 ((((((((words1.drop 24).drop 24).drop 24).drop 24).drop 24).drop 24).drop 24).drop 24), List.all_append, w_t9, ← List.take_append_drop 24 (((((((((words1.drop 24).drop 24).drop 24).drop 24).drop 24).drop 24).drop 24).drop 24).drop 24), List.all_append, w_t10, ← List.take_append_drop 24 ((((((((((words1.drop 24).drop 24).drop 24).drop 24).drop 24).drop 24).drop 24).drop 24).drop 24).drop 24), List.all_append, w_t11, w_t12]
  rfl
set_option maxRecDepth 65536 in
theorem w_rest : rest_1_c.before args0 about1 = true := by decide +kernel
set_option maxRecDepth 65536 in
theorem w_case : (Jvm.Cond.and given_1 narrow_1).before args0 about1 = true := by decide +kernel
set_option maxRecDepth 65536 in
theorem w_consts : constsHeld consts_1 about1 := Jvm.Lit.constsHeldB_iff.mp (by decide +kernel)
theorem w_applies : (headSpec (Jvm.Cond.code x code maxLocals ret :: tables_1) room_1).applies x e0.platform about1 = true :=
  (Spec.applies_iff w_frames).mpr ⟨w_running, w_runnable, w_alone, w_named, w_hears, w_ripe, w_room, w_tables⟩
theorem atStart : AtStart classFile x code maxLocals ret World_1 tables_1 room_1 Calls_1 rest_1 Pre_1 launch0 p0 e0 about1 theMethod args0 below0 :=
  ⟨lists_1, trivial, launch0.admits_env _ _ _, launch0.least_env, fairChoices_fair.cas, fairChoices_fair.clock, w_frames, w_args, w_heap, w_applies, ⟨w_consts, trivial⟩, w_rest, w_case⟩
end start1
theorem witness_1 : WitnessClaimed_1 := ⟨start1.p0, start1.e0, start1.about1, start1.theMethod, start1.args0, start1.below0, start1.atStart⟩
end Jvm.Pilot.@@N@@
