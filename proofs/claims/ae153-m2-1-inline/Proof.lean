import JvmDerived
import JvmDerived.Pilot.@@N@@Statement
import JvmDerived.Pilot.@@N@@Code
set_option linter.unusedVariables false
set_option linter.unusedSimpArgs false
/-! OWN FRAMEWORK, part 1: a walk as one predicate 'Go' (the machine's state hidden), contracts 'Met'. -/
namespace Jvm.Pilot.@@N@@
namespace Own
open Jvm Jvm.ClassFile Sem Op Lib Jvm.Free Jvm.Stand Jvm.LawKit Jvm.RoadKit
/-- what one run of a body fixes: program, env, start, method id, arguments, frames below, method, code -/
abbrev Cx := Program × Env × State × MethodId × Array Value × List Frame × Method × Code
abbrev QT := Option Value → Heap → List Addr → Prop
/-- the words of the sheet, of the start Z -/
def Wd (Z : State) (a0 : Array Value) : Prop := (∀ d ∈ tables_1, d.before a0 Z = true) ∧ EW Z a0 consts_1 ∧ (∀ a ∈ Bundle.stringAtoms, a.before a0 Z = true) ∧ (∃ cz : Int32, Sta Z Z.heap "java/lang/String" "COMPACT_STRINGS" "Z" (.int cz) ∧ ¬ cz = 0) ∧ (∃ fm : Value, Sta Z Z.heap "jdk/internal/util/Preconditions" "SIOOBE_FORMATTER" "Ljava/util/function/BiFunction;" fm ∧ fm.isRef = true) ∧ (∀ d ∈ jdkStatics_1, d.before a0 Z = true)
/-- made since the law began, and no cell of a booked literal -/
def Mine (Z : State) (vm : Vm) (h : Heap) (x : Addr) : Prop := Z.heap.size ≤ x ∧ x < h.size ∧ Safe Z consts_1 vm h x
def St (l : Launch) (Z : State) (K : Cx) (own mn : String) (b : ByteArray) (ml : Nat) (rt : Option FieldType) (R : Room) (T : State) (h : Heap) (F : List Addr) (c s : Nat) : Prop :=
  ∃ (vm : Vm) (k : Nat) (locs : List Loc), Stand K.1 l K.2.1 R (K.2.2.1.setVm vm) K.2.2.2.1 K.2.2.2.2.1 K.2.2.2.2.2.1 K.2.2.2.2.2.2.1 K.2.2.2.2.2.2.2 T locs c s ∧ T.heap = h ∧
    K.2.2.1.Since vm k ∧ k ≤ h.size ∧ Z.Warmed39 vm ∧ vm.findClass own = some K.2.2.2.1.cls ∧ Fr Z.heap.size locs ∧ CHr Z consts_1 K.2.2.1.vm K.2.2.1.heap vm h ∧ (∀ x ∈ F, Mine Z vm h x) ∧ Old Z Z.heap.size h ∧
    K.1.tables.exec = Jvm.exec ∧ K.2.2.2.2.2.2.2.code = b ∧ K.2.2.2.2.2.2.2.maxLocals = ml ∧ K.2.2.2.2.2.2.1.sig.returnType = rt ∧ K.2.2.2.2.2.2.1.name = mn ∧ K.2.2.2.2.2.2.1.locks = false
def End (Z : State) (s : State) (R : Room) (Q : QT) (o : Outcome) (U : State) : Prop :=
  ∃ v L G, o = .returned v ∧ Q v U.heap G ∧ Fr Z.heap.size L ∧ (∀ x ∈ G, Mine Z U.vm U.heap x) ∧ CHr Z consts_1 s.vm s.heap U.vm U.heap ∧ Old Z Z.heap.size U.heap ∧ ReturnedEndW s o U L R.cells R.slots
def Go (l : Launch) (Z : State) (K : Cx) (own mn : String) (b : ByteArray) (ml : Nat) (rt : Option FieldType) (R : Room) (Q : QT) (h : Heap) (F : List Addr) (c s : Nat) (pc : Nat) (L : Array Slot) (S : List Value) : Prop :=
  ∀ T, St l Z K own mn b ml rt R T h F c s → ∃ s₂ o, Steps K.1.tables K.2.1 K.2.2.2.2.2.1 (T.setTop (mkF K.2.2.2.1 pc L S)) s₂ ∧ s₂.status = .running ∧ Ended s₂ K.2.2.2.2.2.1 o ∧ End Z K.2.2.1 R Q o s₂
/-- a body's contract -/
def Met (l : Launch) (Z : State) (y : MethodName) (b : ByteArray) (ml : Nat) (rt : Option FieldType) (R : Room) (h0 : Heap) (F : List Addr) (as : Array Value) (Q : QT) : Prop :=
  MetFree l y (head1 [Cond.code y b ml rt] R) (fun a U => a = as ∧ Z.Warmed39 U.vm ∧ U.heap = h0 ∧ CHv Z consts_1 U.vm h0 ∧ (∀ x ∈ F, Mine Z U.vm h0 x) ∧ Old Z Z.heap.size h0) (fun _ _ _ _ _ => True) (fun _ U o U' => End Z U R Q o U')
section G
variable {l : Launch} {Z : State} {a0 : Array Value} {K : Cx} {own mn : String} {b : ByteArray} {ml : Nat} {rt : Option FieldType} {R : Room} {Q : QT} {h h' : Heap} {F : List Addr} {c s pc q : Nat} {L L' : Array Slot} {S S' : List Value}
theorem Met.mk {y : MethodName} {as : Array Value} (hp : plainFor y = true) (he : ∀ m, entryFrame m as ml = mkF m 0 L []) (w : ∀ K, Go l Z K y.cls y.name b ml rt R Q h F 0 0 0 L []) : Met l Z y b ml rt R h F as Q := by
  refine MetFree.of_bodySF hp hisR ?_
  intro p e s m args below meth c s₁ Bd hml hP hK
  obtain ⟨rfl, hZ, hh, hC, hF, hO⟩ := hP
  have hst : s₁.heap = h := by rw [← hh, Bd.state]; rfl
  have X0 : Stand p l e R s m args below meth c s₁ [] 0 0 := Stand.of_body Bd
  obtain ⟨s₂, o, h1, h2, h3, h4⟩ := w (p, e, s, m, args, below, meth, c) s₁ ⟨s.vm, 0, [], X0, hst, ⟨State.Warmed39.refl _, (State.WarmedH.refl s).no_new_pair _⟩, Nat.zero_le _, hZ, findClass_of_methodNamed Bd.named, Fr.nil _, by
    show CHr Z consts_1 s.vm s.heap s.vm h
    rw [hh]; exact CHr.refl hC, hF, hO, Bd.exec, Bd.bytes, hml, Bd.returns, (name_of_methodNamed Bd.named Bd.method).1, Bd.notSynchronized⟩
  exact ⟨s₂, o, by rw [he]; exact h1, h2, h3, h4⟩
/-- the law's own contract, over the sheet's words -/
def MetL (l : Launch) (Z : State) (y : MethodName) (b : ByteArray) (ml : Nat) (rt : Option FieldType) (R : Room) (h0 : Heap) (F : List Addr) (as : Array Value) (Q : QT) : Prop :=
  MetFree l y (head1 (Cond.code y b ml rt :: tables_1) R) (fun a U => a = as ∧ Z.Warmed39 U.vm ∧ U.heap = h0 ∧ CHv Z consts_1 U.vm h0 ∧ (∀ x ∈ F, Mine Z U.vm h0 x) ∧ Old Z Z.heap.size h0) (fun _ _ _ _ _ => True) (fun _ U o U' => End Z U R Q o U')
theorem MetL.mk {y : MethodName} {as : Array Value} (hp : plainFor y = true) (he : ∀ m, entryFrame m as ml = mkF m 0 L []) (w : ∀ K, Go l Z K y.cls y.name b ml rt R Q h F 0 0 0 L []) : MetL l Z y b ml rt R h F as Q := by
  refine MetFree.of_bodySF hp hisR ?_
  intro p e s m args below meth c s₁ Bd hml hP hK
  obtain ⟨rfl, hZ, hh, hC, hF, hO⟩ := hP
  have hst : s₁.heap = h := by rw [← hh, Bd.state]; rfl
  have X0 : Stand p l e R s m args below meth c s₁ [] 0 0 := Stand.of_body Bd
  obtain ⟨s₂, o, h1, h2, h3, h4⟩ := w (p, e, s, m, args, below, meth, c) s₁ ⟨s.vm, 0, [], X0, hst, ⟨State.Warmed39.refl _, (State.WarmedH.refl s).no_new_pair _⟩, Nat.zero_le _, hZ, findClass_of_methodNamed Bd.named, Fr.nil _, by
    show CHr Z consts_1 s.vm s.heap s.vm h
    rw [hh]; exact CHr.refl hC, hF, hO, Bd.exec, Bd.bytes, hml, Bd.returns, (name_of_methodNamed Bd.named Bd.method).1, Bd.notSynchronized⟩
  exact ⟨s₂, o, by rw [he]; exact h1, h2, h3, h4⟩
theorem go_of (st : ∀ T, St l Z K own mn b ml rt R T h F c s → ∀ t, Steps K.1.tables K.2.1 K.2.2.2.2.2.1 (T.setTop (mkF K.2.2.2.1 q L' S')) t → Steps K.1.tables K.2.1 K.2.2.2.2.2.1 (T.setTop (mkF K.2.2.2.1 pc L S)) t)
    (n : Go l Z K own mn b ml rt R Q h F c s q L' S') : Go l Z K own mn b ml rt R Q h F c s pc L S := fun T X => by
  obtain ⟨s₂, o, a, r⟩ := n T X
  exact ⟨s₂, o, st T X _ a, r⟩
/-- the facts at hand may be fewer; the counts higher -/
theorem go_less {F' : List Addr} {c' s' : Nat} (hF : ∀ x ∈ F', x ∈ F) (hc : c ≤ c') (hs : s ≤ s') (n : Go l Z K own mn b ml rt R Q h F' c' s' pc L S) : Go l Z K own mn b ml rt R Q h F c s pc L S := fun T X => by
  obtain ⟨vm, k, locs, Y, r1, r2, r3, r4, r5, r6, r7, r8, r9⟩ := X
  exact n T ⟨vm, k, locs, Y.mono hc hs, r1, r2, r3, r4, r5, r6, r7, fun x hx => r8 x (hF x hx), r9⟩
/-- an object of a class of its own, made since the law began, may be written -/
theorem go_claim {x : Addr} {C : String} (E : Exa Z h x C) (hC : C ≠ "java/lang/String" ∧ C ≠ "[B") (hx : Z.heap.size ≤ x) (n : Go l Z K own mn b ml rt R Q h (x :: F) c s pc L S) : Go l Z K own mn b ml rt R Q h F c s pc L S := fun T X => by
  obtain ⟨vm, k, locs, Y, r1, r2, r3, r4, r5, r6, r7, r8, r9⟩ := X
  exact n T ⟨vm, k, locs, Y, r1, r2, r3, r4, r5, r6, r7, allS ⟨hx, E.lt, Safe.exa r4.alike E hC.1 hC.2⟩ r8, r9⟩
theorem go_claimA {x : Addr} {k : ClassId} {ty : FieldType} {z : Int32} {vs : List Value} {dv : Value} (E : Arv Z h x k ty z vs dv) (hC : ty ≠ .byte) (hx : Z.heap.size ≤ x) (n : Go l Z K own mn b ml rt R Q h (x :: F) c s pc L S) : Go l Z K own mn b ml rt R Q h F c s pc L S := fun T X => by
  obtain ⟨vm, k, locs, Y, r1, r2, r3, r4, r5, r6, r7, r8, r9⟩ := X
  obtain ⟨cl, A, -⟩ := id E
  exact n T ⟨vm, k, locs, Y, r1, r2, r3, r4, r5, r6, r7, allS ⟨hx, E.lt, Safe.arr r4.alike A hC⟩ r8, r9⟩
/-- what is mine lies in the heap and above the start -/
theorem go_mine (n : (∀ x ∈ F, Z.heap.size ≤ x ∧ x < h.size) → Old Z Z.heap.size h → Go l Z K own mn b ml rt R Q h F c s pc L S) : Go l Z K own mn b ml rt R Q h F c s pc L S := fun T X => by
  obtain ⟨vm, k, locs, Y, r1, r2, r3, r4, r5, r6, r7, r8, r9⟩ := id X
  exact n (fun x hx => ⟨(r8 x hx).1, (r8 x hx).2.1⟩) r9.1 T X
/-! ### the plain steps -/
theorem go_aloadN {k : Fin 4} {v : Value} (hd : decode b pc = .ok (.aload_n k, 1)) (hl : L[k.val]? = some (.val v)) (hv : v.isRef = true) (hq : pc + 1 = q) (n : Go l Z K own mn b ml rt R Q h F c s q L (v :: S)) : Go l Z K own mn b ml rt R Q h F c s pc L S := by
  subst hq; exact go_of (fun T X t st => by obtain ⟨vm, k, locs, Y, r1, r2, r3, r4, r5, r6, r7, r8, r9, hx, hb', r⟩ := X; exact XS.aloadN Y.here hx rfl (hb hb' hd) hl hv st) n
theorem go_aload {k : Nat} {v : Value} (hd : decode b pc = .ok (.aload k, 2)) (hl : L[k]? = some (.val v)) (hv : v.isRef = true) (hq : pc + 2 = q) (n : Go l Z K own mn b ml rt R Q h F c s q L (v :: S)) : Go l Z K own mn b ml rt R Q h F c s pc L S := by
  subst hq; exact go_of (fun T X t st => by obtain ⟨vm, k, locs, Y, r1, r2, r3, r4, r5, r6, r7, r8, r9, hx, hb', r⟩ := X; exact XS.aload Y.here hx rfl (hb hb' hd) hl hv st) n
theorem go_iloadN {k : Fin 4} {v : Int32} (hd : decode b pc = .ok (.iload_n k, 1)) (hl : L[k.val]? = some (.val (.int v))) (hq : pc + 1 = q) (n : Go l Z K own mn b ml rt R Q h F c s q L (.int v :: S)) : Go l Z K own mn b ml rt R Q h F c s pc L S := by
  subst hq; exact go_of (fun T X t st => by obtain ⟨vm, k, locs, Y, r1, r2, r3, r4, r5, r6, r7, r8, r9, hx, hb', r⟩ := X; exact XS.iloadN Y.here hx rfl (hb hb' hd) hl st) n
theorem go_iload {k : Nat} {v : Int32} (hd : decode b pc = .ok (.iload k, 2)) (hl : L[k]? = some (.val (.int v))) (hq : pc + 2 = q) (n : Go l Z K own mn b ml rt R Q h F c s q L (.int v :: S)) : Go l Z K own mn b ml rt R Q h F c s pc L S := by
  subst hq; exact go_of (fun T X t st => by obtain ⟨vm, k, locs, Y, r1, r2, r3, r4, r5, r6, r7, r8, r9, hx, hb', r⟩ := X; exact XS.iload Y.here hx rfl (hb hb' hd) hl st) n
theorem go_lloadN {k : Fin 4} {v : Int64} (hd : decode b pc = .ok (.lload_n k, 1)) (hl : L[k.val]? = some (.val (.long v))) (hq : pc + 1 = q) (n : Go l Z K own mn b ml rt R Q h F c s q L (.long v :: S)) : Go l Z K own mn b ml rt R Q h F c s pc L S := by
  subst hq; exact go_of (fun T X t st => by obtain ⟨vm, k, locs, Y, r1, r2, r3, r4, r5, r6, r7, r8, r9, hx, hb', r⟩ := X; exact XS.lloadN Y.here hx rfl (hb hb' hd) hl st) n
theorem go_lload {k : Nat} {v : Int64} (hd : decode b pc = .ok (.lload k, 2)) (hl : L[k]? = some (.val (.long v))) (hq : pc + 2 = q) (n : Go l Z K own mn b ml rt R Q h F c s q L (.long v :: S)) : Go l Z K own mn b ml rt R Q h F c s pc L S := by
  subst hq; exact go_of (fun T X t st => by obtain ⟨vm, k, locs, Y, r1, r2, r3, r4, r5, r6, r7, r8, r9, hx, hb', r⟩ := X; exact XS.lload Y.here hx rfl (hb hb' hd) hl st) n
theorem go_iconst {i : Int} {x : Int32} (hd : decode b pc = .ok (.iconst i, 1)) (hv : Int32.ofInt i = x) (hq : pc + 1 = q) (n : Go l Z K own mn b ml rt R Q h F c s q L (.int x :: S)) : Go l Z K own mn b ml rt R Q h F c s pc L S := by
  subst hq hv; exact go_of (fun T X t st => by obtain ⟨vm, k, locs, Y, r1, r2, r3, r4, r5, r6, r7, r8, r9, hx, hb', r⟩ := X; exact XS.iconst Y.here hx rfl (hb hb' hd) st) n
theorem go_bipush {i : Int} {x : Int32} (hd : decode b pc = .ok (.bipush i, 2)) (hv : (Int8.ofInt i).toInt32 = x) (hq : pc + 2 = q) (n : Go l Z K own mn b ml rt R Q h F c s q L (.int x :: S)) : Go l Z K own mn b ml rt R Q h F c s pc L S := by
  subst hq hv; exact go_of (fun T X t st => by obtain ⟨vm, k, locs, Y, r1, r2, r3, r4, r5, r6, r7, r8, r9, hx, hb', r⟩ := X; exact XS.bipush Y.here hx rfl (hb hb' hd) st) n
theorem go_sipush {i : Int} {x : Int32} (hd : decode b pc = .ok (.sipush i, 3)) (hv : (Int16.ofInt i).toInt32 = x) (hq : pc + 3 = q) (n : Go l Z K own mn b ml rt R Q h F c s q L (.int x :: S)) : Go l Z K own mn b ml rt R Q h F c s pc L S := by
  subst hq hv; exact go_of (fun T X t st => by obtain ⟨vm, k, locs, Y, r1, r2, r3, r4, r5, r6, r7, r8, r9, hx, hb', r⟩ := X; exact XS.sipush Y.here hx rfl (hb hb' hd) st) n
theorem go_lconst {k : Fin 2} {x : Int64} (hd : decode b pc = .ok (.lconst k, 1)) (hv : Int64.ofNat k = x) (hq : pc + 1 = q) (n : Go l Z K own mn b ml rt R Q h F c s q L (.long x :: S)) : Go l Z K own mn b ml rt R Q h F c s pc L S := by
  subst hq hv; exact go_of (fun T X t st => by obtain ⟨vm, k, locs, Y, r1, r2, r3, r4, r5, r6, r7, r8, r9, hx, hb', r⟩ := X; exact XS.lconst Y.here hx rfl (hb hb' hd) st) n
theorem go_null (hd : decode b pc = .ok (.aconst_null, 1)) (hq : pc + 1 = q) (n : Go l Z K own mn b ml rt R Q h F c s q L (.null :: S)) : Go l Z K own mn b ml rt R Q h F c s pc L S := by
  subst hq; exact go_of (fun T X t st => by obtain ⟨vm, k, locs, Y, r1, r2, r3, r4, r5, r6, r7, r8, r9, hx, hb', r⟩ := X; exact XS.aconstNull Y.here hx rfl (hb hb' hd) st) n
theorem go_iadd {x : Int32} {y : Int32} {r : Int32} (hd : decode b pc = .ok (.iadd, 1)) (hr : x + y = r) (hq : pc + 1 = q) (n : Go l Z K own mn b ml rt R Q h F c s q L (.int r :: S)) : Go l Z K own mn b ml rt R Q h F c s pc L (.int y :: .int x :: S) := by
  subst hq hr; exact go_of (fun T X t st => by obtain ⟨vm, k, locs, Y, r1, r2, r3, r4, r5, r6, r7, r8, r9, hx, hb', rr⟩ := X; exact XS.iadd Y.here hx rfl (hb hb' hd) rfl st) n
theorem go_isub {x : Int32} {y : Int32} {r : Int32} (hd : decode b pc = .ok (.isub, 1)) (hr : x - y = r) (hq : pc + 1 = q) (n : Go l Z K own mn b ml rt R Q h F c s q L (.int r :: S)) : Go l Z K own mn b ml rt R Q h F c s pc L (.int y :: .int x :: S) := by
  subst hq hr; exact go_of (fun T X t st => by obtain ⟨vm, k, locs, Y, r1, r2, r3, r4, r5, r6, r7, r8, r9, hx, hb', rr⟩ := X; exact XS.isub Y.here hx rfl (hb hb' hd) rfl st) n
theorem go_iand {x : Int32} {y : Int32} {r : Int32} (hd : decode b pc = .ok (.iand, 1)) (hr : x &&& y = r) (hq : pc + 1 = q) (n : Go l Z K own mn b ml rt R Q h F c s q L (.int r :: S)) : Go l Z K own mn b ml rt R Q h F c s pc L (.int y :: .int x :: S) := by
  subst hq hr; exact go_of (fun T X t st => by obtain ⟨vm, k, locs, Y, r1, r2, r3, r4, r5, r6, r7, r8, r9, hx, hb', rr⟩ := X; exact XS.iand Y.here hx rfl (hb hb' hd) rfl st) n
theorem go_imul {x : Int32} {y : Int32} {r : Int32} (hd : decode b pc = .ok (.imul, 1)) (hr : x * y = r) (hq : pc + 1 = q) (n : Go l Z K own mn b ml rt R Q h F c s q L (.int r :: S)) : Go l Z K own mn b ml rt R Q h F c s pc L (.int y :: .int x :: S) := by
  subst hq hr; exact go_of (fun T X t st => by obtain ⟨vm, k, locs, Y, r1, r2, r3, r4, r5, r6, r7, r8, r9, hx, hb', rr⟩ := X; exact XS.imul Y.here hx rfl (hb hb' hd) rfl st) n
theorem go_ixor {x : Int32} {y : Int32} {r : Int32} (hd : decode b pc = .ok (.ixor, 1)) (hr : x ^^^ y = r) (hq : pc + 1 = q) (n : Go l Z K own mn b ml rt R Q h F c s q L (.int r :: S)) : Go l Z K own mn b ml rt R Q h F c s pc L (.int y :: .int x :: S) := by
  subst hq hr; exact go_of (fun T X t st => by obtain ⟨vm, k, locs, Y, r1, r2, r3, r4, r5, r6, r7, r8, r9, hx, hb', rr⟩ := X; exact XT.ixor Y.here hx rfl (hb hb' hd) rfl st) n
theorem go_ior {x : Int32} {y : Int32} {r : Int32} (hd : decode b pc = .ok (.ior, 1)) (hr : x ||| y = r) (hq : pc + 1 = q) (n : Go l Z K own mn b ml rt R Q h F c s q L (.int r :: S)) : Go l Z K own mn b ml rt R Q h F c s pc L (.int y :: .int x :: S) := by
  subst hq hr; exact go_of (fun T X t st => by obtain ⟨vm, k, locs, Y, r1, r2, r3, r4, r5, r6, r7, r8, r9, hx, hb', rr⟩ := X; exact XT.ior Y.here hx rfl (hb hb' hd) rfl st) n
theorem go_ishl {x : Int32} {y : Int32} {r : Int32} (hd : decode b pc = .ok (.ishl, 1)) (hr : x <<< (y &&& 31) = r) (hq : pc + 1 = q) (n : Go l Z K own mn b ml rt R Q h F c s q L (.int r :: S)) : Go l Z K own mn b ml rt R Q h F c s pc L (.int y :: .int x :: S) := by
  subst hq hr; exact go_of (fun T X t st => by obtain ⟨vm, k, locs, Y, r1, r2, r3, r4, r5, r6, r7, r8, r9, hx, hb', rr⟩ := X; exact XT.ishl Y.here hx rfl (hb hb' hd) rfl st) n
theorem go_ishr {x : Int32} {y : Int32} {r : Int32} (hd : decode b pc = .ok (.ishr, 1)) (hr : x >>> (y &&& 31) = r) (hq : pc + 1 = q) (n : Go l Z K own mn b ml rt R Q h F c s q L (.int r :: S)) : Go l Z K own mn b ml rt R Q h F c s pc L (.int y :: .int x :: S) := by
  subst hq hr; exact go_of (fun T X t st => by obtain ⟨vm, k, locs, Y, r1, r2, r3, r4, r5, r6, r7, r8, r9, hx, hb', rr⟩ := X; exact XT.ishr Y.here hx rfl (hb hb' hd) rfl st) n
theorem go_iushr {x : Int32} {y : Int32} {r : Int32} (hd : decode b pc = .ok (.iushr, 1)) (hr : XT.ushr x y = r) (hq : pc + 1 = q) (n : Go l Z K own mn b ml rt R Q h F c s q L (.int r :: S)) : Go l Z K own mn b ml rt R Q h F c s pc L (.int y :: .int x :: S) := by
  subst hq hr; exact go_of (fun T X t st => by obtain ⟨vm, k, locs, Y, r1, r2, r3, r4, r5, r6, r7, r8, r9, hx, hb', rr⟩ := X; exact XT.iushr Y.here hx rfl (hb hb' hd) rfl st) n
theorem go_idiv {x : Int32} {y : Int32} {r : Int32} (hd : decode b pc = .ok (.idiv, 1)) (hy : y ≠ 0) (hr : x / y = r) (hq : pc + 1 = q) (n : Go l Z K own mn b ml rt R Q h F c s q L (.int r :: S)) : Go l Z K own mn b ml rt R Q h F c s pc L (.int y :: .int x :: S) := by
  subst hq hr; exact go_of (fun T X t st => by obtain ⟨vm, k, locs, Y, r1, r2, r3, r4, r5, r6, r7, r8, r9, hx, hb', rr⟩ := X; exact XS.idiv Y.here hx rfl (hb hb' hd) rfl hy st) n
theorem go_irem0 {x : Int32} {y : Int32} {r : Int32} (hd : decode b pc = .ok (.irem, 1)) (hy : y ≠ 0) (hr : x - (x / y) * y = r) (hq : pc + 1 = q) (n : Go l Z K own mn b ml rt R Q h F c s q L (.int r :: S)) : Go l Z K own mn b ml rt R Q h F c s pc L (.int y :: .int x :: S) := by
  subst hq hr; exact go_of (fun T X t st => by obtain ⟨vm, k, locs, Y, r1, r2, r3, r4, r5, r6, r7, r8, r9, hx, hb', rr⟩ := X; exact XS.irem Y.here hx rfl (hb hb' hd) rfl hy st) n
theorem go_ladd {x : Int64} {y : Int64} {r : Int64} (hd : decode b pc = .ok (.ladd, 1)) (hr : x + y = r) (hq : pc + 1 = q) (n : Go l Z K own mn b ml rt R Q h F c s q L (.long r :: S)) : Go l Z K own mn b ml rt R Q h F c s pc L (.long y :: .long x :: S) := by
  subst hq hr; exact go_of (fun T X t st => by obtain ⟨vm, k, locs, Y, r1, r2, r3, r4, r5, r6, r7, r8, r9, hx, hb', rr⟩ := X; exact XT.ladd Y.here hx rfl (hb hb' hd) rfl st) n
theorem go_lsub {x : Int64} {y : Int64} {r : Int64} (hd : decode b pc = .ok (.lsub, 1)) (hr : x - y = r) (hq : pc + 1 = q) (n : Go l Z K own mn b ml rt R Q h F c s q L (.long r :: S)) : Go l Z K own mn b ml rt R Q h F c s pc L (.long y :: .long x :: S) := by
  subst hq hr; exact go_of (fun T X t st => by obtain ⟨vm, k, locs, Y, r1, r2, r3, r4, r5, r6, r7, r8, r9, hx, hb', rr⟩ := X; exact XT.lsub Y.here hx rfl (hb hb' hd) rfl st) n
theorem go_lmul {x : Int64} {y : Int64} {r : Int64} (hd : decode b pc = .ok (.lmul, 1)) (hr : x * y = r) (hq : pc + 1 = q) (n : Go l Z K own mn b ml rt R Q h F c s q L (.long r :: S)) : Go l Z K own mn b ml rt R Q h F c s pc L (.long y :: .long x :: S) := by
  subst hq hr; exact go_of (fun T X t st => by obtain ⟨vm, k, locs, Y, r1, r2, r3, r4, r5, r6, r7, r8, r9, hx, hb', rr⟩ := X; exact XT.lmul Y.here hx rfl (hb hb' hd) rfl st) n
theorem go_land {x : Int64} {y : Int64} {r : Int64} (hd : decode b pc = .ok (.land, 1)) (hr : x &&& y = r) (hq : pc + 1 = q) (n : Go l Z K own mn b ml rt R Q h F c s q L (.long r :: S)) : Go l Z K own mn b ml rt R Q h F c s pc L (.long y :: .long x :: S) := by
  subst hq hr; exact go_of (fun T X t st => by obtain ⟨vm, k, locs, Y, r1, r2, r3, r4, r5, r6, r7, r8, r9, hx, hb', rr⟩ := X; exact XT.land Y.here hx rfl (hb hb' hd) rfl st) n
theorem go_lor {x : Int64} {y : Int64} {r : Int64} (hd : decode b pc = .ok (.lor, 1)) (hr : x ||| y = r) (hq : pc + 1 = q) (n : Go l Z K own mn b ml rt R Q h F c s q L (.long r :: S)) : Go l Z K own mn b ml rt R Q h F c s pc L (.long y :: .long x :: S) := by
  subst hq hr; exact go_of (fun T X t st => by obtain ⟨vm, k, locs, Y, r1, r2, r3, r4, r5, r6, r7, r8, r9, hx, hb', rr⟩ := X; exact XT.lor Y.here hx rfl (hb hb' hd) rfl st) n
theorem go_lxor {x : Int64} {y : Int64} {r : Int64} (hd : decode b pc = .ok (.lxor, 1)) (hr : x ^^^ y = r) (hq : pc + 1 = q) (n : Go l Z K own mn b ml rt R Q h F c s q L (.long r :: S)) : Go l Z K own mn b ml rt R Q h F c s pc L (.long y :: .long x :: S) := by
  subst hq hr; exact go_of (fun T X t st => by obtain ⟨vm, k, locs, Y, r1, r2, r3, r4, r5, r6, r7, r8, r9, hx, hb', rr⟩ := X; exact XT.lxor Y.here hx rfl (hb hb' hd) rfl st) n
theorem go_ldiv {x : Int64} {y : Int64} {r : Int64} (hd : decode b pc = .ok (.ldiv, 1)) (hy : y ≠ 0) (hr : x / y = r) (hq : pc + 1 = q) (n : Go l Z K own mn b ml rt R Q h F c s q L (.long r :: S)) : Go l Z K own mn b ml rt R Q h F c s pc L (.long y :: .long x :: S) := by
  subst hq hr; exact go_of (fun T X t st => by obtain ⟨vm, k, locs, Y, r1, r2, r3, r4, r5, r6, r7, r8, r9, hx, hb', rr⟩ := X; exact XT.ldiv Y.here hx rfl (hb hb' hd) rfl hy st) n
theorem go_lrem0 {x : Int64} {y : Int64} {r : Int64} (hd : decode b pc = .ok (.lrem, 1)) (hy : y ≠ 0) (hr : x - (x / y) * y = r) (hq : pc + 1 = q) (n : Go l Z K own mn b ml rt R Q h F c s q L (.long r :: S)) : Go l Z K own mn b ml rt R Q h F c s pc L (.long y :: .long x :: S) := by
  subst hq hr; exact go_of (fun T X t st => by obtain ⟨vm, k, locs, Y, r1, r2, r3, r4, r5, r6, r7, r8, r9, hx, hb', rr⟩ := X; exact XT.lrem Y.here hx rfl (hb hb' hd) rfl hy st) n
theorem go_lcmp {x : Int64} {y : Int64} {r : Int32} (hd : decode b pc = .ok (.lcmp, 1)) (hr : XT.cmpL x y = r) (hq : pc + 1 = q) (n : Go l Z K own mn b ml rt R Q h F c s q L (.int r :: S)) : Go l Z K own mn b ml rt R Q h F c s pc L (.long y :: .long x :: S) := by
  subst hq hr; exact go_of (fun T X t st => by obtain ⟨vm, k, locs, Y, r1, r2, r3, r4, r5, r6, r7, r8, r9, hx, hb', rr⟩ := X; exact XT.lcmp Y.here hx rfl (hb hb' hd) rfl st) n
theorem go_lshl {x : Int64} {y : Int32} {r : Int64} (hd : decode b pc = .ok (.lshl, 1)) (hr : x <<< (y.toInt64 &&& 63) = r) (hq : pc + 1 = q) (n : Go l Z K own mn b ml rt R Q h F c s q L (.long r :: S)) : Go l Z K own mn b ml rt R Q h F c s pc L (.int y :: .long x :: S) := by
  subst hq hr; exact go_of (fun T X t st => by obtain ⟨vm, k, locs, Y, r1, r2, r3, r4, r5, r6, r7, r8, r9, hx, hb', rr⟩ := X; exact XT.lshl Y.here hx rfl (hb hb' hd) rfl st) n
theorem go_lshr {x : Int64} {y : Int32} {r : Int64} (hd : decode b pc = .ok (.lshr, 1)) (hr : x >>> (y.toInt64 &&& 63) = r) (hq : pc + 1 = q) (n : Go l Z K own mn b ml rt R Q h F c s q L (.long r :: S)) : Go l Z K own mn b ml rt R Q h F c s pc L (.int y :: .long x :: S) := by
  subst hq hr; exact go_of (fun T X t st => by obtain ⟨vm, k, locs, Y, r1, r2, r3, r4, r5, r6, r7, r8, r9, hx, hb', rr⟩ := X; exact XT.lshr Y.here hx rfl (hb hb' hd) rfl st) n
theorem go_lushr {x : Int64} {y : Int32} {r : Int64} (hd : decode b pc = .ok (.lushr, 1)) (hr : XT.ushrL x y = r) (hq : pc + 1 = q) (n : Go l Z K own mn b ml rt R Q h F c s q L (.long r :: S)) : Go l Z K own mn b ml rt R Q h F c s pc L (.int y :: .long x :: S) := by
  subst hq hr; exact go_of (fun T X t st => by obtain ⟨vm, k, locs, Y, r1, r2, r3, r4, r5, r6, r7, r8, r9, hx, hb', rr⟩ := X; exact XT.lushr Y.here hx rfl (hb hb' hd) rfl st) n
theorem go_ineg {x : Int32} {r : Int32} (hd : decode b pc = .ok (.ineg, 1)) (hr : -x = r) (hq : pc + 1 = q) (n : Go l Z K own mn b ml rt R Q h F c s q L (.int r :: S)) : Go l Z K own mn b ml rt R Q h F c s pc L (.int x :: S) := by
  subst hq hr; exact go_of (fun T X t st => by obtain ⟨vm, k, locs, Y, r1, r2, r3, r4, r5, r6, r7, r8, r9, hx, hb', rr⟩ := X; exact XS.ineg Y.here hx rfl (hb hb' hd) rfl st) n
theorem go_lneg {x : Int64} {r : Int64} (hd : decode b pc = .ok (.lneg, 1)) (hr : -x = r) (hq : pc + 1 = q) (n : Go l Z K own mn b ml rt R Q h F c s q L (.long r :: S)) : Go l Z K own mn b ml rt R Q h F c s pc L (.long x :: S) := by
  subst hq hr; exact go_of (fun T X t st => by obtain ⟨vm, k, locs, Y, r1, r2, r3, r4, r5, r6, r7, r8, r9, hx, hb', rr⟩ := X; exact XT.lneg Y.here hx rfl (hb hb' hd) rfl st) n
theorem go_i2l {x : Int32} {r : Int64} (hd : decode b pc = .ok (.i2l, 1)) (hr : x.toInt64 = r) (hq : pc + 1 = q) (n : Go l Z K own mn b ml rt R Q h F c s q L (.long r :: S)) : Go l Z K own mn b ml rt R Q h F c s pc L (.int x :: S) := by
  subst hq hr; exact go_of (fun T X t st => by obtain ⟨vm, k, locs, Y, r1, r2, r3, r4, r5, r6, r7, r8, r9, hx, hb', rr⟩ := X; exact XT.i2l Y.here hx rfl (hb hb' hd) rfl st) n
theorem go_l2i {x : Int64} {r : Int32} (hd : decode b pc = .ok (.l2i, 1)) (hr : x.toInt32 = r) (hq : pc + 1 = q) (n : Go l Z K own mn b ml rt R Q h F c s q L (.int r :: S)) : Go l Z K own mn b ml rt R Q h F c s pc L (.long x :: S) := by
  subst hq hr; exact go_of (fun T X t st => by obtain ⟨vm, k, locs, Y, r1, r2, r3, r4, r5, r6, r7, r8, r9, hx, hb', rr⟩ := X; exact XT.l2i Y.here hx rfl (hb hb' hd) rfl st) n
theorem go_i2b {x : Int32} {r : Int32} (hd : decode b pc = .ok (.i2b, 1)) (hr : x.toInt8.toInt32 = r) (hq : pc + 1 = q) (n : Go l Z K own mn b ml rt R Q h F c s q L (.int r :: S)) : Go l Z K own mn b ml rt R Q h F c s pc L (.int x :: S) := by
  subst hq hr; exact go_of (fun T X t st => by obtain ⟨vm, k, locs, Y, r1, r2, r3, r4, r5, r6, r7, r8, r9, hx, hb', rr⟩ := X; exact XT.i2b Y.here hx rfl (hb hb' hd) rfl st) n
theorem go_i2c {x : Int32} {r : Int32} (hd : decode b pc = .ok (.i2c, 1)) (hr : x.toUInt32.toUInt16.toUInt32.toInt32 = r) (hq : pc + 1 = q) (n : Go l Z K own mn b ml rt R Q h F c s q L (.int r :: S)) : Go l Z K own mn b ml rt R Q h F c s pc L (.int x :: S) := by
  subst hq hr; exact go_of (fun T X t st => by obtain ⟨vm, k, locs, Y, r1, r2, r3, r4, r5, r6, r7, r8, r9, hx, hb', rr⟩ := X; exact XT.i2c Y.here hx rfl (hb hb' hd) rfl st) n
theorem go_i2s {x : Int32} {r : Int32} (hd : decode b pc = .ok (.i2s, 1)) (hr : x.toInt16.toInt32 = r) (hq : pc + 1 = q) (n : Go l Z K own mn b ml rt R Q h F c s q L (.int r :: S)) : Go l Z K own mn b ml rt R Q h F c s pc L (.int x :: S) := by
  subst hq hr; exact go_of (fun T X t st => by obtain ⟨vm, k, locs, Y, r1, r2, r3, r4, r5, r6, r7, r8, r9, hx, hb', rr⟩ := X; exact XT.i2s Y.here hx rfl (hb hb' hd) rfl st) n
theorem go_istoreN {k : Fin 4} {x : Int32} (hd : decode b pc = .ok (.istore_n k, 1)) (hl : storeLocals L k.val (.int x) = some L') (hq : pc + 1 = q) (n : Go l Z K own mn b ml rt R Q h F c s q L' S) : Go l Z K own mn b ml rt R Q h F c s pc L (.int x :: S) := by
  subst hq; exact go_of (fun T X t st => by obtain ⟨vm, k, locs, Y, r1, r2, r3, r4, r5, r6, r7, r8, r9, hx, hb', rr⟩ := X; exact XS.istoreN Y.here hx rfl (hb hb' hd) rfl hl st) n
theorem go_istore {k : Nat} {x : Int32} (hd : decode b pc = .ok (.istore k, 2)) (hl : storeLocals L k (.int x) = some L') (hq : pc + 2 = q) (n : Go l Z K own mn b ml rt R Q h F c s q L' S) : Go l Z K own mn b ml rt R Q h F c s pc L (.int x :: S) := by
  subst hq; exact go_of (fun T X t st => by obtain ⟨vm, k, locs, Y, r1, r2, r3, r4, r5, r6, r7, r8, r9, hx, hb', rr⟩ := X; exact XS.istore Y.here hx rfl (hb hb' hd) rfl hl st) n
theorem go_lstoreN {k : Fin 4} {x : Int64} (hd : decode b pc = .ok (.lstore_n k, 1)) (hl : storeLocals L k.val (.long x) = some L') (hq : pc + 1 = q) (n : Go l Z K own mn b ml rt R Q h F c s q L' S) : Go l Z K own mn b ml rt R Q h F c s pc L (.long x :: S) := by
  subst hq; exact go_of (fun T X t st => by obtain ⟨vm, k, locs, Y, r1, r2, r3, r4, r5, r6, r7, r8, r9, hx, hb', rr⟩ := X; exact XT.lstoreN Y.here hx rfl (hb hb' hd) rfl hl st) n
theorem go_lstore {k : Nat} {x : Int64} (hd : decode b pc = .ok (.lstore k, 2)) (hl : storeLocals L k (.long x) = some L') (hq : pc + 2 = q) (n : Go l Z K own mn b ml rt R Q h F c s q L' S) : Go l Z K own mn b ml rt R Q h F c s pc L (.long x :: S) := by
  subst hq; exact go_of (fun T X t st => by obtain ⟨vm, k, locs, Y, r1, r2, r3, r4, r5, r6, r7, r8, r9, hx, hb', rr⟩ := X; exact XT.lstore Y.here hx rfl (hb hb' hd) rfl hl st) n
theorem go_astoreN {k : Fin 4} {x : Value} (hd : decode b pc = .ok (.astore_n k, 1)) (hv : x.isRef = true) (hl : storeLocals L k.val (x) = some L') (hq : pc + 1 = q) (n : Go l Z K own mn b ml rt R Q h F c s q L' S) : Go l Z K own mn b ml rt R Q h F c s pc L (x :: S) := by
  subst hq; exact go_of (fun T X t st => by obtain ⟨vm, k, locs, Y, r1, r2, r3, r4, r5, r6, r7, r8, r9, hx, hb', rr⟩ := X; exact XS.astoreN Y.here hx rfl (hb hb' hd) rfl hv hl st) n
theorem go_astore {k : Nat} {x : Value} (hd : decode b pc = .ok (.astore k, 2)) (hv : x.isRef = true) (hl : storeLocals L k (x) = some L') (hq : pc + 2 = q) (n : Go l Z K own mn b ml rt R Q h F c s q L' S) : Go l Z K own mn b ml rt R Q h F c s pc L (x :: S) := by
  subst hq; exact go_of (fun T X t st => by obtain ⟨vm, k, locs, Y, r1, r2, r3, r4, r5, r6, r7, r8, r9, hx, hb', rr⟩ := X; exact XS.astore Y.here hx rfl (hb hb' hd) rfl hv hl st) n
theorem go_iinc {k : Nat} {i : Int} {x y : Int32} (hd : decode b pc = .ok (.iinc k i, 3)) (hl : L[k]? = some (.val (.int x))) (hy : x + Int32.ofInt i = y) (hl' : storeLocals L k (.int y) = some L') (hq : pc + 3 = q) (n : Go l Z K own mn b ml rt R Q h F c s q L' S) : Go l Z K own mn b ml rt R Q h F c s pc L S := by
  subst hq hy; exact go_of (fun T X t st => by obtain ⟨vm, k, locs, Y, r1, r2, r3, r4, r5, r6, r7, r8, r9, hx, hb', rr⟩ := X; exact XS.iinc Y.here hx rfl (hb hb' hd) hl hl' st) n
theorem go_dup {x : Value} (hd : decode b pc = .ok (.dup, 1)) (hc : x.category = 1) (hq : pc + 1 = q) (n : Go l Z K own mn b ml rt R Q h F c s q L (x :: x :: S)) : Go l Z K own mn b ml rt R Q h F c s pc L (x :: S) := by
  subst hq; exact go_of (fun T X t st => by obtain ⟨vm, k, locs, Y, r1, r2, r3, r4, r5, r6, r7, r8, r9, hx, hb', rr⟩ := X; exact XS.dup Y.here hx rfl (hb hb' hd) rfl hc st) n
theorem go_pop {x : Value} (hd : decode b pc = .ok (.pop, 1)) (hc : x.category = 1) (hq : pc + 1 = q) (n : Go l Z K own mn b ml rt R Q h F c s q L S) : Go l Z K own mn b ml rt R Q h F c s pc L (x :: S) := by
  subst hq; exact go_of (fun T X t st => by obtain ⟨vm, k, locs, Y, r1, r2, r3, r4, r5, r6, r7, r8, r9, hx, hb', rr⟩ := X; exact XT.pop Y.here hx rfl (hb hb' hd) rfl hc st) n
theorem go_dupX1 {x y : Value} (hd : decode b pc = .ok (.dup_x1, 1)) (hc : x.category = 1) (hc' : y.category = 1) (hq : pc + 1 = q) (n : Go l Z K own mn b ml rt R Q h F c s q L (x :: y :: x :: S)) : Go l Z K own mn b ml rt R Q h F c s pc L (x :: y :: S) := by
  subst hq; exact go_of (fun T X t st => by obtain ⟨vm, k, locs, Y, r1, r2, r3, r4, r5, r6, r7, r8, r9, hx, hb', rr⟩ := X; exact XT.dupX1 Y.here hx rfl (hb hb' hd) rfl hc hc' st) n
theorem go_dup2 {x y : Value} (hd : decode b pc = .ok (.dup2, 1)) (hc : x.category = 1) (hc' : y.category = 1) (hq : pc + 1 = q) (n : Go l Z K own mn b ml rt R Q h F c s q L (x :: y :: x :: y :: S)) : Go l Z K own mn b ml rt R Q h F c s pc L (x :: y :: S) := by
  subst hq; exact go_of (fun T X t st => by obtain ⟨vm, k, locs, Y, r1, r2, r3, r4, r5, r6, r7, r8, r9, hx, hb', rr⟩ := X; exact XT.dup2 Y.here hx rfl (hb hb' hd) rfl hc hc' st) n
theorem go_goto {o : Int} (hd : decode b pc = .ok (.goto o, 3)) (ho : 0 ≤ (pc : Int) + o) (hp : ((pc : Int) + o).toNat = q) (n : Go l Z K own mn b ml rt R Q h F c s q L S) : Go l Z K own mn b ml rt R Q h F c s pc L S := by
  exact go_of (fun T X t st => by obtain ⟨vm, k, locs, Y, r1, r2, r3, r4, r5, r6, r7, r8, r9, hx, hb', rr⟩ := X; exact XS.goto Y.here hx rfl rfl (hb hb' hd) ho hp st) n
/-- the condition as a plain proposition: taken, not taken -/
abbrev cY : ClassFile.Cond → Int32 → Int32 → Prop
  | .eq, x, y => x = y
  | .ne, x, y => ¬ x = y
  | .lt, x, y => x < y
  | .ge, x, y => ¬ x < y
  | .gt, x, y => y < x
  | .le, x, y => ¬ y < x
abbrev cN : ClassFile.Cond → Int32 → Int32 → Prop
  | .eq, x, y => ¬ x = y
  | .ne, x, y => x = y
  | .lt, x, y => ¬ x < y
  | .ge, x, y => x < y
  | .gt, x, y => ¬ y < x
  | .le, x, y => y < x
theorem cY_holds {cd : ClassFile.Cond} {x y : Int32} (h : cY cd x y) : if_icmp.holds cd x y = true := by
  cases cd with
  | eq => exact (teq h).1
  | ne => exact (feq h).2
  | lt => exact (tlt h).1
  | ge => exact (flt h).2.1
  | gt => exact (tlt h).2.2.1
  | le => exact (flt h).2.2.2
theorem cN_holds {cd : ClassFile.Cond} {x y : Int32} (h : cN cd x y) : if_icmp.holds cd x y = false := by
  cases cd with
  | eq => exact (feq h).1
  | ne => exact (teq h).2
  | lt => exact (flt h).1
  | ge => exact (tlt h).2.1
  | gt => exact (flt h).2.2.1
  | le => exact (tlt h).2.2.2
theorem go_ifY {cd : ClassFile.Cond} {x : Int32} {o : Int} (hd : decode b pc = .ok (.ifCond cd o, 3)) (hc : cY cd x 0) (ho : 0 ≤ (pc : Int) + o) (hp : ((pc : Int) + o).toNat = q) (n : Go l Z K own mn b ml rt R Q h F c s q L S) : Go l Z K own mn b ml rt R Q h F c s pc L (.int x :: S) := by
  exact go_of (fun T X t st => by obtain ⟨vm, k, locs, Y, r1, r2, r3, r4, r5, r6, r7, r8, r9, hx, hb', rr⟩ := X; exact XS.ifYes Y.here hx rfl rfl (hb hb' hd) rfl ((if0 _ _).trans (cY_holds hc)) ho hp st) n
theorem go_ifN {cd : ClassFile.Cond} {x : Int32} {o : Int} (hd : decode b pc = .ok (.ifCond cd o, 3)) (hc : cN cd x 0) (hq : pc + 3 = q) (n : Go l Z K own mn b ml rt R Q h F c s q L S) : Go l Z K own mn b ml rt R Q h F c s pc L (.int x :: S) := by
  subst hq; exact go_of (fun T X t st => by obtain ⟨vm, k, locs, Y, r1, r2, r3, r4, r5, r6, r7, r8, r9, hx, hb', rr⟩ := X; exact XS.ifNo Y.here hx rfl (hb hb' hd) rfl ((if0 _ _).trans (cN_holds hc)) st) n
theorem go_icY {cd : ClassFile.Cond} {x y : Int32} {o : Int} (hd : decode b pc = .ok (.if_icmp cd o, 3)) (hc : cY cd x y) (ho : 0 ≤ (pc : Int) + o) (hp : ((pc : Int) + o).toNat = q) (n : Go l Z K own mn b ml rt R Q h F c s q L S) : Go l Z K own mn b ml rt R Q h F c s pc L (.int y :: .int x :: S) := by
  exact go_of (fun T X t st => by obtain ⟨vm, k, locs, Y, r1, r2, r3, r4, r5, r6, r7, r8, r9, hx, hb', rr⟩ := X; exact XS.icmpYes Y.here hx rfl rfl (hb hb' hd) rfl (cY_holds hc) ho hp st) n
theorem go_icN {cd : ClassFile.Cond} {x y : Int32} {o : Int} (hd : decode b pc = .ok (.if_icmp cd o, 3)) (hc : cN cd x y) (hq : pc + 3 = q) (n : Go l Z K own mn b ml rt R Q h F c s q L S) : Go l Z K own mn b ml rt R Q h F c s pc L (.int y :: .int x :: S) := by
  subst hq; exact go_of (fun T X t st => by obtain ⟨vm, k, locs, Y, r1, r2, r3, r4, r5, r6, r7, r8, r9, hx, hb', rr⟩ := X; exact XS.icmpNo Y.here hx rfl (hb hb' hd) rfl (cN_holds hc) st) n
theorem go_nullY {o : Int} (hd : decode b pc = .ok (.ifnull o, 3)) (ho : 0 ≤ (pc : Int) + o) (hp : ((pc : Int) + o).toNat = q) (n : Go l Z K own mn b ml rt R Q h F c s q L S) : Go l Z K own mn b ml rt R Q h F c s pc L (.null :: S) := by
  exact go_of (fun T X t st => by obtain ⟨vm, k, locs, Y, r1, r2, r3, r4, r5, r6, r7, r8, r9, hx, hb', rr⟩ := X; exact XS.ifnullYes Y.here hx rfl rfl (hb hb' hd) rfl ho hp st) n
theorem go_nullN {a : Addr} {o : Int} (hd : decode b pc = .ok (.ifnull o, 3)) (hq : pc + 3 = q) (n : Go l Z K own mn b ml rt R Q h F c s q L S) : Go l Z K own mn b ml rt R Q h F c s pc L (.ref a :: S) := by
  subst hq; exact go_of (fun T X t st => by obtain ⟨vm, k, locs, Y, r1, r2, r3, r4, r5, r6, r7, r8, r9, hx, hb', rr⟩ := X; exact XS.ifnullNo Y.here hx rfl (hb hb' hd) rfl st) n
theorem go_nnY {a : Addr} {o : Int} (hd : decode b pc = .ok (.ifnonnull o, 3)) (ho : 0 ≤ (pc : Int) + o) (hp : ((pc : Int) + o).toNat = q) (n : Go l Z K own mn b ml rt R Q h F c s q L S) : Go l Z K own mn b ml rt R Q h F c s pc L (.ref a :: S) := by
  exact go_of (fun T X t st => by obtain ⟨vm, k, locs, Y, r1, r2, r3, r4, r5, r6, r7, r8, r9, hx, hb', rr⟩ := X; exact XT.ifnonnullYes Y.here hx rfl rfl (hb hb' hd) rfl ho hp st) n
theorem go_nnN {o : Int} (hd : decode b pc = .ok (.ifnonnull o, 3)) (hq : pc + 3 = q) (n : Go l Z K own mn b ml rt R Q h F c s q L S) : Go l Z K own mn b ml rt R Q h F c s pc L (.null :: S) := by
  subst hq; exact go_of (fun T X t st => by obtain ⟨vm, k, locs, Y, r1, r2, r3, r4, r5, r6, r7, r8, r9, hx, hb', rr⟩ := X; exact XT.ifnonnullNo Y.here hx rfl (hb hb' hd) rfl st) n
theorem go_acY {cd : ClassFile.ACond} {x y : Value} {o : Int} (hd : decode b pc = .ok (.if_acmp cd o, 3)) (h1 : x.isRef = true) (h2 : y.isRef = true) (hc : XT.acmp cd x y = true) (ho : 0 ≤ (pc : Int) + o) (hp : ((pc : Int) + o).toNat = q) (n : Go l Z K own mn b ml rt R Q h F c s q L S) : Go l Z K own mn b ml rt R Q h F c s pc L (y :: x :: S) := by
  exact go_of (fun T X t st => by obtain ⟨vm, k, locs, Y, r1, r2, r3, r4, r5, r6, r7, r8, r9, hx, hb', rr⟩ := X; exact XT.acmpYes Y.here hx rfl rfl (hb hb' hd) rfl h1 h2 hc ho hp st) n
theorem go_acN {cd : ClassFile.ACond} {x y : Value} {o : Int} (hd : decode b pc = .ok (.if_acmp cd o, 3)) (h1 : x.isRef = true) (h2 : y.isRef = true) (hc : XT.acmp cd x y = false) (hq : pc + 3 = q) (n : Go l Z K own mn b ml rt R Q h F c s q L S) : Go l Z K own mn b ml rt R Q h F c s pc L (y :: x :: S) := by
  subst hq; exact go_of (fun T X t st => by obtain ⟨vm, k, locs, Y, r1, r2, r3, r4, r5, r6, r7, r8, r9, hx, hb', rr⟩ := X; exact XT.acmpNo Y.here hx rfl (hb hb' hd) rfl h1 h2 hc st) n
theorem go_irem {x y r : Int32} (hd : decode b pc = .ok (.irem, 1)) (hy : y ≠ 0) (hr : x % y = r) (hq : pc + 1 = q) (n : Go l Z K own mn b ml rt R Q h F c s q L (.int r :: S)) : Go l Z K own mn b ml rt R Q h F c s pc L (.int y :: .int x :: S) := by
  subst hq hr; exact go_of (fun T X t st => by obtain ⟨vm, k, locs, Y, r1, r2, r3, r4, r5, r6, r7, r8, r9, hx, hb', r⟩ := X; exact iremM Y hx rfl (hb hb' hd) rfl hy st) n
theorem go_lrem {x y r : Int64} (hd : decode b pc = .ok (.lrem, 1)) (hy : y ≠ 0) (hr : x % y = r) (hq : pc + 1 = q) (n : Go l Z K own mn b ml rt R Q h F c s q L (.long r :: S)) : Go l Z K own mn b ml rt R Q h F c s pc L (.long y :: .long x :: S) := go_lrem0 hd hy ((lrem_mod x y).trans hr) hq n
end G
end Own
end Jvm.Pilot.@@N@@
/-! OWN FRAMEWORK, part 2: steps that touch the heap, returns, calls. -/
namespace Jvm.Pilot.@@N@@
namespace Own
open Jvm Jvm.ClassFile Sem Op Lib Jvm.Free Jvm.Stand Jvm.LawKit Jvm.RoadKit
section G
variable {l : Launch} {Z : State} {a0 : Array Value} {K : Cx} {own mn : String} {b : ByteArray} {ml : Nat} {rt : Option FieldType} {R : Room} {Q : QT} {h h' : Heap} {F : List Addr} {c s pc q c' s' : Nat} {L L' : Array Slot} {S S' : List Value}
theorem go_getfield {index : Nat} {R0 O n d : String} {a : Addr} {v : Value} (w : (Cond.fieldLink own index R0 n d).before a0 Z = true) (via : Via Z R0 O n d) (Fv : Fld Z h a O n d v) (hd : decode b pc = .ok (.getfield index, 3)) (hq : pc + 3 = q)
    (nx : Go l Z K own mn b ml rt R Q h F c s q L (v :: S)) : Go l Z K own mn b ml rt R Q h F c s pc L (.ref a :: S) := fun T X => by
  subst hq
  obtain ⟨vm, k, locs, Y, eT, hS, hk, hZ, hown, N, C, M, O, hx, hb', r⟩ := X
  obtain ⟨T', Y', e', st⟩ := getF Y hx hZ hown (host := "") (Or.inl w) via eT Fv (g := mkF K.2.2.2.1 pc L (.ref a :: S)) rfl rfl (hb hb' hd)
  obtain ⟨s₂, o, x, r'⟩ := nx T' ⟨vm, k, locs, Y', e', hS, hk, hZ, hown, N, C, M, O, hx, hb', r⟩
  exact ⟨s₂, o, st _ x, r'⟩
theorem go_getstatic {index : Nat} {R0 O n d : String} {v : Value} (w : (Cond.fieldLink own index R0 n d).before a0 Z = true) (via : Via Z R0 O n d) (Fv : Sta Z Z.heap O n d v) (hd : decode b pc = .ok (.getstatic index, 3)) (hq : pc + 3 = q)
    (nx : Go l Z K own mn b ml rt R Q h F c s q L (v :: S)) : Go l Z K own mn b ml rt R Q h F c s pc L S := fun T X => by
  subst hq
  obtain ⟨vm, k, locs, Y, eT, hS, hk, hZ, hown, N, C, M, O, hx, hb', r⟩ := X
  obtain ⟨T', Y', e', st⟩ := getS2 Y hx hZ hown (host := "") (Or.inl w) via eT (Fv.ext O.2) (g := mkF K.2.2.2.1 pc L S) rfl (hb hb' hd)
  obtain ⟨s₂, o, x, r'⟩ := nx T' ⟨vm, k, locs, Y', e', hS, hk, hZ, hown, N, C, M, O, hx, hb', r⟩
  exact ⟨s₂, o, st _ x, r'⟩
theorem St.wrote {vm : Vm} {k sl : Nat} {locs : List Loc} {T' : State} {a : Addr} {v : Value} (W : Wr h h' a sl v) (ha : a ∈ F) (Y : Stand K.1 l K.2.1 R (K.2.2.1.setVm vm) K.2.2.2.1 K.2.2.2.2.1 K.2.2.2.2.2.1 K.2.2.2.2.2.2.1 K.2.2.2.2.2.2.2 T' (locs ++ [⟨a, sl⟩]) c s) (e' : T'.heap = h')
    (hS : K.2.2.1.Since vm k) (hk : k ≤ h.size) (hZ : Z.Warmed39 vm) (hown : vm.findClass own = some K.2.2.2.1.cls) (N : Fr Z.heap.size locs) (C : CHr Z consts_1 K.2.2.1.vm K.2.2.1.heap vm h) (M : ∀ x ∈ F, Mine Z vm h x) (O : Old Z Z.heap.size h)
    (r : K.1.tables.exec = Jvm.exec ∧ K.2.2.2.2.2.2.2.code = b ∧ K.2.2.2.2.2.2.2.maxLocals = ml ∧ K.2.2.2.2.2.2.1.sig.returnType = rt ∧ K.2.2.2.2.2.2.1.name = mn ∧ K.2.2.2.2.2.2.1.locks = false) : St l Z K own mn b ml rt R T' h' F c s :=
  ⟨vm, k, _, Y, e', hS, by rw [W.size]; exact hk, hZ, hown, Fr.snoc Y N (M a ha).1, C.trans (CHr.wr W (M a ha).2.2 C.1), fun x hx => ⟨(M x hx).1, by rw [W.size]; exact (M x hx).2.1, Safe.wr W (M a ha).2.2 C.1 (M x hx).2.2⟩, O.wr W (M a ha).1, r⟩
theorem go_putfield {index kk : Nat} {R0 O n d C : String} {ty : FieldType} {a : Addr} {v old : Value} (w : (Cond.fieldLink own index R0 n d).before a0 Z = true) (via : Via Z R0 O n d) (Fv : Fld Z h a O n d old) (E : Exa Z h a C)
    (Ly : (Cond.lays C O n d).before a0 Z = true ∨ ((Cond.laysFinal C O n d).before a0 Z = true ∧ own = O ∧ mn = "<init>")) (wi : (Cond.instantiable C kk).before a0 Z = true) (hty : parseFieldDescriptor d = some ty) (hn : narrow ty v = v) (hf : fits ty v = true) (ha : a ∈ F)
    (hd : decode b pc = .ok (.putfield index, 3)) (hq : pc + 3 = q) (nx : ∀ h', Wr h h' a (RoadKit.slotOf Z O n d) v → Go l Z K own mn b ml rt R Q h' F c s q L S) : Go l Z K own mn b ml rt R Q h F c s pc L (v :: .ref a :: S) := fun T X => by
  subst hq
  obtain ⟨vm, k, locs, Y, eT, hS, hk, hZ, hown, N, C, M, O, hx, hb', r1, r2, r3, r4⟩ := X
  obtain ⟨T', h', Y', e', W, st⟩ := putF Y hx hZ hown (host := "") (Or.inl w) via eT Fv E (Ly.imp id fun z => ⟨z.1, z.2.1, r3.trans z.2.2⟩) wi hty hn hf (g := mkF K.2.2.2.1 pc L (v :: .ref a :: S)) rfl rfl (hb hb' hd)
  obtain ⟨s₂, o, x, r'⟩ := nx h' W T' (St.wrote W ha Y' e' hS hk hZ hown N C M O ⟨hx, hb', r1, r2, r3, r4⟩)
  exact ⟨s₂, o, st _ x, r'⟩
theorem St.grew {vm : Vm} {k : Nat} {locs : List Loc} {T' : State} (E : Ext h h') {F' : List Addr} (hF : ∀ x ∈ F', x ∈ F ∨ (h.size ≤ x ∧ x < h'.size)) (Y : Stand K.1 l K.2.1 R (K.2.2.1.setVm vm) K.2.2.2.1 K.2.2.2.2.1 K.2.2.2.2.2.1 K.2.2.2.2.2.2.1 K.2.2.2.2.2.2.2 T' locs c s) (e' : T'.heap = h')
    (hS : K.2.2.1.Since vm k) (hk : k ≤ h.size) (hZ : Z.Warmed39 vm) (hown : vm.findClass own = some K.2.2.2.1.cls) (N : Fr Z.heap.size locs) (C : CHr Z consts_1 K.2.2.1.vm K.2.2.1.heap vm h) (M : ∀ x ∈ F, Mine Z vm h x) (O : Old Z Z.heap.size h)
    (r : K.1.tables.exec = Jvm.exec ∧ K.2.2.2.2.2.2.2.code = b ∧ K.2.2.2.2.2.2.2.maxLocals = ml ∧ K.2.2.2.2.2.2.1.sig.returnType = rt ∧ K.2.2.2.2.2.2.1.name = mn ∧ K.2.2.2.2.2.2.1.locks = false) : St l Z K own mn b ml rt R T' h' F' c s :=
  ⟨vm, k, _, Y, e', hS, Nat.le_trans hk E.1, hZ, hown, N, C.trans (CHr.ext E C.1), fun x hx => by
    rcases hF x hx with q | ⟨q1, q2⟩
    · exact ⟨(M x q).1, Nat.lt_of_lt_of_le (M x q).2.1 E.1, Safe.ext E C.1 (M x q).2.2⟩
    · exact ⟨Nat.le_trans O.2.1 q1, q2, Safe.ext E C.1 (Safe.new q1)⟩, O.ext E, r⟩
theorem go_new {index n : Nat} {C : String} (w : (Cond.classLink own index C).before a0 Z = true) (wi : (Cond.instantiable C n).before a0 Z = true) (wz : (Cond.initialized C).before a0 Z = true) (hd : decode b pc = .ok (.new index, 3)) (hq : pc + 3 = q) (hc : c + 1 = c') (hs : s + n = s') (hc' : c' ≤ R.cells) (hs' : s' ≤ R.slots)
    (nx : ∀ h' a, a = h.size → Ext h h' → Exa Z h' a C → (∀ {O nm d : String} {ty : FieldType}, Laid Z a0 C O nm d → parseFieldDescriptor d = some ty → Fld Z h' a O nm d (defaultValue ty)) → Go l Z K own mn b ml rt R Q h' (a :: F) c' s' q L (.ref a :: S)) : Go l Z K own mn b ml rt R Q h F c s pc L S := fun T X => by
  subst hq hc hs
  obtain ⟨vm, k, locs, Y, eT, hS, hk, hZ, hown, N, C, M, O, r⟩ := X
  obtain ⟨T', h', Y', e', E, A, D, -, st⟩ := newO Y r.1 hZ hown w wi wz eT (g := mkF K.2.2.2.1 pc L S) rfl (hb r.2.1 hd) hc' hs'
  obtain ⟨s₂, o, x, r'⟩ := nx h' _ rfl E A D T' (St.grew E (fun x hx => by rcases List.mem_cons.mp hx with rfl | hx; exact Or.inr ⟨Nat.le_refl _, A.lt⟩; exact Or.inl hx) Y' e' hS hk hZ hown N C M O r)
  exact ⟨s₂, o, st _ x, r'⟩
/-- 'new', and the fresh cell as the exception laws want it -/
theorem go_newU {index n : Nat} {C : String} (w : (Cond.classLink own index C).before a0 Z = true) (wi : (Cond.instantiable C n).before a0 Z = true) (wz : (Cond.initialized C).before a0 Z = true) (hd : decode b pc = .ok (.new index, 3)) (hq : pc + 3 = q) (hc : c + 1 = c') (hs : s + n = s') (hc' : c' ≤ R.cells) (hs' : s' ≤ R.slots)
    (nx : ∀ h' a, a = h.size → Ext h h' → Exa Z h' a C → Unt h' a → (∀ {O nm d : String} {ty : FieldType}, Laid Z a0 C O nm d → parseFieldDescriptor d = some ty → Fld Z h' a O nm d (defaultValue ty)) → Go l Z K own mn b ml rt R Q h' (a :: F) c' s' q L (.ref a :: S)) : Go l Z K own mn b ml rt R Q h F c s pc L S := fun T X => by
  subst hq hc hs
  obtain ⟨vm, k, locs, Y, eT, hS, hk, hZ, hown, N, C, M, O, r⟩ := X
  obtain ⟨T', h', Y', e', E, A, D, U, st⟩ := newO Y r.1 hZ hown w wi wz eT (g := mkF K.2.2.2.1 pc L S) rfl (hb r.2.1 hd) hc' hs'
  obtain ⟨s₂, o, x, r'⟩ := nx h' _ rfl E A U D T' (St.grew E (fun x hx => by rcases List.mem_cons.mp hx with rfl | hx; exact Or.inr ⟨Nat.le_refl _, A.lt⟩; exact Or.inl hx) Y' e' hS hk hZ hown N C M O r)
  exact ⟨s₂, o, st _ x, r'⟩
theorem go_newarray {aty : ArrayType} {z : Int32} {cap n : Nat} {ad : String} {ty : FieldType} {dv : Value} (hty : newarray.typeOf aty = ty) (hdv : defaultValue ty = dv) (hzn : z.toNatClampNeg = n) (w : (Cond.arrayClass ty).before a0 Z = true) (hd : decode b pc = .ok (.newarray aty, 2)) (hz : ¬ z < 0) (hcap : n ≤ cap) (hbig : cap * 8 ≤ 536870912) (had : "[" ++ ty.toString = ad) (hq : pc + 2 = q) (hc : c + 1 = c') (hs : s + cap = s') (hc' : c' ≤ R.cells) (hs' : s' ≤ R.slots)
    (nx : ∀ h' a k, a = h.size → Ext h h' → Arv Z h' a k ty z (List.replicate n dv) dv → Exa Z h' a ad → Go l Z K own mn b ml rt R Q h' (a :: F) c' s' q L (.ref a :: S)) : Go l Z K own mn b ml rt R Q h F c s pc L (.int z :: S) := fun T X => by
  subst hq hc hs hty hdv hzn
  obtain ⟨vm, k, locs, Y, eT, hS, hk, hZ, hown, N, C, M, O, r⟩ := X
  obtain ⟨T', h', cA, Y', e', E, A, Ex, st⟩ := newPE Y r.1 hZ w eT (g := mkF K.2.2.2.1 pc L (.int z :: S)) rfl (hb r.2.1 hd) rfl hz hcap hbig hc' hs' had
  have V := (Arv.new A hz).pad (vs' := List.replicate z.toNatClampNeg (defaultValue (newarray.typeOf aty))) (fun i => by
    have := pad_rep [] (defaultValue (newarray.typeOf aty)) z.toNatClampNeg i
    simpa using this)
  obtain ⟨s₂, o, x, r'⟩ := nx h' _ _ rfl E V Ex T' (St.grew E (fun x hx => by rcases List.mem_cons.mp hx with rfl | hx; exact Or.inr ⟨Nat.le_refl _, A.lt⟩; exact Or.inl hx) Y' e' hS hk hZ hown N C M O r)
  exact ⟨s₂, o, st _ x, r'⟩
theorem go_anewarray {index : Nat} {C : String} {z : Int32} {cap : Nat} {ad : String} (w : (Cond.classLink own index C).before a0 Z = true) (w2 : (Cond.arrayOver (.object C)).before a0 Z = true) (hd : decode b pc = .ok (.anewarray index, 3)) (hz : ¬ z < 0) (hcap : z.toNatClampNeg ≤ cap) (hbig : cap * 8 ≤ 536870912) (had : "[" ++ (FieldType.object C).toString = ad) (hq : pc + 3 = q) (hc : c + 1 = c') (hs : s + cap = s') (hc' : c' ≤ R.cells) (hs' : s' ≤ R.slots)
    (nx : ∀ h' a k, a = h.size → Ext h h' → Arv Z h' a k (.object C) z (List.replicate z.toNatClampNeg .null) .null → Exa Z h' a ad → Ovr Z k C → Go l Z K own mn b ml rt R Q h' (a :: F) c' s' q L (.ref a :: S)) : Go l Z K own mn b ml rt R Q h F c s pc L (.int z :: S) := fun T X => by
  subst hq hc hs
  obtain ⟨vm, k, locs, Y, eT, hS, hk, hZ, hown, N, C, M, O, r⟩ := X
  obtain ⟨T', h', cA, Y', e', E, A, Ex, Ov, st⟩ := newRE Y r.1 hZ hown w w2 eT (g := mkF K.2.2.2.1 pc L (.int z :: S)) rfl (hb r.2.1 hd) rfl hz hcap hbig hc' hs' had
  have V0 : Arv Z h' h.size cA (.object _) z [] .null := Arv.new A hz
  have V := V0.pad (vs' := List.replicate z.toNatClampNeg .null) (fun i => by
    have := pad_rep [] .null z.toNatClampNeg i
    simpa using this)
  obtain ⟨s₂, o, x, r'⟩ := nx h' _ _ rfl E V Ex Ov T' (St.grew E (fun x hx => by rcases List.mem_cons.mp hx with rfl | hx; exact Or.inr ⟨Nat.le_refl _, A.lt⟩; exact Or.inl hx) Y' e' hS hk hZ hown N C M O r)
  exact ⟨s₂, o, st _ x, r'⟩
theorem fits_nar_byte (x : Int32) : fits .byte (.int (nar .byte x)) = true := Jvm.Free.SBG.fits_of_int8 _
theorem go_castore {a : Addr} {k : ClassId} {z j x y : Int32} {vs : List Value} {dv : Value} {i : Nat} (A : Arv Z h a k .char z vs dv) (hj : ¬ j < 0 ∧ j < z) (hi : j.toNatClampNeg = i) (hl : i < vs.length) (ha : a ∈ F) (hy : nar .char x = y) (hd : decode b pc = .ok (.castore, 1)) (hq : pc + 1 = q)
    (nx : ∀ h', Keep h h' [a] → h'.size = h.size → Arv Z h' a k .char z (vs.set i (.int y)) dv → Go l Z K own mn b ml rt R Q h' F c s q L S) : Go l Z K own mn b ml rt R Q h F c s pc L (.int x :: .int j :: .ref a :: S) := fun T X => by
  subst hq hy
  obtain ⟨vm, k, locs, Y, eT, hS, hk, hZ, hown, N, C, M, O, r⟩ := X
  obtain ⟨cl, Ar, q1, q2, q3, q4, q5⟩ := A
  have hin := inb_of q2 hj
  obtain ⟨T', h', Y', e', W, st⟩ := stC Y r.1 hZ eT Ar hin (g := mkF K.2.2.2.1 pc L (.int x :: .int j :: .ref a :: S)) rfl rfl (hb r.2.1 hd)
  obtain ⟨s₂, o, x, r'⟩ := nx h' (Keep.of_wr W) W.size (Arv.set Ar q1 q2 q3 q4 q5 (fits_nar_char x) W i hi hl) T' (St.wrote W ha Y' e' hS hk hZ hown N C M O r)
  exact ⟨s₂, o, st _ x, r'⟩
theorem go_bastore {a : Addr} {k : ClassId} {z j x y : Int32} {vs : List Value} {dv : Value} {i : Nat} (A : Arv Z h a k .byte z vs dv) (hj : ¬ j < 0 ∧ j < z) (hi : j.toNatClampNeg = i) (hl : i < vs.length) (ha : a ∈ F) (hy : nar .byte x = y) (hd : decode b pc = .ok (.bastore, 1)) (hq : pc + 1 = q)
    (nx : ∀ h', Keep h h' [a] → h'.size = h.size → Arv Z h' a k .byte z (vs.set i (.int y)) dv → Go l Z K own mn b ml rt R Q h' F c s q L S) : Go l Z K own mn b ml rt R Q h F c s pc L (.int x :: .int j :: .ref a :: S) := fun T X => by
  subst hq hy
  obtain ⟨vm, k, locs, Y, eT, hS, hk, hZ, hown, N, C, M, O, r⟩ := X
  obtain ⟨cl, Ar, q1, q2, q3, q4, q5⟩ := A
  have hin := inb_of q2 hj
  obtain ⟨T', h', Y', e', W, st⟩ := stB Y r.1 hZ eT Ar hin (g := mkF K.2.2.2.1 pc L (.int x :: .int j :: .ref a :: S)) rfl rfl (hb r.2.1 hd)
  obtain ⟨s₂, o, x, r'⟩ := nx h' (Keep.of_wr W) W.size (Arv.set Ar q1 q2 q3 q4 q5 (fits_nar_byte x) W i hi hl) T' (St.wrote W ha Y' e' hS hk hZ hown N C M O r)
  exact ⟨s₂, o, st _ x, r'⟩
theorem go_lastore {a : Addr} {k : ClassId} {z j : Int32} {x : Int64} {vs : List Value} {dv : Value} {i : Nat} (A : Arv Z h a k .long z vs dv) (hj : ¬ j < 0 ∧ j < z) (hi : j.toNatClampNeg = i) (hl : i < vs.length) (ha : a ∈ F) (hd : decode b pc = .ok (.lastore, 1)) (hq : pc + 1 = q)
    (nx : ∀ h', Keep h h' [a] → h'.size = h.size → Arv Z h' a k .long z (vs.set i (.long x)) dv → Go l Z K own mn b ml rt R Q h' F c s q L S) : Go l Z K own mn b ml rt R Q h F c s pc L (.long x :: .int j :: .ref a :: S) := fun T X => by
  subst hq
  obtain ⟨vm, k, locs, Y, eT, hS, hk, hZ, hown, N, C, M, O, r⟩ := X
  obtain ⟨cl, Ar, q1, q2, q3, q4, q5⟩ := A
  have hin := inb_of q2 hj
  obtain ⟨T', h', Y', e', W, st⟩ := stJ Y r.1 hZ eT Ar hin (g := mkF K.2.2.2.1 pc L (.long x :: .int j :: .ref a :: S)) rfl rfl (hb r.2.1 hd)
  obtain ⟨s₂, o, x, r'⟩ := nx h' (Keep.of_wr W) W.size (Arv.set Ar q1 q2 q3 q4 q5 rfl W i hi hl) T' (St.wrote W ha Y' e' hS hk hZ hown N C M O r)
  exact ⟨s₂, o, st _ x, r'⟩
theorem go_arraylength {a : Addr} {k : ClassId} {ty : FieldType} {z : Int32} {vs : List Value} {dv : Value} (A : Arv Z h a k ty z vs dv) (hd : decode b pc = .ok (.arraylength, 1)) (hq : pc + 1 = q)
    (nx : Go l Z K own mn b ml rt R Q h F c s q L (.int z :: S)) : Go l Z K own mn b ml rt R Q h F c s pc L (.ref a :: S) := by
  subst hq
  exact go_of (fun T X t st => by
    obtain ⟨vm, k, locs, Y, eT, hS, hk, hZ, hown, N, C, M, O, r⟩ := X
    obtain ⟨cl, Ar, q1, q2, q3, q4, q5⟩ := A
    refine Y.arraylength r.1 (by rw [eT]; exact Ar.1) (State.isArrayOf_alike hZ.alike Ar.2.1) (g := mkF K.2.2.2.1 pc L (.ref a :: S)) rfl rfl (hb r.2.1 hd) _ ?_
    rw [len_of q2 q3]; exact st) nx
theorem go_caload {a : Addr} {k : ClassId} {z j : Int32} {vs : List Value} {dv v : Value} (A : Arv Z h a k .char z vs dv) (hj : ¬ j < 0 ∧ j < z) (hv : vs.getD j.toNatClampNeg dv = v) (hd : decode b pc = .ok (.caload, 1)) (hq : pc + 1 = q)
    (nx : Go l Z K own mn b ml rt R Q h F c s q L (v :: S)) : Go l Z K own mn b ml rt R Q h F c s pc L (.int j :: .ref a :: S) := by
  subst hq
  exact go_of (fun T X t st => by
    obtain ⟨vm, k, locs, Y, eT, hS, hk, hZ, hown, N, C, M, O, r⟩ := X
    obtain ⟨cl, Ar, q1, q2, q3, q4, q5⟩ := A
    exact Y.caload r.1 (by rw [eT]; exact Ar.1) (State.isArrayOf_alike hZ.alike Ar.2.1) Ar.2.2 (inb_of q2 hj) (q4.at (inb_of q2 hj) hv) (g := mkF K.2.2.2.1 pc L (.int j :: .ref a :: S)) rfl rfl (hb r.2.1 hd) _ st) nx
theorem go_baload {a : Addr} {k : ClassId} {z j : Int32} {vs : List Value} {dv v : Value} (A : Arv Z h a k .byte z vs dv) (hj : ¬ j < 0 ∧ j < z) (hv : vs.getD j.toNatClampNeg dv = v) (hd : decode b pc = .ok (.baload, 1)) (hq : pc + 1 = q)
    (nx : Go l Z K own mn b ml rt R Q h F c s q L (v :: S)) : Go l Z K own mn b ml rt R Q h F c s pc L (.int j :: .ref a :: S) := by
  subst hq
  exact go_of (fun T X t st => by
    obtain ⟨vm, k, locs, Y, eT, hS, hk, hZ, hown, N, C, M, O, r⟩ := X
    obtain ⟨cl, Ar, q1, q2, q3, q4, q5⟩ := A
    exact Y.baloadBytes r.1 (by rw [eT]; exact Ar.1) (State.isArrayOf_alike hZ.alike Ar.2.1) Ar.2.2 (inb_of q2 hj) (q4.at (inb_of q2 hj) hv) (g := mkF K.2.2.2.1 pc L (.int j :: .ref a :: S)) rfl rfl (hb r.2.1 hd) _ st) nx
theorem go_laload {a : Addr} {k : ClassId} {z j : Int32} {vs : List Value} {dv v : Value} (A : Arv Z h a k .long z vs dv) (hj : ¬ j < 0 ∧ j < z) (hv : vs.getD j.toNatClampNeg dv = v) (hd : decode b pc = .ok (.laload, 1)) (hq : pc + 1 = q)
    (nx : Go l Z K own mn b ml rt R Q h F c s q L (v :: S)) : Go l Z K own mn b ml rt R Q h F c s pc L (.int j :: .ref a :: S) := by
  subst hq
  exact go_of (fun T X t st => by
    obtain ⟨vm, k, locs, Y, eT, hS, hk, hZ, hown, N, C, M, O, r⟩ := X
    obtain ⟨cl, Ar, q1, q2, q3, q4, q5⟩ := A
    exact Y.laload r.1 (by rw [eT]; exact Ar.1) (State.isArrayOf_alike hZ.alike Ar.2.1) Ar.2.2 (inb_of q2 hj) (q4.at (inb_of q2 hj) hv) (g := mkF K.2.2.2.1 pc L (.int j :: .ref a :: S)) rfl rfl (hb r.2.1 hd) _ st) nx
theorem go_aaload {a : Addr} {k : ClassId} {ty : FieldType} {z j : Int32} {vs : List Value} {dv v : Value} (A : Arv Z h a k ty z vs dv) (hty : ty.isReference = true) (hj : ¬ j < 0 ∧ j < z) (hv : vs.getD j.toNatClampNeg dv = v) (hd : decode b pc = .ok (.aaload, 1)) (hq : pc + 1 = q)
    (nx : Go l Z K own mn b ml rt R Q h F c s q L (v :: S)) : Go l Z K own mn b ml rt R Q h F c s pc L (.int j :: .ref a :: S) := by
  subst hq
  exact go_of (fun T X t st => by
    obtain ⟨vm, k, locs, Y, eT, hS, hk, hZ, hown, N, C, M, O, r⟩ := X
    obtain ⟨cl, Ar, q1, q2, q3, q4, q5⟩ := A
    exact Y.aaload r.1 (by rw [eT]; exact Ar.1) (State.isArrayOf_alike hZ.alike Ar.2.1) hty Ar.2.2 (inb_of q2 hj) (q4.at (inb_of q2 hj) hv) (g := mkF K.2.2.2.1 pc L (.int j :: .ref a :: S)) rfl rfl (hb r.2.1 hd) _ st) nx
theorem go_checkcast {index : Nat} {C : String} {a : Addr} (w : (Cond.classLink own index C).before a0 Z = true) (I : Ins Z h a C true) (hd : decode b pc = .ok (.checkcast index, 3)) (hq : pc + 3 = q)
    (nx : Go l Z K own mn b ml rt R Q h F c s q L (.ref a :: S)) : Go l Z K own mn b ml rt R Q h F c s pc L (.ref a :: S) := fun T X => by
  subst hq
  obtain ⟨vm, k, locs, Y, eT, hS, hk, hZ, hown, N, C, M, O, r⟩ := X
  obtain ⟨T', Y', e', st⟩ := castY Y r.1 hZ hown w eT I (g := mkF K.2.2.2.1 pc L (.ref a :: S)) rfl rfl (hb r.2.1 hd)
  obtain ⟨s₂, o, x, r'⟩ := nx T' ⟨vm, k, locs, Y', e', hS, hk, hZ, hown, N, C, M, O, r⟩
  exact ⟨s₂, o, st _ x, r'⟩
theorem go_instY {index : Nat} {C : String} {a : Addr} (w : (Cond.classLink own index C).before a0 Z = true) (I : Ins Z h a C true) (hd : decode b pc = .ok (.instanceof index, 3)) (hq : pc + 3 = q)
    (nx : Go l Z K own mn b ml rt R Q h F c s q L (.int 1 :: S)) : Go l Z K own mn b ml rt R Q h F c s pc L (.ref a :: S) := fun T X => by
  subst hq
  obtain ⟨vm, k, locs, Y, eT, hS, hk, hZ, hown, N, C, M, O, r⟩ := X
  obtain ⟨T', Y', e', st⟩ := instY Y r.1 hZ hown w eT I (g := mkF K.2.2.2.1 pc L (.ref a :: S)) rfl rfl (hb r.2.1 hd)
  obtain ⟨s₂, o, x, r'⟩ := nx T' ⟨vm, k, locs, Y', e', hS, hk, hZ, hown, N, C, M, O, r⟩
  exact ⟨s₂, o, st _ x, r'⟩
theorem go_instNo {index : Nat} {C D : String} {a : Addr} (w : (Cond.classLink own index D).before a0 Z = true) (E : Exa Z h a C) (Fn : ∃ c t, Z.vm.findClass C = some c ∧ Z.vm.findClass D = some t ∧ Z.vm.assignable c t = false) (hd : decode b pc = .ok (.instanceof index, 3)) (hq : pc + 3 = q)
    (nx : Go l Z K own mn b ml rt R Q h F c s q L (.int 0 :: S)) : Go l Z K own mn b ml rt R Q h F c s pc L (.ref a :: S) := fun T X => by
  subst hq
  obtain ⟨vm, k, locs, Y, eT, hS, hk, hZ, hown, N, C, M, O, r⟩ := X
  obtain ⟨T', Y', e', st⟩ := instNo Y r.1 hZ hown w eT E Fn (g := mkF K.2.2.2.1 pc L (.ref a :: S)) rfl rfl (hb r.2.1 hd)
  obtain ⟨s₂, o, x, r'⟩ := nx T' ⟨vm, k, locs, Y', e', hS, hk, hZ, hown, N, C, M, O, r⟩
  exact ⟨s₂, o, st _ x, r'⟩
theorem go_ldcInt {index : Nat} {v : Int32} (w : (Cond.constant own index v).before a0 Z = true) (hd : decode b pc = .ok (.ldc index, 2)) (hq : pc + 2 = q) (nx : Go l Z K own mn b ml rt R Q h F c s q L (.int v :: S)) : Go l Z K own mn b ml rt R Q h F c s pc L S := by
  subst hq
  exact go_of (fun T X t st => by
    obtain ⟨vm, k, locs, Y, eT, hS, hk, hZ, hown, N, C, M, O, r⟩ := X
    exact Y.ldcInt r.1 hown (mvT (s := K.2.2.1.setVm vm) hZ w) (g := mkF K.2.2.2.1 pc L S) rfl (hb r.2.1 hd) _ st) nx
theorem go_ldc2 {index : Nat} {v : Int64} (w : (Cond.constantLong own index v).before a0 Z = true) (hd : decode b pc = .ok (.ldc2_w index, 3)) (hq : pc + 3 = q) (nx : Go l Z K own mn b ml rt R Q h F c s q L (.long v :: S)) : Go l Z K own mn b ml rt R Q h F c s pc L S := by
  subst hq
  exact go_of (fun T X t st => by
    obtain ⟨vm, k, locs, Y, eT, hS, hk, hZ, hown, N, C, M, O, r⟩ := X
    exact Y.ldc2Long r.1 hown (mvT (s := K.2.2.1.setVm vm) hZ w) (g := mkF K.2.2.2.1 pc L S) rfl (hb r.2.1 hd) _ st) nx
/-- ldc of a String constant, read -/
theorem go_ldcS (H : Wd Z a0) {index : Nat} {text : String} (w : (Cond.stringLink own index text).before a0 Z = true) (hm : (own, index) ∈ consts_1) {vs : List Value} {z : Int32} (ht : (∀ c ∈ text.toList, c.toNat < 256) ∧ text.toList.map (fun c => Value.int (Jvm.Lit.byteI c.toNat.toUInt16)) = vs) (hz : ¬ z < 0) (hl : z.toNatClampNeg = vs.length)
    (hd : decode b pc = .ok (.ldc index, 2)) {n : Nat} (hn : 4 * text.toList.length ≤ n) (hbig : n ≤ 536870912) (hq : pc + 2 = q) (hc : c + 2 = c') (hs : s + (n + 4) = s') (hc' : c' ≤ R.cells) (hs' : s' ≤ R.slots)
    (nx : ∀ h' a bb k, Ext h h' → Exa Z h' a "java/lang/String" → Fld Z h' a "java/lang/String" "coder" "B" (.int 0) → Fld Z h' a "java/lang/String" "value" "[B" (.ref bb) → Arv Z h' bb k .byte z vs (.int 0) → (∀ x ∈ F, x ≠ a ∧ x ≠ bb) → Go l Z K own mn b ml rt R Q h' F c' s' q L (.ref a :: S)) : Go l Z K own mn b ml rt R Q h F c s pc L S := fun T X => by
  subst hq hc hs
  obtain ⟨vm, k, locs, Y, eT, hS, hk, hZ, hown, N, C, M, O, r⟩ := X
  obtain ⟨a, T', h', k1, bb, kc, Y', e', E, hS', hk', hZ', hown', A, Fc, Fv, V, -, -, C', -, Sf, st⟩ := ldcCH Y r.1 hZ hown w H.2.2.1 eT hS hk H.2.1 hm C.1 ht hz hl (g := mkF K.2.2.2.1 pc L S) rfl (hb r.2.1 hd) hn hbig hc' hs'
  have M' : ∀ x ∈ F, Mine Z T'.vm h' x := fun x hx => ⟨(M x hx).1, Nat.lt_of_lt_of_le (M x hx).2.1 E.1, C'.safe (M x hx).2.1 (M x hx).2.2⟩
  obtain ⟨s₂, o, x, r'⟩ := nx h' a bb kc E A Fc Fv V (fun x hx => Sf x (M' x hx).2.2) T' ⟨T'.vm, k1, locs, Y', e', hS', hk', hZ', hown', N, C.trans C', M', O.ext E, r⟩
  exact ⟨s₂, o, st _ x, r'⟩
theorem go_initO {index : Nat} {a : Addr} (w1 : (Cond.methodLink own index Lib.objectInit).before a0 Z = true) (w2 : (Cond.instanceMethod Lib.objectInit).before a0 Z = true) (w3 : (Cond.code Lib.objectInit ⟨#[0xb1]⟩ 1 none).before a0 Z = true) (hL : L.size = ml) (hd : decode b pc = .ok (.invokespecial index, 3)) (hq : pc + 3 = q) (hf : 1 ≤ R.frames) (hlo : (S.map fun v => v.category).sum + 12 ≤ R.locals)
    (nx : Go l Z K own mn b ml rt R Q h F c s q L S) : Go l Z K own mn b ml rt R Q h F c s pc L (.ref a :: S) := fun T X => by
  subst hq
  obtain ⟨vm, k, locs, Y, eT, hS, hk, hZ, hown, N, C, M, O, r⟩ := X
  obtain ⟨T', Y', e', st⟩ := initO Y r.1 hZ hown w1 w2 w3 eT (g := mkF K.2.2.2.1 pc L (.ref a :: S)) rfl (by rw [r.2.2.1]; exact hL) rfl (hb r.2.1 hd) hf (W := (S.map fun v => v.category).sum) (by show 2 * 0 + _ ≤ _; omega) hlo
  obtain ⟨s₂, o, x, r'⟩ := nx T' ⟨vm, k, locs, Y', e', hS, hk, hZ, hown, N, C, M, O, r⟩
  exact ⟨s₂, o, st _ x, r'⟩
/-! ### returns -/
theorem St.end_ (H : Wd Z a0) {T : State} (X : St l Z K own mn b ml rt R T h F c s) {G : List Addr} {v : Option Value} (hq : Q v h G) (hG : ∀ x ∈ G, x ∈ F) (hc : c ≤ R.cells) (hs : s ≤ R.slots) (hv : rt = none → v = none) :
    ∃ fs, (∀ (f : JFrame) (acts : List Action), f.method = K.2.2.2.1 → f.locked = none → f.entered = [] → (doReturn K.2.1 (T.setTop f) acts v).1 = T.setFrames fs) ∧ (T.setFrames fs).status = .running ∧ Ended (T.setFrames fs) K.2.2.2.2.2.1 (.returned v) ∧ End Z K.2.2.1 R Q (.returned v) (T.setFrames fs) := by
  obtain ⟨vm, k, locs, Y, eT, hS, hk, hZ, hown, N, C, M, O, hx, hb', r1, r2, r3, r4⟩ := X
  obtain ⟨fs, h1, h2, h3, h4⟩ := Y.leaveW hS (by rw [eT]; exact hk) (v := v) (fun e => hv (r2.symm.trans e)) r4
  have A := CHv.at Y hZ H.2.1 C.1
  refine ⟨fs, h1, h2, h3, v, locs, G, rfl, by show Q v T.heap G; rw [eT]; exact hq, N, fun x hx => ?_, by show CHr Z consts_1 _ _ T.vm T.heap; rw [eT]; exact C.trans A, by show Old Z _ T.heap; rw [eT]; exact O, h4.1, h4.2.1, h4.2.2.1, h4.2.2.2.mono hc hs⟩
  have m := M x (hG x hx)
  exact ⟨m.1, by show x < T.heap.size; rw [eT]; exact m.2.1, by show Safe Z consts_1 T.vm T.heap x; rw [eT]; exact A.safe m.2.1 m.2.2⟩
theorem go_return (H : Wd Z a0) {G : List Addr} (hr : rt = none) (hd : decode b pc = .ok (.return_, 1)) (hc : c ≤ R.cells) (hs : s ≤ R.slots) (hG : ∀ x ∈ G, x ∈ F) (hq : Q none h G) : Go l Z K own mn b ml rt R Q h F c s pc L [] := fun T X => by
  obtain ⟨fs, h1, h2, h3, h4⟩ := X.end_ H hq hG hc hs (fun _ => rfl)
  obtain ⟨vm, k, locs, Y, eT, hS, hk, hZ, hown, N, C, M, O, hx, hb', r1, r2, r3, r4⟩ := X
  exact ⟨_, _, Y.returnOut hx (r2.trans hr) (hb hb' hd) h1, h2, h3, h4⟩
theorem go_areturn (H : Wd Z a0) {G : List Addr} {w : Value} {t : FieldType} (hr : rt = some t) (ht : t.isReference = true) (hw : w.isRef = true) (hd : decode b pc = .ok (.areturn, 1)) (hc : c ≤ R.cells) (hs : s ≤ R.slots) (hG : ∀ x ∈ G, x ∈ F) (hq : Q (some w) h G) : Go l Z K own mn b ml rt R Q h F c s pc L (w :: S) := fun T X => by
  obtain ⟨fs, h1, h2, h3, h4⟩ := X.end_ H hq hG hc hs (fun e => by rw [hr] at e; cases e)
  obtain ⟨vm, k, locs, Y, eT, hS, hk, hZ, hown, N, C, M, O, hx, hb', r1, r2, r3, r4⟩ := X
  have hn : narrow t w = w := by cases t <;> cases w <;> simp_all [narrow, Value.isRef, FieldType.isReference]
  exact ⟨_, _, retOut Y hx (r2.trans hr) hn (Or.inr (Or.inr (Or.inr (Or.inr ⟨rfl, ht, hw⟩)))) (hb hb' hd) h1, h2, h3, h4⟩
theorem go_ireturn (H : Wd Z a0) {G : List Addr} {x : Int32} {t : FieldType} (hr : rt = some t) (ht : t = .int ∨ t = .boolean ∨ t = .byte ∨ t = .char ∨ t = .short) (hn : narrow t (.int x) = .int x) (hd : decode b pc = .ok (.ireturn, 1)) (hc : c ≤ R.cells) (hs : s ≤ R.slots) (hG : ∀ x ∈ G, x ∈ F) (hq : Q (some (.int x)) h G) : Go l Z K own mn b ml rt R Q h F c s pc L (.int x :: S) := fun T X => by
  obtain ⟨fs, h1, h2, h3, h4⟩ := X.end_ H hq hG hc hs (fun e => by rw [hr] at e; cases e)
  obtain ⟨vm, k, locs, Y, eT, hS, hk, hZ, hown, N, C, M, O, hx, hb', r1, r2, r3, r4⟩ := X
  exact ⟨_, _, retOut Y hx (r2.trans hr) hn (Or.inl ⟨rfl, ht, x, rfl⟩) (hb hb' hd) h1, h2, h3, h4⟩
theorem go_lreturn (H : Wd Z a0) {G : List Addr} {x : Int64} (hr : rt = some .long) (hd : decode b pc = .ok (.lreturn, 1)) (hc : c ≤ R.cells) (hs : s ≤ R.slots) (hG : ∀ x ∈ G, x ∈ F) (hq : Q (some (.long x)) h G) : Go l Z K own mn b ml rt R Q h F c s pc L (.long x :: S) := fun T X => by
  obtain ⟨fs, h1, h2, h3, h4⟩ := X.end_ H hq hG hc hs (fun e => by rw [hr] at e; cases e)
  obtain ⟨vm, k, locs, Y, eT, hS, hk, hZ, hown, N, C, M, O, hx, hb', r1, r2, r3, r4⟩ := X
  exact ⟨_, _, retOut Y hx (r2.trans hr) rfl (Or.inr (Or.inl ⟨rfl, rfl, x, rfl⟩)) (hb hb' hd) h1, h2, h3, h4⟩
/-! ### calls -/
/-- what a callee leaves, as the caller's law sees it -/
def Left (Z : State) (vm0 : Vm) (h : Heap) (R' : Room) (Q' : QT) (A : Pt) (v : Option Value) (B : Pt) : Prop :=
  ∃ L G, Q' v B.U.heap G ∧ Fr Z.heap.size L ∧ (∀ x ∈ G, Mine Z B.U.vm B.U.heap x) ∧ CHr Z consts_1 vm0 h B.U.vm B.U.heap ∧ Old Z Z.heap.size B.U.heap ∧ B.locs = A.locs ++ L ∧ B.cells = A.cells + R'.cells ∧ B.slots = A.slots + R'.slots
theorem Met.back {y : MethodName} {b' : ByteArray} {ml' : Nat} {rt' : Option FieldType} {R' : Room} {F' : List Addr} {as : Array Value} {Q' : QT} {len W : Nat} {vm0 : Vm} {p : Program} {e : Env} {below : List Frame} {s : State} {args : Array Value} (H : Wd Z a0) (M : Met l Z y b' ml' rt' R' h F' as Q') (hZ : Z.Warmed39 vm0)
    (wc : (Cond.code y b' ml' rt').before a0 Z = true) (wz : (Cond.initialized y.cls).before a0 Z = true) (hf : R'.frames + 1 ≤ R.frames) (hl : W + (ml' + 11) + R'.locals ≤ R.locals) (C : CHv Z consts_1 vm0 h) (hM : ∀ x ∈ F', Mine Z vm0 h x) (hO : Old Z Z.heap.size h) :
    BackS l R p e below (s.setVm vm0) args y len W (fun A a => a = as ∧ A.U.heap = h ∧ A.cells + R'.cells ≤ R.cells ∧ A.slots + R'.slots ≤ R.slots) (fun A _ v B => Left Z vm0 h R' Q' A v B) :=
  BackS.of_freeW (bytes := b') (maxL := ml') (ret := rt') (E := fun _ first o t L k n => k = R'.cells ∧ n = R'.slots ∧ ∃ v G, o = .returned v ∧ Q' v t.heap G ∧ Fr Z.heap.size L ∧ (∀ x ∈ G, Mine Z t.vm t.heap x) ∧ CHr Z consts_1 first.vm first.heap t.vm t.heap ∧ Old Z Z.heap.size t.heap) M hf hl
    (fun m meth c A a Y hp => have hU : Z.Warmed39 A.U.vm := wtrans (s := s.setVm vm0) hZ Y.warmed
      ⟨by show (Cond.and _ .tt).before a A.U = true; rw [Cond.before_and, mv hU wc]; rfl, mv hU wc, mv hU wz, hp.2.2.1, hp.2.2.2⟩)
    (fun m meth c A a g mk Y hp => ⟨hp.1, wtrans (s := s.setVm vm0) hZ Y.warmed, hp.2.1, (CHv.at Y hZ H.2.1 C).1, fun x hx => ⟨(hM x hx).1, (hM x hx).2.1, (CHv.at Y hZ H.2.1 C).safe (hM x hx).2.1 (hM x hx).2.2⟩, hO⟩) (fun _ _ _ _ _ _ _ _ _ => trivial)
    (fun _ _ _ _ ⟨v, L, G, h1, h2, h3, h4, h5, h6, h7⟩ => ⟨L, _, _, h7, rfl, rfl, v, G, h1, h2, h3, h4, h5, h6⟩)
    (fun m meth c A a g mk v t L k n Y hp _ _ ⟨e1, e2, v', G, e3, e4, e5, e6, e7, e8⟩ => by
      cases e3; subst e1 e2
      refine ⟨L, G, e4, e5, e6, (CHv.at Y hZ H.2.1 C).trans ?_, e8, rfl, rfl, rfl⟩
      rw [← hp.2.1]; exact e7)
/-- behind a call -/
theorem St.came {vm : Vm} {k : Nat} {locs : List Loc} {T : State} {R' : Room} {Q' : QT} {v : Option Value} {vm₁ : Vm} {B : Pt} (Y : Stand K.1 l K.2.1 R (K.2.2.1.setVm vm) K.2.2.2.1 K.2.2.2.2.1 K.2.2.2.2.2.1 K.2.2.2.2.2.2.1 K.2.2.2.2.2.2.2 T locs c s) (eT : T.heap = h) (hS : K.2.2.1.Since vm k) (hk : k ≤ h.size)
    (hZ : Z.Warmed39 vm) (hown : vm.findClass own = some K.2.2.2.1.cls) (N : Fr Z.heap.size locs) (C : CHr Z consts_1 K.2.2.1.vm K.2.2.1.heap vm h) (M : ∀ x ∈ F, Mine Z vm h x)
    (r : K.1.tables.exec = Jvm.exec ∧ K.2.2.2.2.2.2.2.code = b ∧ K.2.2.2.2.2.2.2.maxLocals = ml ∧ K.2.2.2.2.2.2.1.sig.returnType = rt ∧ K.2.2.2.2.2.2.1.name = mn ∧ K.2.2.2.2.2.2.1.locks = false)
    (Y' : Stand K.1 l K.2.1 R ((K.2.2.1.setVm vm).setVm B.U.vm) K.2.2.2.1 K.2.2.2.2.1 K.2.2.2.2.2.1 K.2.2.2.2.2.2.1 K.2.2.2.2.2.2.2 B.U B.locs B.cells B.slots) (hS' : (K.2.2.1.setVm vm).Since B.U.vm B.U.heap.size) (hg : T.heap.size ≤ B.U.heap.size) (P : Left Z vm h R' Q' ⟨T.setVm vm₁, locs, c, s⟩ v B) :
    ∃ G, Q' v B.U.heap G ∧ (∀ F2, (∀ x ∈ F2, x ∈ G ∨ x ∈ F) → St l Z K own mn b ml rt R B.U B.U.heap F2 (c + R'.cells) (s + R'.slots)) := by
  obtain ⟨Lc, G, q1, q2, q3, q4, q5, q6, q7, q8⟩ := P
  have hkT : k ≤ T.heap.size := by rw [eT]; exact hk
  obtain ⟨w1, w2, w3, w4⟩ := rebS hS hkT Y' hS' hg hZ hown
  try dsimp only at q6 q7 q8
  rw [q6, q7, q8] at w1
  exact ⟨G, q1, fun F2 hF => ⟨B.U.vm, _, _, w1, rfl, w2, Nat.le_refl _, w3, w4, N.app q2, C.trans q4, fun x hx => by
    rcases hF x hx with z | z
    · exact q3 x z
    · have m := M x z
      exact ⟨m.1, Nat.lt_of_lt_of_le m.2.1 (by rw [← eT]; exact hg), q4.safe m.2.1 m.2.2⟩, q5, r⟩⟩
theorem decl_of {y : MethodName} {b' : ByteArray} {ml' : Nat} {rt' : Option FieldType} (w1 : (Cond.instanceMethod y).before a0 Z = true) (w2 : (Cond.code y b' ml' rt').before a0 Z = true) : (Cond.declares y).before a0 Z = true := by
  obtain ⟨mk, methM, hn, hm, hst, -⟩ := Cond.instanceMethod_spec w1
  obtain ⟨m2, cM, q1, -, -, -, -, -, -, hsig⟩ := Cond.code_spec hn w2
  cases hm.symm.trans q1
  simp [Cond.before, Cond.holds, Cond.value, hn, hm, hst, hsig]
theorem nf_mate {y w : MethodName} {C : String} (hc : w.cls = y.cls) (hs : (Cond.selects C w w).before a0 Z = true) : ∀ s : State, Z.Warmed39 s.vm → NotFace s y := fun s hZ r0 h0 => by
  obtain ⟨c, r, m, q1, q2, q3, q4, mk, q5, q6⟩ := Cond.selects_spec (mvT (s := s) (args := #[]) hZ hs)
  have e1 := findClass_of_methodNamed q3
  have e2 := findClass_of_methodNamed h0
  rw [hc] at e1
  have e3 : m.cls = r0.cls := Option.some.inj (e1.symm.trans e2)
  exact ⟨mk, by rw [← e3]; exact q5, q6⟩
theorem same_of {y w : MethodName} {C : String} (hc : w.cls = y.cls) (hs : (Cond.selects C w w).before a0 Z = true) (hd : (Cond.declares y).before a0 Z = true) (hy : y.cls ≠ "java/lang/invoke/MethodHandle" ∧ y.cls ≠ "java/lang/invoke/VarHandle") : (Cond.sameMethod y.cls y.cls y.name y.desc).before a0 Z = true := by
  obtain ⟨r0, r, hn, hrm, -, -⟩ := Cond.declares_spec hd
  obtain ⟨k, hk, hi⟩ := nf_mate hc hs Z (State.Warmed39.refl Z) r0 hn
  have hf := State.methodFound?_of_named hn hy
  have hcn := findClass_of_methodNamed hn
  have hn' : Z.methodNamed? ⟨y.cls, y.name, y.desc⟩ = some r0 := hn
  simp [Cond.before, Cond.holds, Cond.value, hcn, hf, hn', hk, hi]
section Calls
variable {index : Nat} {y : MethodName} {b' : ByteArray} {ml' : Nat} {rt' : Option FieldType} {R' : Room} {F' : List Addr} {as : Array Value} {Q' : QT} {argsL : List Value}
theorem go_static (H : Wd Z a0) (w1 : (Cond.methodLink own index y).before a0 Z = true) (w2 : (Cond.static y).before a0 Z = true) (w3 : (Cond.initialized y.cls).before a0 Z = true) (w4 : (Cond.code y b' ml' rt').before a0 Z = true) (hy : y.cls ≠ "java/lang/invoke/MethodHandle" ∧ y.cls ≠ "java/lang/invoke/VarHandle") (M' : Met l Z y b' ml' rt' R' h F' as Q')
    (ha : argsL.toArray = as) (hst : S' = argsL.reverse ++ S) (hlen : ∀ sig, parseMethodDescriptor y.desc = some sig → argsL.length = sig.parameters.length) (hF : ∀ x ∈ F', x ∈ F) (hL : L.size = ml) (hfr : R'.frames + 1 ≤ R.frames) (hlo : (S.map fun v => v.category).sum + (ml' + 11) + R'.locals ≤ R.locals) (hc : c + R'.cells = c') (hs : s + R'.slots = s') (hc' : c' ≤ R.cells) (hs' : s' ≤ R.slots)
    (hd : decode b pc = .ok (.invokestatic index, 3)) (hq : pc + 3 = q) (nx : ∀ v h' G, h.size ≤ h'.size → Q' v h' G → ∃ F2, (∀ x ∈ F2, x ∈ G ∨ x ∈ F) ∧ Go l Z K own mn b ml rt R Q h' F2 c' s' q L (v.toList ++ S)) : Go l Z K own mn b ml rt R Q h F c s pc L S' := fun T X => by
  subst hq hc hs hst ha
  obtain ⟨vm, k, locs, Y, eT, hS, hk, hZ, hown, N, C, M, O, r⟩ := X
  obtain ⟨v, vm₁, B, -, Y', hS', hg, P, st⟩ := callSS Y r.1 hown (mvT (s := K.2.2.1.setVm vm) hZ w1) (mvT (s := K.2.2.1.setVm vm) hZ w2) (mvT (s := K.2.2.1.setVm vm) hZ w3) (mvT (s := K.2.2.1.setVm vm) hZ w4) hy (W := (S.map fun v => v.category).sum) (M'.back H hZ w4 w3 hfr hlo C.1 (fun x hx => M x (hF x hx)) O) (g := mkF K.2.2.2.1 pc L (argsL.reverse ++ S)) rfl (by rw [r.2.2.1]; exact hL) (argsL := argsL) (rest := S) hlen rfl (by show 2 * 0 + _ ≤ _; omega) (hb r.2.1 hd) (fun _ _ => ⟨rfl, eT, hc', hs'⟩)
  obtain ⟨G, q1, q2⟩ := St.came Y eT hS hk hZ hown N C M r Y' hS' hg P
  obtain ⟨F2, f1, f2⟩ := nx v B.U.heap G (by rw [← eT]; exact hg) q1
  obtain ⟨s₂, o, x, r'⟩ := f2 B.U (q2 F2 f1)
  exact ⟨s₂, o, st.trans x, r'⟩
theorem go_special (H : Wd Z a0) {a : Addr} (hy1 : y.name = "<init>") (w1 : (Cond.methodLink own index y).before a0 Z = true) (w2 : (Cond.instanceMethod y).before a0 Z = true) (w3 : (Cond.initialized y.cls).before a0 Z = true) (w4 : (Cond.code y b' ml' none).before a0 Z = true) (hy : y.cls ≠ "java/lang/invoke/MethodHandle" ∧ y.cls ≠ "java/lang/invoke/VarHandle") (M' : Met l Z y b' ml' none R' h F' as Q')
    (ha : (.ref a :: argsL).toArray = as) (hst : S' = argsL.reverse ++ .ref a :: S) (hlen : ∀ sig, parseMethodDescriptor y.desc = some sig → argsL.length = sig.parameters.length) (hF : ∀ x ∈ F', x ∈ F) (hL : L.size = ml) (hfr : R'.frames + 1 ≤ R.frames) (hlo : (S.map fun v => v.category).sum + (ml' + 11) + R'.locals ≤ R.locals) (hc : c + R'.cells = c') (hs : s + R'.slots = s') (hc' : c' ≤ R.cells) (hs' : s' ≤ R.slots)
    (hd : decode b pc = .ok (.invokespecial index, 3)) (hq : pc + 3 = q) (nx : ∀ v h' G, h.size ≤ h'.size → Q' v h' G → ∃ F2, (∀ x ∈ F2, x ∈ G ∨ x ∈ F) ∧ Go l Z K own mn b ml rt R Q h' F2 c' s' q L (v.toList ++ S)) : Go l Z K own mn b ml rt R Q h F c s pc L S' := fun T X => by
  subst hq hc hs hst ha
  obtain ⟨vm, k, locs, Y, eT, hS, hk, hZ, hown, N, C, M, O, r⟩ := X
  obtain ⟨v, vm₁, B, -, Y', hS', hg, P, st⟩ := Y.specialBackS r.1 hy1 hown (mvT (s := K.2.2.1.setVm vm) hZ w1) (mvT (s := K.2.2.1.setVm vm) hZ w2) (mvT (s := K.2.2.1.setVm vm) hZ w4) hy (W := (S.map fun v => v.category).sum) (M'.back H hZ w4 w3 hfr hlo C.1 (fun x hx => M x (hF x hx)) O) (g := mkF K.2.2.2.1 pc L (argsL.reverse ++ .ref a :: S)) rfl (by rw [r.2.2.1]; exact hL) (Steps.refl _) (argsL := argsL) (rest := S) hlen rfl (by show 2 * 0 + _ ≤ _; omega) (hb r.2.1 hd) (fun _ _ => ⟨rfl, eT, hc', hs'⟩)
  obtain ⟨G, q1, q2⟩ := St.came Y eT hS hk hZ hown N C M r Y' hS' hg P
  obtain ⟨F2, f1, f2⟩ := nx v B.U.heap G (by rw [← eT]; exact hg) q1
  obtain ⟨s₂, o, x, r'⟩ := f2 B.U (q2 F2 f1)
  exact ⟨s₂, o, st.trans x, r'⟩
/-- invokevirtual of y on an object exactly of class C: the body is z's -/
theorem go_virtual (H : Wd Z a0) {a : Addr} {C : String} {z : MethodName} (w1 : (Cond.methodLink own index y).before a0 Z = true) (w2 : (Cond.declares y).before a0 Z = true) (wnf : ∀ s : State, Z.Warmed39 s.vm → NotFace s y) (w3 : (Cond.selects C y z).before a0 Z = true) (w4 : (Cond.instanceMethod z).before a0 Z = true) (w5 : (Cond.initialized z.cls).before a0 Z = true) (w6 : (Cond.code z b' ml' rt').before a0 Z = true)
    (hy : y.cls ≠ "java/lang/invoke/MethodHandle" ∧ y.cls ≠ "java/lang/invoke/VarHandle") (E : Exa Z h a C) (M' : Met l Z z b' ml' rt' R' h F' as Q')
    (ha : (.ref a :: argsL).toArray = as) (hst : S' = argsL.reverse ++ .ref a :: S) (hlen : ∀ sig, parseMethodDescriptor y.desc = some sig → argsL.length = sig.parameters.length) (hF : ∀ x ∈ F', x ∈ F) (hL : L.size = ml) (hfr : R'.frames + 1 ≤ R.frames) (hlo : (S.map fun v => v.category).sum + (ml' + 11) + R'.locals ≤ R.locals) (hc : c + R'.cells = c') (hs : s + R'.slots = s') (hc' : c' ≤ R.cells) (hs' : s' ≤ R.slots)
    (hd : decode b pc = .ok (.invokevirtual index, 3)) (hq : pc + 3 = q) (nx : ∀ v h' G, h.size ≤ h'.size → Q' v h' G → ∃ F2, (∀ x ∈ F2, x ∈ G ∨ x ∈ F) ∧ Go l Z K own mn b ml rt R Q h' F2 c' s' q L (v.toList ++ S)) : Go l Z K own mn b ml rt R Q h F c s pc L S' := fun T X => by
  subst hq hc hs hst ha
  obtain ⟨vm, k, locs, Y, eT, hS, hk, hZ, hown, N, C, M, O, r⟩ := X
  obtain ⟨cB, kB, g1, g2, g3⟩ := isOf (s := K.2.2.1.setVm vm) hZ eT E
  obtain ⟨v, vm₁, B, -, Y', hS', hg, P, st⟩ := Y.virtualBackS r.1 hown (mvT (s := K.2.2.1.setVm vm) hZ w1) (mvT (s := K.2.2.1.setVm vm) hZ w2) (wnf (K.2.2.1.setVm vm) hZ) (mvT (s := K.2.2.1.setVm vm) hZ w3) (mvT (s := K.2.2.1.setVm vm) hZ w4) hy (W := (S.map fun v => v.category).sum) (M'.back H hZ w6 w5 hfr hlo C.1 (fun x hx => M x (hF x hx)) O) g1 g3 (g := mkF K.2.2.2.1 pc L (argsL.reverse ++ .ref a :: S)) rfl (by rw [r.2.2.1]; exact hL) (Steps.refl _) (argsL := argsL) (rest := S) hlen rfl (by show 2 * 0 + _ ≤ _; omega) (hb r.2.1 hd) (fun _ _ => ⟨rfl, eT, hc', hs'⟩)
  obtain ⟨G, q1, q2⟩ := St.came Y eT hS hk hZ hown N C M r Y' hS' hg P
  obtain ⟨F2, f1, f2⟩ := nx v B.U.heap G (by rw [← eT]; exact hg) q1
  obtain ⟨s₂, o, x, r'⟩ := f2 B.U (q2 F2 f1)
  exact ⟨s₂, o, st.trans x, r'⟩
theorem go_interface (H : Wd Z a0) {a : Addr} {C : String} {z : MethodName} {count : Nat} (w1 : (Cond.methodLink own index y).before a0 Z = true) (w2 : (Cond.declares y).before a0 Z = true) (w3 : ∀ (s : State) (args : Array Value), Z.Warmed39 s.vm → (Cond.interfaceMethod y.cls y.cls y.name y.desc).before args s = true) (w4 : (Cond.selects C y z).before a0 Z = true) (w5 : (Cond.instanceMethod z).before a0 Z = true) (w6 : (Cond.publicMethod z).before a0 Z = true) (w7 : (Cond.unhidden C y.name y.desc).before a0 Z = true) (w8 : (Cond.castable C y.cls).before a0 Z = true) (w9 : (Cond.initialized z.cls).before a0 Z = true) (w10 : (Cond.code z b' ml' rt').before a0 Z = true)
    (hy : y.cls ≠ "java/lang/invoke/MethodHandle" ∧ y.cls ≠ "java/lang/invoke/VarHandle") (E : Exa Z h a C) (M' : Met l Z z b' ml' rt' R' h F' as Q')
    (ha : (.ref a :: argsL).toArray = as) (hst : S' = argsL.reverse ++ .ref a :: S) (hlen : ∀ sig, parseMethodDescriptor y.desc = some sig → argsL.length = sig.parameters.length) (hF : ∀ x ∈ F', x ∈ F) (hL : L.size = ml) (hfr : R'.frames + 1 ≤ R.frames) (hlo : (S.map fun v => v.category).sum + (ml' + 11) + R'.locals ≤ R.locals) (hc : c + R'.cells = c') (hs : s + R'.slots = s') (hc' : c' ≤ R.cells) (hs' : s' ≤ R.slots)
    (hd : decode b pc = .ok (.invokeinterface index count, 5)) (hq : pc + 5 = q) (nx : ∀ v h' G, h.size ≤ h'.size → Q' v h' G → ∃ F2, (∀ x ∈ F2, x ∈ G ∨ x ∈ F) ∧ Go l Z K own mn b ml rt R Q h' F2 c' s' q L (v.toList ++ S)) : Go l Z K own mn b ml rt R Q h F c s pc L S' := fun T X => by
  subst hq hc hs hst ha
  obtain ⟨vm, k, locs, Y, eT, hS, hk, hZ, hown, N, C, M, O, r⟩ := X
  obtain ⟨cB, kB, g1, g2, g3⟩ := isOf (s := K.2.2.1.setVm vm) hZ eT E
  obtain ⟨v, vm₁, B, -, Y', hS', hg, P, st⟩ := Y.interfaceBackS r.1 hown (mvT (s := K.2.2.1.setVm vm) hZ w1) (mvT (s := K.2.2.1.setVm vm) hZ w2) (w3 (K.2.2.1.setVm vm) _ hZ) (mvT (s := K.2.2.1.setVm vm) hZ w4) (mvT (s := K.2.2.1.setVm vm) hZ w5) (mvT (s := K.2.2.1.setVm vm) hZ w6) (mvT (s := K.2.2.1.setVm vm) hZ w7) (mvT (s := K.2.2.1.setVm vm) hZ w8) hy (W := (S.map fun v => v.category).sum) (M'.back H hZ w10 w9 hfr hlo C.1 (fun x hx => M x (hF x hx)) O) g1 g2 g3 (g := mkF K.2.2.2.1 pc L (argsL.reverse ++ .ref a :: S)) rfl (by rw [r.2.2.1]; exact hL) (Steps.refl _) (argsL := argsL) (rest := S) hlen rfl (by show 2 * 0 + _ ≤ _; omega) (hb r.2.1 hd) (fun _ _ => ⟨rfl, eT, hc', hs'⟩)
  obtain ⟨G, q1, q2⟩ := St.came Y eT hS hk hZ hown N C M r Y' hS' hg P
  obtain ⟨F2, f1, f2⟩ := nx v B.U.heap G (by rw [← eT]; exact hg) q1
  obtain ⟨s₂, o, x, r'⟩ := f2 B.U (q2 F2 f1)
  exact ⟨s₂, o, st.trans x, r'⟩
/-- invokespecial of the superclass's own method -/
theorem go_super (H : Wd Z a0) {a : Addr} {C : String} (w1 : (Cond.methodLink own index y).before a0 Z = true) (w2 : (Cond.sameMethod y.cls y.cls y.name y.desc).before a0 Z = true) (w3 : (Cond.instanceMethod y).before a0 Z = true) (w4 : (Cond.superclass own y.cls).before a0 Z = true) (w5 : (Cond.initialized y.cls).before a0 Z = true) (w6 : (Cond.code y b' ml' rt').before a0 Z = true) (hni : y.name ≠ "<init>") (E : Exa Z h a C) (M' : Met l Z y b' ml' rt' R' h F' as Q')
    (ha : (.ref a :: argsL).toArray = as) (hst : S' = argsL.reverse ++ .ref a :: S) (hlen : ∀ sig, parseMethodDescriptor y.desc = some sig → argsL.length = sig.parameters.length) (hF : ∀ x ∈ F', x ∈ F) (hL : L.size = ml) (hfr : R'.frames + 1 ≤ R.frames) (hlo : (S.map fun v => v.category).sum + (ml' + 11) + R'.locals ≤ R.locals) (hc : c + R'.cells = c') (hs : s + R'.slots = s') (hc' : c' ≤ R.cells) (hs' : s' ≤ R.slots)
    (hd : decode b pc = .ok (.invokespecial index, 3)) (hq : pc + 3 = q) (nx : ∀ v h' G, h.size ≤ h'.size → Q' v h' G → ∃ F2, (∀ x ∈ F2, x ∈ G ∨ x ∈ F) ∧ Go l Z K own mn b ml rt R Q h' F2 c' s' q L (v.toList ++ S)) : Go l Z K own mn b ml rt R Q h F c s pc L S' := fun T X => by
  subst hq hc hs hst ha
  obtain ⟨vm, k, locs, Y, eT, hS, hk, hZ, hown, N, C, M, O, r⟩ := X
  obtain ⟨v, vm₁, B, -, Y', hS', hg, P, st⟩ := superBackS Y r.1 (show Z.Warmed39 (K.2.2.1.setVm vm).vm from hZ) hown w1 w2 w3 w4 hni (W := (S.map fun v => v.category).sum) (M'.back H hZ w6 w5 hfr hlo C.1 (fun x hx => M x (hF x hx)) O) eT (Ins.self E) (g := mkF K.2.2.2.1 pc L (argsL.reverse ++ .ref a :: S)) rfl (by rw [r.2.2.1]; exact hL) w6 (argsL := argsL) (rest := S) hlen rfl (by show 2 * 0 + _ ≤ _; omega) (hb r.2.1 hd) (fun _ _ => ⟨rfl, eT, hc', hs'⟩)
  obtain ⟨G, q1, q2⟩ := St.came Y eT hS hk hZ hown N C M r Y' hS' hg P
  obtain ⟨F2, f1, f2⟩ := nx v B.U.heap G (by rw [← eT]; exact hg) q1
  obtain ⟨s₂, o, x, r'⟩ := f2 B.U (q2 F2 f1)
  exact ⟨s₂, o, st.trans x, r'⟩
/-- System.arraycopy of bytes -/
theorem go_arraycopy {a d : Addr} {ka kd : ClassId} {ty : FieldType} {z z' sp dp nn : Int32} {vs vd us : List Value} {dv dd : Value} (w1 : (Cond.methodLink own index Jvm.Stand.acN).before a0 Z = true) (w2 : (Cond.native Jvm.Stand.acN).before a0 Z = true) (w3 : (Cond.static Jvm.Stand.acN).before a0 Z = true) (w4 : (Cond.initialized "java/lang/System").before a0 Z = true)
    (A : Arv Z h a ka ty z vs dv) (B : Arv Z h d kd ty z' vd dd) (hty : refKind ty = false) (h1 : ¬ sp < 0) (h2 : ¬ dp < 0) (h3 : ¬ nn < 0) (h4 : sp.toNatClampNeg + nn.toNatClampNeg ≤ z.toNatClampNeg) (h5 : dp.toNatClampNeg + nn.toNatClampNeg ≤ z'.toNatClampNeg) (hus : us = (List.range nn.toNatClampNeg).map fun i => vs.getD (sp.toNatClampNeg + i) dv) (hl : dp.toNatClampNeg + nn.toNatClampNeg ≤ vd.length) (ha : d ∈ F)
    (hL : L.size = ml) (hfr : 1 ≤ R.frames) (hlo : (S.map fun v => v.category).sum + (nativeFrameWords "java/lang/System" "arraycopy" 5 + 11) ≤ R.locals) (hd : decode b pc = .ok (.invokestatic index, 3)) (hq : pc + 3 = q)
    (nx : ∀ h', Keep h h' [d] → Arv Z h' d kd ty z' (vd.take dp.toNatClampNeg ++ us ++ vd.drop (dp.toNatClampNeg + nn.toNatClampNeg)) dd → Go l Z K own mn b ml rt R Q h' F c s q L S) : Go l Z K own mn b ml rt R Q h F c s pc L (.int nn :: .int dp :: .ref d :: .int sp :: .ref a :: S) := fun T X => by
  subst hq
  obtain ⟨vm, k, locs, Y, eT, hS, hk, hZ, hown, N, C, M, O, r⟩ := X
  obtain ⟨T', h', L', Y', e', N', Kp, V, st⟩ := cpA Y r.1 (show Z.Warmed39 (K.2.2.1.setVm vm).vm from hZ) hown w1 w2 w3 w4 eT A B (Or.inl ⟨rfl, hty⟩) h1 h2 h3 h4 h5 hus hl N (M d ha).1 (g := mkF K.2.2.2.1 pc L (.int nn :: .int dp :: .ref d :: .int sp :: .ref a :: S)) rfl (by rw [r.2.2.1]; exact hL) (rest := S) rfl (hb r.2.1 hd) hfr (W := (S.map fun v => v.category).sum) (by show 2 * 0 + _ ≤ _; omega) hlo
  have hsf : ∀ x ∈ [d], Safe Z consts_1 vm h x := fun x hx => by cases List.mem_singleton.mp hx; exact (M d ha).2.2
  obtain ⟨s₂, o, x, r'⟩ := nx h' Kp V T' ⟨vm, k, L', Y', e', hS, Nat.le_trans hk Kp.1, hZ, hown, N', C.trans (CHr.keep Kp hsf C.1), fun x hx => ⟨(M x hx).1, Nat.lt_of_lt_of_le (M x hx).2.1 Kp.1, Safe.keep Kp hsf C.1 (M x hx).2.2⟩, O.keep Kp (fun x hx => by cases List.mem_singleton.mp hx; exact (M d ha).1), r⟩
  exact ⟨s₂, o, st _ x, r'⟩
theorem nf_self {C : String} (w3 : (Cond.selects C y y).before a0 Z = true) : ∀ s : State, Z.Warmed39 s.vm → NotFace s y := fun s hZ => notFace_of_selects (args := #[]) (mvT hZ w3)
/-- the plain end of a call: nothing more to write -/
theorem nx_ {v : Option Value} {G : List Addr} (n : Go l Z K own mn b ml rt R Q h F c s pc L S) : ∃ F2, (∀ x ∈ F2, x ∈ G ∨ x ∈ F) ∧ Go l Z K own mn b ml rt R Q h F2 c s pc L S := ⟨F, fun _ q => Or.inr q, n⟩
end Calls
end G
end Own
end Jvm.Pilot.@@N@@
/-! OWN FRAMEWORK, part 3: Strings of Latin-1 chars. -/
namespace Jvm.Pilot.@@N@@
namespace Own
open Jvm Jvm.ClassFile Sem Op Lib Jvm.Free Jvm.Stand Jvm.LawKit Jvm.RoadKit
abbrev ST : String := "java/lang/String"
abbrev bts (cs : List Int32) : List Value := cs.map fun c => .int c.toInt8.toInt32
abbrev ints (cs : List Int32) : List Value := cs.map fun c => .int c
def Lat (cs : List Int32) : Prop := cs.length ≤ 4096 ∧ ∀ c ∈ cs, ¬ c < 0 ∧ ¬ 255 < c
/-- the String at a spells cs; its cells are none of F -/
def Str (Z : State) (h : Heap) (F : List Addr) (a : Addr) (cs : List Int32) : Prop :=
  Exa Z h a ST ∧ Fld Z h a ST "coder" "B" (.int 0) ∧ a ∉ F ∧ Lat cs ∧ ∃ bb k, bb ∉ F ∧ Fld Z h a ST "value" "[B" (.ref bb) ∧ Arv Z h bb k .byte (Int32.ofNat cs.length) (bts cs) (.int 0)
theorem toInt_ofNat {n : Nat} (h : n < 2147483648) : (Int32.ofNat n).toInt = n := by
  rw [Int32.toInt_ofNat_of_lt (by simpa using h)]
theorem cl_ofNat {n : Nat} (h : n < 2147483648) : (Int32.ofNat n).toNatClampNeg = n := by
  simp only [Int32.toNatClampNeg, toInt_ofNat h]; omega
theorem nn_ofNat {n : Nat} (h : n < 2147483648) : ¬ Int32.ofNat n < 0 := by
  rw [Int32.lt_iff_toInt_lt, toInt_ofNat h, show (0 : Int32).toInt = 0 from rfl]; omega
theorem lt_ofNat {i n : Nat} (hi : i < 2147483648) (hn : n < 2147483648) : Int32.ofNat i < Int32.ofNat n ↔ i < n := by
  rw [Int32.lt_iff_toInt_lt, toInt_ofNat hi, toInt_ofNat hn]; omega
theorem eq_ofNat {i n : Nat} (hi : i < 2147483648) (hn : n < 2147483648) : Int32.ofNat i = Int32.ofNat n ↔ i = n := by
  rw [← Int32.toInt_inj, toInt_ofNat hi, toInt_ofNat hn]; omega
theorem add1_ofNat {i : Nat} : Int32.ofNat i + Int32.ofInt 1 = Int32.ofNat (i + 1) := by
  rw [Int32.ofNat_add]; rfl
section
variable {Z : State} {h h' : Heap} {F F' : List Addr} {a : Addr} {cs : List Int32} {ws : List Addr}
theorem Str.exa (S : Str Z h F a cs) : Exa Z h a ST := S.1
theorem Str.lat (S : Str Z h F a cs) : Lat cs := S.2.2.2.1
theorem Str.lt (S : Str Z h F a cs) : a < h.size := S.1.lt
theorem Str.keep (S : Str Z h F a cs) (K : Keep h h' ws) (hw : ∀ x ∈ ws, x ∈ F ∨ h.size ≤ x) : Str Z h' F a cs := by
  obtain ⟨E, C, ha, hl, bb, k, hb, V, A⟩ := S
  have na : a ∉ ws := fun q => (hw a q).elim ha fun z => absurd E.lt (Nat.not_lt.mpr z)
  have nb : bb ∉ ws := fun q => (hw bb q).elim hb fun z => absurd A.lt (Nat.not_lt.mpr z)
  exact ⟨E.keep K, C.keep K na, ha, hl, bb, k, hb, V.keep K na, A.keep K nb⟩
theorem Str.keep0 (S : Str Z h F a cs) (K : Keep h h' []) : Str Z h' F a cs := S.keep K (fun _ q => nomatch q)
theorem Str.ext (S : Str Z h F a cs) (E : Ext h h') : Str Z h' F a cs := S.keep0 ((Keep.refl h []).ext E)
theorem Str.grow (S : Str Z h F a cs) (hF : ∀ x ∈ F', x ∈ F ∨ h.size ≤ x) : Str Z h F' a cs := by
  obtain ⟨E, C, ha, hl, bb, k, hb, V, A⟩ := S
  exact ⟨E, C, fun q => (hF a q).elim ha fun z => absurd E.lt (Nat.not_lt.mpr z), hl, bb, k, fun q => (hF bb q).elim hb fun z => absurd A.lt (Nat.not_lt.mpr z), V, A⟩
theorem Str.less (S : Str Z h F a cs) (hF : ∀ x ∈ F', x ∈ F) : Str Z h F' a cs := S.grow fun x q => Or.inl (hF x q)
theorem Str.nil (S : Str Z h F a cs) : Str Z h [] a cs := S.less (fun _ q => nomatch q)
theorem Str.ins (S : Str Z h F a cs) : Ins Z h a ST true := Ins.self S.1
end
theorem kless {h h' : Heap} {ws ws' : List Addr} (K : Keep h h' ws) (q : ∀ x ∈ ws, x ∈ ws') : Keep h h' ws' := ⟨K.1, fun x c e n => K.2.1 x c e fun m => n (q x m), K.2.2⟩
theorem kfresh {h h1 h2 : Heap} {a : Addr} (K : Keep h h1 []) (K' : Keep h1 h2 [a]) (q : h.size ≤ a) : Keep h h2 [] := K.trans K' fun x e => by cases List.mem_singleton.mp e; exact Or.inr q
theorem nref {t : FieldType} {v : Value} (ht : t.isReference = true) (hv : v.isRef = true) : narrow t v = v := by cases t <;> cases v <;> simp_all [narrow, Value.isRef, FieldType.isReference]
theorem fref {t : FieldType} {v : Value} (ht : t.isReference = true) (hv : v.isRef = true) : fits t v = true := by cases t <;> cases v <;> simp_all [fits, Value.isRef, FieldType.isReference]
theorem shr0 (z : Int32) : z >>> ((0 : Int32) &&& 31) = z := by
  rw [← Int32.toInt_inj, c_ishr z 0 0 rfl]; simp
theorem nar_char {x : Int32} (h0 : ¬ x < 0) (h1 : ¬ 255 < x) : nar .char x = x := by
  have h := c_i2c x
  rw [Int32.lt_iff_toInt_lt] at h0 h1
  have e0 : (0 : Int32).toInt = 0 := rfl
  have e1 : (255 : Int32).toInt = 255 := rfl
  rw [← Int32.toInt_inj]
  show x.toUInt32.toUInt16.toUInt32.toInt32.toInt = _
  omega
theorem msk (x : Int32) : ¬ (x &&& 255) < 0 ∧ ¬ 255 < (x &&& 255) := by
  have h := c_and x 255 (by decide)
  rw [Int32.lt_iff_toInt_lt, Int32.lt_iff_toInt_lt]
  have e0 : (0 : Int32).toInt = 0 := rfl
  have e1 : (255 : Int32).toInt = 255 := rfl
  omega
theorem i2c_msk (x : Int32) : (x &&& 255).toUInt32.toUInt16.toUInt32.toInt32 = x &&& 255 := nar_char (msk x).1 (msk x).2
theorem b_inj {x y : Int32} (hx : ¬ x < 0 ∧ ¬ 255 < x) (hy : ¬ y < 0 ∧ ¬ 255 < y) (h : x.toInt8.toInt32 = y.toInt8.toInt32) : x = y := by
  have h1 := c_i2b x; have h2 := c_i2b y
  rw [h] at h1
  rw [Int32.lt_iff_toInt_lt, Int32.lt_iff_toInt_lt] at hx hy
  have e0 : (0 : Int32).toInt = 0 := rfl
  have e1 : (255 : Int32).toInt = 255 := rfl
  rw [← Int32.toInt_inj]; omega
theorem b_and {x : Int32} (hx : ¬ x < 0 ∧ ¬ 255 < x) : x.toInt8.toInt32 &&& 255 = x := by
  have h1 := c_i2b x
  have h2 := c_mask (x.toInt8.toInt32) 255 8 (by decide) (by decide)
  rw [Int32.lt_iff_toInt_lt, Int32.lt_iff_toInt_lt] at hx
  have e0 : (0 : Int32).toInt = 0 := rfl
  have e1 : (255 : Int32).toInt = 255 := rfl
  rw [← Int32.toInt_inj, h2]; omega
theorem bts_at {cs : List Int32} {i : Nat} (hi : i < cs.length) : (bts cs).getD i (.int 0) = .int (cs[i].toInt8.toInt32) := by simp [bts, hi]
theorem Str.same {Z : State} {h : Heap} {F F' : List Addr} {a : Addr} {cs ds : List Int32} (S : Str Z h F a cs) (S2 : Str Z h F' a ds) : cs = ds := by
  obtain ⟨E, C, ha, hl, bb, k, hb, V, A⟩ := S
  obtain ⟨E2, C2, ha2, hl2, bb2, k2, hb2, V2, A2⟩ := S2
  obtain rfl : bb = bb2 := by
    by_cases e : bb = bb2
    · exact e
    · exact absurd rfl (V.ne V2 (by simpa using e))
  obtain ⟨c1, r1, q1, s1, n1, H1, G1⟩ := A
  obtain ⟨c2, r2, q2, s2, n2, H2, G2⟩ := A2
  obtain rfl : c1 = c2 := Option.some.inj (r1.1.symm.trans r2.1)
  have l1 := hl.1; have l2 := hl2.1
  rw [cl_ofNat (by omega)] at s1 s2
  have hlen : cs.length = ds.length := s1.symm.trans s2
  refine List.ext_getElem hlen fun i h1 h2 => ?_
  have e1 := H1 i (by omega)
  have e2 := H2 i (by omega)
  rw [bts_at h1] at e1; rw [bts_at h2] at e2
  have e3 := e1.symm.trans e2
  simp only [Option.some.injEq, Value.int.injEq] at e3
  exact b_inj (hl.2 _ (List.getElem_mem h1)) (hl2.2 _ (List.getElem_mem h2)) e3
section G
variable {l : Launch} {Z : State} {a0 : Array Value} {K : Cx} {own mn : String} {b : ByteArray} {ml : Nat} {rt : Option FieldType} {R : Room} {Q : QT} {h h' : Heap} {F : List Addr} {c s pc q c' s' : Nat} {L L' : Array Slot} {S S' : List Value}
theorem go_istoreO {k : Nat} {x : Int32} {o : Slot} (hd : decode b pc = .ok (.istore k, 2)) (hold : L[k]? = some o) (ho : One o) (hL : L.setIfInBounds k (.val (.int x)) = L') (hq : pc + 2 = q) (n : Go l Z K own mn b ml rt R Q h F c s q L' S) : Go l Z K own mn b ml rt R Q h F c s pc L (.int x :: S) := by
  subst hq hL; exact go_of (fun T X t st => by obtain ⟨vm, k, locs, Y, r1, r2, r3, r4, r5, r6, r7, r8, r9, hx, hb', rr⟩ := X; exact XS.istoreS Y.here hx rfl (hb hb' hd) rfl hold ho st) n
theorem go_istoreNO {k : Fin 4} {x : Int32} {o : Slot} (hd : decode b pc = .ok (.istore_n k, 1)) (hold : L[k.val]? = some o) (ho : One o) (hL : L.setIfInBounds k.val (.val (.int x)) = L') (hq : pc + 1 = q) (n : Go l Z K own mn b ml rt R Q h F c s q L' S) : Go l Z K own mn b ml rt R Q h F c s pc L (.int x :: S) := by
  subst hq hL; exact go_of (fun T X t st => by obtain ⟨vm, k, locs, Y, r1, r2, r3, r4, r5, r6, r7, r8, r9, hx, hb', rr⟩ := X; exact XS.istoreNS Y.here hx rfl (hb hb' hd) rfl hold ho st) n
/-- ldc of a Latin-1 constant -/
theorem go_lit (H : Wd Z a0) {index : Nat} {text : String} {cs : List Int32} {n : Nat} (w : (Cond.stringLink own index text).before a0 Z = true) (hm : (own, index) ∈ consts_1) (ht1 : ∀ c ∈ text.toList, c.toNat < 256) (ht2 : text.toList.map (fun c => Value.int (Jvm.Lit.byteI c.toNat.toUInt16)) = bts cs) (h1 : cs.length ≤ 4096) (h2 : ∀ c ∈ cs, ¬ c < 0 ∧ ¬ 255 < c)
    (hd : decode b pc = .ok (.ldc index, 2)) (hn : 4 * text.toList.length ≤ n) (hbig : n ≤ 536870912) (hq : pc + 2 = q) (hc : c + 2 = c') (hs : s + (n + 4) = s') (hc' : c' ≤ R.cells) (hs' : s' ≤ R.slots)
    (nx : ∀ h' a, Ext h h' → Str Z h' F a cs → Go l Z K own mn b ml rt R Q h' F c' s' q L (.ref a :: S)) : Go l Z K own mn b ml rt R Q h F c s pc L S :=
  go_ldcS H w hm ⟨ht1, ht2⟩ (nn_ofNat (n := cs.length) (by omega)) (by rw [cl_ofNat (by omega)]; simp) hd hn hbig hq hc hs hc' hs' fun h' a bb k E A Fc Fv V ne => nx h' a E ⟨A, Fc, fun q => (ne a q).1 rfl, ⟨h1, h2⟩, bb, k, fun q => (ne bb q).2 rfl, Fv, V⟩
end G
end Own
end Jvm.Pilot.@@N@@
/-! OWN FRAMEWORK, part 4: StringBuilder. -/
namespace Jvm.Pilot.@@N@@
namespace Own
open Jvm Jvm.ClassFile Sem Op Lib Jvm.Free Jvm.Stand Jvm.LawKit Jvm.RoadKit
abbrev SBN : String := "java/lang/StringBuilder"
abbrev ABN : String := "java/lang/AbstractStringBuilder"
abbrev zs (n : Nat) : List Value := List.replicate n (.int 0)
/-- the builder x, whose array is v (cap bytes), spells cs -/
def SBd (Z : State) (h : Heap) (x v : Addr) (cap : Nat) (cs : List Int32) : Prop :=
  Exa Z h x SBN ∧ Fld Z h x ABN "value" "[B" (.ref v) ∧ Fld Z h x ABN "coder" "B" (.int 0) ∧ Fld Z h x ABN "count" "I" (.int (Int32.ofNat cs.length)) ∧ Lat cs ∧ cs.length ≤ cap ∧ cap ≤ 4096 ∧ ∃ k, Arv Z h v k .byte (Int32.ofNat cap) (bts cs ++ zs (cap - cs.length)) (.int 0)
section
variable {Z : State} {h h' : Heap} {x v : Addr} {cap : Nat} {cs ds : List Int32} {ws : List Addr}
theorem SBd.keep (S : SBd Z h x v cap cs) (K : Keep h h' ws) (nx : x ∉ ws) (nv : v ∉ ws) : SBd Z h' x v cap cs := by
  obtain ⟨E, V, C, N, L, l1, l2, k, A⟩ := S
  exact ⟨E.keep K, V.keep K nx, C.keep K nx, N.keep K nx, L, l1, l2, k, A.keep K nv⟩
theorem SBd.keep0 (S : SBd Z h x v cap cs) (K : Keep h h' []) : SBd Z h' x v cap cs := S.keep K nin0 nin0
theorem SBd.ext (S : SBd Z h x v cap cs) (E : Ext h h') : SBd Z h' x v cap cs := S.keep0 ((Keep.refl h []).ext E)
theorem SBd.exa (S : SBd Z h x v cap cs) : Exa Z h x SBN := S.1
theorem SBd.lat (S : SBd Z h x v cap cs) : Lat cs := S.2.2.2.2.1
theorem SBd.le (S : SBd Z h x v cap cs) : cs.length ≤ cap := S.2.2.2.2.2.1
theorem bts_len (cs : List Int32) : (bts cs).length = cs.length := by simp [bts]
theorem us_eq (ds : List Int32) : (List.range ds.length).map (fun i => (bts ds).getD i (.int 0)) = bts ds := by
  refine List.ext_getElem (by simp [bts]) fun i h1 h2 => ?_
  simp only [bts_len] at h2
  simp [bts, h2]
theorem cat_eq {n : Nat} (h1 : cs.length + ds.length ≤ n) : (bts cs ++ zs (n - cs.length)).take cs.length ++ bts ds ++ (bts cs ++ zs (n - cs.length)).drop (cs.length + ds.length) = bts (cs ++ ds) ++ zs (n - (cs ++ ds).length) := by
  have e1 : (bts cs ++ zs (n - cs.length)).take cs.length = bts cs := by
    rw [List.take_append_of_le_length (by rw [bts_len]; exact Nat.le_refl _), List.take_of_length_le (by rw [bts_len]; exact Nat.le_refl _)]
  have e2 : (bts cs ++ zs (n - cs.length)).drop (cs.length + ds.length) = zs (n - (cs ++ ds).length) := by
    rw [List.drop_append, List.drop_of_length_le (by rw [bts_len]; omega), List.nil_append, bts_len, List.drop_replicate, List.length_append]
    congr 1; omega
  rw [e1, e2]
  simp [bts]
theorem Lat.app (h1 : Lat cs) (h2 : Lat ds) (h : cs.length + ds.length ≤ 4096) : Lat (cs ++ ds) := ⟨by simpa using h, fun c hc => (List.mem_append.mp hc).elim (h1.2 c) (h2.2 c)⟩
theorem add_ofNat (i j : Nat) : Int32.ofNat i + Int32.ofNat j = Int32.ofNat (i + j) := (Int32.ofNat_add i j).symm
theorem shl0 (z : Int32) : z <<< ((0 : Int32) &&& 31) = z := by
  rw [show (0 : Int32) &&& 31 = 0 from by decide]; exact Int32.shiftLeft_zero
theorem sub_ofNat {i j : Nat} (hi : i < 2147483648) (hj : j < 2147483648) : (Int32.ofNat i - Int32.ofNat j).toInt = (i : Int) - j := by
  have h := c_isub (Int32.ofNat i) (Int32.ofNat j)
  rw [toInt_ofNat hi, toInt_ofNat hj] at h
  have h3 := (Int32.ofNat i - Int32.ofNat j).le_toInt; have h4 := (Int32.ofNat i - Int32.ofNat j).toInt_lt
  omega
theorem subNat {i j : Nat} (hj : j ≤ i) (hi : i < 2147483648) : Int32.ofNat i - Int32.ofNat j = Int32.ofNat (i - j) := by
  rw [← Int32.toInt_inj, sub_ofNat hi (by omega), toInt_ofNat (by omega)]; omega
theorem not_pos_sub {i j : Nat} (h : i ≤ j) (hj : j < 2147483648) : ¬ (0 : Int32) < Int32.ofNat i - Int32.ofNat j := by
  rw [Int32.lt_iff_toInt_lt, sub_ofNat (by omega) hj, show (0 : Int32).toInt = 0 from rfl]; omega
end
end Own
end Jvm.Pilot.@@N@@
/-! OWN FRAMEWORK, part 5: arrays of references, ArrayList. -/
namespace Jvm.Pilot.@@N@@
namespace Own
open Jvm Jvm.ClassFile Sem Op Lib Jvm.Free Jvm.Stand Jvm.LawKit Jvm.RoadKit
section G
variable {l : Launch} {Z : State} {a0 : Array Value} {K : Cx} {own mn : String} {b : ByteArray} {ml : Nat} {rt : Option FieldType} {R : Room} {Q : QT} {h h' : Heap} {F : List Addr} {c s pc q c' s' : Nat} {L L' : Array Slot} {S S' : List Value}
theorem go_aastore {a y : Addr} {k : ClassId} {C : String} {z j : Int32} {vs : List Value} {dv : Value} {i : Nat} (A : Arv Z h a k (.object C) z vs dv) (Ov : Ovr Z k C) (I : Ins Z h y C true) (hj : ¬ j < 0 ∧ j < z) (hi : j.toNatClampNeg = i) (hl : i < vs.length) (ha : a ∈ F) (hd : decode b pc = .ok (.aastore, 1)) (hq : pc + 1 = q)
    (nx : ∀ h', Keep h h' [a] → h'.size = h.size → Arv Z h' a k (.object C) z (vs.set i (.ref y)) dv → Go l Z K own mn b ml rt R Q h' F c s q L S) : Go l Z K own mn b ml rt R Q h F c s pc L (.ref y :: .int j :: .ref a :: S) := fun T X => by
  subst hq
  obtain ⟨vm, k, locs, Y, eT, hS, hk, hZ, hown, N, C, M, O, r⟩ := X
  obtain ⟨cl, Ar, q1, q2, q3, q4, q5⟩ := A
  have hin := inb_of q2 hj
  obtain ⟨T', h', Y', e', W, st⟩ := stR Y r.1 hZ eT Ar hin rfl (Sto.ofV Ar q1 Ov I) (g := mkF K.2.2.2.1 pc L (.ref y :: .int j :: .ref a :: S)) rfl rfl (hb r.2.1 hd)
  obtain ⟨s₂, o, x, r'⟩ := nx h' (Keep.of_wr W) W.size (Arv.set Ar q1 q2 q3 q4 q5 rfl W i hi hl) T' (St.wrote W ha Y' e' hS hk hZ hown N C M O r)
  exact ⟨s₂, o, st _ x, r'⟩
theorem go_getstaticN {index : Nat} {R0 O n d host : String} {v : Value} (w : (Cond.fieldLinkNest own index R0 n d host).before a0 Z = true) (via : Via Z R0 O n d) (Fv : Sta Z Z.heap O n d v) (hd : decode b pc = .ok (.getstatic index, 3)) (hq : pc + 3 = q)
    (nx : Go l Z K own mn b ml rt R Q h F c s q L (v :: S)) : Go l Z K own mn b ml rt R Q h F c s pc L S := fun T X => by
  subst hq
  obtain ⟨vm, k, locs, Y, eT, hS, hk, hZ, hown, N, C, M, O, hx, hb', r⟩ := X
  obtain ⟨T', Y', e', st⟩ := getS2 Y hx hZ hown (host := host) (Or.inr w) via eT (Fv.ext O.2) (g := mkF K.2.2.2.1 pc L S) rfl (hb hb' hd)
  obtain ⟨s₂, o, x, r'⟩ := nx T' ⟨vm, k, locs, Y', e', hS, hk, hZ, hown, N, C, M, O, hx, hb', r⟩
  exact ⟨s₂, o, st _ x, r'⟩
theorem go_instNull {index : Nat} (hd : decode b pc = .ok (.instanceof index, 3)) (hq : pc + 3 = q) (nx : Go l Z K own mn b ml rt R Q h F c s q L (.int 0 :: S)) : Go l Z K own mn b ml rt R Q h F c s pc L (.null :: S) := by
  subst hq
  exact go_of (fun T X t st => by
    obtain ⟨vm, k, locs, Y, eT, hS, hk, hZ, hown, N, C, M, O, r⟩ := X
    exact Y.instanceofNull r.1 (g := mkF K.2.2.2.1 pc L (.null :: S)) rfl rfl (hb r.2.1 hd) _ st) nx
/-- clone of an array -/
theorem go_clone {index cap : Nat} {a : Addr} {ad : String} {k : ClassId} {ty : FieldType} {z : Int32} {vs : List Value} {dv : Value} (w1 : (Cond.methodLink own index ⟨ad, "clone", "()Ljava/lang/Object;"⟩).before a0 Z = true) (w2 : (Cond.sameMethod ad "java/lang/Object" "clone" "()Ljava/lang/Object;").before a0 Z = true) (w3 : (Cond.native ⟨"java/lang/Object", "clone", "()Ljava/lang/Object;"⟩).before a0 Z = true)
    (w4 : (Cond.instanceMethod ⟨"java/lang/Object", "clone", "()Ljava/lang/Object;"⟩).before a0 Z = true) (w5 : (Cond.selects ad ⟨ad, "clone", "()Ljava/lang/Object;"⟩ ⟨"java/lang/Object", "clone", "()Ljava/lang/Object;"⟩).before a0 Z = true) (w6 : (Cond.castable ad "java/lang/Cloneable").before a0 Z = true)
    (V : Arv Z h a k ty z vs dv) (E : Exa Z h a ad) (hL : L.size = ml) (hfr : 1 ≤ R.frames) (hlo : (S.map fun v => v.category).sum + 14 ≤ R.locals) (hcap : z.toNatClampNeg ≤ cap) (hd : decode b pc = .ok (.invokevirtual index, 3)) (hq : pc + 3 = q) (hc : c + 1 = c') (hs : s + cap = s') (hc' : c' ≤ R.cells) (hs' : s' ≤ R.slots)
    (nx : ∀ h' d, d = h.size → Ext h h' → Arv Z h' d k ty z vs dv → Exa Z h' d ad → Go l Z K own mn b ml rt R Q h' (d :: F) c' s' q L (.ref d :: S)) : Go l Z K own mn b ml rt R Q h F c s pc L (.ref a :: S) := fun T X => by
  subst hq hc hs
  obtain ⟨vm, k, locs, Y, eT, hS, hk, hZ, hown, N, C, M, O, r⟩ := X
  obtain ⟨cl, A, q1, q2, q3, H, G⟩ := V
  have FC : FitC Z cl := fitC_of A fun i hi v hv => by rw [H i hi] at hv; cases hv; exact G i hi
  obtain ⟨T', h', Y', e', Ex, A', E', st⟩ := cloneA Y r.1 (show Z.Warmed39 (K.2.2.1.setVm vm).vm from hZ) hown w1 w2 w3 w4 w5 w6 eT A E FC (g := mkF K.2.2.2.1 pc L (.ref a :: S)) rfl (by rw [r.2.2.1]; exact hL) (rest := S) rfl (hb r.2.1 hd) hfr (W := (S.map fun v => v.category).sum) (by show 2 * 0 + _ ≤ _; omega) hlo (by rw [q2]; exact hcap) hc' hs'
  obtain ⟨s₂, o, x, r'⟩ := nx h' _ rfl Ex ⟨cloneOf cl, A', q1, q2, q3, H, G⟩ E' T' (St.grew Ex (fun x hx => by rcases List.mem_cons.mp hx with rfl | hx; exact Or.inr ⟨Nat.le_refl _, A'.lt⟩; exact Or.inl hx) Y' e' hS hk hZ hown N C M O r)
  exact ⟨s₂, o, st _ x, r'⟩
section Calls
variable {index : Nat} {y : MethodName} {b' : ByteArray} {ml' : Nat} {rt' : Option FieldType} {R' : Room} {F' : List Addr} {as : Array Value} {Q' : QT} {argsL : List Value}
/-- invokevirtual of a method that the named class inherits -/
theorem go_virtualUp (H : Wd Z a0) {a : Addr} {C owner : String} {z : MethodName} (w1 : (Cond.methodLink own index y).before a0 Z = true) (w2 : (Cond.sameMethod y.cls owner y.name y.desc).before a0 Z = true) (w2' : (Cond.declares ⟨owner, y.name, y.desc⟩).before a0 Z = true) (how : owner ≠ "java/lang/invoke/MethodHandle" ∧ owner ≠ "java/lang/invoke/VarHandle") (w3 : (Cond.selects C y z).before a0 Z = true) (w4 : (Cond.instanceMethod z).before a0 Z = true) (w5 : (Cond.initialized z.cls).before a0 Z = true) (w6 : (Cond.code z b' ml' rt').before a0 Z = true)
    (E : Exa Z h a C) (M' : Met l Z z b' ml' rt' R' h F' as Q')
    (ha : (.ref a :: argsL).toArray = as) (hst : S' = argsL.reverse ++ .ref a :: S) (hlen : ∀ sig, parseMethodDescriptor y.desc = some sig → argsL.length = sig.parameters.length) (hF : ∀ x ∈ F', x ∈ F) (hL : L.size = ml) (hfr : R'.frames + 1 ≤ R.frames) (hlo : (S.map fun v => v.category).sum + (ml' + 11) + R'.locals ≤ R.locals) (hc : c + R'.cells = c') (hs : s + R'.slots = s') (hc' : c' ≤ R.cells) (hs' : s' ≤ R.slots)
    (hd : decode b pc = .ok (.invokevirtual index, 3)) (hq : pc + 3 = q) (nx : ∀ v h' G, h.size ≤ h'.size → Q' v h' G → ∃ F2, (∀ x ∈ F2, x ∈ G ∨ x ∈ F) ∧ Go l Z K own mn b ml rt R Q h' F2 c' s' q L (v.toList ++ S)) : Go l Z K own mn b ml rt R Q h F c s pc L S' := fun T X => by
  subst hq hc hs hst ha
  obtain ⟨vm, k, locs, Y, eT, hS, hk, hZ, hown, N, C, M, O, r⟩ := X
  obtain ⟨cB, kB, g1, g2, g3⟩ := isOf (s := K.2.2.1.setVm vm) hZ eT E
  obtain ⟨v, vm₁, B, -, Y', hS', hg, P, st⟩ := Y.virtualBackUpS r.1 hown (mvT (s := K.2.2.1.setVm vm) hZ w1) (mvT (s := K.2.2.1.setVm vm) hZ w2) (mvT (s := K.2.2.1.setVm vm) hZ w2') how (mvT (s := K.2.2.1.setVm vm) hZ w3) (mvT (s := K.2.2.1.setVm vm) hZ w4) (W := (S.map fun v => v.category).sum) (M'.back H hZ w6 w5 hfr hlo C.1 (fun x hx => M x (hF x hx)) O) g1 g3 (g := mkF K.2.2.2.1 pc L (argsL.reverse ++ .ref a :: S)) rfl (by rw [r.2.2.1]; exact hL) (Steps.refl _) (argsL := argsL) (rest := S) hlen rfl (by show 2 * 0 + _ ≤ _; omega) (hb r.2.1 hd) (fun _ _ => ⟨rfl, eT, hc', hs'⟩)
  obtain ⟨G, q1, q2⟩ := St.came Y eT hS hk hZ hown N C M r Y' hS' hg P
  obtain ⟨F2, f1, f2⟩ := nx v B.U.heap G (by rw [← eT]; exact hg) q1
  obtain ⟨s₂, o, x, r'⟩ := f2 B.U (q2 F2 f1)
  exact ⟨s₂, o, st.trans x, r'⟩
end Calls
end G
abbrev ALN : String := "java/util/ArrayList"
abbrev ABL : String := "java/util/AbstractList"
abbrev OBJ : String := "java/lang/Object"
abbrev OA : String := "[Ljava/lang/Object;"
/-- the shared empty array of a new ArrayList -/
def Dfl (Z : State) (de : Addr) : Prop := Sta Z Z.heap ALN "DEFAULTCAPACITY_EMPTY_ELEMENTDATA" OA (.ref de) ∧ ∃ k, Arv Z Z.heap de k (.object OBJ) 0 [] .null
/-- the ArrayList x: its array, size, modCount -/
def ALf (Z : State) (h : Heap) (x : Addr) (d : Value) (n m : Int32) : Prop := Exa Z h x ALN ∧ Fld Z h x ALN "elementData" OA d ∧ Fld Z h x ALN "size" "I" (.int n) ∧ Fld Z h x ABL "modCount" "I" (.int m)
/-- an array of ten references -/
def Ten (Z : State) (h : Heap) (d : Addr) (vs : List Value) : Prop := vs.length = 10 ∧ ∃ k, Ovr Z k OBJ ∧ Arv Z h d k (.object OBJ) 10 vs .null
section
variable {Z : State} {h h' : Heap} {x d : Addr} {v : Value} {n m : Int32} {vs : List Value} {ws : List Addr}
theorem ALf.keep (A : ALf Z h x v n m) (K : Keep h h' ws) (q : x ∉ ws) : ALf Z h' x v n m := ⟨A.1.keep K, A.2.1.keep K q, A.2.2.1.keep K q, A.2.2.2.keep K q⟩
theorem ALf.ext (A : ALf Z h x v n m) (E : Ext h h') : ALf Z h' x v n m := A.keep ((Keep.refl h []).ext E) nin0
theorem Ten.keep (A : Ten Z h d vs) (K : Keep h h' ws) (q : d ∉ ws) : Ten Z h' d vs := by
  obtain ⟨h1, k, O, V⟩ := A; exact ⟨h1, k, O, V.keep K q⟩
theorem Ten.ext (A : Ten Z h d vs) (E : Ext h h') : Ten Z h' d vs := A.keep ((Keep.refl h []).ext E) nin0
end
end Own
end Jvm.Pilot.@@N@@
/-! OWN FRAMEWORK, part 6: decimal digits. -/
namespace Jvm.Pilot.@@N@@
namespace Own
open Jvm Jvm.ClassFile Sem Op Lib Jvm.Free Jvm.Stand Jvm.LawKit Jvm.RoadKit
/-- how many digits -/
def ndg (q : Nat) : Nat := if q < 10 then 1 else if q < 100 then 2 else if q < 1000 then 3 else if q < 10000 then 4 else if q < 100000 then 5 else if q < 1000000 then 6 else if q < 10000000 then 7 else if q < 100000000 then 8 else if q < 1000000000 then 9 else 10
theorem nd_100 {q : Nat} (h : 100 ≤ q) (h2 : q ≤ 2147483648) : ndg q = ndg (q / 100) + 2 := by
  unfold ndg
  rw [if_neg (show ¬ q < 10 by omega), if_neg (show ¬ q < 100 by omega)]
  by_cases c3 : q < 1000
  · rw [if_pos c3, if_pos (show q / 100 < 10 by omega)]
  rw [if_neg c3, if_neg (show ¬ q / 100 < 10 by omega)]
  by_cases c4 : q < 10000
  · rw [if_pos c4, if_pos (show q / 100 < 100 by omega)]
  rw [if_neg c4, if_neg (show ¬ q / 100 < 100 by omega)]
  by_cases c5 : q < 100000
  · rw [if_pos c5, if_pos (show q / 100 < 1000 by omega)]
  rw [if_neg c5, if_neg (show ¬ q / 100 < 1000 by omega)]
  by_cases c6 : q < 1000000
  · rw [if_pos c6, if_pos (show q / 100 < 10000 by omega)]
  rw [if_neg c6, if_neg (show ¬ q / 100 < 10000 by omega)]
  by_cases c7 : q < 10000000
  · rw [if_pos c7, if_pos (show q / 100 < 100000 by omega)]
  rw [if_neg c7, if_neg (show ¬ q / 100 < 100000 by omega)]
  by_cases c8 : q < 100000000
  · rw [if_pos c8, if_pos (show q / 100 < 1000000 by omega)]
  rw [if_neg c8, if_neg (show ¬ q / 100 < 1000000 by omega)]
  by_cases c9 : q < 1000000000
  · rw [if_pos c9, if_pos (show q / 100 < 10000000 by omega)]
  rw [if_neg c9, if_neg (show ¬ q / 100 < 10000000 by omega)]
  rw [if_pos (show q / 100 < 100000000 by omega)]
theorem nd_le (q : Nat) : 1 ≤ ndg q ∧ ndg q ≤ 10 := by
  unfold ndg
  repeat' split
  all_goals omega
theorem nd_lo {q : Nat} (h : q < 10) : ndg q = 1 := by unfold ndg; rw [if_pos h]
theorem nd_mid {q : Nat} (h0 : ¬ q < 10) (h : q < 100) : ndg q = 2 := by unfold ndg; rw [if_neg h0, if_pos h]
def dig (m k : Nat) : Int32 := Int32.ofNat (48 + m / 10 ^ k % 10)
/-- the last k digits -/
def dgs (m : Nat) : Nat → List Int32
  | 0 => []
  | k + 1 => dig m k :: dgs m k
theorem dgs_len (m k : Nat) : (dgs m k).length = k := by
  induction k with
  | zero => rfl
  | succ n ih => simp [dgs, ih]
theorem dgs_at (m : Nat) : ∀ {k j : Nat}, j < k → (dgs m k)[j]? = some (dig m (k - 1 - j))
  | 0, _, h => absurd h (Nat.not_lt_zero _)
  | k + 1, 0, _ => by simp [dgs]
  | k + 1, j + 1, h => by
    have e := dgs_at m (k := k) (j := j) (by omega)
    rw [dgs, List.getElem?_cons_succ, e, show k + 1 - 1 - (j + 1) = k - 1 - j by omega]
theorem dig_ok (m k : Nat) : ¬ dig m k < 0 ∧ ¬ 255 < dig m k := by
  have h0 : m / 10 ^ k % 10 < 10 := Nat.mod_lt _ (by decide)
  have h : 48 + m / 10 ^ k % 10 < 2147483648 := by omega
  exact ⟨nn_ofNat h, fun q => absurd ((lt_ofNat (i := 255) (by decide) h).mp q) (by omega)⟩
theorem dgs_ok (m : Nat) : ∀ k, ∀ c ∈ dgs m k, ¬ c < 0 ∧ ¬ 255 < c
  | 0 => fun c h => nomatch h
  | k + 1 => fun c h => by
    rcases List.mem_cons.mp h with rfl | h
    · exact dig_ok m k
    · exact dgs_ok m k c h
def mag (x : Int32) : Nat := x.toInt.natAbs
def sgn (x : Int32) : Nat := if x < 0 then 1 else 0
def decS (sg m : Nat) : List Int32 := List.replicate sg 45 ++ dgs m (ndg m)
def dec (x : Int32) : List Int32 := decS (sgn x) (mag x)
theorem mag_le (x : Int32) : mag x ≤ 2147483648 := by
  have h1 := x.le_toInt; have h2 := x.toInt_lt
  unfold mag; omega
theorem sgn_le (x : Int32) : sgn x ≤ 1 := by unfold sgn; split <;> omega
theorem decS_len (sg m : Nat) : (decS sg m).length = ndg m + sg := by
  rw [decS, List.length_append, List.length_replicate, dgs_len]; omega
theorem dec_len (x : Int32) : (dec x).length = ndg (mag x) + sgn x := decS_len _ _
theorem dec_le (x : Int32) : 1 ≤ (dec x).length ∧ (dec x).length ≤ 11 := by
  have h1 := nd_le (mag x); have h2 := sgn_le x
  rw [dec_len]; omega
theorem decS_ok (sg m : Nat) : ∀ c ∈ decS sg m, ¬ c < 0 ∧ ¬ 255 < c := fun c h => by
  rcases List.mem_append.mp h with h | h
  · rw [List.eq_of_mem_replicate h]; decide
  · exact dgs_ok _ _ c h
theorem dec_lat (x : Int32) : Lat (dec x) := ⟨by have := dec_le x; omega, decS_ok _ _⟩
def negI (m : Nat) : Int32 := Int32.ofInt (-(m : Int))
theorem ti_neg {m : Nat} (h : m ≤ 2147483648) : (negI m).toInt = -(m : Int) := by
  unfold negI; rw [Int32.toInt_ofInt_of_le (by omega) (by omega)]
theorem neg_lt {a b : Nat} (ha : a ≤ 2147483648) (hb : b ≤ 2147483648) : negI a < negI b ↔ b < a := by
  rw [Int32.lt_iff_toInt_lt, ti_neg ha, ti_neg hb]; omega
theorem neg_div {q : Nat} (h : q ≤ 2147483648) : negI q / 100 = negI (q / 100) := by
  have h1 := c_idiv (negI q) 100 100 rfl (by decide)
  rw [ti_neg h] at h1
  rw [← Int32.toInt_inj, ti_neg (by omega)]
  by_cases q0 : q = 0
  · have := h1.1 (by omega); subst q0; omega
  · have := h1.2 (by omega); omega
theorem neg_rem {q : Nat} (h : q ≤ 2147483648) : negI (q / 100) * 100 - negI q = Int32.ofNat (q % 100) := by
  have h1 := c_imul (negI (q / 100)) 100
  have h2 := c_isub (negI (q / 100) * 100) (negI q)
  rw [ti_neg (by omega), show (100 : Int32).toInt = 100 from rfl] at h1
  rw [ti_neg h] at h2
  have h3 := (negI (q / 100) * 100 - negI q).le_toInt; have h4 := (negI (q / 100) * 100 - negI q).toInt_lt
  rw [← Int32.toInt_inj, toInt_ofNat (by omega)]
  omega
theorem neg_neg' {q : Nat} (h : q < 2147483648) : -negI q = Int32.ofNat q := by
  have h1 := c_ineg (negI q)
  rw [ti_neg (by omega)] at h1
  have h3 := (-negI q).le_toInt; have h4 := (-negI q).toInt_lt
  rw [← Int32.toInt_inj, toInt_ofNat h]; omega
theorem mag_neg {x : Int32} (h : x < 0) : x = negI (mag x) := by
  rw [Int32.lt_iff_toInt_lt, show (0 : Int32).toInt = 0 from rfl] at h
  rw [← Int32.toInt_inj, ti_neg (mag_le x)]; unfold mag; omega
theorem mag_pos {x : Int32} (h : ¬ x < 0) : -x = negI (mag x) := by
  rw [Int32.lt_iff_toInt_lt, show (0 : Int32).toInt = 0 from rfl] at h
  have h1 := c_ineg x; have h3 := (-x).le_toInt; have h4 := (-x).toInt_lt; have h5 := x.toInt_lt
  rw [← Int32.toInt_inj, ti_neg (mag_le x)]; unfold mag; omega
theorem dec1 (i : Nat) : Int32.ofNat (i + 1) + Int32.ofInt (-1) = Int32.ofNat i := by
  rw [Int32.ofNat_add, Int32.add_assoc, show Int32.ofNat 1 + Int32.ofInt (-1) = 0 from by decide, Int32.add_zero]
theorem zs_set {p : Nat} {t : List Value} {v : Value} : (zs (p + 1) ++ t).set p v = zs p ++ v :: t := by
  rw [show zs (p + 1) = zs p ++ [.int 0] from List.replicate_succ', List.append_assoc, List.set_append_right _ _ (by simp)]
  simp
theorem bts_dgs {m k : Nat} {t : List Value} : (.int (dig m k).toInt8.toInt32 :: (bts (dgs m k) ++ t) : List Value) = bts (dgs m (k + 1)) ++ t := rfl
theorem fin0 {m : Nat} {t : List Value} : zs 0 ++ (bts (dgs m (ndg m)) ++ t) = bts (decS 0 m) ++ t := by simp [decS]
theorem fin1 {m : Nat} {t : List Value} : zs 0 ++ (.int (45 : Int32).toInt8.toInt32 :: (bts (dgs m (ndg m)) ++ t)) = bts (decS 1 m) ++ t := by simp [decS]
def tabF (F : Nat → Nat) : List Value := (List.range 100).map fun r => .int (Int32.ofNat (F r))
def Tabs (Z : State) : Prop := (∃ d k, Sta Z Z.heap "java/lang/Integer" "DigitOnes" "[B" (.ref d) ∧ Arv Z Z.heap d k .byte 100 (tabF fun r => 48 + r % 10) (.int 0)) ∧ (∃ d k, Sta Z Z.heap "java/lang/Integer" "DigitTens" "[B" (.ref d) ∧ Arv Z Z.heap d k .byte 100 (tabF fun r => 48 + r / 10) (.int 0))
theorem tab_at {F : Nat → Nat} {r : Nat} (h : r < 100) : (tabF F).getD (Int32.ofNat r).toNatClampNeg (.int 0) = .int (Int32.ofNat (F r)) := by
  rw [cl_ofNat (by omega)]; simp [tabF, h]
theorem tab_start {args : Array Value} {s : State} {T rhs : Term} {F : Nat → Nat} (hf : Fit s) (hT : ∀ idx, T.eval args s none idx s = T.eval args s none [] s) (harr : (Jvm.Cond.arrayClass .byte).before args s = true) (n1 : (Jvm.Cond.exactly T "[B").before args s = true) (n2 : (Jvm.Cond.eq (Jvm.Term.length T) (Jvm.Term.int 100)).value args s none s [] = some true)
    (n3 : (Jvm.Cond.all T (Jvm.Cond.eq (Jvm.Term.elem T (Jvm.Term.index 0)) rhs)).value args s none s [] = some true) (hr : ∀ r, r < 100 → rhs.eval args s none [r] s = some (.int (Int32.ofNat (F r)))) : ∃ (a : Addr) (k : ClassId), T.eval args s none [] s = some (.ref a) ∧ Arv s s.heap a k .byte 100 (tabF F) (.int 0) := by
  obtain ⟨a, cB, D, kB, ev, hfcB, hcell, hkB, hst, hcls, -⟩ := Cond.exactly_spec n1
  obtain ⟨cB', kB', comp, hnm, hkB', hkind⟩ := Cond.arrayClass_spec harr
  rw [show "[" ++ FieldType.toString .byte = "[B" from by decide] at hnm
  cases hfcB.symm.trans hnm
  cases hkB.symm.trans hkB'
  cases hat : s.arrayAt? a with
  | none => simp [Jvm.Cond.value, Term.eval, ev, hat] at n2
  | some cl =>
    obtain ⟨hc2, hkn, -, -⟩ := State.arrayAt?_spec hat
    cases hcell.symm.trans hc2
    have A : Arr s s.heap a D .byte := ⟨hcell, ⟨(fun q h => by rw [h] at hst; cases hst), kB, (by rw [hcls]; exact hkB), comp, hkind⟩, hkn⟩
    have q2 : D.slots.size < 2 ^ 31 ∧ D.slots.size.toInt32 = 100 := by
      by_cases q : D.slots.size < 2 ^ 31
      · refine ⟨q, ?_⟩
        have q' : D.slots.size < 2147483648 := q
        simpa [Jvm.Cond.value, Term.eval, ev, hat, q'] using n2
      · have q' : ¬ D.slots.size < 2147483648 := q
        simp [Jvm.Cond.value, Term.eval, ev, hat, q'] at n2
    have hsz : D.slots.size = 100 := by
      have h1 := q2.2
      have h3 : D.slots.size.toInt32.toInt = (100 : Int32).toInt := by rw [h1]
      rw [len_toInt q2.1] at h3
      have : (100 : Int32).toInt = 100 := rfl
      omega
    have hel : ∀ r, r < 100 → D.slots[r]? = some (.int (Int32.ofNat (F r))) := fun r hr' => by
      have h := Cond.all_elim ev hat n3 r (by omega)
      have hge : D.slots[r]? = some D.slots[r] := Array.getElem?_eq_getElem (by omega)
      have c1 : ¬ Nat.toInt32 r < 0 := nn_ofNat (by omega)
      have c2 : (Nat.toInt32 r).toNatClampNeg = r := cl_ofNat (by omega)
      simp only [Jvm.Cond.value, hr r hr', Term.eval, hT, ev, hat] at h
      simp [c1, c2, hge] at h
      cases hv : D.slots[r] with
      | int w => rw [hge, hv]; simp [hat, hge, hv] at h; rw [h]
      | _ => simp [hat, hge, hv] at h
    have hH : ∀ i, i < D.slots.size → D.slots[i]? = some ((tabF F).getD i (.int 0)) := fun i hi => by
      rw [hel i (by omega)]; simp [tabF, show i < 100 by omega]
    refine ⟨a, D.cls, ev, D, A, rfl, by rw [hsz]; rfl, by decide, hH, fun j hj => ?_⟩
    have e1 : (Nat.toInt32 j).toNatClampNeg = j := cl_ofNat (by omega)
    exact elem_fits (j := Nat.toInt32 j) hf A (idx_in hj q2.1) (by rw [e1]; exact hH j hj)
/-! longs -/
theorem ti64 {n : Nat} (h : n < 9223372036854775808) : (Int64.ofNat n).toInt = n := by
  rw [Int64.toInt_ofNat_of_lt (by simpa using h)]
theorem lt64 {a b : Nat} (ha : a < 9223372036854775808) (hb : b < 9223372036854775808) : Int64.ofNat a < Int64.ofNat b ↔ a < b := by
  rw [Int64.lt_iff_toInt_lt, ti64 ha, ti64 hb]; omega
theorem cmp_lt {a b : Nat} (ha : a < 9223372036854775808) (hb : b < 9223372036854775808) : XT.cmpL (Int64.ofNat a) (Int64.ofNat b) < 0 ↔ a < b := by
  unfold XT.cmpL
  by_cases h1 : Int64.ofNat b < Int64.ofNat a
  · rw [if_pos h1]; have := (lt64 hb ha).mp h1
    exact ⟨fun q => absurd q (by decide), fun q => by omega⟩
  · rw [if_neg h1]; have g1 : ¬ b < a := fun q => h1 ((lt64 hb ha).mpr q)
    by_cases h2 : Int64.ofNat a = Int64.ofNat b
    · rw [if_pos h2]
      have : a = b := by have := congrArg Int64.toInt h2; rw [ti64 ha, ti64 hb] at this; omega
      exact ⟨fun q => absurd q (by decide), fun q => by omega⟩
    · rw [if_neg h2]
      have : a ≠ b := fun e => h2 (by rw [e])
      exact ⟨fun _ => by omega, fun _ => by decide⟩
theorem div64 {a b : Nat} (ha : a < 9223372036854775808) (hb : b < 9223372036854775808) (h1 : Int64.ofNat b ≠ -1) : Int64.ofNat a / Int64.ofNat b = Int64.ofNat (a / b) := by
  have h := (c_ldiv (Int64.ofNat a) (Int64.ofNat b) b (ti64 hb) h1).1 (by rw [ti64 ha]; omega)
  have hl : a / b ≤ a := Nat.div_le_self _ _
  rw [← Int64.toInt_inj, h, ti64 ha, ti64 (by omega)]; exact (Int.natCast_ediv a b).symm ▸ rfl
theorem rem64 {a : Nat} (ha : a < 9223372036854775808) : Int64.ofNat a % 10 = Int64.ofNat (a % 10) := by
  have h := (c_lrem (Int64.ofNat a) 10 10 rfl).1 (by rw [ti64 ha]; omega)
  rw [lrem_mod] at h
  rw [← Int64.toInt_inj, h, ti64 ha, ti64 (by omega)]; omega
theorem l2i64 {a : Nat} (ha : a < 2147483648) : (Int64.ofNat a).toInt32 = Int32.ofNat a := by
  have h := c_l2i (Int64.ofNat a)
  rw [ti64 (by omega)] at h
  have h3 := (Int64.ofNat a).toInt32.le_toInt; have h4 := (Int64.ofNat a).toInt32.toInt_lt
  rw [← Int32.toInt_inj, toInt_ofNat ha]; omega
theorem abs_pos {x : Int32} (h : ¬ x < 0) : x.toInt64 = Int64.ofNat (mag x) := by
  rw [Int32.lt_iff_toInt_lt, show (0 : Int32).toInt = 0 from rfl] at h
  have hm := mag_le x
  rw [← Int64.toInt_inj, c_i2l, ti64 (by omega)]; unfold mag; omega
theorem abs_neg {x : Int32} (h : x < 0) : -x.toInt64 = Int64.ofNat (mag x) := by
  rw [Int32.lt_iff_toInt_lt, show (0 : Int32).toInt = 0 from rfl] at h
  have hm := mag_le x
  have h1 := c_lneg x.toInt64
  rw [c_i2l] at h1
  have h3 := (-x.toInt64).le_toInt; have h4 := (-x.toInt64).toInt_lt; have h5 := x.le_toInt
  rw [← Int64.toInt_inj, ti64 (by omega)]; unfold mag; omega
theorem i2l_lt {x : Int32} : XT.cmpL x.toInt64 0 < 0 ↔ x < 0 := by
  have e : (x.toInt64 < (0 : Int64)) ↔ x < 0 := by rw [Int64.lt_iff_toInt_lt, c_i2l, Int32.lt_iff_toInt_lt]; rfl
  unfold XT.cmpL
  by_cases h1 : (0 : Int64) < x.toInt64
  · rw [if_pos h1]; exact ⟨fun q => absurd q (by decide), fun q => absurd (e.mpr q) (fun z => absurd (Int64.lt_trans h1 z) (Int64.lt_irrefl))⟩
  · rw [if_neg h1]
    by_cases h2 : x.toInt64 = 0
    · rw [if_pos h2]; exact ⟨fun q => absurd q (by decide), fun q => absurd (e.mpr q) (by rw [h2]; exact Int64.lt_irrefl)⟩
    · rw [if_neg h2]
      refine ⟨fun _ => e.mp ?_, fun _ => by decide⟩
      rw [Int64.lt_iff_toInt_lt] at h1 ⊢
      have : x.toInt64.toInt ≠ (0 : Int64).toInt := fun q => h2 (Int64.toInt_inj.mp q)
      omega
theorem at_mid {pre es post : List Int32} {v : Int32} {i : Nat} (h : es[i]? = some v) : (pre ++ (es ++ post))[pre.length + i]? = some v := by
  have hi : i < es.length := (List.getElem?_eq_some_iff.mp h).1
  rw [List.getElem?_append_right (by omega), show pre.length + i - pre.length = i by omega, List.getElem?_append_left hi]; exact h
theorem at_end {pre es post : List Int32} {i : Nat} : (pre ++ (es ++ post))[pre.length + es.length + i]? = post[i]? := by
  rw [List.getElem?_append_right (by omega), List.getElem?_append_right (by omega), show pre.length + es.length + i - pre.length - es.length = i by omega]
theorem range_all (vs : List Value) (dv : Value) : (List.range vs.length).map (fun i => vs.getD i dv) = vs := by
  refine List.ext_getElem (by simp) fun i h1 h2 => ?_
  simp [h2]
end Own
end Jvm.Pilot.@@N@@
namespace Jvm.Pilot.@@N@@
namespace Own
open Jvm Jvm.ClassFile Sem Op Lib Jvm.Free Jvm.Stand Jvm.LawKit Jvm.RoadKit
theorem us_pre (cs : List Int32) (t : List Value) : (List.range cs.length).map (fun i => (bts cs ++ t).getD i (.int 0)) = bts cs := by
  refine List.ext_getElem (by simp [bts]) fun i h1 h2 => ?_
  simp only [bts_len] at h2
  simp [bts, h2, List.getElem?_append]
abbrev SUN : String := "com/example/saga/saga/server/SurfaceUris"
abbrev SDs : String := "Ljava/lang/String;"
/-- what pageNumber answers -/
def pnl (p : Int32) : List Int32 := if p = 1 then [] else dec p ++ [47]
theorem pnl_1 {p : Int32} (h : p = 1) : pnl p = [] := if_pos h
theorem pnl_n {p : Int32} (h : ¬ p = 1) : pnl p = dec p ++ [47] := if_neg h
theorem pnl_le (p : Int32) : (pnl p).length ≤ 12 := by
  by_cases h : p = 1
  · rw [pnl_1 h]; exact Nat.zero_le _
  · rw [pnl_n h, List.length_append]; have := dec_le p; show (dec p).length + 1 ≤ 12; omega
theorem subK {n k : Nat} (h : n + k < 2147483648) : Int32.ofNat (n + k) - Int32.ofNat k = Int32.ofNat n := by
  rw [subNat (by omega) h, Nat.add_sub_cancel]
theorem pow9 {e : Nat} (h : e ≤ 9) : 0 < 10 ^ e ∧ 10 ^ e ≤ 1000000000 := ⟨Nat.pow_pos (by decide), Nat.le_trans (Nat.pow_le_pow_right (by decide) h) (by decide)⟩
theorem pw_ne {e : Nat} (h : e ≤ 9) : Int64.ofNat (10 ^ e) ≠ 0 ∧ Int64.ofNat (10 ^ e) ≠ -1 := by
  have p := pow9 h
  have t := ti64 (n := 10 ^ e) (by omega)
  constructor
  · intro q; rw [q, show (0 : Int64).toInt = 0 from rfl] at t; omega
  · intro q; rw [q, show (-1 : Int64).toInt = -1 from rfl] at t; omega
theorem dig64 {m e : Nat} (hm : m ≤ 2147483648) (h : e ≤ 9) : Int64.ofNat m / Int64.ofNat (10 ^ e) = Int64.ofNat (m / 10 ^ e) ∧ Int64.ofNat (m / 10 ^ e) % 10 = Int64.ofNat (m / 10 ^ e % 10) ∧ (Int64.ofNat (m / 10 ^ e % 10)).toInt32 = Int32.ofNat (m / 10 ^ e % 10) := by
  have p := pow9 h
  have hl : m / 10 ^ e ≤ m := Nat.div_le_self _ _
  have hr : m / 10 ^ e % 10 < 10 := Nat.mod_lt _ (by decide)
  exact ⟨div64 (by omega) (by omega) (pw_ne h).2, rem64 (by omega), l2i64 (by omega)⟩
/-- the law's char[40] that spells cs -/
def Ech (Z : State) (h : Heap) (y : Addr) (cs : List Int32) : Prop := ∃ k, Arv Z h y k .char 40 (ints cs ++ zs (40 - cs.length)) (.int 0)
theorem push_c {cs : List Int32} {c : Int32} (h : cs.length < 40) : (ints cs ++ zs (40 - cs.length)).set cs.length (.int c) = ints (cs ++ [c]) ++ zs (40 - (cs ++ [c]).length) := by
  have hl : (ints cs).length = cs.length := by simp [ints]
  rw [List.set_append_right _ _ (by omega), hl, Nat.sub_self]
  obtain ⟨m, hm⟩ : ∃ m, 40 - cs.length = m + 1 := ⟨40 - cs.length - 1, by omega⟩
  rw [hm, show 40 - (cs ++ [c]).length = m by simp <;> omega]
  simp [zs, List.replicate_succ, ints]
theorem Ech.keep {Z : State} {h h' : Heap} {y : Addr} {cs : List Int32} {ws : List Addr} (V : Ech Z h y cs) (K : Keep h h' ws) (n : y ∉ ws) : Ech Z h' y cs := by
  obtain ⟨k, V⟩ := V; exact ⟨k, V.keep K n⟩
theorem inc_push {cs : List Int32} {c : Int32} : Int32.ofNat cs.length + Int32.ofInt 1 = Int32.ofNat (cs ++ [c]).length := by rw [List.length_append]; exact add1_ofNat
theorem rem33 (x : Int32) : (x &&& 3) % 3 = 0 ∨ (x &&& 3) % 3 = 1 ∨ (x &&& 3) % 3 = 2 := by
  have h := c_and x 3 (by decide)
  have g := (c_irem (x &&& 3) 3 3 rfl).1 h.1
  have e : ∀ k : Int32, (x &&& 3) % 3 = k ↔ ((x &&& 3) % 3).toInt = k.toInt := fun k => Int32.toInt_inj.symm
  rw [e, e, e, g]
  have e0 : (0 : Int32).toInt = 0 := rfl
  have e1 : (1 : Int32).toInt = 1 := rfl
  have e2 : (2 : Int32).toInt = 2 := rfl
  omega
def Dt (n a b : Int32) (cs : List Int32) : Prop := (n = 0 ∧ cs = []) ∨ (n = 1 ∧ cs = [a]) ∨ (n = 2 ∧ cs = [a, b])
theorem Dt.le {n a b : Int32} {cs : List Int32} (D : Dt n a b cs) : cs.length ≤ 2 := by rcases D with ⟨-, rfl⟩ | ⟨-, rfl⟩ | ⟨-, rfl⟩ <;> exact Nat.le_of_ble_eq_true rfl
theorem Dt.any (x a b : Int32) : ∃ cs, Dt ((x &&& 3) % 3) a b cs := by
  rcases rem33 x with h | h | h <;> rw [h]
  · exact ⟨_, Or.inl ⟨rfl, rfl⟩⟩
  · exact ⟨_, Or.inr (Or.inl ⟨rfl, rfl⟩)⟩
  · exact ⟨_, Or.inr (Or.inr ⟨rfl, rfl⟩)⟩
abbrev P7 : List Int32 := [104, 116, 116, 112, 58, 47, 47]
abbrev P14 : List Int32 := [47, 116, 105, 109, 101, 109, 97, 112, 47, 108, 105, 110, 107, 47]
theorem w_0 {Z : State} {a0 : Array Value} (H : Wd Z a0) : ((Jvm.Cond.methodLink "com/example/saga/saga/server/SurfaceUrisLinkTimeMapPinLaw" (12 : Nat) ({ cls := "java/lang/String", name := "valueOf", desc := "(C)Ljava/lang/String;" } : Jvm.MethodName)) : Jvm.Cond).before a0 Z = true := H.1 _ (List.mem_of_getElem? (i := 0) rfl)
theorem w_1 {Z : State} {a0 : Array Value} (H : Wd Z a0) : ((Jvm.Cond.static ({ cls := "java/lang/String", name := "valueOf", desc := "(C)Ljava/lang/String;" } : Jvm.MethodName)) : Jvm.Cond).before a0 Z = true := H.1 _ (List.mem_of_getElem? (i := 1) rfl)
theorem w_2 {Z : State} {a0 : Array Value} (H : Wd Z a0) : ((Jvm.Cond.initialized "java/lang/String") : Jvm.Cond).before a0 Z = true := H.1 _ (List.mem_of_getElem? (i := 2) rfl)
theorem w_3 {Z : State} {a0 : Array Value} (H : Wd Z a0) : ((Jvm.Cond.code ({ cls := "java/lang/String", name := "valueOf", desc := "(C)Ljava/lang/String;" } : Jvm.MethodName) jdk_42_method_139_code (1 : Nat) (Option.some (Jvm.ClassFile.FieldType.object "java/lang/String"))) : Jvm.Cond).before a0 Z = true := H.1 _ (List.mem_of_getElem? (i := 3) rfl)
theorem w_4 {Z : State} {a0 : Array Value} (H : Wd Z a0) : ((Jvm.Cond.fieldLink "java/lang/String" (38 : Nat) "java/lang/String" "COMPACT_STRINGS" "Z") : Jvm.Cond).before a0 Z = true := H.1 _ (List.mem_of_getElem? (i := 4) rfl)
theorem w_5 {Z : State} {a0 : Array Value} (H : Wd Z a0) : ((Jvm.Cond.methodLink "java/lang/String" (1015 : Nat) ({ cls := "java/lang/StringLatin1", name := "canEncode", desc := "(C)Z" } : Jvm.MethodName)) : Jvm.Cond).before a0 Z = true := H.1 _ (List.mem_of_getElem? (i := 5) rfl)
theorem w_6 {Z : State} {a0 : Array Value} (H : Wd Z a0) : ((Jvm.Cond.static ({ cls := "java/lang/StringLatin1", name := "canEncode", desc := "(C)Z" } : Jvm.MethodName)) : Jvm.Cond).before a0 Z = true := H.1 _ (List.mem_of_getElem? (i := 6) rfl)
theorem w_7 {Z : State} {a0 : Array Value} (H : Wd Z a0) : ((Jvm.Cond.initialized "java/lang/StringLatin1") : Jvm.Cond).before a0 Z = true := H.1 _ (List.mem_of_getElem? (i := 7) rfl)
theorem w_8 {Z : State} {a0 : Array Value} (H : Wd Z a0) : ((Jvm.Cond.code ({ cls := "java/lang/StringLatin1", name := "canEncode", desc := "(C)Z" } : Jvm.MethodName) jdk_43_method_3_code (1 : Nat) (Option.some Jvm.ClassFile.FieldType.boolean)) : Jvm.Cond).before a0 Z = true := H.1 _ (List.mem_of_getElem? (i := 8) rfl)
theorem w_9 {Z : State} {a0 : Array Value} (H : Wd Z a0) : ((Jvm.Cond.classLink "java/lang/String" (10 : Nat) "java/lang/String") : Jvm.Cond).before a0 Z = true := H.1 _ (List.mem_of_getElem? (i := 9) rfl)
theorem w_10 {Z : State} {a0 : Array Value} (H : Wd Z a0) : ((Jvm.Cond.instantiable "java/lang/String" (4 : Nat)) : Jvm.Cond).before a0 Z = true := H.1 _ (List.mem_of_getElem? (i := 10) rfl)
theorem w_11 {Z : State} {a0 : Array Value} (H : Wd Z a0) : ((Jvm.Cond.methodLink "java/lang/String" (1018 : Nat) ({ cls := "java/lang/StringLatin1", name := "toBytes", desc := "(C)[B" } : Jvm.MethodName)) : Jvm.Cond).before a0 Z = true := H.1 _ (List.mem_of_getElem? (i := 11) rfl)
theorem w_12 {Z : State} {a0 : Array Value} (H : Wd Z a0) : ((Jvm.Cond.static ({ cls := "java/lang/StringLatin1", name := "toBytes", desc := "(C)[B" } : Jvm.MethodName)) : Jvm.Cond).before a0 Z = true := H.1 _ (List.mem_of_getElem? (i := 12) rfl)
theorem w_13 {Z : State} {a0 : Array Value} (H : Wd Z a0) : ((Jvm.Cond.code ({ cls := "java/lang/StringLatin1", name := "toBytes", desc := "(C)[B" } : Jvm.MethodName) jdk_43_method_46_code (1 : Nat) (Option.some (Jvm.ClassFile.FieldType.array Jvm.ClassFile.FieldType.byte))) : Jvm.Cond).before a0 Z = true := H.1 _ (List.mem_of_getElem? (i := 13) rfl)
theorem w_14 {Z : State} {a0 : Array Value} (H : Wd Z a0) : ((Jvm.Cond.arrayClass Jvm.ClassFile.FieldType.byte) : Jvm.Cond).before a0 Z = true := H.1 _ (List.mem_of_getElem? (i := 14) rfl)
theorem w_15 {Z : State} {a0 : Array Value} (H : Wd Z a0) : ((Jvm.Cond.methodLink "java/lang/String" (209 : Nat) ({ cls := "java/lang/String", name := "<init>", desc := "([BB)V" } : Jvm.MethodName)) : Jvm.Cond).before a0 Z = true := H.1 _ (List.mem_of_getElem? (i := 15) rfl)
theorem w_16 {Z : State} {a0 : Array Value} (H : Wd Z a0) : ((Jvm.Cond.instanceMethod ({ cls := "java/lang/String", name := "<init>", desc := "([BB)V" } : Jvm.MethodName)) : Jvm.Cond).before a0 Z = true := H.1 _ (List.mem_of_getElem? (i := 16) rfl)
theorem w_18 {Z : State} {a0 : Array Value} (H : Wd Z a0) : ((Jvm.Cond.code ({ cls := "java/lang/String", name := "<init>", desc := "([BB)V" } : Jvm.MethodName) jdk_42_method_151_code (3 : Nat) (Option.none : Option Jvm.ClassFile.FieldType)) : Jvm.Cond).before a0 Z = true := H.1 _ (List.mem_of_getElem? (i := 18) rfl)
theorem w_19 {Z : State} {a0 : Array Value} (H : Wd Z a0) : ((Jvm.Cond.methodLink "java/lang/String" (1 : Nat) ({ cls := "java/lang/Object", name := "<init>", desc := "()V" } : Jvm.MethodName)) : Jvm.Cond).before a0 Z = true := H.1 _ (List.mem_of_getElem? (i := 19) rfl)
theorem w_20 {Z : State} {a0 : Array Value} (H : Wd Z a0) : ((Jvm.Cond.instanceMethod ({ cls := "java/lang/Object", name := "<init>", desc := "()V" } : Jvm.MethodName)) : Jvm.Cond).before a0 Z = true := H.1 _ (List.mem_of_getElem? (i := 20) rfl)
theorem w_21 {Z : State} {a0 : Array Value} (H : Wd Z a0) : ((Jvm.Cond.code ({ cls := "java/lang/Object", name := "<init>", desc := "()V" } : Jvm.MethodName) object_method_1_code (1 : Nat) (Option.none : Option Jvm.ClassFile.FieldType)) : Jvm.Cond).before a0 Z = true := H.1 _ (List.mem_of_getElem? (i := 21) rfl)
theorem w_22 {Z : State} {a0 : Array Value} (H : Wd Z a0) : ((Jvm.Cond.fieldLink "java/lang/String" (9 : Nat) "java/lang/String" "value" "[B") : Jvm.Cond).before a0 Z = true := H.1 _ (List.mem_of_getElem? (i := 22) rfl)
theorem w_23 {Z : State} {a0 : Array Value} (H : Wd Z a0) : ((Jvm.Cond.laysFinal "java/lang/String" "java/lang/String" "value" "[B") : Jvm.Cond).before a0 Z = true := H.1 _ (List.mem_of_getElem? (i := 23) rfl)
theorem w_24 {Z : State} {a0 : Array Value} (H : Wd Z a0) : ((Jvm.Cond.fieldLink "java/lang/String" (15 : Nat) "java/lang/String" "coder" "B") : Jvm.Cond).before a0 Z = true := H.1 _ (List.mem_of_getElem? (i := 24) rfl)
theorem w_25 {Z : State} {a0 : Array Value} (H : Wd Z a0) : ((Jvm.Cond.laysFinal "java/lang/String" "java/lang/String" "coder" "B") : Jvm.Cond).before a0 Z = true := H.1 _ (List.mem_of_getElem? (i := 25) rfl)
theorem w_26 {Z : State} {a0 : Array Value} (H : Wd Z a0) : ((Jvm.Cond.classLink "com/example/saga/saga/server/SurfaceUrisLinkTimeMapPinLaw" (7 : Nat) "java/lang/String") : Jvm.Cond).before a0 Z = true := H.1 _ (List.mem_of_getElem? (i := 26) rfl)
theorem w_27 {Z : State} {a0 : Array Value} (H : Wd Z a0) : ((Jvm.Cond.arrayClass Jvm.ClassFile.FieldType.char) : Jvm.Cond).before a0 Z = true := H.1 _ (List.mem_of_getElem? (i := 27) rfl)
theorem w_28 {Z : State} {a0 : Array Value} (H : Wd Z a0) : ((Jvm.Cond.methodLink "com/example/saga/saga/server/SurfaceUrisLinkTimeMapPinLaw" (9 : Nat) ({ cls := "java/lang/String", name := "<init>", desc := "([C)V" } : Jvm.MethodName)) : Jvm.Cond).before a0 Z = true := H.1 _ (List.mem_of_getElem? (i := 28) rfl)
theorem w_29 {Z : State} {a0 : Array Value} (H : Wd Z a0) : ((Jvm.Cond.instanceMethod ({ cls := "java/lang/String", name := "<init>", desc := "([C)V" } : Jvm.MethodName)) : Jvm.Cond).before a0 Z = true := H.1 _ (List.mem_of_getElem? (i := 29) rfl)
theorem w_30 {Z : State} {a0 : Array Value} (H : Wd Z a0) : ((Jvm.Cond.code ({ cls := "java/lang/String", name := "<init>", desc := "([C)V" } : Jvm.MethodName) jdk_42_method_3_code (2 : Nat) (Option.none : Option Jvm.ClassFile.FieldType)) : Jvm.Cond).before a0 Z = true := H.1 _ (List.mem_of_getElem? (i := 30) rfl)
theorem w_31 {Z : State} {a0 : Array Value} (H : Wd Z a0) : ((Jvm.Cond.methodLink "java/lang/String" (27 : Nat) ({ cls := "java/lang/String", name := "<init>", desc := "([CIILjava/lang/Void;)V" } : Jvm.MethodName)) : Jvm.Cond).before a0 Z = true := H.1 _ (List.mem_of_getElem? (i := 31) rfl)
theorem w_32 {Z : State} {a0 : Array Value} (H : Wd Z a0) : ((Jvm.Cond.instanceMethod ({ cls := "java/lang/String", name := "<init>", desc := "([CIILjava/lang/Void;)V" } : Jvm.MethodName)) : Jvm.Cond).before a0 Z = true := H.1 _ (List.mem_of_getElem? (i := 32) rfl)
theorem w_33 {Z : State} {a0 : Array Value} (H : Wd Z a0) : ((Jvm.Cond.code ({ cls := "java/lang/String", name := "<init>", desc := "([CIILjava/lang/Void;)V" } : Jvm.MethodName) jdk_42_method_149_code (6 : Nat) (Option.none : Option Jvm.ClassFile.FieldType)) : Jvm.Cond).before a0 Z = true := H.1 _ (List.mem_of_getElem? (i := 33) rfl)
theorem w_34 {Z : State} {a0 : Array Value} (H : Wd Z a0) : ((Jvm.Cond.stringLink "java/lang/String" (7 : Nat) "") : Jvm.Cond).before a0 Z = true := H.1 _ (List.mem_of_getElem? (i := 34) rfl)
theorem w_35 {Z : State} {a0 : Array Value} (H : Wd Z a0) : ((Jvm.Cond.soleField "java/lang/String" "value") : Jvm.Cond).before a0 Z = true := H.1 _ (List.mem_of_getElem? (i := 35) rfl)
theorem w_36 {Z : State} {a0 : Array Value} (H : Wd Z a0) : ((Jvm.Cond.soleField "java/lang/String" "coder") : Jvm.Cond).before a0 Z = true := H.1 _ (List.mem_of_getElem? (i := 36) rfl)
theorem w_37 {Z : State} {a0 : Array Value} (H : Wd Z a0) : ((Jvm.Cond.classLink "com/example/saga/saga/server/SurfaceUrisLinkTimeMapPinLaw" (16 : Nat) "com/example/saga/saga/server/SurfaceUris") : Jvm.Cond).before a0 Z = true := H.1 _ (List.mem_of_getElem? (i := 37) rfl)
theorem w_38 {Z : State} {a0 : Array Value} (H : Wd Z a0) : ((Jvm.Cond.instantiable "com/example/saga/saga/server/SurfaceUris" (1 : Nat)) : Jvm.Cond).before a0 Z = true := H.1 _ (List.mem_of_getElem? (i := 38) rfl)
theorem w_39 {Z : State} {a0 : Array Value} (H : Wd Z a0) : ((Jvm.Cond.initialized "com/example/saga/saga/server/SurfaceUris") : Jvm.Cond).before a0 Z = true := H.1 _ (List.mem_of_getElem? (i := 39) rfl)
theorem w_40 {Z : State} {a0 : Array Value} (H : Wd Z a0) : ((Jvm.Cond.methodLink "com/example/saga/saga/server/SurfaceUrisLinkTimeMapPinLaw" (18 : Nat) ({ cls := "com/example/saga/saga/server/SurfaceUris", name := "<init>", desc := "(Ljava/lang/String;)V" } : Jvm.MethodName)) : Jvm.Cond).before a0 Z = true := H.1 _ (List.mem_of_getElem? (i := 40) rfl)
theorem w_41 {Z : State} {a0 : Array Value} (H : Wd Z a0) : ((Jvm.Cond.instanceMethod ({ cls := "com/example/saga/saga/server/SurfaceUris", name := "<init>", desc := "(Ljava/lang/String;)V" } : Jvm.MethodName)) : Jvm.Cond).before a0 Z = true := H.1 _ (List.mem_of_getElem? (i := 41) rfl)
theorem w_42 {Z : State} {a0 : Array Value} (H : Wd Z a0) : ((Jvm.Cond.code ({ cls := "com/example/saga/saga/server/SurfaceUris", name := "<init>", desc := "(Ljava/lang/String;)V" } : Jvm.MethodName) prog_12_method_1_code (2 : Nat) (Option.none : Option Jvm.ClassFile.FieldType)) : Jvm.Cond).before a0 Z = true := H.1 _ (List.mem_of_getElem? (i := 42) rfl)
theorem w_43 {Z : State} {a0 : Array Value} (H : Wd Z a0) : ((Jvm.Cond.methodLink "com/example/saga/saga/server/SurfaceUris" (1 : Nat) ({ cls := "java/lang/Object", name := "<init>", desc := "()V" } : Jvm.MethodName)) : Jvm.Cond).before a0 Z = true := H.1 _ (List.mem_of_getElem? (i := 43) rfl)
theorem w_44 {Z : State} {a0 : Array Value} (H : Wd Z a0) : ((Jvm.Cond.classLink "com/example/saga/saga/server/SurfaceUris" (7 : Nat) "java/lang/StringBuilder") : Jvm.Cond).before a0 Z = true := H.1 _ (List.mem_of_getElem? (i := 44) rfl)
theorem w_45 {Z : State} {a0 : Array Value} (H : Wd Z a0) : ((Jvm.Cond.instantiable "java/lang/StringBuilder" (4 : Nat)) : Jvm.Cond).before a0 Z = true := H.1 _ (List.mem_of_getElem? (i := 45) rfl)
theorem w_46 {Z : State} {a0 : Array Value} (H : Wd Z a0) : ((Jvm.Cond.initialized "java/lang/StringBuilder") : Jvm.Cond).before a0 Z = true := H.1 _ (List.mem_of_getElem? (i := 46) rfl)
theorem w_47 {Z : State} {a0 : Array Value} (H : Wd Z a0) : ((Jvm.Cond.methodLink "com/example/saga/saga/server/SurfaceUris" (9 : Nat) ({ cls := "java/lang/StringBuilder", name := "<init>", desc := "()V" } : Jvm.MethodName)) : Jvm.Cond).before a0 Z = true := H.1 _ (List.mem_of_getElem? (i := 47) rfl)
theorem w_48 {Z : State} {a0 : Array Value} (H : Wd Z a0) : ((Jvm.Cond.instanceMethod ({ cls := "java/lang/StringBuilder", name := "<init>", desc := "()V" } : Jvm.MethodName)) : Jvm.Cond).before a0 Z = true := H.1 _ (List.mem_of_getElem? (i := 48) rfl)
theorem w_49 {Z : State} {a0 : Array Value} (H : Wd Z a0) : ((Jvm.Cond.code ({ cls := "java/lang/StringBuilder", name := "<init>", desc := "()V" } : Jvm.MethodName) jdk_67_method_1_code (1 : Nat) (Option.none : Option Jvm.ClassFile.FieldType)) : Jvm.Cond).before a0 Z = true := H.1 _ (List.mem_of_getElem? (i := 49) rfl)
theorem w_50 {Z : State} {a0 : Array Value} (H : Wd Z a0) : ((Jvm.Cond.methodLink "java/lang/StringBuilder" (1 : Nat) ({ cls := "java/lang/AbstractStringBuilder", name := "<init>", desc := "(I)V" } : Jvm.MethodName)) : Jvm.Cond).before a0 Z = true := H.1 _ (List.mem_of_getElem? (i := 50) rfl)
theorem w_51 {Z : State} {a0 : Array Value} (H : Wd Z a0) : ((Jvm.Cond.instanceMethod ({ cls := "java/lang/AbstractStringBuilder", name := "<init>", desc := "(I)V" } : Jvm.MethodName)) : Jvm.Cond).before a0 Z = true := H.1 _ (List.mem_of_getElem? (i := 51) rfl)
theorem w_54 {Z : State} {a0 : Array Value} (H : Wd Z a0) : ((Jvm.Cond.initialized "java/lang/AbstractStringBuilder") : Jvm.Cond).before a0 Z = true := H.1 _ (List.mem_of_getElem? (i := 54) rfl)
theorem w_55 {Z : State} {a0 : Array Value} (H : Wd Z a0) : ((Jvm.Cond.code ({ cls := "java/lang/AbstractStringBuilder", name := "<init>", desc := "(I)V" } : Jvm.MethodName) jdk_68_method_2_code (2 : Nat) (Option.none : Option Jvm.ClassFile.FieldType)) : Jvm.Cond).before a0 Z = true := H.1 _ (List.mem_of_getElem? (i := 55) rfl)
theorem w_56 {Z : State} {a0 : Array Value} (H : Wd Z a0) : ((Jvm.Cond.methodLink "java/lang/AbstractStringBuilder" (3 : Nat) ({ cls := "java/lang/Object", name := "<init>", desc := "()V" } : Jvm.MethodName)) : Jvm.Cond).before a0 Z = true := H.1 _ (List.mem_of_getElem? (i := 56) rfl)
theorem w_57 {Z : State} {a0 : Array Value} (H : Wd Z a0) : ((Jvm.Cond.fieldLink "java/lang/AbstractStringBuilder" (18 : Nat) "java/lang/String" "COMPACT_STRINGS" "Z") : Jvm.Cond).before a0 Z = true := H.1 _ (List.mem_of_getElem? (i := 57) rfl)
theorem w_58 {Z : State} {a0 : Array Value} (H : Wd Z a0) : ((Jvm.Cond.fieldLink "java/lang/AbstractStringBuilder" (15 : Nat) "java/lang/AbstractStringBuilder" "value" "[B") : Jvm.Cond).before a0 Z = true := H.1 _ (List.mem_of_getElem? (i := 58) rfl)
theorem w_59 {Z : State} {a0 : Array Value} (H : Wd Z a0) : ((Jvm.Cond.lays "java/lang/StringBuilder" "java/lang/AbstractStringBuilder" "value" "[B") : Jvm.Cond).before a0 Z = true := H.1 _ (List.mem_of_getElem? (i := 59) rfl)
theorem w_60 {Z : State} {a0 : Array Value} (H : Wd Z a0) : ((Jvm.Cond.fieldLink "java/lang/AbstractStringBuilder" (22 : Nat) "java/lang/AbstractStringBuilder" "coder" "B") : Jvm.Cond).before a0 Z = true := H.1 _ (List.mem_of_getElem? (i := 60) rfl)
theorem w_61 {Z : State} {a0 : Array Value} (H : Wd Z a0) : ((Jvm.Cond.lays "java/lang/StringBuilder" "java/lang/AbstractStringBuilder" "coder" "B") : Jvm.Cond).before a0 Z = true := H.1 _ (List.mem_of_getElem? (i := 61) rfl)
theorem w_62 {Z : State} {a0 : Array Value} (H : Wd Z a0) : ((Jvm.Cond.stringLink "com/example/saga/saga/server/SurfaceUris" (10 : Nat) "http://") : Jvm.Cond).before a0 Z = true := H.1 _ (List.mem_of_getElem? (i := 62) rfl)
theorem w_63 {Z : State} {a0 : Array Value} (H : Wd Z a0) : ((Jvm.Cond.methodLink "com/example/saga/saga/server/SurfaceUris" (12 : Nat) ({ cls := "java/lang/StringBuilder", name := "append", desc := "(Ljava/lang/String;)Ljava/lang/StringBuilder;" } : Jvm.MethodName)) : Jvm.Cond).before a0 Z = true := H.1 _ (List.mem_of_getElem? (i := 63) rfl)
theorem w_64 {Z : State} {a0 : Array Value} (H : Wd Z a0) : ((Jvm.Cond.declares ({ cls := "java/lang/StringBuilder", name := "append", desc := "(Ljava/lang/String;)Ljava/lang/StringBuilder;" } : Jvm.MethodName)) : Jvm.Cond).before a0 Z = true := H.1 _ (List.mem_of_getElem? (i := 64) rfl)
theorem w_65 {Z : State} {a0 : Array Value} (H : Wd Z a0) : ((Jvm.Cond.instanceMethod ({ cls := "java/lang/StringBuilder", name := "append", desc := "(Ljava/lang/String;)Ljava/lang/StringBuilder;" } : Jvm.MethodName)) : Jvm.Cond).before a0 Z = true := H.1 _ (List.mem_of_getElem? (i := 65) rfl)
theorem w_66 {Z : State} {a0 : Array Value} (H : Wd Z a0) : ((Jvm.Cond.selects "java/lang/StringBuilder" ({ cls := "java/lang/StringBuilder", name := "append", desc := "(Ljava/lang/String;)Ljava/lang/StringBuilder;" } : Jvm.MethodName) ({ cls := "java/lang/StringBuilder", name := "append", desc := "(Ljava/lang/String;)Ljava/lang/StringBuilder;" } : Jvm.MethodName)) : Jvm.Cond).before a0 Z = true := H.1 _ (List.mem_of_getElem? (i := 66) rfl)
theorem w_67 {Z : State} {a0 : Array Value} (H : Wd Z a0) : ((Jvm.Cond.code ({ cls := "java/lang/StringBuilder", name := "append", desc := "(Ljava/lang/String;)Ljava/lang/StringBuilder;" } : Jvm.MethodName) jdk_67_method_7_code (2 : Nat) (Option.some (Jvm.ClassFile.FieldType.object "java/lang/StringBuilder"))) : Jvm.Cond).before a0 Z = true := H.1 _ (List.mem_of_getElem? (i := 67) rfl)
theorem w_68 {Z : State} {a0 : Array Value} (H : Wd Z a0) : ((Jvm.Cond.methodLink "java/lang/StringBuilder" (29 : Nat) ({ cls := "java/lang/AbstractStringBuilder", name := "append", desc := "(Ljava/lang/String;)Ljava/lang/AbstractStringBuilder;" } : Jvm.MethodName)) : Jvm.Cond).before a0 Z = true := H.1 _ (List.mem_of_getElem? (i := 68) rfl)
theorem w_69 {Z : State} {a0 : Array Value} (H : Wd Z a0) : ((Jvm.Cond.instanceMethod ({ cls := "java/lang/AbstractStringBuilder", name := "append", desc := "(Ljava/lang/String;)Ljava/lang/AbstractStringBuilder;" } : Jvm.MethodName)) : Jvm.Cond).before a0 Z = true := H.1 _ (List.mem_of_getElem? (i := 69) rfl)
theorem w_70 {Z : State} {a0 : Array Value} (H : Wd Z a0) : ((Jvm.Cond.superclass "java/lang/StringBuilder" "java/lang/AbstractStringBuilder") : Jvm.Cond).before a0 Z = true := H.1 _ (List.mem_of_getElem? (i := 70) rfl)
theorem w_71 {Z : State} {a0 : Array Value} (H : Wd Z a0) : ((Jvm.Cond.declares ({ cls := "java/lang/AbstractStringBuilder", name := "append", desc := "(Ljava/lang/String;)Ljava/lang/AbstractStringBuilder;" } : Jvm.MethodName)) : Jvm.Cond).before a0 Z = true := H.1 _ (List.mem_of_getElem? (i := 71) rfl)
theorem w_72 {Z : State} {a0 : Array Value} (H : Wd Z a0) : ((Jvm.Cond.code ({ cls := "java/lang/AbstractStringBuilder", name := "append", desc := "(Ljava/lang/String;)Ljava/lang/AbstractStringBuilder;" } : Jvm.MethodName) jdk_68_method_22_code (3 : Nat) (Option.some (Jvm.ClassFile.FieldType.object "java/lang/AbstractStringBuilder"))) : Jvm.Cond).before a0 Z = true := H.1 _ (List.mem_of_getElem? (i := 72) rfl)
theorem w_73 {Z : State} {a0 : Array Value} (H : Wd Z a0) : ((Jvm.Cond.methodLink "java/lang/AbstractStringBuilder" (32 : Nat) ({ cls := "java/lang/String", name := "length", desc := "()I" } : Jvm.MethodName)) : Jvm.Cond).before a0 Z = true := H.1 _ (List.mem_of_getElem? (i := 73) rfl)
theorem w_74 {Z : State} {a0 : Array Value} (H : Wd Z a0) : ((Jvm.Cond.declares ({ cls := "java/lang/String", name := "length", desc := "()I" } : Jvm.MethodName)) : Jvm.Cond).before a0 Z = true := H.1 _ (List.mem_of_getElem? (i := 74) rfl)
theorem w_75 {Z : State} {a0 : Array Value} (H : Wd Z a0) : ((Jvm.Cond.instanceMethod ({ cls := "java/lang/String", name := "length", desc := "()I" } : Jvm.MethodName)) : Jvm.Cond).before a0 Z = true := H.1 _ (List.mem_of_getElem? (i := 75) rfl)
theorem w_76 {Z : State} {a0 : Array Value} (H : Wd Z a0) : ((Jvm.Cond.selects "java/lang/String" ({ cls := "java/lang/String", name := "length", desc := "()I" } : Jvm.MethodName) ({ cls := "java/lang/String", name := "length", desc := "()I" } : Jvm.MethodName)) : Jvm.Cond).before a0 Z = true := H.1 _ (List.mem_of_getElem? (i := 76) rfl)
theorem w_77 {Z : State} {a0 : Array Value} (H : Wd Z a0) : ((Jvm.Cond.code ({ cls := "java/lang/String", name := "length", desc := "()I" } : Jvm.MethodName) jdk_42_method_54_code (1 : Nat) (Option.some Jvm.ClassFile.FieldType.int)) : Jvm.Cond).before a0 Z = true := H.1 _ (List.mem_of_getElem? (i := 77) rfl)
theorem w_78 {Z : State} {a0 : Array Value} (H : Wd Z a0) : ((Jvm.Cond.methodLink "java/lang/String" (335 : Nat) ({ cls := "java/lang/String", name := "coder", desc := "()B" } : Jvm.MethodName)) : Jvm.Cond).before a0 Z = true := H.1 _ (List.mem_of_getElem? (i := 78) rfl)
theorem w_79 {Z : State} {a0 : Array Value} (H : Wd Z a0) : ((Jvm.Cond.declares ({ cls := "java/lang/String", name := "coder", desc := "()B" } : Jvm.MethodName)) : Jvm.Cond).before a0 Z = true := H.1 _ (List.mem_of_getElem? (i := 79) rfl)
theorem w_80 {Z : State} {a0 : Array Value} (H : Wd Z a0) : ((Jvm.Cond.instanceMethod ({ cls := "java/lang/String", name := "coder", desc := "()B" } : Jvm.MethodName)) : Jvm.Cond).before a0 Z = true := H.1 _ (List.mem_of_getElem? (i := 80) rfl)
theorem w_81 {Z : State} {a0 : Array Value} (H : Wd Z a0) : ((Jvm.Cond.selects "java/lang/String" ({ cls := "java/lang/String", name := "coder", desc := "()B" } : Jvm.MethodName) ({ cls := "java/lang/String", name := "coder", desc := "()B" } : Jvm.MethodName)) : Jvm.Cond).before a0 Z = true := H.1 _ (List.mem_of_getElem? (i := 81) rfl)
theorem w_82 {Z : State} {a0 : Array Value} (H : Wd Z a0) : ((Jvm.Cond.code ({ cls := "java/lang/String", name := "coder", desc := "()B" } : Jvm.MethodName) jdk_42_method_152_code (1 : Nat) (Option.some Jvm.ClassFile.FieldType.byte)) : Jvm.Cond).before a0 Z = true := H.1 _ (List.mem_of_getElem? (i := 82) rfl)
theorem w_83 {Z : State} {a0 : Array Value} (H : Wd Z a0) : ((Jvm.Cond.fieldLink "java/lang/AbstractStringBuilder" (79 : Nat) "java/lang/AbstractStringBuilder" "count" "I") : Jvm.Cond).before a0 Z = true := H.1 _ (List.mem_of_getElem? (i := 83) rfl)
theorem w_84 {Z : State} {a0 : Array Value} (H : Wd Z a0) : ((Jvm.Cond.lays "java/lang/StringBuilder" "java/lang/AbstractStringBuilder" "count" "I") : Jvm.Cond).before a0 Z = true := H.1 _ (List.mem_of_getElem? (i := 84) rfl)
theorem w_85 {Z : State} {a0 : Array Value} (H : Wd Z a0) : ((Jvm.Cond.methodLink "java/lang/AbstractStringBuilder" (100 : Nat) ({ cls := "java/lang/AbstractStringBuilder", name := "ensureCapacityInternal", desc := "(I)V" } : Jvm.MethodName)) : Jvm.Cond).before a0 Z = true := H.1 _ (List.mem_of_getElem? (i := 85) rfl)
theorem w_86 {Z : State} {a0 : Array Value} (H : Wd Z a0) : ((Jvm.Cond.instanceMethod ({ cls := "java/lang/AbstractStringBuilder", name := "ensureCapacityInternal", desc := "(I)V" } : Jvm.MethodName)) : Jvm.Cond).before a0 Z = true := H.1 _ (List.mem_of_getElem? (i := 86) rfl)
theorem w_88 {Z : State} {a0 : Array Value} (H : Wd Z a0) : ((Jvm.Cond.selects "java/lang/StringBuilder" ({ cls := "java/lang/AbstractStringBuilder", name := "ensureCapacityInternal", desc := "(I)V" } : Jvm.MethodName) ({ cls := "java/lang/AbstractStringBuilder", name := "ensureCapacityInternal", desc := "(I)V" } : Jvm.MethodName)) : Jvm.Cond).before a0 Z = true := H.1 _ (List.mem_of_getElem? (i := 88) rfl)
theorem w_89 {Z : State} {a0 : Array Value} (H : Wd Z a0) : ((Jvm.Cond.code ({ cls := "java/lang/AbstractStringBuilder", name := "ensureCapacityInternal", desc := "(I)V" } : Jvm.MethodName) jdk_68_method_9_code (3 : Nat) (Option.none : Option Jvm.ClassFile.FieldType)) : Jvm.Cond).before a0 Z = true := H.1 _ (List.mem_of_getElem? (i := 89) rfl)
theorem w_90 {Z : State} {a0 : Array Value} (H : Wd Z a0) : ((Jvm.Cond.methodLink "java/lang/AbstractStringBuilder" (208 : Nat) ({ cls := "java/lang/AbstractStringBuilder", name := "putStringAt", desc := "(ILjava/lang/String;)V" } : Jvm.MethodName)) : Jvm.Cond).before a0 Z = true := H.1 _ (List.mem_of_getElem? (i := 90) rfl)
theorem w_91 {Z : State} {a0 : Array Value} (H : Wd Z a0) : ((Jvm.Cond.instanceMethod ({ cls := "java/lang/AbstractStringBuilder", name := "putStringAt", desc := "(ILjava/lang/String;)V" } : Jvm.MethodName)) : Jvm.Cond).before a0 Z = true := H.1 _ (List.mem_of_getElem? (i := 91) rfl)
theorem w_93 {Z : State} {a0 : Array Value} (H : Wd Z a0) : ((Jvm.Cond.selects "java/lang/StringBuilder" ({ cls := "java/lang/AbstractStringBuilder", name := "putStringAt", desc := "(ILjava/lang/String;)V" } : Jvm.MethodName) ({ cls := "java/lang/AbstractStringBuilder", name := "putStringAt", desc := "(ILjava/lang/String;)V" } : Jvm.MethodName)) : Jvm.Cond).before a0 Z = true := H.1 _ (List.mem_of_getElem? (i := 93) rfl)
theorem w_94 {Z : State} {a0 : Array Value} (H : Wd Z a0) : ((Jvm.Cond.code ({ cls := "java/lang/AbstractStringBuilder", name := "putStringAt", desc := "(ILjava/lang/String;)V" } : Jvm.MethodName) jdk_68_method_73_code (3 : Nat) (Option.none : Option Jvm.ClassFile.FieldType)) : Jvm.Cond).before a0 Z = true := H.1 _ (List.mem_of_getElem? (i := 94) rfl)
theorem w_95 {Z : State} {a0 : Array Value} (H : Wd Z a0) : ((Jvm.Cond.methodLink "java/lang/AbstractStringBuilder" (397 : Nat) ({ cls := "java/lang/AbstractStringBuilder", name := "inflateIfNeededFor", desc := "(Ljava/lang/String;)V" } : Jvm.MethodName)) : Jvm.Cond).before a0 Z = true := H.1 _ (List.mem_of_getElem? (i := 95) rfl)
theorem w_96 {Z : State} {a0 : Array Value} (H : Wd Z a0) : ((Jvm.Cond.instanceMethod ({ cls := "java/lang/AbstractStringBuilder", name := "inflateIfNeededFor", desc := "(Ljava/lang/String;)V" } : Jvm.MethodName)) : Jvm.Cond).before a0 Z = true := H.1 _ (List.mem_of_getElem? (i := 96) rfl)
theorem w_98 {Z : State} {a0 : Array Value} (H : Wd Z a0) : ((Jvm.Cond.selects "java/lang/StringBuilder" ({ cls := "java/lang/AbstractStringBuilder", name := "inflateIfNeededFor", desc := "(Ljava/lang/String;)V" } : Jvm.MethodName) ({ cls := "java/lang/AbstractStringBuilder", name := "inflateIfNeededFor", desc := "(Ljava/lang/String;)V" } : Jvm.MethodName)) : Jvm.Cond).before a0 Z = true := H.1 _ (List.mem_of_getElem? (i := 98) rfl)
theorem w_99 {Z : State} {a0 : Array Value} (H : Wd Z a0) : ((Jvm.Cond.code ({ cls := "java/lang/AbstractStringBuilder", name := "inflateIfNeededFor", desc := "(Ljava/lang/String;)V" } : Jvm.MethodName) jdk_68_method_71_code (2 : Nat) (Option.none : Option Jvm.ClassFile.FieldType)) : Jvm.Cond).before a0 Z = true := H.1 _ (List.mem_of_getElem? (i := 99) rfl)
theorem w_100 {Z : State} {a0 : Array Value} (H : Wd Z a0) : ((Jvm.Cond.methodLink "java/lang/AbstractStringBuilder" (40 : Nat) ({ cls := "java/lang/String", name := "coder", desc := "()B" } : Jvm.MethodName)) : Jvm.Cond).before a0 Z = true := H.1 _ (List.mem_of_getElem? (i := 100) rfl)
theorem w_101 {Z : State} {a0 : Array Value} (H : Wd Z a0) : ((Jvm.Cond.methodLink "java/lang/AbstractStringBuilder" (399 : Nat) ({ cls := "java/lang/String", name := "getBytes", desc := "([BIB)V" } : Jvm.MethodName)) : Jvm.Cond).before a0 Z = true := H.1 _ (List.mem_of_getElem? (i := 101) rfl)
theorem w_102 {Z : State} {a0 : Array Value} (H : Wd Z a0) : ((Jvm.Cond.declares ({ cls := "java/lang/String", name := "getBytes", desc := "([BIB)V" } : Jvm.MethodName)) : Jvm.Cond).before a0 Z = true := H.1 _ (List.mem_of_getElem? (i := 102) rfl)
theorem w_103 {Z : State} {a0 : Array Value} (H : Wd Z a0) : ((Jvm.Cond.instanceMethod ({ cls := "java/lang/String", name := "getBytes", desc := "([BIB)V" } : Jvm.MethodName)) : Jvm.Cond).before a0 Z = true := H.1 _ (List.mem_of_getElem? (i := 103) rfl)
theorem w_104 {Z : State} {a0 : Array Value} (H : Wd Z a0) : ((Jvm.Cond.selects "java/lang/String" ({ cls := "java/lang/String", name := "getBytes", desc := "([BIB)V" } : Jvm.MethodName) ({ cls := "java/lang/String", name := "getBytes", desc := "([BIB)V" } : Jvm.MethodName)) : Jvm.Cond).before a0 Z = true := H.1 _ (List.mem_of_getElem? (i := 104) rfl)
theorem w_105 {Z : State} {a0 : Array Value} (H : Wd Z a0) : ((Jvm.Cond.code ({ cls := "java/lang/String", name := "getBytes", desc := "([BIB)V" } : Jvm.MethodName) jdk_42_method_147_code (4 : Nat) (Option.none : Option Jvm.ClassFile.FieldType)) : Jvm.Cond).before a0 Z = true := H.1 _ (List.mem_of_getElem? (i := 105) rfl)
theorem w_106 {Z : State} {a0 : Array Value} (H : Wd Z a0) : ((Jvm.Cond.methodLink "java/lang/String" (212 : Nat) ({ cls := "java/lang/System", name := "arraycopy", desc := "(Ljava/lang/Object;ILjava/lang/Object;II)V" } : Jvm.MethodName)) : Jvm.Cond).before a0 Z = true := H.1 _ (List.mem_of_getElem? (i := 106) rfl)
theorem w_107 {Z : State} {a0 : Array Value} (H : Wd Z a0) : ((Jvm.Cond.static ({ cls := "java/lang/System", name := "arraycopy", desc := "(Ljava/lang/Object;ILjava/lang/Object;II)V" } : Jvm.MethodName)) : Jvm.Cond).before a0 Z = true := H.1 _ (List.mem_of_getElem? (i := 107) rfl)
theorem w_108 {Z : State} {a0 : Array Value} (H : Wd Z a0) : ((Jvm.Cond.initialized "java/lang/System") : Jvm.Cond).before a0 Z = true := H.1 _ (List.mem_of_getElem? (i := 108) rfl)
theorem w_109 {Z : State} {a0 : Array Value} (H : Wd Z a0) : ((Jvm.Cond.native ({ cls := "java/lang/System", name := "arraycopy", desc := "(Ljava/lang/Object;ILjava/lang/Object;II)V" } : Jvm.MethodName)) : Jvm.Cond).before a0 Z = true := H.1 _ (List.mem_of_getElem? (i := 109) rfl)
theorem w_110 {Z : State} {a0 : Array Value} (H : Wd Z a0) : ((Jvm.Cond.methodLink "com/example/saga/saga/server/SurfaceUris" (16 : Nat) ({ cls := "java/lang/StringBuilder", name := "toString", desc := "()Ljava/lang/String;" } : Jvm.MethodName)) : Jvm.Cond).before a0 Z = true := H.1 _ (List.mem_of_getElem? (i := 110) rfl)
theorem w_111 {Z : State} {a0 : Array Value} (H : Wd Z a0) : ((Jvm.Cond.declares ({ cls := "java/lang/StringBuilder", name := "toString", desc := "()Ljava/lang/String;" } : Jvm.MethodName)) : Jvm.Cond).before a0 Z = true := H.1 _ (List.mem_of_getElem? (i := 111) rfl)
theorem w_112 {Z : State} {a0 : Array Value} (H : Wd Z a0) : ((Jvm.Cond.instanceMethod ({ cls := "java/lang/StringBuilder", name := "toString", desc := "()Ljava/lang/String;" } : Jvm.MethodName)) : Jvm.Cond).before a0 Z = true := H.1 _ (List.mem_of_getElem? (i := 112) rfl)
theorem w_113 {Z : State} {a0 : Array Value} (H : Wd Z a0) : ((Jvm.Cond.selects "java/lang/StringBuilder" ({ cls := "java/lang/StringBuilder", name := "toString", desc := "()Ljava/lang/String;" } : Jvm.MethodName) ({ cls := "java/lang/StringBuilder", name := "toString", desc := "()Ljava/lang/String;" } : Jvm.MethodName)) : Jvm.Cond).before a0 Z = true := H.1 _ (List.mem_of_getElem? (i := 113) rfl)
theorem w_114 {Z : State} {a0 : Array Value} (H : Wd Z a0) : ((Jvm.Cond.code ({ cls := "java/lang/StringBuilder", name := "toString", desc := "()Ljava/lang/String;" } : Jvm.MethodName) jdk_67_method_42_code (1 : Nat) (Option.some (Jvm.ClassFile.FieldType.object "java/lang/String"))) : Jvm.Cond).before a0 Z = true := H.1 _ (List.mem_of_getElem? (i := 114) rfl)
theorem w_115 {Z : State} {a0 : Array Value} (H : Wd Z a0) : ((Jvm.Cond.classLink "java/lang/StringBuilder" (18 : Nat) "java/lang/String") : Jvm.Cond).before a0 Z = true := H.1 _ (List.mem_of_getElem? (i := 115) rfl)
theorem w_116 {Z : State} {a0 : Array Value} (H : Wd Z a0) : ((Jvm.Cond.methodLink "java/lang/StringBuilder" (137 : Nat) ({ cls := "java/lang/String", name := "<init>", desc := "(Ljava/lang/StringBuilder;)V" } : Jvm.MethodName)) : Jvm.Cond).before a0 Z = true := H.1 _ (List.mem_of_getElem? (i := 116) rfl)
theorem w_117 {Z : State} {a0 : Array Value} (H : Wd Z a0) : ((Jvm.Cond.instanceMethod ({ cls := "java/lang/String", name := "<init>", desc := "(Ljava/lang/StringBuilder;)V" } : Jvm.MethodName)) : Jvm.Cond).before a0 Z = true := H.1 _ (List.mem_of_getElem? (i := 117) rfl)
theorem w_118 {Z : State} {a0 : Array Value} (H : Wd Z a0) : ((Jvm.Cond.code ({ cls := "java/lang/String", name := "<init>", desc := "(Ljava/lang/StringBuilder;)V" } : Jvm.MethodName) jdk_42_method_53_code (2 : Nat) (Option.none : Option Jvm.ClassFile.FieldType)) : Jvm.Cond).before a0 Z = true := H.1 _ (List.mem_of_getElem? (i := 118) rfl)
theorem w_119 {Z : State} {a0 : Array Value} (H : Wd Z a0) : ((Jvm.Cond.methodLink "java/lang/String" (489 : Nat) ({ cls := "java/lang/String", name := "<init>", desc := "(Ljava/lang/AbstractStringBuilder;Ljava/lang/Void;)V" } : Jvm.MethodName)) : Jvm.Cond).before a0 Z = true := H.1 _ (List.mem_of_getElem? (i := 119) rfl)
theorem w_120 {Z : State} {a0 : Array Value} (H : Wd Z a0) : ((Jvm.Cond.instanceMethod ({ cls := "java/lang/String", name := "<init>", desc := "(Ljava/lang/AbstractStringBuilder;Ljava/lang/Void;)V" } : Jvm.MethodName)) : Jvm.Cond).before a0 Z = true := H.1 _ (List.mem_of_getElem? (i := 120) rfl)
theorem w_121 {Z : State} {a0 : Array Value} (H : Wd Z a0) : ((Jvm.Cond.code ({ cls := "java/lang/String", name := "<init>", desc := "(Ljava/lang/AbstractStringBuilder;Ljava/lang/Void;)V" } : Jvm.MethodName) jdk_42_method_150_code (5 : Nat) (Option.none : Option Jvm.ClassFile.FieldType)) : Jvm.Cond).before a0 Z = true := H.1 _ (List.mem_of_getElem? (i := 121) rfl)
theorem w_122 {Z : State} {a0 : Array Value} (H : Wd Z a0) : ((Jvm.Cond.methodLink "java/lang/String" (552 : Nat) ({ cls := "java/lang/AbstractStringBuilder", name := "getValue", desc := "()[B" } : Jvm.MethodName)) : Jvm.Cond).before a0 Z = true := H.1 _ (List.mem_of_getElem? (i := 122) rfl)
theorem w_123 {Z : State} {a0 : Array Value} (H : Wd Z a0) : ((Jvm.Cond.declares ({ cls := "java/lang/AbstractStringBuilder", name := "getValue", desc := "()[B" } : Jvm.MethodName)) : Jvm.Cond).before a0 Z = true := H.1 _ (List.mem_of_getElem? (i := 123) rfl)
theorem w_124 {Z : State} {a0 : Array Value} (H : Wd Z a0) : ((Jvm.Cond.instanceMethod ({ cls := "java/lang/AbstractStringBuilder", name := "getValue", desc := "()[B" } : Jvm.MethodName)) : Jvm.Cond).before a0 Z = true := H.1 _ (List.mem_of_getElem? (i := 124) rfl)
theorem w_125 {Z : State} {a0 : Array Value} (H : Wd Z a0) : ((Jvm.Cond.selects "java/lang/StringBuilder" ({ cls := "java/lang/AbstractStringBuilder", name := "getValue", desc := "()[B" } : Jvm.MethodName) ({ cls := "java/lang/AbstractStringBuilder", name := "getValue", desc := "()[B" } : Jvm.MethodName)) : Jvm.Cond).before a0 Z = true := H.1 _ (List.mem_of_getElem? (i := 125) rfl)
theorem w_126 {Z : State} {a0 : Array Value} (H : Wd Z a0) : ((Jvm.Cond.code ({ cls := "java/lang/AbstractStringBuilder", name := "getValue", desc := "()[B" } : Jvm.MethodName) jdk_68_method_64_code (1 : Nat) (Option.some (Jvm.ClassFile.FieldType.array Jvm.ClassFile.FieldType.byte))) : Jvm.Cond).before a0 Z = true := H.1 _ (List.mem_of_getElem? (i := 126) rfl)
theorem w_127 {Z : State} {a0 : Array Value} (H : Wd Z a0) : ((Jvm.Cond.methodLink "java/lang/String" (549 : Nat) ({ cls := "java/lang/AbstractStringBuilder", name := "length", desc := "()I" } : Jvm.MethodName)) : Jvm.Cond).before a0 Z = true := H.1 _ (List.mem_of_getElem? (i := 127) rfl)
theorem w_128 {Z : State} {a0 : Array Value} (H : Wd Z a0) : ((Jvm.Cond.declares ({ cls := "java/lang/AbstractStringBuilder", name := "length", desc := "()I" } : Jvm.MethodName)) : Jvm.Cond).before a0 Z = true := H.1 _ (List.mem_of_getElem? (i := 128) rfl)
theorem w_129 {Z : State} {a0 : Array Value} (H : Wd Z a0) : ((Jvm.Cond.instanceMethod ({ cls := "java/lang/AbstractStringBuilder", name := "length", desc := "()I" } : Jvm.MethodName)) : Jvm.Cond).before a0 Z = true := H.1 _ (List.mem_of_getElem? (i := 129) rfl)
theorem w_130 {Z : State} {a0 : Array Value} (H : Wd Z a0) : ((Jvm.Cond.selects "java/lang/StringBuilder" ({ cls := "java/lang/AbstractStringBuilder", name := "length", desc := "()I" } : Jvm.MethodName) ({ cls := "java/lang/StringBuilder", name := "length", desc := "()I" } : Jvm.MethodName)) : Jvm.Cond).before a0 Z = true := H.1 _ (List.mem_of_getElem? (i := 130) rfl)
theorem w_131 {Z : State} {a0 : Array Value} (H : Wd Z a0) : ((Jvm.Cond.instanceMethod ({ cls := "java/lang/StringBuilder", name := "length", desc := "()I" } : Jvm.MethodName)) : Jvm.Cond).before a0 Z = true := H.1 _ (List.mem_of_getElem? (i := 131) rfl)
theorem w_132 {Z : State} {a0 : Array Value} (H : Wd Z a0) : ((Jvm.Cond.code ({ cls := "java/lang/StringBuilder", name := "length", desc := "()I" } : Jvm.MethodName) jdk_67_method_93_code (1 : Nat) (Option.some Jvm.ClassFile.FieldType.int)) : Jvm.Cond).before a0 Z = true := H.1 _ (List.mem_of_getElem? (i := 132) rfl)
theorem w_133 {Z : State} {a0 : Array Value} (H : Wd Z a0) : ((Jvm.Cond.methodLink "java/lang/StringBuilder" (343 : Nat) ({ cls := "java/lang/AbstractStringBuilder", name := "length", desc := "()I" } : Jvm.MethodName)) : Jvm.Cond).before a0 Z = true := H.1 _ (List.mem_of_getElem? (i := 133) rfl)
theorem w_134 {Z : State} {a0 : Array Value} (H : Wd Z a0) : ((Jvm.Cond.code ({ cls := "java/lang/AbstractStringBuilder", name := "length", desc := "()I" } : Jvm.MethodName) jdk_68_method_6_code (1 : Nat) (Option.some Jvm.ClassFile.FieldType.int)) : Jvm.Cond).before a0 Z = true := H.1 _ (List.mem_of_getElem? (i := 134) rfl)
theorem w_135 {Z : State} {a0 : Array Value} (H : Wd Z a0) : ((Jvm.Cond.methodLink "java/lang/String" (1047 : Nat) ({ cls := "java/lang/AbstractStringBuilder", name := "isLatin1", desc := "()Z" } : Jvm.MethodName)) : Jvm.Cond).before a0 Z = true := H.1 _ (List.mem_of_getElem? (i := 135) rfl)
theorem w_136 {Z : State} {a0 : Array Value} (H : Wd Z a0) : ((Jvm.Cond.declares ({ cls := "java/lang/AbstractStringBuilder", name := "isLatin1", desc := "()Z" } : Jvm.MethodName)) : Jvm.Cond).before a0 Z = true := H.1 _ (List.mem_of_getElem? (i := 136) rfl)
theorem w_137 {Z : State} {a0 : Array Value} (H : Wd Z a0) : ((Jvm.Cond.instanceMethod ({ cls := "java/lang/AbstractStringBuilder", name := "isLatin1", desc := "()Z" } : Jvm.MethodName)) : Jvm.Cond).before a0 Z = true := H.1 _ (List.mem_of_getElem? (i := 137) rfl)
theorem w_138 {Z : State} {a0 : Array Value} (H : Wd Z a0) : ((Jvm.Cond.selects "java/lang/StringBuilder" ({ cls := "java/lang/AbstractStringBuilder", name := "isLatin1", desc := "()Z" } : Jvm.MethodName) ({ cls := "java/lang/AbstractStringBuilder", name := "isLatin1", desc := "()Z" } : Jvm.MethodName)) : Jvm.Cond).before a0 Z = true := H.1 _ (List.mem_of_getElem? (i := 138) rfl)
theorem w_139 {Z : State} {a0 : Array Value} (H : Wd Z a0) : ((Jvm.Cond.code ({ cls := "java/lang/AbstractStringBuilder", name := "isLatin1", desc := "()Z" } : Jvm.MethodName) jdk_68_method_68_code (1 : Nat) (Option.some Jvm.ClassFile.FieldType.boolean)) : Jvm.Cond).before a0 Z = true := H.1 _ (List.mem_of_getElem? (i := 139) rfl)
theorem w_140 {Z : State} {a0 : Array Value} (H : Wd Z a0) : ((Jvm.Cond.methodLink "java/lang/String" (54 : Nat) ({ cls := "java/util/Arrays", name := "copyOfRange", desc := "([BII)[B" } : Jvm.MethodName)) : Jvm.Cond).before a0 Z = true := H.1 _ (List.mem_of_getElem? (i := 140) rfl)
theorem w_141 {Z : State} {a0 : Array Value} (H : Wd Z a0) : ((Jvm.Cond.static ({ cls := "java/util/Arrays", name := "copyOfRange", desc := "([BII)[B" } : Jvm.MethodName)) : Jvm.Cond).before a0 Z = true := H.1 _ (List.mem_of_getElem? (i := 141) rfl)
theorem w_142 {Z : State} {a0 : Array Value} (H : Wd Z a0) : ((Jvm.Cond.initialized "java/util/Arrays") : Jvm.Cond).before a0 Z = true := H.1 _ (List.mem_of_getElem? (i := 142) rfl)
theorem w_143 {Z : State} {a0 : Array Value} (H : Wd Z a0) : ((Jvm.Cond.code ({ cls := "java/util/Arrays", name := "copyOfRange", desc := "([BII)[B" } : Jvm.MethodName) jdk_65_method_132_code (3 : Nat) (Option.some (Jvm.ClassFile.FieldType.array Jvm.ClassFile.FieldType.byte))) : Jvm.Cond).before a0 Z = true := H.1 _ (List.mem_of_getElem? (i := 143) rfl)
theorem w_144 {Z : State} {a0 : Array Value} (H : Wd Z a0) : ((Jvm.Cond.methodLink "java/util/Arrays" (339 : Nat) ({ cls := "java/util/Arrays", name := "copyOfRangeByte", desc := "([BII)[B" } : Jvm.MethodName)) : Jvm.Cond).before a0 Z = true := H.1 _ (List.mem_of_getElem? (i := 144) rfl)
theorem w_145 {Z : State} {a0 : Array Value} (H : Wd Z a0) : ((Jvm.Cond.static ({ cls := "java/util/Arrays", name := "copyOfRangeByte", desc := "([BII)[B" } : Jvm.MethodName)) : Jvm.Cond).before a0 Z = true := H.1 _ (List.mem_of_getElem? (i := 145) rfl)
theorem w_146 {Z : State} {a0 : Array Value} (H : Wd Z a0) : ((Jvm.Cond.code ({ cls := "java/util/Arrays", name := "copyOfRangeByte", desc := "([BII)[B" } : Jvm.MethodName) jdk_65_method_133_code (5 : Nat) (Option.some (Jvm.ClassFile.FieldType.array Jvm.ClassFile.FieldType.byte))) : Jvm.Cond).before a0 Z = true := H.1 _ (List.mem_of_getElem? (i := 146) rfl)
theorem w_147 {Z : State} {a0 : Array Value} (H : Wd Z a0) : ((Jvm.Cond.methodLink "java/util/Arrays" (343 : Nat) ({ cls := "java/util/Arrays", name := "checkLength", desc := "(II)V" } : Jvm.MethodName)) : Jvm.Cond).before a0 Z = true := H.1 _ (List.mem_of_getElem? (i := 147) rfl)
theorem w_148 {Z : State} {a0 : Array Value} (H : Wd Z a0) : ((Jvm.Cond.static ({ cls := "java/util/Arrays", name := "checkLength", desc := "(II)V" } : Jvm.MethodName)) : Jvm.Cond).before a0 Z = true := H.1 _ (List.mem_of_getElem? (i := 148) rfl)
theorem w_149 {Z : State} {a0 : Array Value} (H : Wd Z a0) : ((Jvm.Cond.code ({ cls := "java/util/Arrays", name := "checkLength", desc := "(II)V" } : Jvm.MethodName) jdk_65_method_131_code (2 : Nat) (Option.none : Option Jvm.ClassFile.FieldType)) : Jvm.Cond).before a0 Z = true := H.1 _ (List.mem_of_getElem? (i := 149) rfl)
theorem w_150 {Z : State} {a0 : Array Value} (H : Wd Z a0) : ((Jvm.Cond.methodLink "java/util/Arrays" (304 : Nat) ({ cls := "java/lang/Math", name := "min", desc := "(II)I" } : Jvm.MethodName)) : Jvm.Cond).before a0 Z = true := H.1 _ (List.mem_of_getElem? (i := 150) rfl)
theorem w_151 {Z : State} {a0 : Array Value} (H : Wd Z a0) : ((Jvm.Cond.static ({ cls := "java/lang/Math", name := "min", desc := "(II)I" } : Jvm.MethodName)) : Jvm.Cond).before a0 Z = true := H.1 _ (List.mem_of_getElem? (i := 151) rfl)
theorem w_152 {Z : State} {a0 : Array Value} (H : Wd Z a0) : ((Jvm.Cond.initialized "java/lang/Math") : Jvm.Cond).before a0 Z = true := H.1 _ (List.mem_of_getElem? (i := 152) rfl)
theorem w_153 {Z : State} {a0 : Array Value} (H : Wd Z a0) : ((Jvm.Cond.code ({ cls := "java/lang/Math", name := "min", desc := "(II)I" } : Jvm.MethodName) jdk_29_method_69_code (2 : Nat) (Option.some Jvm.ClassFile.FieldType.int)) : Jvm.Cond).before a0 Z = true := H.1 _ (List.mem_of_getElem? (i := 153) rfl)
theorem w_154 {Z : State} {a0 : Array Value} (H : Wd Z a0) : ((Jvm.Cond.methodLink "java/util/Arrays" (150 : Nat) ({ cls := "java/lang/System", name := "arraycopy", desc := "(Ljava/lang/Object;ILjava/lang/Object;II)V" } : Jvm.MethodName)) : Jvm.Cond).before a0 Z = true := H.1 _ (List.mem_of_getElem? (i := 154) rfl)
theorem w_155 {Z : State} {a0 : Array Value} (H : Wd Z a0) : ((Jvm.Cond.fieldLink "com/example/saga/saga/server/SurfaceUris" (20 : Nat) "com/example/saga/saga/server/SurfaceUris" "base" "Ljava/lang/String;") : Jvm.Cond).before a0 Z = true := H.1 _ (List.mem_of_getElem? (i := 155) rfl)
theorem w_156 {Z : State} {a0 : Array Value} (H : Wd Z a0) : ((Jvm.Cond.laysFinal "com/example/saga/saga/server/SurfaceUris" "com/example/saga/saga/server/SurfaceUris" "base" "Ljava/lang/String;") : Jvm.Cond).before a0 Z = true := H.1 _ (List.mem_of_getElem? (i := 156) rfl)
theorem w_157 {Z : State} {a0 : Array Value} (H : Wd Z a0) : ((Jvm.Cond.methodLink "com/example/saga/saga/server/SurfaceUrisLinkTimeMapPinLaw" (21 : Nat) ({ cls := "com/example/saga/saga/server/SurfaceUris", name := "linkTimeMap", desc := "(Ljava/lang/String;I)Ljava/lang/String;" } : Jvm.MethodName)) : Jvm.Cond).before a0 Z = true := H.1 _ (List.mem_of_getElem? (i := 157) rfl)
theorem w_158 {Z : State} {a0 : Array Value} (H : Wd Z a0) : ((Jvm.Cond.declares ({ cls := "com/example/saga/saga/server/SurfaceUris", name := "linkTimeMap", desc := "(Ljava/lang/String;I)Ljava/lang/String;" } : Jvm.MethodName)) : Jvm.Cond).before a0 Z = true := H.1 _ (List.mem_of_getElem? (i := 158) rfl)
theorem w_159 {Z : State} {a0 : Array Value} (H : Wd Z a0) : ((Jvm.Cond.instanceMethod ({ cls := "com/example/saga/saga/server/SurfaceUris", name := "linkTimeMap", desc := "(Ljava/lang/String;I)Ljava/lang/String;" } : Jvm.MethodName)) : Jvm.Cond).before a0 Z = true := H.1 _ (List.mem_of_getElem? (i := 159) rfl)
theorem w_160 {Z : State} {a0 : Array Value} (H : Wd Z a0) : ((Jvm.Cond.selects "com/example/saga/saga/server/SurfaceUris" ({ cls := "com/example/saga/saga/server/SurfaceUris", name := "linkTimeMap", desc := "(Ljava/lang/String;I)Ljava/lang/String;" } : Jvm.MethodName) ({ cls := "com/example/saga/saga/server/SurfaceUris", name := "linkTimeMap", desc := "(Ljava/lang/String;I)Ljava/lang/String;" } : Jvm.MethodName)) : Jvm.Cond).before a0 Z = true := H.1 _ (List.mem_of_getElem? (i := 160) rfl)
theorem w_161 {Z : State} {a0 : Array Value} (H : Wd Z a0) : ((Jvm.Cond.code ({ cls := "com/example/saga/saga/server/SurfaceUris", name := "linkTimeMap", desc := "(Ljava/lang/String;I)Ljava/lang/String;" } : Jvm.MethodName) prog_12_method_3_code (3 : Nat) (Option.some (Jvm.ClassFile.FieldType.object "java/lang/String"))) : Jvm.Cond).before a0 Z = true := H.1 _ (List.mem_of_getElem? (i := 161) rfl)
theorem w_162 {Z : State} {a0 : Array Value} (H : Wd Z a0) : ((Jvm.Cond.stringLink "com/example/saga/saga/server/SurfaceUris" (30 : Nat) "/timemap/link/") : Jvm.Cond).before a0 Z = true := H.1 _ (List.mem_of_getElem? (i := 162) rfl)
theorem w_163 {Z : State} {a0 : Array Value} (H : Wd Z a0) : ((Jvm.Cond.methodLink "java/lang/AbstractStringBuilder" (104 : Nat) ({ cls := "java/lang/AbstractStringBuilder", name := "newCapacity", desc := "(I)I" } : Jvm.MethodName)) : Jvm.Cond).before a0 Z = true := H.1 _ (List.mem_of_getElem? (i := 163) rfl)
theorem w_164 {Z : State} {a0 : Array Value} (H : Wd Z a0) : ((Jvm.Cond.instanceMethod ({ cls := "java/lang/AbstractStringBuilder", name := "newCapacity", desc := "(I)I" } : Jvm.MethodName)) : Jvm.Cond).before a0 Z = true := H.1 _ (List.mem_of_getElem? (i := 164) rfl)
theorem w_166 {Z : State} {a0 : Array Value} (H : Wd Z a0) : ((Jvm.Cond.selects "java/lang/StringBuilder" ({ cls := "java/lang/AbstractStringBuilder", name := "newCapacity", desc := "(I)I" } : Jvm.MethodName) ({ cls := "java/lang/AbstractStringBuilder", name := "newCapacity", desc := "(I)I" } : Jvm.MethodName)) : Jvm.Cond).before a0 Z = true := H.1 _ (List.mem_of_getElem? (i := 166) rfl)
theorem w_167 {Z : State} {a0 : Array Value} (H : Wd Z a0) : ((Jvm.Cond.code ({ cls := "java/lang/AbstractStringBuilder", name := "newCapacity", desc := "(I)I" } : Jvm.MethodName) jdk_68_method_10_code (6 : Nat) (Option.some Jvm.ClassFile.FieldType.int)) : Jvm.Cond).before a0 Z = true := H.1 _ (List.mem_of_getElem? (i := 167) rfl)
theorem w_168 {Z : State} {a0 : Array Value} (H : Wd Z a0) : ((Jvm.Cond.methodLink "java/lang/AbstractStringBuilder" (114 : Nat) ({ cls := "jdk/internal/util/ArraysSupport", name := "newLength", desc := "(III)I" } : Jvm.MethodName)) : Jvm.Cond).before a0 Z = true := H.1 _ (List.mem_of_getElem? (i := 168) rfl)
theorem w_169 {Z : State} {a0 : Array Value} (H : Wd Z a0) : ((Jvm.Cond.static ({ cls := "jdk/internal/util/ArraysSupport", name := "newLength", desc := "(III)I" } : Jvm.MethodName)) : Jvm.Cond).before a0 Z = true := H.1 _ (List.mem_of_getElem? (i := 169) rfl)
theorem w_170 {Z : State} {a0 : Array Value} (H : Wd Z a0) : ((Jvm.Cond.initialized "jdk/internal/util/ArraysSupport") : Jvm.Cond).before a0 Z = true := H.1 _ (List.mem_of_getElem? (i := 170) rfl)
theorem w_171 {Z : State} {a0 : Array Value} (H : Wd Z a0) : ((Jvm.Cond.code ({ cls := "jdk/internal/util/ArraysSupport", name := "newLength", desc := "(III)I" } : Jvm.MethodName) jdk_48_method_27_code (4 : Nat) (Option.some Jvm.ClassFile.FieldType.int)) : Jvm.Cond).before a0 Z = true := H.1 _ (List.mem_of_getElem? (i := 171) rfl)
theorem w_172 {Z : State} {a0 : Array Value} (H : Wd Z a0) : ((Jvm.Cond.methodLink "jdk/internal/util/ArraysSupport" (194 : Nat) ({ cls := "java/lang/Math", name := "max", desc := "(II)I" } : Jvm.MethodName)) : Jvm.Cond).before a0 Z = true := H.1 _ (List.mem_of_getElem? (i := 172) rfl)
theorem w_173 {Z : State} {a0 : Array Value} (H : Wd Z a0) : ((Jvm.Cond.static ({ cls := "java/lang/Math", name := "max", desc := "(II)I" } : Jvm.MethodName)) : Jvm.Cond).before a0 Z = true := H.1 _ (List.mem_of_getElem? (i := 173) rfl)
theorem w_174 {Z : State} {a0 : Array Value} (H : Wd Z a0) : ((Jvm.Cond.code ({ cls := "java/lang/Math", name := "max", desc := "(II)I" } : Jvm.MethodName) jdk_29_method_65_code (2 : Nat) (Option.some Jvm.ClassFile.FieldType.int)) : Jvm.Cond).before a0 Z = true := H.1 _ (List.mem_of_getElem? (i := 174) rfl)
theorem w_175 {Z : State} {a0 : Array Value} (H : Wd Z a0) : ((Jvm.Cond.constant "jdk/internal/util/ArraysSupport" (200 : Nat) (2147483639 : Int32)) : Jvm.Cond).before a0 Z = true := H.1 _ (List.mem_of_getElem? (i := 175) rfl)
theorem w_176 {Z : State} {a0 : Array Value} (H : Wd Z a0) : ((Jvm.Cond.constant "java/lang/AbstractStringBuilder" (39 : Nat) (2147483647 : Int32)) : Jvm.Cond).before a0 Z = true := H.1 _ (List.mem_of_getElem? (i := 176) rfl)
theorem w_177 {Z : State} {a0 : Array Value} (H : Wd Z a0) : ((Jvm.Cond.methodLink "java/lang/AbstractStringBuilder" (108 : Nat) ({ cls := "java/util/Arrays", name := "copyOf", desc := "([BI)[B" } : Jvm.MethodName)) : Jvm.Cond).before a0 Z = true := H.1 _ (List.mem_of_getElem? (i := 177) rfl)
theorem w_178 {Z : State} {a0 : Array Value} (H : Wd Z a0) : ((Jvm.Cond.static ({ cls := "java/util/Arrays", name := "copyOf", desc := "([BI)[B" } : Jvm.MethodName)) : Jvm.Cond).before a0 Z = true := H.1 _ (List.mem_of_getElem? (i := 178) rfl)
theorem w_179 {Z : State} {a0 : Array Value} (H : Wd Z a0) : ((Jvm.Cond.code ({ cls := "java/util/Arrays", name := "copyOf", desc := "([BI)[B" } : Jvm.MethodName) jdk_65_method_121_code (3 : Nat) (Option.some (Jvm.ClassFile.FieldType.array Jvm.ClassFile.FieldType.byte))) : Jvm.Cond).before a0 Z = true := H.1 _ (List.mem_of_getElem? (i := 179) rfl)
theorem w_180 {Z : State} {a0 : Array Value} (H : Wd Z a0) : ((Jvm.Cond.methodLink "com/example/saga/saga/server/SurfaceUris" (32 : Nat) ({ cls := "com/example/saga/saga/server/SurfaceUris", name := "pageNumber", desc := "(I)Ljava/lang/String;" } : Jvm.MethodName)) : Jvm.Cond).before a0 Z = true := H.1 _ (List.mem_of_getElem? (i := 180) rfl)
theorem w_181 {Z : State} {a0 : Array Value} (H : Wd Z a0) : ((Jvm.Cond.static ({ cls := "com/example/saga/saga/server/SurfaceUris", name := "pageNumber", desc := "(I)Ljava/lang/String;" } : Jvm.MethodName)) : Jvm.Cond).before a0 Z = true := H.1 _ (List.mem_of_getElem? (i := 181) rfl)
theorem w_182 {Z : State} {a0 : Array Value} (H : Wd Z a0) : ((Jvm.Cond.code ({ cls := "com/example/saga/saga/server/SurfaceUris", name := "pageNumber", desc := "(I)Ljava/lang/String;" } : Jvm.MethodName) prog_12_method_8_code (1 : Nat) (Option.some (Jvm.ClassFile.FieldType.object "java/lang/String"))) : Jvm.Cond).before a0 Z = true := H.1 _ (List.mem_of_getElem? (i := 182) rfl)
theorem w_183 {Z : State} {a0 : Array Value} (H : Wd Z a0) : ((Jvm.Cond.methodLink "com/example/saga/saga/server/SurfaceUris" (64 : Nat) ({ cls := "java/lang/StringBuilder", name := "append", desc := "(I)Ljava/lang/StringBuilder;" } : Jvm.MethodName)) : Jvm.Cond).before a0 Z = true := H.1 _ (List.mem_of_getElem? (i := 183) rfl)
theorem w_184 {Z : State} {a0 : Array Value} (H : Wd Z a0) : ((Jvm.Cond.declares ({ cls := "java/lang/StringBuilder", name := "append", desc := "(I)Ljava/lang/StringBuilder;" } : Jvm.MethodName)) : Jvm.Cond).before a0 Z = true := H.1 _ (List.mem_of_getElem? (i := 184) rfl)
theorem w_185 {Z : State} {a0 : Array Value} (H : Wd Z a0) : ((Jvm.Cond.instanceMethod ({ cls := "java/lang/StringBuilder", name := "append", desc := "(I)Ljava/lang/StringBuilder;" } : Jvm.MethodName)) : Jvm.Cond).before a0 Z = true := H.1 _ (List.mem_of_getElem? (i := 185) rfl)
theorem w_186 {Z : State} {a0 : Array Value} (H : Wd Z a0) : ((Jvm.Cond.selects "java/lang/StringBuilder" ({ cls := "java/lang/StringBuilder", name := "append", desc := "(I)Ljava/lang/StringBuilder;" } : Jvm.MethodName) ({ cls := "java/lang/StringBuilder", name := "append", desc := "(I)Ljava/lang/StringBuilder;" } : Jvm.MethodName)) : Jvm.Cond).before a0 Z = true := H.1 _ (List.mem_of_getElem? (i := 186) rfl)
theorem w_187 {Z : State} {a0 : Array Value} (H : Wd Z a0) : ((Jvm.Cond.code ({ cls := "java/lang/StringBuilder", name := "append", desc := "(I)Ljava/lang/StringBuilder;" } : Jvm.MethodName) jdk_67_method_15_code (2 : Nat) (Option.some (Jvm.ClassFile.FieldType.object "java/lang/StringBuilder"))) : Jvm.Cond).before a0 Z = true := H.1 _ (List.mem_of_getElem? (i := 187) rfl)
theorem w_188 {Z : State} {a0 : Array Value} (H : Wd Z a0) : ((Jvm.Cond.methodLink "java/lang/StringBuilder" (53 : Nat) ({ cls := "java/lang/AbstractStringBuilder", name := "append", desc := "(I)Ljava/lang/AbstractStringBuilder;" } : Jvm.MethodName)) : Jvm.Cond).before a0 Z = true := H.1 _ (List.mem_of_getElem? (i := 188) rfl)
theorem w_189 {Z : State} {a0 : Array Value} (H : Wd Z a0) : ((Jvm.Cond.instanceMethod ({ cls := "java/lang/AbstractStringBuilder", name := "append", desc := "(I)Ljava/lang/AbstractStringBuilder;" } : Jvm.MethodName)) : Jvm.Cond).before a0 Z = true := H.1 _ (List.mem_of_getElem? (i := 189) rfl)
theorem w_190 {Z : State} {a0 : Array Value} (H : Wd Z a0) : ((Jvm.Cond.declares ({ cls := "java/lang/AbstractStringBuilder", name := "append", desc := "(I)Ljava/lang/AbstractStringBuilder;" } : Jvm.MethodName)) : Jvm.Cond).before a0 Z = true := H.1 _ (List.mem_of_getElem? (i := 190) rfl)
theorem w_191 {Z : State} {a0 : Array Value} (H : Wd Z a0) : ((Jvm.Cond.code ({ cls := "java/lang/AbstractStringBuilder", name := "append", desc := "(I)Ljava/lang/AbstractStringBuilder;" } : Jvm.MethodName) jdk_68_method_32_code (4 : Nat) (Option.some (Jvm.ClassFile.FieldType.object "java/lang/AbstractStringBuilder"))) : Jvm.Cond).before a0 Z = true := H.1 _ (List.mem_of_getElem? (i := 191) rfl)
theorem w_192 {Z : State} {a0 : Array Value} (H : Wd Z a0) : ((Jvm.Cond.methodLink "java/lang/AbstractStringBuilder" (245 : Nat) ({ cls := "java/lang/Integer", name := "stringSize", desc := "(I)I" } : Jvm.MethodName)) : Jvm.Cond).before a0 Z = true := H.1 _ (List.mem_of_getElem? (i := 192) rfl)
theorem w_193 {Z : State} {a0 : Array Value} (H : Wd Z a0) : ((Jvm.Cond.static ({ cls := "java/lang/Integer", name := "stringSize", desc := "(I)I" } : Jvm.MethodName)) : Jvm.Cond).before a0 Z = true := H.1 _ (List.mem_of_getElem? (i := 193) rfl)
theorem w_194 {Z : State} {a0 : Array Value} (H : Wd Z a0) : ((Jvm.Cond.initialized "java/lang/Integer") : Jvm.Cond).before a0 Z = true := H.1 _ (List.mem_of_getElem? (i := 194) rfl)
theorem w_195 {Z : State} {a0 : Array Value} (H : Wd Z a0) : ((Jvm.Cond.code ({ cls := "java/lang/Integer", name := "stringSize", desc := "(I)I" } : Jvm.MethodName) jdk_33_method_13_code (4 : Nat) (Option.some Jvm.ClassFile.FieldType.int)) : Jvm.Cond).before a0 Z = true := H.1 _ (List.mem_of_getElem? (i := 195) rfl)
theorem w_196 {Z : State} {a0 : Array Value} (H : Wd Z a0) : ((Jvm.Cond.methodLink "java/lang/AbstractStringBuilder" (83 : Nat) ({ cls := "java/lang/AbstractStringBuilder", name := "isLatin1", desc := "()Z" } : Jvm.MethodName)) : Jvm.Cond).before a0 Z = true := H.1 _ (List.mem_of_getElem? (i := 196) rfl)
theorem w_197 {Z : State} {a0 : Array Value} (H : Wd Z a0) : ((Jvm.Cond.methodLink "java/lang/AbstractStringBuilder" (248 : Nat) ({ cls := "java/lang/Integer", name := "getChars", desc := "(II[B)I" } : Jvm.MethodName)) : Jvm.Cond).before a0 Z = true := H.1 _ (List.mem_of_getElem? (i := 197) rfl)
theorem w_198 {Z : State} {a0 : Array Value} (H : Wd Z a0) : ((Jvm.Cond.static ({ cls := "java/lang/Integer", name := "getChars", desc := "(II[B)I" } : Jvm.MethodName)) : Jvm.Cond).before a0 Z = true := H.1 _ (List.mem_of_getElem? (i := 198) rfl)
theorem w_199 {Z : State} {a0 : Array Value} (H : Wd Z a0) : ((Jvm.Cond.code ({ cls := "java/lang/Integer", name := "getChars", desc := "(II[B)I" } : Jvm.MethodName) jdk_33_method_12_code (7 : Nat) (Option.some Jvm.ClassFile.FieldType.int)) : Jvm.Cond).before a0 Z = true := H.1 _ (List.mem_of_getElem? (i := 199) rfl)
theorem w_200 {Z : State} {a0 : Array Value} (H : Wd Z a0) : ((Jvm.Cond.fieldLink "java/lang/Integer" (83 : Nat) "java/lang/Integer" "DigitOnes" "[B") : Jvm.Cond).before a0 Z = true := H.1 _ (List.mem_of_getElem? (i := 200) rfl)
theorem w_201 {Z : State} {a0 : Array Value} (H : Wd Z a0) : ((Jvm.Cond.stringLink "com/example/saga/saga/server/SurfaceUris" (57 : Nat) "/") : Jvm.Cond).before a0 Z = true := H.1 _ (List.mem_of_getElem? (i := 201) rfl)
theorem w_202 {Z : State} {a0 : Array Value} (H : Wd Z a0) : ((Jvm.Cond.methodLink "com/example/saga/saga/server/SurfaceUrisLinkTimeMapPinLaw" (25 : Nat) ({ cls := "com/example/saga/saga/server/SurfaceUrisLinkTimeMapPinLaw", name := "putPage", desc := "([CII)I" } : Jvm.MethodName)) : Jvm.Cond).before a0 Z = true := H.1 _ (List.mem_of_getElem? (i := 202) rfl)
theorem w_203 {Z : State} {a0 : Array Value} (H : Wd Z a0) : ((Jvm.Cond.static ({ cls := "com/example/saga/saga/server/SurfaceUrisLinkTimeMapPinLaw", name := "putPage", desc := "([CII)I" } : Jvm.MethodName)) : Jvm.Cond).before a0 Z = true := H.1 _ (List.mem_of_getElem? (i := 203) rfl)
theorem w_204 {Z : State} {a0 : Array Value} (H : Wd Z a0) : ((Jvm.Cond.initialized "com/example/saga/saga/server/SurfaceUrisLinkTimeMapPinLaw") : Jvm.Cond).before a0 Z = true := H.1 _ (List.mem_of_getElem? (i := 204) rfl)
theorem w_205 {Z : State} {a0 : Array Value} (H : Wd Z a0) : ((Jvm.Cond.code ({ cls := "com/example/saga/saga/server/SurfaceUrisLinkTimeMapPinLaw", name := "putPage", desc := "([CII)I" } : Jvm.MethodName) method_5_code (7 : Nat) (Option.some Jvm.ClassFile.FieldType.int)) : Jvm.Cond).before a0 Z = true := H.1 _ (List.mem_of_getElem? (i := 205) rfl)
theorem w_206 {Z : State} {a0 : Array Value} (H : Wd Z a0) : ((Jvm.Cond.constantLong "com/example/saga/saga/server/SurfaceUrisLinkTimeMapPinLaw" (43 : Nat) (10 : Int64)) : Jvm.Cond).before a0 Z = true := H.1 _ (List.mem_of_getElem? (i := 206) rfl)
theorem w_207 {Z : State} {a0 : Array Value} (H : Wd Z a0) : ((Jvm.Cond.methodLink "com/example/saga/saga/server/SurfaceUrisLinkTimeMapPinLaw" (61 : Nat) ({ cls := "com/example/saga/saga/server/SurfaceUrisLinkTimeMapPinLaw", name := "dig", desc := "(JJ)C" } : Jvm.MethodName)) : Jvm.Cond).before a0 Z = true := H.1 _ (List.mem_of_getElem? (i := 207) rfl)
theorem w_208 {Z : State} {a0 : Array Value} (H : Wd Z a0) : ((Jvm.Cond.static ({ cls := "com/example/saga/saga/server/SurfaceUrisLinkTimeMapPinLaw", name := "dig", desc := "(JJ)C" } : Jvm.MethodName)) : Jvm.Cond).before a0 Z = true := H.1 _ (List.mem_of_getElem? (i := 208) rfl)
theorem w_209 {Z : State} {a0 : Array Value} (H : Wd Z a0) : ((Jvm.Cond.code ({ cls := "com/example/saga/saga/server/SurfaceUrisLinkTimeMapPinLaw", name := "dig", desc := "(JJ)C" } : Jvm.MethodName) method_4_code (4 : Nat) (Option.some Jvm.ClassFile.FieldType.char)) : Jvm.Cond).before a0 Z = true := H.1 _ (List.mem_of_getElem? (i := 209) rfl)
theorem w_210 {Z : State} {a0 : Array Value} (H : Wd Z a0) : ((Jvm.Cond.methodLink "com/example/saga/saga/server/SurfaceUrisLinkTimeMapPinLaw" (31 : Nat) ({ cls := "java/lang/String", name := "length", desc := "()I" } : Jvm.MethodName)) : Jvm.Cond).before a0 Z = true := H.1 _ (List.mem_of_getElem? (i := 210) rfl)
theorem w_211 {Z : State} {a0 : Array Value} (H : Wd Z a0) : ((Jvm.Cond.methodLink "com/example/saga/saga/server/SurfaceUrisLinkTimeMapPinLaw" (35 : Nat) ({ cls := "com/example/saga/saga/server/SurfaceUrisLinkTimeMapPinLaw", name := "same", desc := "(Ljava/lang/String;[CI)Z" } : Jvm.MethodName)) : Jvm.Cond).before a0 Z = true := H.1 _ (List.mem_of_getElem? (i := 211) rfl)
theorem w_212 {Z : State} {a0 : Array Value} (H : Wd Z a0) : ((Jvm.Cond.static ({ cls := "com/example/saga/saga/server/SurfaceUrisLinkTimeMapPinLaw", name := "same", desc := "(Ljava/lang/String;[CI)Z" } : Jvm.MethodName)) : Jvm.Cond).before a0 Z = true := H.1 _ (List.mem_of_getElem? (i := 212) rfl)
theorem w_213 {Z : State} {a0 : Array Value} (H : Wd Z a0) : ((Jvm.Cond.code ({ cls := "com/example/saga/saga/server/SurfaceUrisLinkTimeMapPinLaw", name := "same", desc := "(Ljava/lang/String;[CI)Z" } : Jvm.MethodName) method_3_code (3 : Nat) (Option.some Jvm.ClassFile.FieldType.boolean)) : Jvm.Cond).before a0 Z = true := H.1 _ (List.mem_of_getElem? (i := 213) rfl)
theorem w_214 {Z : State} {a0 : Array Value} (H : Wd Z a0) : ((Jvm.Cond.methodLink "com/example/saga/saga/server/SurfaceUrisLinkTimeMapPinLaw" (39 : Nat) ({ cls := "java/lang/String", name := "charAt", desc := "(I)C" } : Jvm.MethodName)) : Jvm.Cond).before a0 Z = true := H.1 _ (List.mem_of_getElem? (i := 214) rfl)
theorem w_215 {Z : State} {a0 : Array Value} (H : Wd Z a0) : ((Jvm.Cond.declares ({ cls := "java/lang/String", name := "charAt", desc := "(I)C" } : Jvm.MethodName)) : Jvm.Cond).before a0 Z = true := H.1 _ (List.mem_of_getElem? (i := 215) rfl)
theorem w_216 {Z : State} {a0 : Array Value} (H : Wd Z a0) : ((Jvm.Cond.instanceMethod ({ cls := "java/lang/String", name := "charAt", desc := "(I)C" } : Jvm.MethodName)) : Jvm.Cond).before a0 Z = true := H.1 _ (List.mem_of_getElem? (i := 216) rfl)
theorem w_217 {Z : State} {a0 : Array Value} (H : Wd Z a0) : ((Jvm.Cond.selects "java/lang/String" ({ cls := "java/lang/String", name := "charAt", desc := "(I)C" } : Jvm.MethodName) ({ cls := "java/lang/String", name := "charAt", desc := "(I)C" } : Jvm.MethodName)) : Jvm.Cond).before a0 Z = true := H.1 _ (List.mem_of_getElem? (i := 217) rfl)
theorem w_218 {Z : State} {a0 : Array Value} (H : Wd Z a0) : ((Jvm.Cond.code ({ cls := "java/lang/String", name := "charAt", desc := "(I)C" } : Jvm.MethodName) jdk_42_method_56_code (2 : Nat) (Option.some Jvm.ClassFile.FieldType.char)) : Jvm.Cond).before a0 Z = true := H.1 _ (List.mem_of_getElem? (i := 218) rfl)
theorem w_219 {Z : State} {a0 : Array Value} (H : Wd Z a0) : ((Jvm.Cond.methodLink "java/lang/String" (492 : Nat) ({ cls := "java/lang/String", name := "isLatin1", desc := "()Z" } : Jvm.MethodName)) : Jvm.Cond).before a0 Z = true := H.1 _ (List.mem_of_getElem? (i := 219) rfl)
theorem w_220 {Z : State} {a0 : Array Value} (H : Wd Z a0) : ((Jvm.Cond.declares ({ cls := "java/lang/String", name := "isLatin1", desc := "()Z" } : Jvm.MethodName)) : Jvm.Cond).before a0 Z = true := H.1 _ (List.mem_of_getElem? (i := 220) rfl)
theorem w_221 {Z : State} {a0 : Array Value} (H : Wd Z a0) : ((Jvm.Cond.instanceMethod ({ cls := "java/lang/String", name := "isLatin1", desc := "()Z" } : Jvm.MethodName)) : Jvm.Cond).before a0 Z = true := H.1 _ (List.mem_of_getElem? (i := 221) rfl)
theorem w_222 {Z : State} {a0 : Array Value} (H : Wd Z a0) : ((Jvm.Cond.selects "java/lang/String" ({ cls := "java/lang/String", name := "isLatin1", desc := "()Z" } : Jvm.MethodName) ({ cls := "java/lang/String", name := "isLatin1", desc := "()Z" } : Jvm.MethodName)) : Jvm.Cond).before a0 Z = true := H.1 _ (List.mem_of_getElem? (i := 222) rfl)
theorem w_223 {Z : State} {a0 : Array Value} (H : Wd Z a0) : ((Jvm.Cond.code ({ cls := "java/lang/String", name := "isLatin1", desc := "()Z" } : Jvm.MethodName) jdk_42_method_154_code (1 : Nat) (Option.some Jvm.ClassFile.FieldType.boolean)) : Jvm.Cond).before a0 Z = true := H.1 _ (List.mem_of_getElem? (i := 223) rfl)
theorem w_224 {Z : State} {a0 : Array Value} (H : Wd Z a0) : ((Jvm.Cond.methodLink "java/lang/String" (495 : Nat) ({ cls := "java/lang/StringLatin1", name := "charAt", desc := "([BI)C" } : Jvm.MethodName)) : Jvm.Cond).before a0 Z = true := H.1 _ (List.mem_of_getElem? (i := 224) rfl)
theorem w_225 {Z : State} {a0 : Array Value} (H : Wd Z a0) : ((Jvm.Cond.static ({ cls := "java/lang/StringLatin1", name := "charAt", desc := "([BI)C" } : Jvm.MethodName)) : Jvm.Cond).before a0 Z = true := H.1 _ (List.mem_of_getElem? (i := 225) rfl)
theorem w_226 {Z : State} {a0 : Array Value} (H : Wd Z a0) : ((Jvm.Cond.code ({ cls := "java/lang/StringLatin1", name := "charAt", desc := "([BI)C" } : Jvm.MethodName) jdk_43_method_2_code (2 : Nat) (Option.some Jvm.ClassFile.FieldType.char)) : Jvm.Cond).before a0 Z = true := H.1 _ (List.mem_of_getElem? (i := 226) rfl)
theorem w_227 {Z : State} {a0 : Array Value} (H : Wd Z a0) : ((Jvm.Cond.methodLink "java/lang/StringLatin1" (9 : Nat) ({ cls := "java/lang/String", name := "checkIndex", desc := "(II)V" } : Jvm.MethodName)) : Jvm.Cond).before a0 Z = true := H.1 _ (List.mem_of_getElem? (i := 227) rfl)
theorem w_228 {Z : State} {a0 : Array Value} (H : Wd Z a0) : ((Jvm.Cond.static ({ cls := "java/lang/String", name := "checkIndex", desc := "(II)V" } : Jvm.MethodName)) : Jvm.Cond).before a0 Z = true := H.1 _ (List.mem_of_getElem? (i := 228) rfl)
theorem w_229 {Z : State} {a0 : Array Value} (H : Wd Z a0) : ((Jvm.Cond.code ({ cls := "java/lang/String", name := "checkIndex", desc := "(II)V" } : Jvm.MethodName) jdk_42_method_155_code (2 : Nat) (Option.none : Option Jvm.ClassFile.FieldType)) : Jvm.Cond).before a0 Z = true := H.1 _ (List.mem_of_getElem? (i := 229) rfl)
theorem w_230 {Z : State} {a0 : Array Value} (H : Wd Z a0) : ((Jvm.Cond.fieldLink "java/lang/String" (1053 : Nat) "jdk/internal/util/Preconditions" "SIOOBE_FORMATTER" "Ljava/util/function/BiFunction;") : Jvm.Cond).before a0 Z = true := H.1 _ (List.mem_of_getElem? (i := 230) rfl)
theorem w_231 {Z : State} {a0 : Array Value} (H : Wd Z a0) : ((Jvm.Cond.initialized "jdk/internal/util/Preconditions") : Jvm.Cond).before a0 Z = true := H.1 _ (List.mem_of_getElem? (i := 231) rfl)
theorem w_232 {Z : State} {a0 : Array Value} (H : Wd Z a0) : ((Jvm.Cond.methodLink "java/lang/String" (1059 : Nat) ({ cls := "jdk/internal/util/Preconditions", name := "checkIndex", desc := "(IILjava/util/function/BiFunction;)I" } : Jvm.MethodName)) : Jvm.Cond).before a0 Z = true := H.1 _ (List.mem_of_getElem? (i := 232) rfl)
theorem w_233 {Z : State} {a0 : Array Value} (H : Wd Z a0) : ((Jvm.Cond.static ({ cls := "jdk/internal/util/Preconditions", name := "checkIndex", desc := "(IILjava/util/function/BiFunction;)I" } : Jvm.MethodName)) : Jvm.Cond).before a0 Z = true := H.1 _ (List.mem_of_getElem? (i := 233) rfl)
theorem w_234 {Z : State} {a0 : Array Value} (H : Wd Z a0) : ((Jvm.Cond.code ({ cls := "jdk/internal/util/Preconditions", name := "checkIndex", desc := "(IILjava/util/function/BiFunction;)I" } : Jvm.MethodName) jdk_41_method_11_code (3 : Nat) (Option.some Jvm.ClassFile.FieldType.int)) : Jvm.Cond).before a0 Z = true := H.1 _ (List.mem_of_getElem? (i := 234) rfl)
theorem w_235 {Z : State} {a0 : Array Value} (H : Wd Z a0) : ((Jvm.Cond.methodLink "java/lang/String" (177 : Nat) ({ cls := "java/lang/StringUTF16", name := "compress", desc := "([CII)[B" } : Jvm.MethodName)) : Jvm.Cond).before a0 Z = true := H.1 _ (List.mem_of_getElem? (i := 235) rfl)
theorem w_236 {Z : State} {a0 : Array Value} (H : Wd Z a0) : ((Jvm.Cond.static ({ cls := "java/lang/StringUTF16", name := "compress", desc := "([CII)[B" } : Jvm.MethodName)) : Jvm.Cond).before a0 Z = true := H.1 _ (List.mem_of_getElem? (i := 236) rfl)
theorem w_237 {Z : State} {a0 : Array Value} (H : Wd Z a0) : ((Jvm.Cond.initialized "java/lang/StringUTF16") : Jvm.Cond).before a0 Z = true := H.1 _ (List.mem_of_getElem? (i := 237) rfl)
theorem w_238 {Z : State} {a0 : Array Value} (H : Wd Z a0) : ((Jvm.Cond.code ({ cls := "java/lang/StringUTF16", name := "compress", desc := "([CII)[B" } : Jvm.MethodName) jdk_52_method_16_code (6 : Nat) (Option.some (Jvm.ClassFile.FieldType.array Jvm.ClassFile.FieldType.byte))) : Jvm.Cond).before a0 Z = true := H.1 _ (List.mem_of_getElem? (i := 238) rfl)
theorem w_239 {Z : State} {a0 : Array Value} (H : Wd Z a0) : ((Jvm.Cond.methodLink "java/lang/StringUTF16" (115 : Nat) ({ cls := "java/lang/StringUTF16", name := "compress", desc := "([CI[BII)I" } : Jvm.MethodName)) : Jvm.Cond).before a0 Z = true := H.1 _ (List.mem_of_getElem? (i := 239) rfl)
theorem w_240 {Z : State} {a0 : Array Value} (H : Wd Z a0) : ((Jvm.Cond.static ({ cls := "java/lang/StringUTF16", name := "compress", desc := "([CI[BII)I" } : Jvm.MethodName)) : Jvm.Cond).before a0 Z = true := H.1 _ (List.mem_of_getElem? (i := 240) rfl)
theorem w_241 {Z : State} {a0 : Array Value} (H : Wd Z a0) : ((Jvm.Cond.code ({ cls := "java/lang/StringUTF16", name := "compress", desc := "([CI[BII)I" } : Jvm.MethodName) jdk_52_method_21_code (7 : Nat) (Option.some Jvm.ClassFile.FieldType.int)) : Jvm.Cond).before a0 Z = true := H.1 _ (List.mem_of_getElem? (i := 241) rfl)
theorem w_242 {Z : State} {a0 : Array Value} (H : Wd Z a0) : ((Jvm.Cond.methodLink "java/lang/String" (47 : Nat) ({ cls := "java/lang/StringUTF16", name := "coderFromArrayLen", desc := "([BI)B" } : Jvm.MethodName)) : Jvm.Cond).before a0 Z = true := H.1 _ (List.mem_of_getElem? (i := 242) rfl)
theorem w_243 {Z : State} {a0 : Array Value} (H : Wd Z a0) : ((Jvm.Cond.static ({ cls := "java/lang/StringUTF16", name := "coderFromArrayLen", desc := "([BI)B" } : Jvm.MethodName)) : Jvm.Cond).before a0 Z = true := H.1 _ (List.mem_of_getElem? (i := 243) rfl)
theorem w_244 {Z : State} {a0 : Array Value} (H : Wd Z a0) : ((Jvm.Cond.code ({ cls := "java/lang/StringUTF16", name := "coderFromArrayLen", desc := "([BI)B" } : Jvm.MethodName) jdk_52_method_15_code (2 : Nat) (Option.some Jvm.ClassFile.FieldType.byte)) : Jvm.Cond).before a0 Z = true := H.1 _ (List.mem_of_getElem? (i := 244) rfl)
theorem w_245 {Z : State} {a0 : Array Value} (H : Wd Z a0) : ((Jvm.Cond.fieldLink "java/lang/Integer" (87 : Nat) "java/lang/Integer" "DigitTens" "[B") : Jvm.Cond).before a0 Z = true := H.1 _ (List.mem_of_getElem? (i := 245) rfl)
theorem w_246 {Z : State} {a0 : Array Value} (H : Wd Z a0) : ((Jvm.Cond.constantLong "com/example/saga/saga/server/SurfaceUrisLinkTimeMapPinLaw" (45 : Nat) (100 : Int64)) : Jvm.Cond).before a0 Z = true := H.1 _ (List.mem_of_getElem? (i := 246) rfl)
theorem w_247 {Z : State} {a0 : Array Value} (H : Wd Z a0) : ((Jvm.Cond.constantLong "com/example/saga/saga/server/SurfaceUrisLinkTimeMapPinLaw" (47 : Nat) (1000 : Int64)) : Jvm.Cond).before a0 Z = true := H.1 _ (List.mem_of_getElem? (i := 247) rfl)
theorem w_248 {Z : State} {a0 : Array Value} (H : Wd Z a0) : ((Jvm.Cond.constantLong "com/example/saga/saga/server/SurfaceUrisLinkTimeMapPinLaw" (49 : Nat) (10000 : Int64)) : Jvm.Cond).before a0 Z = true := H.1 _ (List.mem_of_getElem? (i := 248) rfl)
theorem w_249 {Z : State} {a0 : Array Value} (H : Wd Z a0) : ((Jvm.Cond.constantLong "com/example/saga/saga/server/SurfaceUrisLinkTimeMapPinLaw" (51 : Nat) (100000 : Int64)) : Jvm.Cond).before a0 Z = true := H.1 _ (List.mem_of_getElem? (i := 249) rfl)
theorem w_250 {Z : State} {a0 : Array Value} (H : Wd Z a0) : ((Jvm.Cond.constantLong "com/example/saga/saga/server/SurfaceUrisLinkTimeMapPinLaw" (53 : Nat) (1000000 : Int64)) : Jvm.Cond).before a0 Z = true := H.1 _ (List.mem_of_getElem? (i := 250) rfl)
theorem w_251 {Z : State} {a0 : Array Value} (H : Wd Z a0) : ((Jvm.Cond.constantLong "com/example/saga/saga/server/SurfaceUrisLinkTimeMapPinLaw" (55 : Nat) (10000000 : Int64)) : Jvm.Cond).before a0 Z = true := H.1 _ (List.mem_of_getElem? (i := 251) rfl)
theorem w_252 {Z : State} {a0 : Array Value} (H : Wd Z a0) : ((Jvm.Cond.constantLong "com/example/saga/saga/server/SurfaceUrisLinkTimeMapPinLaw" (57 : Nat) (100000000 : Int64)) : Jvm.Cond).before a0 Z = true := H.1 _ (List.mem_of_getElem? (i := 252) rfl)
theorem w_253 {Z : State} {a0 : Array Value} (H : Wd Z a0) : ((Jvm.Cond.constantLong "com/example/saga/saga/server/SurfaceUrisLinkTimeMapPinLaw" (59 : Nat) (1000000000 : Int64)) : Jvm.Cond).before a0 Z = true := H.1 _ (List.mem_of_getElem? (i := 253) rfl)
theorem w_254 {Z : State} {a0 : Array Value} (H : Wd Z a0) : ((Jvm.Cond.methodLink "java/util/Arrays" (310 : Nat) ({ cls := "[B", name := "clone", desc := "()Ljava/lang/Object;" } : Jvm.MethodName)) : Jvm.Cond).before a0 Z = true := H.1 _ (List.mem_of_getElem? (i := 254) rfl)
theorem w_255 {Z : State} {a0 : Array Value} (H : Wd Z a0) : ((Jvm.Cond.sameMethod "[B" "java/lang/Object" "clone" "()Ljava/lang/Object;") : Jvm.Cond).before a0 Z = true := H.1 _ (List.mem_of_getElem? (i := 255) rfl)
theorem w_257 {Z : State} {a0 : Array Value} (H : Wd Z a0) : ((Jvm.Cond.instanceMethod ({ cls := "java/lang/Object", name := "clone", desc := "()Ljava/lang/Object;" } : Jvm.MethodName)) : Jvm.Cond).before a0 Z = true := H.1 _ (List.mem_of_getElem? (i := 257) rfl)
theorem w_258 {Z : State} {a0 : Array Value} (H : Wd Z a0) : ((Jvm.Cond.selects "[B" ({ cls := "[B", name := "clone", desc := "()Ljava/lang/Object;" } : Jvm.MethodName) ({ cls := "java/lang/Object", name := "clone", desc := "()Ljava/lang/Object;" } : Jvm.MethodName)) : Jvm.Cond).before a0 Z = true := H.1 _ (List.mem_of_getElem? (i := 258) rfl)
theorem w_259 {Z : State} {a0 : Array Value} (H : Wd Z a0) : ((Jvm.Cond.native ({ cls := "java/lang/Object", name := "clone", desc := "()Ljava/lang/Object;" } : Jvm.MethodName)) : Jvm.Cond).before a0 Z = true := H.1 _ (List.mem_of_getElem? (i := 259) rfl)
theorem w_260 {Z : State} {a0 : Array Value} (H : Wd Z a0) : ((Jvm.Cond.castable "[B" "java/lang/Cloneable") : Jvm.Cond).before a0 Z = true := H.1 _ (List.mem_of_getElem? (i := 260) rfl)
theorem w_261 {Z : State} {a0 : Array Value} (H : Wd Z a0) : ((Jvm.Cond.classLink "java/util/Arrays" (311 : Nat) "[B") : Jvm.Cond).before a0 Z = true := H.1 _ (List.mem_of_getElem? (i := 261) rfl)
theorem w_263 {Z : State} {a0 : Array Value} (H : Wd Z a0) : ((Jvm.Cond.stringLink "com/example/saga/saga/server/SurfaceUris" (62 : Nat) "") : Jvm.Cond).before a0 Z = true := H.1 _ (List.mem_of_getElem? (i := 263) rfl)
theorem d0_0 : decode jdk_42_method_139_code 0 = .ok (.getstatic 38, 3) := by decide +kernel
theorem d0_3 : decode jdk_42_method_139_code 3 = .ok (.ifCond .eq 23, 3) := by decide +kernel
theorem d0_6 : decode jdk_42_method_139_code 6 = .ok (.iload_n 0, 1) := by decide +kernel
theorem d0_7 : decode jdk_42_method_139_code 7 = .ok (.invokestatic 1015, 3) := by decide +kernel
theorem d0_10 : decode jdk_42_method_139_code 10 = .ok (.ifCond .eq 16, 3) := by decide +kernel
theorem d0_13 : decode jdk_42_method_139_code 13 = .ok (.new 10, 3) := by decide +kernel
theorem d0_16 : decode jdk_42_method_139_code 16 = .ok (.dup, 1) := by decide +kernel
theorem d0_17 : decode jdk_42_method_139_code 17 = .ok (.iload_n 0, 1) := by decide +kernel
theorem d0_18 : decode jdk_42_method_139_code 18 = .ok (.invokestatic 1018, 3) := by decide +kernel
theorem d0_21 : decode jdk_42_method_139_code 21 = .ok (.iconst 0, 1) := by decide +kernel
theorem d0_22 : decode jdk_42_method_139_code 22 = .ok (.invokespecial 209, 3) := by decide +kernel
theorem d0_25 : decode jdk_42_method_139_code 25 = .ok (.areturn, 1) := by decide +kernel
theorem d1_0 : decode jdk_43_method_3_code 0 = .ok (.iload_n 0, 1) := by decide +kernel
theorem d1_1 : decode jdk_43_method_3_code 1 = .ok (.sipush 255, 3) := by decide +kernel
theorem d1_4 : decode jdk_43_method_3_code 4 = .ok (.if_icmp .gt 7, 3) := by decide +kernel
theorem d1_7 : decode jdk_43_method_3_code 7 = .ok (.iconst 1, 1) := by decide +kernel
theorem d1_8 : decode jdk_43_method_3_code 8 = .ok (.goto 4, 3) := by decide +kernel
theorem d1_12 : decode jdk_43_method_3_code 12 = .ok (.ireturn, 1) := by decide +kernel
theorem d2_0 : decode jdk_43_method_46_code 0 = .ok (.iconst 1, 1) := by decide +kernel
theorem d2_1 : decode jdk_43_method_46_code 1 = .ok (.newarray .byte, 2) := by decide +kernel
theorem d2_3 : decode jdk_43_method_46_code 3 = .ok (.dup, 1) := by decide +kernel
theorem d2_4 : decode jdk_43_method_46_code 4 = .ok (.iconst 0, 1) := by decide +kernel
theorem d2_5 : decode jdk_43_method_46_code 5 = .ok (.iload_n 0, 1) := by decide +kernel
theorem d2_6 : decode jdk_43_method_46_code 6 = .ok (.i2b, 1) := by decide +kernel
theorem d2_7 : decode jdk_43_method_46_code 7 = .ok (.bastore, 1) := by decide +kernel
theorem d2_8 : decode jdk_43_method_46_code 8 = .ok (.areturn, 1) := by decide +kernel
theorem d3_0 : decode jdk_42_method_151_code 0 = .ok (.aload_n 0, 1) := by decide +kernel
theorem d3_1 : decode jdk_42_method_151_code 1 = .ok (.invokespecial 1, 3) := by decide +kernel
theorem d3_4 : decode jdk_42_method_151_code 4 = .ok (.aload_n 0, 1) := by decide +kernel
theorem d3_5 : decode jdk_42_method_151_code 5 = .ok (.aload_n 1, 1) := by decide +kernel
theorem d3_6 : decode jdk_42_method_151_code 6 = .ok (.putfield 9, 3) := by decide +kernel
theorem d3_9 : decode jdk_42_method_151_code 9 = .ok (.aload_n 0, 1) := by decide +kernel
theorem d3_10 : decode jdk_42_method_151_code 10 = .ok (.iload_n 2, 1) := by decide +kernel
theorem d3_11 : decode jdk_42_method_151_code 11 = .ok (.putfield 15, 3) := by decide +kernel
theorem d3_14 : decode jdk_42_method_151_code 14 = .ok (.return_, 1) := by decide +kernel
theorem d5_0 : decode jdk_42_method_3_code 0 = .ok (.aload_n 0, 1) := by decide +kernel
theorem d5_1 : decode jdk_42_method_3_code 1 = .ok (.aload_n 1, 1) := by decide +kernel
theorem d5_2 : decode jdk_42_method_3_code 2 = .ok (.iconst 0, 1) := by decide +kernel
theorem d5_3 : decode jdk_42_method_3_code 3 = .ok (.aload_n 1, 1) := by decide +kernel
theorem d5_4 : decode jdk_42_method_3_code 4 = .ok (.arraylength, 1) := by decide +kernel
theorem d5_5 : decode jdk_42_method_3_code 5 = .ok (.aconst_null, 1) := by decide +kernel
theorem d5_6 : decode jdk_42_method_3_code 6 = .ok (.invokespecial 27, 3) := by decide +kernel
theorem d5_9 : decode jdk_42_method_3_code 9 = .ok (.return_, 1) := by decide +kernel
theorem d6_0 : decode jdk_42_method_149_code 0 = .ok (.aload_n 0, 1) := by decide +kernel
theorem d6_1 : decode jdk_42_method_149_code 1 = .ok (.invokespecial 1, 3) := by decide +kernel
theorem d6_4 : decode jdk_42_method_149_code 4 = .ok (.iload_n 3, 1) := by decide +kernel
theorem d6_5 : decode jdk_42_method_149_code 5 = .ok (.ifCond .ne 22, 3) := by decide +kernel
theorem d6_8 : decode jdk_42_method_149_code 8 = .ok (.aload_n 0, 1) := by decide +kernel
theorem d6_9 : decode jdk_42_method_149_code 9 = .ok (.ldc 7, 2) := by decide +kernel
theorem d6_11 : decode jdk_42_method_149_code 11 = .ok (.getfield 9, 3) := by decide +kernel
theorem d6_14 : decode jdk_42_method_149_code 14 = .ok (.putfield 9, 3) := by decide +kernel
theorem d6_17 : decode jdk_42_method_149_code 17 = .ok (.aload_n 0, 1) := by decide +kernel
theorem d6_18 : decode jdk_42_method_149_code 18 = .ok (.ldc 7, 2) := by decide +kernel
theorem d6_20 : decode jdk_42_method_149_code 20 = .ok (.getfield 15, 3) := by decide +kernel
theorem d6_23 : decode jdk_42_method_149_code 23 = .ok (.putfield 15, 3) := by decide +kernel
theorem d6_26 : decode jdk_42_method_149_code 26 = .ok (.return_, 1) := by decide +kernel
theorem d6_27 : decode jdk_42_method_149_code 27 = .ok (.getstatic 38, 3) := by decide +kernel
theorem d6_30 : decode jdk_42_method_149_code 30 = .ok (.ifCond .eq 28, 3) := by decide +kernel
theorem d6_33 : decode jdk_42_method_149_code 33 = .ok (.aload_n 1, 1) := by decide +kernel
theorem d6_34 : decode jdk_42_method_149_code 34 = .ok (.iload_n 2, 1) := by decide +kernel
theorem d6_35 : decode jdk_42_method_149_code 35 = .ok (.iload_n 3, 1) := by decide +kernel
theorem d6_36 : decode jdk_42_method_149_code 36 = .ok (.invokestatic 177, 3) := by decide +kernel
theorem d6_39 : decode jdk_42_method_149_code 39 = .ok (.astore 5, 2) := by decide +kernel
theorem d6_41 : decode jdk_42_method_149_code 41 = .ok (.aload_n 0, 1) := by decide +kernel
theorem d6_42 : decode jdk_42_method_149_code 42 = .ok (.aload 5, 2) := by decide +kernel
theorem d6_44 : decode jdk_42_method_149_code 44 = .ok (.iload_n 3, 1) := by decide +kernel
theorem d6_45 : decode jdk_42_method_149_code 45 = .ok (.invokestatic 47, 3) := by decide +kernel
theorem d6_48 : decode jdk_42_method_149_code 48 = .ok (.putfield 15, 3) := by decide +kernel
theorem d6_51 : decode jdk_42_method_149_code 51 = .ok (.aload_n 0, 1) := by decide +kernel
theorem d6_52 : decode jdk_42_method_149_code 52 = .ok (.aload 5, 2) := by decide +kernel
theorem d6_54 : decode jdk_42_method_149_code 54 = .ok (.putfield 9, 3) := by decide +kernel
theorem d6_57 : decode jdk_42_method_149_code 57 = .ok (.return_, 1) := by decide +kernel
theorem d7_0 : decode prog_12_method_1_code 0 = .ok (.aload_n 0, 1) := by decide +kernel
theorem d7_1 : decode prog_12_method_1_code 1 = .ok (.invokespecial 1, 3) := by decide +kernel
theorem d7_4 : decode prog_12_method_1_code 4 = .ok (.aload_n 0, 1) := by decide +kernel
theorem d7_5 : decode prog_12_method_1_code 5 = .ok (.new 7, 3) := by decide +kernel
theorem d7_8 : decode prog_12_method_1_code 8 = .ok (.dup, 1) := by decide +kernel
theorem d7_9 : decode prog_12_method_1_code 9 = .ok (.invokespecial 9, 3) := by decide +kernel
theorem d7_12 : decode prog_12_method_1_code 12 = .ok (.ldc 10, 2) := by decide +kernel
theorem d7_14 : decode prog_12_method_1_code 14 = .ok (.invokevirtual 12, 3) := by decide +kernel
theorem d7_17 : decode prog_12_method_1_code 17 = .ok (.aload_n 1, 1) := by decide +kernel
theorem d7_18 : decode prog_12_method_1_code 18 = .ok (.invokevirtual 12, 3) := by decide +kernel
theorem d7_21 : decode prog_12_method_1_code 21 = .ok (.invokevirtual 16, 3) := by decide +kernel
theorem d7_24 : decode prog_12_method_1_code 24 = .ok (.putfield 20, 3) := by decide +kernel
theorem d7_27 : decode prog_12_method_1_code 27 = .ok (.return_, 1) := by decide +kernel
theorem d8_0 : decode jdk_67_method_1_code 0 = .ok (.aload_n 0, 1) := by decide +kernel
theorem d8_1 : decode jdk_67_method_1_code 1 = .ok (.bipush 16, 2) := by decide +kernel
theorem d8_3 : decode jdk_67_method_1_code 3 = .ok (.invokespecial 1, 3) := by decide +kernel
theorem d8_6 : decode jdk_67_method_1_code 6 = .ok (.return_, 1) := by decide +kernel
theorem d9_0 : decode jdk_68_method_2_code 0 = .ok (.aload_n 0, 1) := by decide +kernel
theorem d9_1 : decode jdk_68_method_2_code 1 = .ok (.invokespecial 3, 3) := by decide +kernel
theorem d9_4 : decode jdk_68_method_2_code 4 = .ok (.getstatic 18, 3) := by decide +kernel
theorem d9_7 : decode jdk_68_method_2_code 7 = .ok (.ifCond .eq 18, 3) := by decide +kernel
theorem d9_10 : decode jdk_68_method_2_code 10 = .ok (.aload_n 0, 1) := by decide +kernel
theorem d9_11 : decode jdk_68_method_2_code 11 = .ok (.iload_n 1, 1) := by decide +kernel
theorem d9_12 : decode jdk_68_method_2_code 12 = .ok (.newarray .byte, 2) := by decide +kernel
theorem d9_14 : decode jdk_68_method_2_code 14 = .ok (.putfield 15, 3) := by decide +kernel
theorem d9_17 : decode jdk_68_method_2_code 17 = .ok (.aload_n 0, 1) := by decide +kernel
theorem d9_18 : decode jdk_68_method_2_code 18 = .ok (.iconst 0, 1) := by decide +kernel
theorem d9_19 : decode jdk_68_method_2_code 19 = .ok (.putfield 22, 3) := by decide +kernel
theorem d9_22 : decode jdk_68_method_2_code 22 = .ok (.goto 16, 3) := by decide +kernel
theorem d9_38 : decode jdk_68_method_2_code 38 = .ok (.return_, 1) := by decide +kernel
theorem d10_0 : decode jdk_67_method_7_code 0 = .ok (.aload_n 0, 1) := by decide +kernel
theorem d10_1 : decode jdk_67_method_7_code 1 = .ok (.aload_n 1, 1) := by decide +kernel
theorem d10_2 : decode jdk_67_method_7_code 2 = .ok (.invokespecial 29, 3) := by decide +kernel
theorem d10_5 : decode jdk_67_method_7_code 5 = .ok (.pop, 1) := by decide +kernel
theorem d10_6 : decode jdk_67_method_7_code 6 = .ok (.aload_n 0, 1) := by decide +kernel
theorem d10_7 : decode jdk_67_method_7_code 7 = .ok (.areturn, 1) := by decide +kernel
theorem d11_0 : decode jdk_68_method_22_code 0 = .ok (.aload_n 1, 1) := by decide +kernel
theorem d11_1 : decode jdk_68_method_22_code 1 = .ok (.ifnonnull 8, 3) := by decide +kernel
theorem d11_9 : decode jdk_68_method_22_code 9 = .ok (.aload_n 1, 1) := by decide +kernel
theorem d11_10 : decode jdk_68_method_22_code 10 = .ok (.invokevirtual 32, 3) := by decide +kernel
theorem d11_13 : decode jdk_68_method_22_code 13 = .ok (.istore_n 2, 1) := by decide +kernel
theorem d11_14 : decode jdk_68_method_22_code 14 = .ok (.aload_n 0, 1) := by decide +kernel
theorem d11_15 : decode jdk_68_method_22_code 15 = .ok (.aload_n 0, 1) := by decide +kernel
theorem d11_16 : decode jdk_68_method_22_code 16 = .ok (.getfield 79, 3) := by decide +kernel
theorem d11_19 : decode jdk_68_method_22_code 19 = .ok (.iload_n 2, 1) := by decide +kernel
theorem d11_20 : decode jdk_68_method_22_code 20 = .ok (.iadd, 1) := by decide +kernel
theorem d11_21 : decode jdk_68_method_22_code 21 = .ok (.invokevirtual 100, 3) := by decide +kernel
theorem d11_24 : decode jdk_68_method_22_code 24 = .ok (.aload_n 0, 1) := by decide +kernel
theorem d11_25 : decode jdk_68_method_22_code 25 = .ok (.aload_n 0, 1) := by decide +kernel
theorem d11_26 : decode jdk_68_method_22_code 26 = .ok (.getfield 79, 3) := by decide +kernel
theorem d11_29 : decode jdk_68_method_22_code 29 = .ok (.aload_n 1, 1) := by decide +kernel
theorem d11_30 : decode jdk_68_method_22_code 30 = .ok (.invokevirtual 208, 3) := by decide +kernel
theorem d11_33 : decode jdk_68_method_22_code 33 = .ok (.aload_n 0, 1) := by decide +kernel
theorem d11_34 : decode jdk_68_method_22_code 34 = .ok (.dup, 1) := by decide +kernel
theorem d11_35 : decode jdk_68_method_22_code 35 = .ok (.getfield 79, 3) := by decide +kernel
theorem d11_38 : decode jdk_68_method_22_code 38 = .ok (.iload_n 2, 1) := by decide +kernel
theorem d11_39 : decode jdk_68_method_22_code 39 = .ok (.iadd, 1) := by decide +kernel
theorem d11_40 : decode jdk_68_method_22_code 40 = .ok (.putfield 79, 3) := by decide +kernel
theorem d11_43 : decode jdk_68_method_22_code 43 = .ok (.aload_n 0, 1) := by decide +kernel
theorem d11_44 : decode jdk_68_method_22_code 44 = .ok (.areturn, 1) := by decide +kernel
theorem d12_0 : decode jdk_42_method_54_code 0 = .ok (.aload_n 0, 1) := by decide +kernel
theorem d12_1 : decode jdk_42_method_54_code 1 = .ok (.getfield 9, 3) := by decide +kernel
theorem d12_4 : decode jdk_42_method_54_code 4 = .ok (.arraylength, 1) := by decide +kernel
theorem d12_5 : decode jdk_42_method_54_code 5 = .ok (.aload_n 0, 1) := by decide +kernel
theorem d12_6 : decode jdk_42_method_54_code 6 = .ok (.invokevirtual 335, 3) := by decide +kernel
theorem d12_9 : decode jdk_42_method_54_code 9 = .ok (.ishr, 1) := by decide +kernel
theorem d12_10 : decode jdk_42_method_54_code 10 = .ok (.ireturn, 1) := by decide +kernel
theorem d13_0 : decode jdk_42_method_152_code 0 = .ok (.getstatic 38, 3) := by decide +kernel
theorem d13_3 : decode jdk_42_method_152_code 3 = .ok (.ifCond .eq 10, 3) := by decide +kernel
theorem d13_6 : decode jdk_42_method_152_code 6 = .ok (.aload_n 0, 1) := by decide +kernel
theorem d13_7 : decode jdk_42_method_152_code 7 = .ok (.getfield 15, 3) := by decide +kernel
theorem d13_10 : decode jdk_42_method_152_code 10 = .ok (.goto 4, 3) := by decide +kernel
theorem d13_14 : decode jdk_42_method_152_code 14 = .ok (.ireturn, 1) := by decide +kernel
theorem d14_0 : decode jdk_68_method_9_code 0 = .ok (.aload_n 0, 1) := by decide +kernel
theorem d14_1 : decode jdk_68_method_9_code 1 = .ok (.getfield 15, 3) := by decide +kernel
theorem d14_4 : decode jdk_68_method_9_code 4 = .ok (.arraylength, 1) := by decide +kernel
theorem d14_5 : decode jdk_68_method_9_code 5 = .ok (.aload_n 0, 1) := by decide +kernel
theorem d14_6 : decode jdk_68_method_9_code 6 = .ok (.getfield 22, 3) := by decide +kernel
theorem d14_9 : decode jdk_68_method_9_code 9 = .ok (.ishr, 1) := by decide +kernel
theorem d14_10 : decode jdk_68_method_9_code 10 = .ok (.istore_n 2, 1) := by decide +kernel
theorem d14_11 : decode jdk_68_method_9_code 11 = .ok (.iload_n 1, 1) := by decide +kernel
theorem d14_12 : decode jdk_68_method_9_code 12 = .ok (.iload_n 2, 1) := by decide +kernel
theorem d14_13 : decode jdk_68_method_9_code 13 = .ok (.isub, 1) := by decide +kernel
theorem d14_14 : decode jdk_68_method_9_code 14 = .ok (.ifCond .le 24, 3) := by decide +kernel
theorem d14_17 : decode jdk_68_method_9_code 17 = .ok (.aload_n 0, 1) := by decide +kernel
theorem d14_18 : decode jdk_68_method_9_code 18 = .ok (.aload_n 0, 1) := by decide +kernel
theorem d14_19 : decode jdk_68_method_9_code 19 = .ok (.getfield 15, 3) := by decide +kernel
theorem d14_22 : decode jdk_68_method_9_code 22 = .ok (.aload_n 0, 1) := by decide +kernel
theorem d14_23 : decode jdk_68_method_9_code 23 = .ok (.iload_n 1, 1) := by decide +kernel
theorem d14_24 : decode jdk_68_method_9_code 24 = .ok (.invokevirtual 104, 3) := by decide +kernel
theorem d14_27 : decode jdk_68_method_9_code 27 = .ok (.aload_n 0, 1) := by decide +kernel
theorem d14_28 : decode jdk_68_method_9_code 28 = .ok (.getfield 22, 3) := by decide +kernel
theorem d14_31 : decode jdk_68_method_9_code 31 = .ok (.ishl, 1) := by decide +kernel
theorem d14_32 : decode jdk_68_method_9_code 32 = .ok (.invokestatic 108, 3) := by decide +kernel
theorem d14_35 : decode jdk_68_method_9_code 35 = .ok (.putfield 15, 3) := by decide +kernel
theorem d14_38 : decode jdk_68_method_9_code 38 = .ok (.return_, 1) := by decide +kernel
theorem d15_0 : decode jdk_68_method_73_code 0 = .ok (.aload_n 0, 1) := by decide +kernel
theorem d15_1 : decode jdk_68_method_73_code 1 = .ok (.aload_n 2, 1) := by decide +kernel
theorem d15_2 : decode jdk_68_method_73_code 2 = .ok (.invokevirtual 397, 3) := by decide +kernel
theorem d15_5 : decode jdk_68_method_73_code 5 = .ok (.aload_n 2, 1) := by decide +kernel
theorem d15_6 : decode jdk_68_method_73_code 6 = .ok (.aload_n 0, 1) := by decide +kernel
theorem d15_7 : decode jdk_68_method_73_code 7 = .ok (.getfield 15, 3) := by decide +kernel
theorem d15_10 : decode jdk_68_method_73_code 10 = .ok (.iload_n 1, 1) := by decide +kernel
theorem d15_11 : decode jdk_68_method_73_code 11 = .ok (.aload_n 0, 1) := by decide +kernel
theorem d15_12 : decode jdk_68_method_73_code 12 = .ok (.getfield 22, 3) := by decide +kernel
theorem d15_15 : decode jdk_68_method_73_code 15 = .ok (.invokevirtual 399, 3) := by decide +kernel
theorem d15_18 : decode jdk_68_method_73_code 18 = .ok (.return_, 1) := by decide +kernel
theorem d16_0 : decode jdk_68_method_71_code 0 = .ok (.getstatic 18, 3) := by decide +kernel
theorem d16_3 : decode jdk_68_method_71_code 3 = .ok (.ifCond .eq 18, 3) := by decide +kernel
theorem d16_6 : decode jdk_68_method_71_code 6 = .ok (.aload_n 0, 1) := by decide +kernel
theorem d16_7 : decode jdk_68_method_71_code 7 = .ok (.getfield 22, 3) := by decide +kernel
theorem d16_10 : decode jdk_68_method_71_code 10 = .ok (.aload_n 1, 1) := by decide +kernel
theorem d16_11 : decode jdk_68_method_71_code 11 = .ok (.invokevirtual 40, 3) := by decide +kernel
theorem d16_14 : decode jdk_68_method_71_code 14 = .ok (.if_icmp .eq 7, 3) := by decide +kernel
theorem d16_21 : decode jdk_68_method_71_code 21 = .ok (.return_, 1) := by decide +kernel
theorem d17_0 : decode jdk_42_method_147_code 0 = .ok (.aload_n 0, 1) := by decide +kernel
theorem d17_1 : decode jdk_42_method_147_code 1 = .ok (.invokevirtual 335, 3) := by decide +kernel
theorem d17_4 : decode jdk_42_method_147_code 4 = .ok (.iload_n 3, 1) := by decide +kernel
theorem d17_5 : decode jdk_42_method_147_code 5 = .ok (.if_icmp .ne 23, 3) := by decide +kernel
theorem d17_8 : decode jdk_42_method_147_code 8 = .ok (.aload_n 0, 1) := by decide +kernel
theorem d17_9 : decode jdk_42_method_147_code 9 = .ok (.getfield 9, 3) := by decide +kernel
theorem d17_12 : decode jdk_42_method_147_code 12 = .ok (.iconst 0, 1) := by decide +kernel
theorem d17_13 : decode jdk_42_method_147_code 13 = .ok (.aload_n 1, 1) := by decide +kernel
theorem d17_14 : decode jdk_42_method_147_code 14 = .ok (.iload_n 2, 1) := by decide +kernel
theorem d17_15 : decode jdk_42_method_147_code 15 = .ok (.iload_n 3, 1) := by decide +kernel
theorem d17_16 : decode jdk_42_method_147_code 16 = .ok (.ishl, 1) := by decide +kernel
theorem d17_17 : decode jdk_42_method_147_code 17 = .ok (.aload_n 0, 1) := by decide +kernel
theorem d17_18 : decode jdk_42_method_147_code 18 = .ok (.getfield 9, 3) := by decide +kernel
theorem d17_21 : decode jdk_42_method_147_code 21 = .ok (.arraylength, 1) := by decide +kernel
theorem d17_22 : decode jdk_42_method_147_code 22 = .ok (.invokestatic 212, 3) := by decide +kernel
theorem d17_25 : decode jdk_42_method_147_code 25 = .ok (.goto 18, 3) := by decide +kernel
theorem d17_43 : decode jdk_42_method_147_code 43 = .ok (.return_, 1) := by decide +kernel
theorem d18_0 : decode jdk_67_method_42_code 0 = .ok (.new 18, 3) := by decide +kernel
theorem d18_3 : decode jdk_67_method_42_code 3 = .ok (.dup, 1) := by decide +kernel
theorem d18_4 : decode jdk_67_method_42_code 4 = .ok (.aload_n 0, 1) := by decide +kernel
theorem d18_5 : decode jdk_67_method_42_code 5 = .ok (.invokespecial 137, 3) := by decide +kernel
theorem d18_8 : decode jdk_67_method_42_code 8 = .ok (.areturn, 1) := by decide +kernel
theorem d19_0 : decode jdk_42_method_53_code 0 = .ok (.aload_n 0, 1) := by decide +kernel
theorem d19_1 : decode jdk_42_method_53_code 1 = .ok (.aload_n 1, 1) := by decide +kernel
theorem d19_2 : decode jdk_42_method_53_code 2 = .ok (.aconst_null, 1) := by decide +kernel
theorem d19_3 : decode jdk_42_method_53_code 3 = .ok (.invokespecial 489, 3) := by decide +kernel
theorem d19_6 : decode jdk_42_method_53_code 6 = .ok (.return_, 1) := by decide +kernel
theorem d20_0 : decode jdk_42_method_150_code 0 = .ok (.aload_n 0, 1) := by decide +kernel
theorem d20_1 : decode jdk_42_method_150_code 1 = .ok (.invokespecial 1, 3) := by decide +kernel
theorem d20_4 : decode jdk_42_method_150_code 4 = .ok (.aload_n 1, 1) := by decide +kernel
theorem d20_5 : decode jdk_42_method_150_code 5 = .ok (.invokevirtual 552, 3) := by decide +kernel
theorem d20_8 : decode jdk_42_method_150_code 8 = .ok (.astore_n 3, 1) := by decide +kernel
theorem d20_9 : decode jdk_42_method_150_code 9 = .ok (.aload_n 1, 1) := by decide +kernel
theorem d20_10 : decode jdk_42_method_150_code 10 = .ok (.invokevirtual 549, 3) := by decide +kernel
theorem d20_13 : decode jdk_42_method_150_code 13 = .ok (.istore 4, 2) := by decide +kernel
theorem d20_15 : decode jdk_42_method_150_code 15 = .ok (.aload_n 1, 1) := by decide +kernel
theorem d20_16 : decode jdk_42_method_150_code 16 = .ok (.invokevirtual 1047, 3) := by decide +kernel
theorem d20_19 : decode jdk_42_method_150_code 19 = .ok (.ifCond .eq 22, 3) := by decide +kernel
theorem d20_22 : decode jdk_42_method_150_code 22 = .ok (.aload_n 0, 1) := by decide +kernel
theorem d20_23 : decode jdk_42_method_150_code 23 = .ok (.iconst 0, 1) := by decide +kernel
theorem d20_24 : decode jdk_42_method_150_code 24 = .ok (.putfield 15, 3) := by decide +kernel
theorem d20_27 : decode jdk_42_method_150_code 27 = .ok (.aload_n 0, 1) := by decide +kernel
theorem d20_28 : decode jdk_42_method_150_code 28 = .ok (.aload_n 3, 1) := by decide +kernel
theorem d20_29 : decode jdk_42_method_150_code 29 = .ok (.iconst 0, 1) := by decide +kernel
theorem d20_30 : decode jdk_42_method_150_code 30 = .ok (.iload 4, 2) := by decide +kernel
theorem d20_32 : decode jdk_42_method_150_code 32 = .ok (.invokestatic 54, 3) := by decide +kernel
theorem d20_35 : decode jdk_42_method_150_code 35 = .ok (.putfield 9, 3) := by decide +kernel
theorem d20_38 : decode jdk_42_method_150_code 38 = .ok (.goto 59, 3) := by decide +kernel
theorem d20_97 : decode jdk_42_method_150_code 97 = .ok (.return_, 1) := by decide +kernel
theorem d21_0 : decode jdk_68_method_64_code 0 = .ok (.aload_n 0, 1) := by decide +kernel
theorem d21_1 : decode jdk_68_method_64_code 1 = .ok (.getfield 15, 3) := by decide +kernel
theorem d21_4 : decode jdk_68_method_64_code 4 = .ok (.areturn, 1) := by decide +kernel
theorem d22_0 : decode jdk_67_method_93_code 0 = .ok (.aload_n 0, 1) := by decide +kernel
theorem d22_1 : decode jdk_67_method_93_code 1 = .ok (.invokespecial 343, 3) := by decide +kernel
theorem d22_4 : decode jdk_67_method_93_code 4 = .ok (.ireturn, 1) := by decide +kernel
theorem d23_0 : decode jdk_68_method_6_code 0 = .ok (.aload_n 0, 1) := by decide +kernel
theorem d23_1 : decode jdk_68_method_6_code 1 = .ok (.getfield 79, 3) := by decide +kernel
theorem d23_4 : decode jdk_68_method_6_code 4 = .ok (.ireturn, 1) := by decide +kernel
theorem d24_0 : decode jdk_68_method_68_code 0 = .ok (.getstatic 18, 3) := by decide +kernel
theorem d24_3 : decode jdk_68_method_68_code 3 = .ok (.ifCond .eq 14, 3) := by decide +kernel
theorem d24_6 : decode jdk_68_method_68_code 6 = .ok (.aload_n 0, 1) := by decide +kernel
theorem d24_7 : decode jdk_68_method_68_code 7 = .ok (.getfield 22, 3) := by decide +kernel
theorem d24_10 : decode jdk_68_method_68_code 10 = .ok (.ifCond .ne 7, 3) := by decide +kernel
theorem d24_13 : decode jdk_68_method_68_code 13 = .ok (.iconst 1, 1) := by decide +kernel
theorem d24_14 : decode jdk_68_method_68_code 14 = .ok (.goto 4, 3) := by decide +kernel
theorem d24_18 : decode jdk_68_method_68_code 18 = .ok (.ireturn, 1) := by decide +kernel
theorem d25_0 : decode jdk_65_method_132_code 0 = .ok (.iload_n 1, 1) := by decide +kernel
theorem d25_1 : decode jdk_65_method_132_code 1 = .ok (.ifCond .ne 9, 3) := by decide +kernel
theorem d25_4 : decode jdk_65_method_132_code 4 = .ok (.iload_n 2, 1) := by decide +kernel
theorem d25_5 : decode jdk_65_method_132_code 5 = .ok (.aload_n 0, 1) := by decide +kernel
theorem d25_6 : decode jdk_65_method_132_code 6 = .ok (.arraylength, 1) := by decide +kernel
theorem d25_7 : decode jdk_65_method_132_code 7 = .ok (.if_icmp .eq 10, 3) := by decide +kernel
theorem d25_10 : decode jdk_65_method_132_code 10 = .ok (.aload_n 0, 1) := by decide +kernel
theorem d25_11 : decode jdk_65_method_132_code 11 = .ok (.iload_n 1, 1) := by decide +kernel
theorem d25_12 : decode jdk_65_method_132_code 12 = .ok (.iload_n 2, 1) := by decide +kernel
theorem d25_13 : decode jdk_65_method_132_code 13 = .ok (.invokestatic 339, 3) := by decide +kernel
theorem d25_16 : decode jdk_65_method_132_code 16 = .ok (.areturn, 1) := by decide +kernel
theorem d25_17 : decode jdk_65_method_132_code 17 = .ok (.aload_n 0, 1) := by decide +kernel
theorem d25_18 : decode jdk_65_method_132_code 18 = .ok (.invokevirtual 310, 3) := by decide +kernel
theorem d25_21 : decode jdk_65_method_132_code 21 = .ok (.checkcast 311, 3) := by decide +kernel
theorem d25_24 : decode jdk_65_method_132_code 24 = .ok (.areturn, 1) := by decide +kernel
theorem d26_0 : decode jdk_65_method_133_code 0 = .ok (.iload_n 1, 1) := by decide +kernel
theorem d26_1 : decode jdk_65_method_133_code 1 = .ok (.iload_n 2, 1) := by decide +kernel
theorem d26_2 : decode jdk_65_method_133_code 2 = .ok (.invokestatic 343, 3) := by decide +kernel
theorem d26_5 : decode jdk_65_method_133_code 5 = .ok (.iload_n 2, 1) := by decide +kernel
theorem d26_6 : decode jdk_65_method_133_code 6 = .ok (.iload_n 1, 1) := by decide +kernel
theorem d26_7 : decode jdk_65_method_133_code 7 = .ok (.isub, 1) := by decide +kernel
theorem d26_8 : decode jdk_65_method_133_code 8 = .ok (.istore_n 3, 1) := by decide +kernel
theorem d26_9 : decode jdk_65_method_133_code 9 = .ok (.iload_n 3, 1) := by decide +kernel
theorem d26_10 : decode jdk_65_method_133_code 10 = .ok (.newarray .byte, 2) := by decide +kernel
theorem d26_12 : decode jdk_65_method_133_code 12 = .ok (.astore 4, 2) := by decide +kernel
theorem d26_14 : decode jdk_65_method_133_code 14 = .ok (.aload_n 0, 1) := by decide +kernel
theorem d26_15 : decode jdk_65_method_133_code 15 = .ok (.iload_n 1, 1) := by decide +kernel
theorem d26_16 : decode jdk_65_method_133_code 16 = .ok (.aload 4, 2) := by decide +kernel
theorem d26_18 : decode jdk_65_method_133_code 18 = .ok (.iconst 0, 1) := by decide +kernel
theorem d26_19 : decode jdk_65_method_133_code 19 = .ok (.aload_n 0, 1) := by decide +kernel
theorem d26_20 : decode jdk_65_method_133_code 20 = .ok (.arraylength, 1) := by decide +kernel
theorem d26_21 : decode jdk_65_method_133_code 21 = .ok (.iload_n 1, 1) := by decide +kernel
theorem d26_22 : decode jdk_65_method_133_code 22 = .ok (.isub, 1) := by decide +kernel
theorem d26_23 : decode jdk_65_method_133_code 23 = .ok (.iload_n 3, 1) := by decide +kernel
theorem d26_24 : decode jdk_65_method_133_code 24 = .ok (.invokestatic 304, 3) := by decide +kernel
theorem d26_27 : decode jdk_65_method_133_code 27 = .ok (.invokestatic 150, 3) := by decide +kernel
theorem d26_30 : decode jdk_65_method_133_code 30 = .ok (.aload 4, 2) := by decide +kernel
theorem d26_32 : decode jdk_65_method_133_code 32 = .ok (.areturn, 1) := by decide +kernel
theorem d27_0 : decode jdk_65_method_131_code 0 = .ok (.iload_n 1, 1) := by decide +kernel
theorem d27_1 : decode jdk_65_method_131_code 1 = .ok (.iload_n 0, 1) := by decide +kernel
theorem d27_2 : decode jdk_65_method_131_code 2 = .ok (.if_icmp .ge 35, 3) := by decide +kernel
theorem d27_37 : decode jdk_65_method_131_code 37 = .ok (.return_, 1) := by decide +kernel
theorem d28_0 : decode jdk_29_method_69_code 0 = .ok (.iload_n 0, 1) := by decide +kernel
theorem d28_1 : decode jdk_29_method_69_code 1 = .ok (.iload_n 1, 1) := by decide +kernel
theorem d28_2 : decode jdk_29_method_69_code 2 = .ok (.if_icmp .gt 7, 3) := by decide +kernel
theorem d28_5 : decode jdk_29_method_69_code 5 = .ok (.iload_n 0, 1) := by decide +kernel
theorem d28_6 : decode jdk_29_method_69_code 6 = .ok (.goto 4, 3) := by decide +kernel
theorem d28_9 : decode jdk_29_method_69_code 9 = .ok (.iload_n 1, 1) := by decide +kernel
theorem d28_10 : decode jdk_29_method_69_code 10 = .ok (.ireturn, 1) := by decide +kernel
theorem d29_0 : decode prog_12_method_3_code 0 = .ok (.new 7, 3) := by decide +kernel
theorem d29_3 : decode prog_12_method_3_code 3 = .ok (.dup, 1) := by decide +kernel
theorem d29_4 : decode prog_12_method_3_code 4 = .ok (.invokespecial 9, 3) := by decide +kernel
theorem d29_7 : decode prog_12_method_3_code 7 = .ok (.aload_n 0, 1) := by decide +kernel
theorem d29_8 : decode prog_12_method_3_code 8 = .ok (.getfield 20, 3) := by decide +kernel
theorem d29_11 : decode prog_12_method_3_code 11 = .ok (.invokevirtual 12, 3) := by decide +kernel
theorem d29_14 : decode prog_12_method_3_code 14 = .ok (.ldc 30, 2) := by decide +kernel
theorem d29_16 : decode prog_12_method_3_code 16 = .ok (.invokevirtual 12, 3) := by decide +kernel
theorem d29_19 : decode prog_12_method_3_code 19 = .ok (.iload_n 2, 1) := by decide +kernel
theorem d29_20 : decode prog_12_method_3_code 20 = .ok (.invokestatic 32, 3) := by decide +kernel
theorem d29_23 : decode prog_12_method_3_code 23 = .ok (.invokevirtual 12, 3) := by decide +kernel
theorem d29_26 : decode prog_12_method_3_code 26 = .ok (.aload_n 1, 1) := by decide +kernel
theorem d29_27 : decode prog_12_method_3_code 27 = .ok (.invokevirtual 12, 3) := by decide +kernel
theorem d29_30 : decode prog_12_method_3_code 30 = .ok (.invokevirtual 16, 3) := by decide +kernel
theorem d29_33 : decode prog_12_method_3_code 33 = .ok (.areturn, 1) := by decide +kernel
theorem d30_0 : decode jdk_68_method_10_code 0 = .ok (.aload_n 0, 1) := by decide +kernel
theorem d30_1 : decode jdk_68_method_10_code 1 = .ok (.getfield 15, 3) := by decide +kernel
theorem d30_4 : decode jdk_68_method_10_code 4 = .ok (.arraylength, 1) := by decide +kernel
theorem d30_5 : decode jdk_68_method_10_code 5 = .ok (.istore_n 2, 1) := by decide +kernel
theorem d30_6 : decode jdk_68_method_10_code 6 = .ok (.iload_n 1, 1) := by decide +kernel
theorem d30_7 : decode jdk_68_method_10_code 7 = .ok (.aload_n 0, 1) := by decide +kernel
theorem d30_8 : decode jdk_68_method_10_code 8 = .ok (.getfield 22, 3) := by decide +kernel
theorem d30_11 : decode jdk_68_method_10_code 11 = .ok (.ishl, 1) := by decide +kernel
theorem d30_12 : decode jdk_68_method_10_code 12 = .ok (.istore_n 3, 1) := by decide +kernel
theorem d30_13 : decode jdk_68_method_10_code 13 = .ok (.iload_n 3, 1) := by decide +kernel
theorem d30_14 : decode jdk_68_method_10_code 14 = .ok (.iload_n 2, 1) := by decide +kernel
theorem d30_15 : decode jdk_68_method_10_code 15 = .ok (.isub, 1) := by decide +kernel
theorem d30_16 : decode jdk_68_method_10_code 16 = .ok (.istore 4, 2) := by decide +kernel
theorem d30_18 : decode jdk_68_method_10_code 18 = .ok (.iload_n 2, 1) := by decide +kernel
theorem d30_19 : decode jdk_68_method_10_code 19 = .ok (.iload 4, 2) := by decide +kernel
theorem d30_21 : decode jdk_68_method_10_code 21 = .ok (.iload_n 2, 1) := by decide +kernel
theorem d30_22 : decode jdk_68_method_10_code 22 = .ok (.iconst 2, 1) := by decide +kernel
theorem d30_23 : decode jdk_68_method_10_code 23 = .ok (.aload_n 0, 1) := by decide +kernel
theorem d30_24 : decode jdk_68_method_10_code 24 = .ok (.getfield 22, 3) := by decide +kernel
theorem d30_27 : decode jdk_68_method_10_code 27 = .ok (.ishl, 1) := by decide +kernel
theorem d30_28 : decode jdk_68_method_10_code 28 = .ok (.iadd, 1) := by decide +kernel
theorem d30_29 : decode jdk_68_method_10_code 29 = .ok (.invokestatic 114, 3) := by decide +kernel
theorem d30_32 : decode jdk_68_method_10_code 32 = .ok (.istore 5, 2) := by decide +kernel
theorem d30_34 : decode jdk_68_method_10_code 34 = .ok (.iload 5, 2) := by decide +kernel
theorem d30_36 : decode jdk_68_method_10_code 36 = .ok (.ldc 39, 2) := by decide +kernel
theorem d30_38 : decode jdk_68_method_10_code 38 = .ok (.if_icmp .ne 13, 3) := by decide +kernel
theorem d30_51 : decode jdk_68_method_10_code 51 = .ok (.iload 5, 2) := by decide +kernel
theorem d30_53 : decode jdk_68_method_10_code 53 = .ok (.aload_n 0, 1) := by decide +kernel
theorem d30_54 : decode jdk_68_method_10_code 54 = .ok (.getfield 22, 3) := by decide +kernel
theorem d30_57 : decode jdk_68_method_10_code 57 = .ok (.ishr, 1) := by decide +kernel
theorem d30_58 : decode jdk_68_method_10_code 58 = .ok (.ireturn, 1) := by decide +kernel
theorem d31_0 : decode jdk_48_method_27_code 0 = .ok (.iload_n 0, 1) := by decide +kernel
theorem d31_1 : decode jdk_48_method_27_code 1 = .ok (.iload_n 1, 1) := by decide +kernel
theorem d31_2 : decode jdk_48_method_27_code 2 = .ok (.iload_n 2, 1) := by decide +kernel
theorem d31_3 : decode jdk_48_method_27_code 3 = .ok (.invokestatic 194, 3) := by decide +kernel
theorem d31_6 : decode jdk_48_method_27_code 6 = .ok (.iadd, 1) := by decide +kernel
theorem d31_7 : decode jdk_48_method_27_code 7 = .ok (.istore_n 3, 1) := by decide +kernel
theorem d31_8 : decode jdk_48_method_27_code 8 = .ok (.iconst 0, 1) := by decide +kernel
theorem d31_9 : decode jdk_48_method_27_code 9 = .ok (.iload_n 3, 1) := by decide +kernel
theorem d31_10 : decode jdk_48_method_27_code 10 = .ok (.if_icmp .ge 11, 3) := by decide +kernel
theorem d31_13 : decode jdk_48_method_27_code 13 = .ok (.iload_n 3, 1) := by decide +kernel
theorem d31_14 : decode jdk_48_method_27_code 14 = .ok (.ldc 200, 2) := by decide +kernel
theorem d31_16 : decode jdk_48_method_27_code 16 = .ok (.if_icmp .gt 5, 3) := by decide +kernel
theorem d31_19 : decode jdk_48_method_27_code 19 = .ok (.iload_n 3, 1) := by decide +kernel
theorem d31_20 : decode jdk_48_method_27_code 20 = .ok (.ireturn, 1) := by decide +kernel
theorem d32_0 : decode jdk_29_method_65_code 0 = .ok (.iload_n 0, 1) := by decide +kernel
theorem d32_1 : decode jdk_29_method_65_code 1 = .ok (.iload_n 1, 1) := by decide +kernel
theorem d32_2 : decode jdk_29_method_65_code 2 = .ok (.if_icmp .lt 7, 3) := by decide +kernel
theorem d32_5 : decode jdk_29_method_65_code 5 = .ok (.iload_n 0, 1) := by decide +kernel
theorem d32_6 : decode jdk_29_method_65_code 6 = .ok (.goto 4, 3) := by decide +kernel
theorem d32_9 : decode jdk_29_method_65_code 9 = .ok (.iload_n 1, 1) := by decide +kernel
theorem d32_10 : decode jdk_29_method_65_code 10 = .ok (.ireturn, 1) := by decide +kernel
theorem d33_0 : decode jdk_65_method_121_code 0 = .ok (.iload_n 1, 1) := by decide +kernel
theorem d33_1 : decode jdk_65_method_121_code 1 = .ok (.aload_n 0, 1) := by decide +kernel
theorem d33_2 : decode jdk_65_method_121_code 2 = .ok (.arraylength, 1) := by decide +kernel
theorem d33_3 : decode jdk_65_method_121_code 3 = .ok (.if_icmp .ne 11, 3) := by decide +kernel
theorem d33_14 : decode jdk_65_method_121_code 14 = .ok (.iload_n 1, 1) := by decide +kernel
theorem d33_15 : decode jdk_65_method_121_code 15 = .ok (.newarray .byte, 2) := by decide +kernel
theorem d33_17 : decode jdk_65_method_121_code 17 = .ok (.astore_n 2, 1) := by decide +kernel
theorem d33_18 : decode jdk_65_method_121_code 18 = .ok (.aload_n 0, 1) := by decide +kernel
theorem d33_19 : decode jdk_65_method_121_code 19 = .ok (.iconst 0, 1) := by decide +kernel
theorem d33_20 : decode jdk_65_method_121_code 20 = .ok (.aload_n 2, 1) := by decide +kernel
theorem d33_21 : decode jdk_65_method_121_code 21 = .ok (.iconst 0, 1) := by decide +kernel
theorem d33_22 : decode jdk_65_method_121_code 22 = .ok (.aload_n 0, 1) := by decide +kernel
theorem d33_23 : decode jdk_65_method_121_code 23 = .ok (.arraylength, 1) := by decide +kernel
theorem d33_24 : decode jdk_65_method_121_code 24 = .ok (.iload_n 1, 1) := by decide +kernel
theorem d33_25 : decode jdk_65_method_121_code 25 = .ok (.invokestatic 304, 3) := by decide +kernel
theorem d33_28 : decode jdk_65_method_121_code 28 = .ok (.invokestatic 150, 3) := by decide +kernel
theorem d33_31 : decode jdk_65_method_121_code 31 = .ok (.aload_n 2, 1) := by decide +kernel
theorem d33_32 : decode jdk_65_method_121_code 32 = .ok (.areturn, 1) := by decide +kernel
theorem d34_0 : decode prog_12_method_8_code 0 = .ok (.iload_n 0, 1) := by decide +kernel
theorem d34_1 : decode prog_12_method_8_code 1 = .ok (.iconst 1, 1) := by decide +kernel
theorem d34_2 : decode prog_12_method_8_code 2 = .ok (.if_icmp .ne 8, 3) := by decide +kernel
theorem d34_5 : decode prog_12_method_8_code 5 = .ok (.ldc 62, 2) := by decide +kernel
theorem d34_7 : decode prog_12_method_8_code 7 = .ok (.goto 22, 3) := by decide +kernel
theorem d34_10 : decode prog_12_method_8_code 10 = .ok (.new 7, 3) := by decide +kernel
theorem d34_13 : decode prog_12_method_8_code 13 = .ok (.dup, 1) := by decide +kernel
theorem d34_14 : decode prog_12_method_8_code 14 = .ok (.invokespecial 9, 3) := by decide +kernel
theorem d34_17 : decode prog_12_method_8_code 17 = .ok (.iload_n 0, 1) := by decide +kernel
theorem d34_18 : decode prog_12_method_8_code 18 = .ok (.invokevirtual 64, 3) := by decide +kernel
theorem d34_21 : decode prog_12_method_8_code 21 = .ok (.ldc 57, 2) := by decide +kernel
theorem d34_23 : decode prog_12_method_8_code 23 = .ok (.invokevirtual 12, 3) := by decide +kernel
theorem d34_26 : decode prog_12_method_8_code 26 = .ok (.invokevirtual 16, 3) := by decide +kernel
theorem d34_29 : decode prog_12_method_8_code 29 = .ok (.areturn, 1) := by decide +kernel
theorem d35_0 : decode jdk_67_method_15_code 0 = .ok (.aload_n 0, 1) := by decide +kernel
theorem d35_1 : decode jdk_67_method_15_code 1 = .ok (.iload_n 1, 1) := by decide +kernel
theorem d35_2 : decode jdk_67_method_15_code 2 = .ok (.invokespecial 53, 3) := by decide +kernel
theorem d35_5 : decode jdk_67_method_15_code 5 = .ok (.pop, 1) := by decide +kernel
theorem d35_6 : decode jdk_67_method_15_code 6 = .ok (.aload_n 0, 1) := by decide +kernel
theorem d35_7 : decode jdk_67_method_15_code 7 = .ok (.areturn, 1) := by decide +kernel
theorem d36_0 : decode jdk_68_method_32_code 0 = .ok (.aload_n 0, 1) := by decide +kernel
theorem d36_1 : decode jdk_68_method_32_code 1 = .ok (.getfield 79, 3) := by decide +kernel
theorem d36_4 : decode jdk_68_method_32_code 4 = .ok (.istore_n 2, 1) := by decide +kernel
theorem d36_5 : decode jdk_68_method_32_code 5 = .ok (.iload_n 2, 1) := by decide +kernel
theorem d36_6 : decode jdk_68_method_32_code 6 = .ok (.iload_n 1, 1) := by decide +kernel
theorem d36_7 : decode jdk_68_method_32_code 7 = .ok (.invokestatic 245, 3) := by decide +kernel
theorem d36_10 : decode jdk_68_method_32_code 10 = .ok (.iadd, 1) := by decide +kernel
theorem d36_11 : decode jdk_68_method_32_code 11 = .ok (.istore_n 3, 1) := by decide +kernel
theorem d36_12 : decode jdk_68_method_32_code 12 = .ok (.aload_n 0, 1) := by decide +kernel
theorem d36_13 : decode jdk_68_method_32_code 13 = .ok (.iload_n 3, 1) := by decide +kernel
theorem d36_14 : decode jdk_68_method_32_code 14 = .ok (.invokevirtual 100, 3) := by decide +kernel
theorem d36_17 : decode jdk_68_method_32_code 17 = .ok (.aload_n 0, 1) := by decide +kernel
theorem d36_18 : decode jdk_68_method_32_code 18 = .ok (.invokevirtual 83, 3) := by decide +kernel
theorem d36_21 : decode jdk_68_method_32_code 21 = .ok (.ifCond .eq 16, 3) := by decide +kernel
theorem d36_24 : decode jdk_68_method_32_code 24 = .ok (.iload_n 1, 1) := by decide +kernel
theorem d36_25 : decode jdk_68_method_32_code 25 = .ok (.iload_n 3, 1) := by decide +kernel
theorem d36_26 : decode jdk_68_method_32_code 26 = .ok (.aload_n 0, 1) := by decide +kernel
theorem d36_27 : decode jdk_68_method_32_code 27 = .ok (.getfield 15, 3) := by decide +kernel
theorem d36_30 : decode jdk_68_method_32_code 30 = .ok (.invokestatic 248, 3) := by decide +kernel
theorem d36_33 : decode jdk_68_method_32_code 33 = .ok (.pop, 1) := by decide +kernel
theorem d36_34 : decode jdk_68_method_32_code 34 = .ok (.goto 14, 3) := by decide +kernel
theorem d36_48 : decode jdk_68_method_32_code 48 = .ok (.aload_n 0, 1) := by decide +kernel
theorem d36_49 : decode jdk_68_method_32_code 49 = .ok (.iload_n 3, 1) := by decide +kernel
theorem d36_50 : decode jdk_68_method_32_code 50 = .ok (.putfield 79, 3) := by decide +kernel
theorem d36_53 : decode jdk_68_method_32_code 53 = .ok (.aload_n 0, 1) := by decide +kernel
theorem d36_54 : decode jdk_68_method_32_code 54 = .ok (.areturn, 1) := by decide +kernel
theorem d37_0 : decode jdk_33_method_13_code 0 = .ok (.iconst 1, 1) := by decide +kernel
theorem d37_1 : decode jdk_33_method_13_code 1 = .ok (.istore_n 1, 1) := by decide +kernel
theorem d37_2 : decode jdk_33_method_13_code 2 = .ok (.iload_n 0, 1) := by decide +kernel
theorem d37_3 : decode jdk_33_method_13_code 3 = .ok (.ifCond .lt 8, 3) := by decide +kernel
theorem d37_6 : decode jdk_33_method_13_code 6 = .ok (.iconst 0, 1) := by decide +kernel
theorem d37_7 : decode jdk_33_method_13_code 7 = .ok (.istore_n 1, 1) := by decide +kernel
theorem d37_8 : decode jdk_33_method_13_code 8 = .ok (.iload_n 0, 1) := by decide +kernel
theorem d37_9 : decode jdk_33_method_13_code 9 = .ok (.ineg, 1) := by decide +kernel
theorem d37_10 : decode jdk_33_method_13_code 10 = .ok (.istore_n 0, 1) := by decide +kernel
theorem d37_11 : decode jdk_33_method_13_code 11 = .ok (.bipush (-10), 2) := by decide +kernel
theorem d37_13 : decode jdk_33_method_13_code 13 = .ok (.istore_n 2, 1) := by decide +kernel
theorem d37_14 : decode jdk_33_method_13_code 14 = .ok (.iconst 1, 1) := by decide +kernel
theorem d37_15 : decode jdk_33_method_13_code 15 = .ok (.istore_n 3, 1) := by decide +kernel
theorem d37_16 : decode jdk_33_method_13_code 16 = .ok (.iload_n 3, 1) := by decide +kernel
theorem d37_17 : decode jdk_33_method_13_code 17 = .ok (.bipush 10, 2) := by decide +kernel
theorem d37_19 : decode jdk_33_method_13_code 19 = .ok (.if_icmp .ge 23, 3) := by decide +kernel
theorem d37_22 : decode jdk_33_method_13_code 22 = .ok (.iload_n 0, 1) := by decide +kernel
theorem d37_23 : decode jdk_33_method_13_code 23 = .ok (.iload_n 2, 1) := by decide +kernel
theorem d37_24 : decode jdk_33_method_13_code 24 = .ok (.if_icmp .le 7, 3) := by decide +kernel
theorem d37_27 : decode jdk_33_method_13_code 27 = .ok (.iload_n 3, 1) := by decide +kernel
theorem d37_28 : decode jdk_33_method_13_code 28 = .ok (.iload_n 1, 1) := by decide +kernel
theorem d37_29 : decode jdk_33_method_13_code 29 = .ok (.iadd, 1) := by decide +kernel
theorem d37_30 : decode jdk_33_method_13_code 30 = .ok (.ireturn, 1) := by decide +kernel
theorem d37_31 : decode jdk_33_method_13_code 31 = .ok (.bipush 10, 2) := by decide +kernel
theorem d37_33 : decode jdk_33_method_13_code 33 = .ok (.iload_n 2, 1) := by decide +kernel
theorem d37_34 : decode jdk_33_method_13_code 34 = .ok (.imul, 1) := by decide +kernel
theorem d37_35 : decode jdk_33_method_13_code 35 = .ok (.istore_n 2, 1) := by decide +kernel
theorem d37_36 : decode jdk_33_method_13_code 36 = .ok (.iinc 3 1, 3) := by decide +kernel
theorem d37_39 : decode jdk_33_method_13_code 39 = .ok (.goto (-23), 3) := by decide +kernel
theorem d37_42 : decode jdk_33_method_13_code 42 = .ok (.bipush 10, 2) := by decide +kernel
theorem d37_44 : decode jdk_33_method_13_code 44 = .ok (.iload_n 1, 1) := by decide +kernel
theorem d37_45 : decode jdk_33_method_13_code 45 = .ok (.iadd, 1) := by decide +kernel
theorem d37_46 : decode jdk_33_method_13_code 46 = .ok (.ireturn, 1) := by decide +kernel
theorem d38_0 : decode jdk_33_method_12_code 0 = .ok (.iload_n 1, 1) := by decide +kernel
theorem d38_1 : decode jdk_33_method_12_code 1 = .ok (.istore 5, 2) := by decide +kernel
theorem d38_3 : decode jdk_33_method_12_code 3 = .ok (.iload_n 0, 1) := by decide +kernel
theorem d38_4 : decode jdk_33_method_12_code 4 = .ok (.ifCond .ge 7, 3) := by decide +kernel
theorem d38_7 : decode jdk_33_method_12_code 7 = .ok (.iconst 1, 1) := by decide +kernel
theorem d38_8 : decode jdk_33_method_12_code 8 = .ok (.goto 4, 3) := by decide +kernel
theorem d38_11 : decode jdk_33_method_12_code 11 = .ok (.iconst 0, 1) := by decide +kernel
theorem d38_12 : decode jdk_33_method_12_code 12 = .ok (.istore 6, 2) := by decide +kernel
theorem d38_14 : decode jdk_33_method_12_code 14 = .ok (.iload 6, 2) := by decide +kernel
theorem d38_16 : decode jdk_33_method_12_code 16 = .ok (.ifCond .ne 6, 3) := by decide +kernel
theorem d38_19 : decode jdk_33_method_12_code 19 = .ok (.iload_n 0, 1) := by decide +kernel
theorem d38_20 : decode jdk_33_method_12_code 20 = .ok (.ineg, 1) := by decide +kernel
theorem d38_21 : decode jdk_33_method_12_code 21 = .ok (.istore_n 0, 1) := by decide +kernel
theorem d38_22 : decode jdk_33_method_12_code 22 = .ok (.iload_n 0, 1) := by decide +kernel
theorem d38_23 : decode jdk_33_method_12_code 23 = .ok (.bipush (-100), 2) := by decide +kernel
theorem d38_25 : decode jdk_33_method_12_code 25 = .ok (.if_icmp .gt 47, 3) := by decide +kernel
theorem d38_28 : decode jdk_33_method_12_code 28 = .ok (.iload_n 0, 1) := by decide +kernel
theorem d38_29 : decode jdk_33_method_12_code 29 = .ok (.bipush 100, 2) := by decide +kernel
theorem d38_31 : decode jdk_33_method_12_code 31 = .ok (.idiv, 1) := by decide +kernel
theorem d38_32 : decode jdk_33_method_12_code 32 = .ok (.istore_n 3, 1) := by decide +kernel
theorem d38_33 : decode jdk_33_method_12_code 33 = .ok (.iload_n 3, 1) := by decide +kernel
theorem d38_34 : decode jdk_33_method_12_code 34 = .ok (.bipush 100, 2) := by decide +kernel
theorem d38_36 : decode jdk_33_method_12_code 36 = .ok (.imul, 1) := by decide +kernel
theorem d38_37 : decode jdk_33_method_12_code 37 = .ok (.iload_n 0, 1) := by decide +kernel
theorem d38_38 : decode jdk_33_method_12_code 38 = .ok (.isub, 1) := by decide +kernel
theorem d38_39 : decode jdk_33_method_12_code 39 = .ok (.istore 4, 2) := by decide +kernel
theorem d38_41 : decode jdk_33_method_12_code 41 = .ok (.iload_n 3, 1) := by decide +kernel
theorem d38_42 : decode jdk_33_method_12_code 42 = .ok (.istore_n 0, 1) := by decide +kernel
theorem d38_43 : decode jdk_33_method_12_code 43 = .ok (.aload_n 2, 1) := by decide +kernel
theorem d38_44 : decode jdk_33_method_12_code 44 = .ok (.iinc 5 (-1), 3) := by decide +kernel
theorem d38_47 : decode jdk_33_method_12_code 47 = .ok (.iload 5, 2) := by decide +kernel
theorem d38_49 : decode jdk_33_method_12_code 49 = .ok (.getstatic 83, 3) := by decide +kernel
theorem d38_52 : decode jdk_33_method_12_code 52 = .ok (.iload 4, 2) := by decide +kernel
theorem d38_54 : decode jdk_33_method_12_code 54 = .ok (.baload, 1) := by decide +kernel
theorem d38_55 : decode jdk_33_method_12_code 55 = .ok (.bastore, 1) := by decide +kernel
theorem d38_56 : decode jdk_33_method_12_code 56 = .ok (.aload_n 2, 1) := by decide +kernel
theorem d38_57 : decode jdk_33_method_12_code 57 = .ok (.iinc 5 (-1), 3) := by decide +kernel
theorem d38_60 : decode jdk_33_method_12_code 60 = .ok (.iload 5, 2) := by decide +kernel
theorem d38_62 : decode jdk_33_method_12_code 62 = .ok (.getstatic 87, 3) := by decide +kernel
theorem d38_65 : decode jdk_33_method_12_code 65 = .ok (.iload 4, 2) := by decide +kernel
theorem d38_67 : decode jdk_33_method_12_code 67 = .ok (.baload, 1) := by decide +kernel
theorem d38_68 : decode jdk_33_method_12_code 68 = .ok (.bastore, 1) := by decide +kernel
theorem d38_69 : decode jdk_33_method_12_code 69 = .ok (.goto (-47), 3) := by decide +kernel
theorem d38_72 : decode jdk_33_method_12_code 72 = .ok (.aload_n 2, 1) := by decide +kernel
theorem d38_73 : decode jdk_33_method_12_code 73 = .ok (.iinc 5 (-1), 3) := by decide +kernel
theorem d38_76 : decode jdk_33_method_12_code 76 = .ok (.iload 5, 2) := by decide +kernel
theorem d38_78 : decode jdk_33_method_12_code 78 = .ok (.getstatic 83, 3) := by decide +kernel
theorem d38_81 : decode jdk_33_method_12_code 81 = .ok (.iload_n 0, 1) := by decide +kernel
theorem d38_82 : decode jdk_33_method_12_code 82 = .ok (.ineg, 1) := by decide +kernel
theorem d38_83 : decode jdk_33_method_12_code 83 = .ok (.baload, 1) := by decide +kernel
theorem d38_84 : decode jdk_33_method_12_code 84 = .ok (.bastore, 1) := by decide +kernel
theorem d38_85 : decode jdk_33_method_12_code 85 = .ok (.iload_n 0, 1) := by decide +kernel
theorem d38_86 : decode jdk_33_method_12_code 86 = .ok (.bipush (-9), 2) := by decide +kernel
theorem d38_88 : decode jdk_33_method_12_code 88 = .ok (.if_icmp .ge 16, 3) := by decide +kernel
theorem d38_91 : decode jdk_33_method_12_code 91 = .ok (.aload_n 2, 1) := by decide +kernel
theorem d38_92 : decode jdk_33_method_12_code 92 = .ok (.iinc 5 (-1), 3) := by decide +kernel
theorem d38_95 : decode jdk_33_method_12_code 95 = .ok (.iload 5, 2) := by decide +kernel
theorem d38_97 : decode jdk_33_method_12_code 97 = .ok (.getstatic 87, 3) := by decide +kernel
theorem d38_100 : decode jdk_33_method_12_code 100 = .ok (.iload_n 0, 1) := by decide +kernel
theorem d38_101 : decode jdk_33_method_12_code 101 = .ok (.ineg, 1) := by decide +kernel
theorem d38_102 : decode jdk_33_method_12_code 102 = .ok (.baload, 1) := by decide +kernel
theorem d38_103 : decode jdk_33_method_12_code 103 = .ok (.bastore, 1) := by decide +kernel
theorem d38_104 : decode jdk_33_method_12_code 104 = .ok (.iload 6, 2) := by decide +kernel
theorem d38_106 : decode jdk_33_method_12_code 106 = .ok (.ifCond .eq 12, 3) := by decide +kernel
theorem d38_109 : decode jdk_33_method_12_code 109 = .ok (.aload_n 2, 1) := by decide +kernel
theorem d38_110 : decode jdk_33_method_12_code 110 = .ok (.iinc 5 (-1), 3) := by decide +kernel
theorem d38_113 : decode jdk_33_method_12_code 113 = .ok (.iload 5, 2) := by decide +kernel
theorem d38_115 : decode jdk_33_method_12_code 115 = .ok (.bipush 45, 2) := by decide +kernel
theorem d38_117 : decode jdk_33_method_12_code 117 = .ok (.bastore, 1) := by decide +kernel
theorem d38_118 : decode jdk_33_method_12_code 118 = .ok (.iload 5, 2) := by decide +kernel
theorem d38_120 : decode jdk_33_method_12_code 120 = .ok (.ireturn, 1) := by decide +kernel
theorem d39_0 : decode method_5_code 0 = .ok (.iload_n 2, 1) := by decide +kernel
theorem d39_1 : decode method_5_code 1 = .ok (.iconst 1, 1) := by decide +kernel
theorem d39_2 : decode method_5_code 2 = .ok (.if_icmp .ne 5, 3) := by decide +kernel
theorem d39_5 : decode method_5_code 5 = .ok (.iload_n 1, 1) := by decide +kernel
theorem d39_6 : decode method_5_code 6 = .ok (.ireturn, 1) := by decide +kernel
theorem d39_7 : decode method_5_code 7 = .ok (.iload_n 1, 1) := by decide +kernel
theorem d39_8 : decode method_5_code 8 = .ok (.istore_n 3, 1) := by decide +kernel
theorem d39_9 : decode method_5_code 9 = .ok (.iload_n 2, 1) := by decide +kernel
theorem d39_10 : decode method_5_code 10 = .ok (.i2l, 1) := by decide +kernel
theorem d39_11 : decode method_5_code 11 = .ok (.lstore 4, 2) := by decide +kernel
theorem d39_13 : decode method_5_code 13 = .ok (.lload 4, 2) := by decide +kernel
theorem d39_15 : decode method_5_code 15 = .ok (.lconst 0, 1) := by decide +kernel
theorem d39_16 : decode method_5_code 16 = .ok (.lcmp, 1) := by decide +kernel
theorem d39_17 : decode method_5_code 17 = .ok (.ifCond .ge 16, 3) := by decide +kernel
theorem d39_20 : decode method_5_code 20 = .ok (.aload_n 0, 1) := by decide +kernel
theorem d39_21 : decode method_5_code 21 = .ok (.iload_n 3, 1) := by decide +kernel
theorem d39_22 : decode method_5_code 22 = .ok (.iinc 3 1, 3) := by decide +kernel
theorem d39_25 : decode method_5_code 25 = .ok (.bipush 45, 2) := by decide +kernel
theorem d39_27 : decode method_5_code 27 = .ok (.castore, 1) := by decide +kernel
theorem d39_28 : decode method_5_code 28 = .ok (.lload 4, 2) := by decide +kernel
theorem d39_30 : decode method_5_code 30 = .ok (.lneg, 1) := by decide +kernel
theorem d39_31 : decode method_5_code 31 = .ok (.lstore 4, 2) := by decide +kernel
theorem d39_33 : decode method_5_code 33 = .ok (.lload 4, 2) := by decide +kernel
theorem d39_35 : decode method_5_code 35 = .ok (.ldc2_w 43, 3) := by decide +kernel
theorem d39_38 : decode method_5_code 38 = .ok (.lcmp, 1) := by decide +kernel
theorem d39_39 : decode method_5_code 39 = .ok (.ifCond .ge 7, 3) := by decide +kernel
theorem d39_42 : decode method_5_code 42 = .ok (.iconst 1, 1) := by decide +kernel
theorem d39_43 : decode method_5_code 43 = .ok (.goto 113, 3) := by decide +kernel
theorem d39_46 : decode method_5_code 46 = .ok (.lload 4, 2) := by decide +kernel
theorem d39_48 : decode method_5_code 48 = .ok (.ldc2_w 45, 3) := by decide +kernel
theorem d39_51 : decode method_5_code 51 = .ok (.lcmp, 1) := by decide +kernel
theorem d39_52 : decode method_5_code 52 = .ok (.ifCond .ge 7, 3) := by decide +kernel
theorem d39_55 : decode method_5_code 55 = .ok (.iconst 2, 1) := by decide +kernel
theorem d39_56 : decode method_5_code 56 = .ok (.goto 100, 3) := by decide +kernel
theorem d39_59 : decode method_5_code 59 = .ok (.lload 4, 2) := by decide +kernel
theorem d39_61 : decode method_5_code 61 = .ok (.ldc2_w 47, 3) := by decide +kernel
theorem d39_64 : decode method_5_code 64 = .ok (.lcmp, 1) := by decide +kernel
theorem d39_65 : decode method_5_code 65 = .ok (.ifCond .ge 7, 3) := by decide +kernel
theorem d39_68 : decode method_5_code 68 = .ok (.iconst 3, 1) := by decide +kernel
theorem d39_69 : decode method_5_code 69 = .ok (.goto 87, 3) := by decide +kernel
theorem d39_72 : decode method_5_code 72 = .ok (.lload 4, 2) := by decide +kernel
theorem d39_74 : decode method_5_code 74 = .ok (.ldc2_w 49, 3) := by decide +kernel
theorem d39_77 : decode method_5_code 77 = .ok (.lcmp, 1) := by decide +kernel
theorem d39_78 : decode method_5_code 78 = .ok (.ifCond .ge 7, 3) := by decide +kernel
theorem d39_81 : decode method_5_code 81 = .ok (.iconst 4, 1) := by decide +kernel
theorem d39_82 : decode method_5_code 82 = .ok (.goto 74, 3) := by decide +kernel
theorem d39_85 : decode method_5_code 85 = .ok (.lload 4, 2) := by decide +kernel
theorem d39_87 : decode method_5_code 87 = .ok (.ldc2_w 51, 3) := by decide +kernel
theorem d39_90 : decode method_5_code 90 = .ok (.lcmp, 1) := by decide +kernel
theorem d39_91 : decode method_5_code 91 = .ok (.ifCond .ge 7, 3) := by decide +kernel
theorem d39_94 : decode method_5_code 94 = .ok (.iconst 5, 1) := by decide +kernel
theorem d39_95 : decode method_5_code 95 = .ok (.goto 61, 3) := by decide +kernel
theorem d39_98 : decode method_5_code 98 = .ok (.lload 4, 2) := by decide +kernel
theorem d39_100 : decode method_5_code 100 = .ok (.ldc2_w 53, 3) := by decide +kernel
theorem d39_103 : decode method_5_code 103 = .ok (.lcmp, 1) := by decide +kernel
theorem d39_104 : decode method_5_code 104 = .ok (.ifCond .ge 8, 3) := by decide +kernel
theorem d39_107 : decode method_5_code 107 = .ok (.bipush 6, 2) := by decide +kernel
theorem d39_109 : decode method_5_code 109 = .ok (.goto 47, 3) := by decide +kernel
theorem d39_112 : decode method_5_code 112 = .ok (.lload 4, 2) := by decide +kernel
theorem d39_114 : decode method_5_code 114 = .ok (.ldc2_w 55, 3) := by decide +kernel
theorem d39_117 : decode method_5_code 117 = .ok (.lcmp, 1) := by decide +kernel
theorem d39_118 : decode method_5_code 118 = .ok (.ifCond .ge 8, 3) := by decide +kernel
theorem d39_121 : decode method_5_code 121 = .ok (.bipush 7, 2) := by decide +kernel
theorem d39_123 : decode method_5_code 123 = .ok (.goto 33, 3) := by decide +kernel
theorem d39_126 : decode method_5_code 126 = .ok (.lload 4, 2) := by decide +kernel
theorem d39_128 : decode method_5_code 128 = .ok (.ldc2_w 57, 3) := by decide +kernel
theorem d39_131 : decode method_5_code 131 = .ok (.lcmp, 1) := by decide +kernel
theorem d39_132 : decode method_5_code 132 = .ok (.ifCond .ge 8, 3) := by decide +kernel
theorem d39_135 : decode method_5_code 135 = .ok (.bipush 8, 2) := by decide +kernel
theorem d39_137 : decode method_5_code 137 = .ok (.goto 19, 3) := by decide +kernel
theorem d39_140 : decode method_5_code 140 = .ok (.lload 4, 2) := by decide +kernel
theorem d39_142 : decode method_5_code 142 = .ok (.ldc2_w 59, 3) := by decide +kernel
theorem d39_145 : decode method_5_code 145 = .ok (.lcmp, 1) := by decide +kernel
theorem d39_146 : decode method_5_code 146 = .ok (.ifCond .ge 8, 3) := by decide +kernel
theorem d39_149 : decode method_5_code 149 = .ok (.bipush 9, 2) := by decide +kernel
theorem d39_151 : decode method_5_code 151 = .ok (.goto 5, 3) := by decide +kernel
theorem d39_154 : decode method_5_code 154 = .ok (.bipush 10, 2) := by decide +kernel
theorem d39_156 : decode method_5_code 156 = .ok (.istore 6, 2) := by decide +kernel
theorem d39_158 : decode method_5_code 158 = .ok (.iload 6, 2) := by decide +kernel
theorem d39_160 : decode method_5_code 160 = .ok (.bipush 10, 2) := by decide +kernel
theorem d39_162 : decode method_5_code 162 = .ok (.if_icmp .lt 17, 3) := by decide +kernel
theorem d39_165 : decode method_5_code 165 = .ok (.aload_n 0, 1) := by decide +kernel
theorem d39_166 : decode method_5_code 166 = .ok (.iload_n 3, 1) := by decide +kernel
theorem d39_167 : decode method_5_code 167 = .ok (.iinc 3 1, 3) := by decide +kernel
theorem d39_170 : decode method_5_code 170 = .ok (.lload 4, 2) := by decide +kernel
theorem d39_172 : decode method_5_code 172 = .ok (.ldc2_w 59, 3) := by decide +kernel
theorem d39_175 : decode method_5_code 175 = .ok (.invokestatic 61, 3) := by decide +kernel
theorem d39_178 : decode method_5_code 178 = .ok (.castore, 1) := by decide +kernel
theorem d39_179 : decode method_5_code 179 = .ok (.iload 6, 2) := by decide +kernel
theorem d39_181 : decode method_5_code 181 = .ok (.bipush 9, 2) := by decide +kernel
theorem d39_183 : decode method_5_code 183 = .ok (.if_icmp .lt 17, 3) := by decide +kernel
theorem d39_186 : decode method_5_code 186 = .ok (.aload_n 0, 1) := by decide +kernel
theorem d39_187 : decode method_5_code 187 = .ok (.iload_n 3, 1) := by decide +kernel
theorem d39_188 : decode method_5_code 188 = .ok (.iinc 3 1, 3) := by decide +kernel
theorem d39_191 : decode method_5_code 191 = .ok (.lload 4, 2) := by decide +kernel
theorem d39_193 : decode method_5_code 193 = .ok (.ldc2_w 57, 3) := by decide +kernel
theorem d39_196 : decode method_5_code 196 = .ok (.invokestatic 61, 3) := by decide +kernel
theorem d39_199 : decode method_5_code 199 = .ok (.castore, 1) := by decide +kernel
theorem d39_200 : decode method_5_code 200 = .ok (.iload 6, 2) := by decide +kernel
theorem d39_202 : decode method_5_code 202 = .ok (.bipush 8, 2) := by decide +kernel
theorem d39_204 : decode method_5_code 204 = .ok (.if_icmp .lt 17, 3) := by decide +kernel
theorem d39_207 : decode method_5_code 207 = .ok (.aload_n 0, 1) := by decide +kernel
theorem d39_208 : decode method_5_code 208 = .ok (.iload_n 3, 1) := by decide +kernel
theorem d39_209 : decode method_5_code 209 = .ok (.iinc 3 1, 3) := by decide +kernel
theorem d39_212 : decode method_5_code 212 = .ok (.lload 4, 2) := by decide +kernel
theorem d39_214 : decode method_5_code 214 = .ok (.ldc2_w 55, 3) := by decide +kernel
theorem d39_217 : decode method_5_code 217 = .ok (.invokestatic 61, 3) := by decide +kernel
theorem d39_220 : decode method_5_code 220 = .ok (.castore, 1) := by decide +kernel
theorem d39_221 : decode method_5_code 221 = .ok (.iload 6, 2) := by decide +kernel
theorem d39_223 : decode method_5_code 223 = .ok (.bipush 7, 2) := by decide +kernel
theorem d39_225 : decode method_5_code 225 = .ok (.if_icmp .lt 17, 3) := by decide +kernel
theorem d39_228 : decode method_5_code 228 = .ok (.aload_n 0, 1) := by decide +kernel
theorem d39_229 : decode method_5_code 229 = .ok (.iload_n 3, 1) := by decide +kernel
theorem d39_230 : decode method_5_code 230 = .ok (.iinc 3 1, 3) := by decide +kernel
theorem d39_233 : decode method_5_code 233 = .ok (.lload 4, 2) := by decide +kernel
theorem d39_235 : decode method_5_code 235 = .ok (.ldc2_w 53, 3) := by decide +kernel
theorem d39_238 : decode method_5_code 238 = .ok (.invokestatic 61, 3) := by decide +kernel
theorem d39_241 : decode method_5_code 241 = .ok (.castore, 1) := by decide +kernel
theorem d39_242 : decode method_5_code 242 = .ok (.iload 6, 2) := by decide +kernel
theorem d39_244 : decode method_5_code 244 = .ok (.bipush 6, 2) := by decide +kernel
theorem d39_246 : decode method_5_code 246 = .ok (.if_icmp .lt 17, 3) := by decide +kernel
theorem d39_249 : decode method_5_code 249 = .ok (.aload_n 0, 1) := by decide +kernel
theorem d39_250 : decode method_5_code 250 = .ok (.iload_n 3, 1) := by decide +kernel
theorem d39_251 : decode method_5_code 251 = .ok (.iinc 3 1, 3) := by decide +kernel
theorem d39_254 : decode method_5_code 254 = .ok (.lload 4, 2) := by decide +kernel
theorem d39_256 : decode method_5_code 256 = .ok (.ldc2_w 51, 3) := by decide +kernel
theorem d39_259 : decode method_5_code 259 = .ok (.invokestatic 61, 3) := by decide +kernel
theorem d39_262 : decode method_5_code 262 = .ok (.castore, 1) := by decide +kernel
theorem d39_263 : decode method_5_code 263 = .ok (.iload 6, 2) := by decide +kernel
theorem d39_265 : decode method_5_code 265 = .ok (.iconst 5, 1) := by decide +kernel
theorem d39_266 : decode method_5_code 266 = .ok (.if_icmp .lt 17, 3) := by decide +kernel
theorem d39_269 : decode method_5_code 269 = .ok (.aload_n 0, 1) := by decide +kernel
theorem d39_270 : decode method_5_code 270 = .ok (.iload_n 3, 1) := by decide +kernel
theorem d39_271 : decode method_5_code 271 = .ok (.iinc 3 1, 3) := by decide +kernel
theorem d39_274 : decode method_5_code 274 = .ok (.lload 4, 2) := by decide +kernel
theorem d39_276 : decode method_5_code 276 = .ok (.ldc2_w 49, 3) := by decide +kernel
theorem d39_279 : decode method_5_code 279 = .ok (.invokestatic 61, 3) := by decide +kernel
theorem d39_282 : decode method_5_code 282 = .ok (.castore, 1) := by decide +kernel
theorem d39_283 : decode method_5_code 283 = .ok (.iload 6, 2) := by decide +kernel
theorem d39_285 : decode method_5_code 285 = .ok (.iconst 4, 1) := by decide +kernel
theorem d39_286 : decode method_5_code 286 = .ok (.if_icmp .lt 17, 3) := by decide +kernel
theorem d39_289 : decode method_5_code 289 = .ok (.aload_n 0, 1) := by decide +kernel
theorem d39_290 : decode method_5_code 290 = .ok (.iload_n 3, 1) := by decide +kernel
theorem d39_291 : decode method_5_code 291 = .ok (.iinc 3 1, 3) := by decide +kernel
theorem d39_294 : decode method_5_code 294 = .ok (.lload 4, 2) := by decide +kernel
theorem d39_296 : decode method_5_code 296 = .ok (.ldc2_w 47, 3) := by decide +kernel
theorem d39_299 : decode method_5_code 299 = .ok (.invokestatic 61, 3) := by decide +kernel
theorem d39_302 : decode method_5_code 302 = .ok (.castore, 1) := by decide +kernel
theorem d39_303 : decode method_5_code 303 = .ok (.iload 6, 2) := by decide +kernel
theorem d39_305 : decode method_5_code 305 = .ok (.iconst 3, 1) := by decide +kernel
theorem d39_306 : decode method_5_code 306 = .ok (.if_icmp .lt 17, 3) := by decide +kernel
theorem d39_309 : decode method_5_code 309 = .ok (.aload_n 0, 1) := by decide +kernel
theorem d39_310 : decode method_5_code 310 = .ok (.iload_n 3, 1) := by decide +kernel
theorem d39_311 : decode method_5_code 311 = .ok (.iinc 3 1, 3) := by decide +kernel
theorem d39_314 : decode method_5_code 314 = .ok (.lload 4, 2) := by decide +kernel
theorem d39_316 : decode method_5_code 316 = .ok (.ldc2_w 45, 3) := by decide +kernel
theorem d39_319 : decode method_5_code 319 = .ok (.invokestatic 61, 3) := by decide +kernel
theorem d39_322 : decode method_5_code 322 = .ok (.castore, 1) := by decide +kernel
theorem d39_323 : decode method_5_code 323 = .ok (.iload 6, 2) := by decide +kernel
theorem d39_325 : decode method_5_code 325 = .ok (.iconst 2, 1) := by decide +kernel
theorem d39_326 : decode method_5_code 326 = .ok (.if_icmp .lt 17, 3) := by decide +kernel
theorem d39_329 : decode method_5_code 329 = .ok (.aload_n 0, 1) := by decide +kernel
theorem d39_330 : decode method_5_code 330 = .ok (.iload_n 3, 1) := by decide +kernel
theorem d39_331 : decode method_5_code 331 = .ok (.iinc 3 1, 3) := by decide +kernel
theorem d39_334 : decode method_5_code 334 = .ok (.lload 4, 2) := by decide +kernel
theorem d39_336 : decode method_5_code 336 = .ok (.ldc2_w 43, 3) := by decide +kernel
theorem d39_339 : decode method_5_code 339 = .ok (.invokestatic 61, 3) := by decide +kernel
theorem d39_342 : decode method_5_code 342 = .ok (.castore, 1) := by decide +kernel
theorem d39_343 : decode method_5_code 343 = .ok (.aload_n 0, 1) := by decide +kernel
theorem d39_344 : decode method_5_code 344 = .ok (.iload_n 3, 1) := by decide +kernel
theorem d39_345 : decode method_5_code 345 = .ok (.iinc 3 1, 3) := by decide +kernel
theorem d39_348 : decode method_5_code 348 = .ok (.lload 4, 2) := by decide +kernel
theorem d39_350 : decode method_5_code 350 = .ok (.lconst 1, 1) := by decide +kernel
theorem d39_351 : decode method_5_code 351 = .ok (.invokestatic 61, 3) := by decide +kernel
theorem d39_354 : decode method_5_code 354 = .ok (.castore, 1) := by decide +kernel
theorem d39_355 : decode method_5_code 355 = .ok (.aload_n 0, 1) := by decide +kernel
theorem d39_356 : decode method_5_code 356 = .ok (.iload_n 3, 1) := by decide +kernel
theorem d39_357 : decode method_5_code 357 = .ok (.iinc 3 1, 3) := by decide +kernel
theorem d39_360 : decode method_5_code 360 = .ok (.bipush 47, 2) := by decide +kernel
theorem d39_362 : decode method_5_code 362 = .ok (.castore, 1) := by decide +kernel
theorem d39_363 : decode method_5_code 363 = .ok (.iload_n 3, 1) := by decide +kernel
theorem d39_364 : decode method_5_code 364 = .ok (.ireturn, 1) := by decide +kernel
theorem d40_0 : decode method_4_code 0 = .ok (.bipush 48, 2) := by decide +kernel
theorem d40_2 : decode method_4_code 2 = .ok (.lload_n 0, 1) := by decide +kernel
theorem d40_3 : decode method_4_code 3 = .ok (.lload_n 2, 1) := by decide +kernel
theorem d40_4 : decode method_4_code 4 = .ok (.ldiv, 1) := by decide +kernel
theorem d40_5 : decode method_4_code 5 = .ok (.ldc2_w 43, 3) := by decide +kernel
theorem d40_8 : decode method_4_code 8 = .ok (.lrem, 1) := by decide +kernel
theorem d40_9 : decode method_4_code 9 = .ok (.l2i, 1) := by decide +kernel
theorem d40_10 : decode method_4_code 10 = .ok (.iadd, 1) := by decide +kernel
theorem d40_11 : decode method_4_code 11 = .ok (.i2c, 1) := by decide +kernel
theorem d40_12 : decode method_4_code 12 = .ok (.ireturn, 1) := by decide +kernel
theorem d41_0 : decode method_3_code 0 = .ok (.iload_n 2, 1) := by decide +kernel
theorem d41_1 : decode method_3_code 1 = .ok (.aload_n 0, 1) := by decide +kernel
theorem d41_2 : decode method_3_code 2 = .ok (.invokevirtual 31, 3) := by decide +kernel
theorem d41_5 : decode method_3_code 5 = .ok (.if_icmp .ge 14, 3) := by decide +kernel
theorem d41_8 : decode method_3_code 8 = .ok (.aload_n 0, 1) := by decide +kernel
theorem d41_9 : decode method_3_code 9 = .ok (.iload_n 2, 1) := by decide +kernel
theorem d41_10 : decode method_3_code 10 = .ok (.invokevirtual 39, 3) := by decide +kernel
theorem d41_13 : decode method_3_code 13 = .ok (.aload_n 1, 1) := by decide +kernel
theorem d41_14 : decode method_3_code 14 = .ok (.iload_n 2, 1) := by decide +kernel
theorem d41_15 : decode method_3_code 15 = .ok (.caload, 1) := by decide +kernel
theorem d41_16 : decode method_3_code 16 = .ok (.if_icmp .ne 7, 3) := by decide +kernel
theorem d41_19 : decode method_3_code 19 = .ok (.iconst 1, 1) := by decide +kernel
theorem d41_20 : decode method_3_code 20 = .ok (.goto 4, 3) := by decide +kernel
theorem d41_24 : decode method_3_code 24 = .ok (.ireturn, 1) := by decide +kernel
theorem d42_0 : decode jdk_42_method_56_code 0 = .ok (.aload_n 0, 1) := by decide +kernel
theorem d42_1 : decode jdk_42_method_56_code 1 = .ok (.invokevirtual 492, 3) := by decide +kernel
theorem d42_4 : decode jdk_42_method_56_code 4 = .ok (.ifCond .eq 12, 3) := by decide +kernel
theorem d42_7 : decode jdk_42_method_56_code 7 = .ok (.aload_n 0, 1) := by decide +kernel
theorem d42_8 : decode jdk_42_method_56_code 8 = .ok (.getfield 9, 3) := by decide +kernel
theorem d42_11 : decode jdk_42_method_56_code 11 = .ok (.iload_n 1, 1) := by decide +kernel
theorem d42_12 : decode jdk_42_method_56_code 12 = .ok (.invokestatic 495, 3) := by decide +kernel
theorem d42_15 : decode jdk_42_method_56_code 15 = .ok (.ireturn, 1) := by decide +kernel
theorem d43_0 : decode jdk_42_method_154_code 0 = .ok (.getstatic 38, 3) := by decide +kernel
theorem d43_3 : decode jdk_42_method_154_code 3 = .ok (.ifCond .eq 14, 3) := by decide +kernel
theorem d43_6 : decode jdk_42_method_154_code 6 = .ok (.aload_n 0, 1) := by decide +kernel
theorem d43_7 : decode jdk_42_method_154_code 7 = .ok (.getfield 15, 3) := by decide +kernel
theorem d43_10 : decode jdk_42_method_154_code 10 = .ok (.ifCond .ne 7, 3) := by decide +kernel
theorem d43_13 : decode jdk_42_method_154_code 13 = .ok (.iconst 1, 1) := by decide +kernel
theorem d43_14 : decode jdk_42_method_154_code 14 = .ok (.goto 4, 3) := by decide +kernel
theorem d43_18 : decode jdk_42_method_154_code 18 = .ok (.ireturn, 1) := by decide +kernel
theorem d44_0 : decode jdk_43_method_2_code 0 = .ok (.iload_n 1, 1) := by decide +kernel
theorem d44_1 : decode jdk_43_method_2_code 1 = .ok (.aload_n 0, 1) := by decide +kernel
theorem d44_2 : decode jdk_43_method_2_code 2 = .ok (.arraylength, 1) := by decide +kernel
theorem d44_3 : decode jdk_43_method_2_code 3 = .ok (.invokestatic 9, 3) := by decide +kernel
theorem d44_6 : decode jdk_43_method_2_code 6 = .ok (.aload_n 0, 1) := by decide +kernel
theorem d44_7 : decode jdk_43_method_2_code 7 = .ok (.iload_n 1, 1) := by decide +kernel
theorem d44_8 : decode jdk_43_method_2_code 8 = .ok (.baload, 1) := by decide +kernel
theorem d44_9 : decode jdk_43_method_2_code 9 = .ok (.sipush 255, 3) := by decide +kernel
theorem d44_12 : decode jdk_43_method_2_code 12 = .ok (.iand, 1) := by decide +kernel
theorem d44_13 : decode jdk_43_method_2_code 13 = .ok (.i2c, 1) := by decide +kernel
theorem d44_14 : decode jdk_43_method_2_code 14 = .ok (.ireturn, 1) := by decide +kernel
theorem d45_0 : decode jdk_42_method_155_code 0 = .ok (.iload_n 0, 1) := by decide +kernel
theorem d45_1 : decode jdk_42_method_155_code 1 = .ok (.iload_n 1, 1) := by decide +kernel
theorem d45_2 : decode jdk_42_method_155_code 2 = .ok (.getstatic 1053, 3) := by decide +kernel
theorem d45_5 : decode jdk_42_method_155_code 5 = .ok (.invokestatic 1059, 3) := by decide +kernel
theorem d45_8 : decode jdk_42_method_155_code 8 = .ok (.pop, 1) := by decide +kernel
theorem d45_9 : decode jdk_42_method_155_code 9 = .ok (.return_, 1) := by decide +kernel
theorem d46_0 : decode jdk_41_method_11_code 0 = .ok (.iload_n 0, 1) := by decide +kernel
theorem d46_1 : decode jdk_41_method_11_code 1 = .ok (.ifCond .lt 8, 3) := by decide +kernel
theorem d46_4 : decode jdk_41_method_11_code 4 = .ok (.iload_n 0, 1) := by decide +kernel
theorem d46_5 : decode jdk_41_method_11_code 5 = .ok (.iload_n 1, 1) := by decide +kernel
theorem d46_6 : decode jdk_41_method_11_code 6 = .ok (.if_icmp .lt 10, 3) := by decide +kernel
theorem d46_16 : decode jdk_41_method_11_code 16 = .ok (.iload_n 0, 1) := by decide +kernel
theorem d46_17 : decode jdk_41_method_11_code 17 = .ok (.ireturn, 1) := by decide +kernel
theorem d47_0 : decode jdk_52_method_16_code 0 = .ok (.iload_n 2, 1) := by decide +kernel
theorem d47_1 : decode jdk_52_method_16_code 1 = .ok (.newarray .byte, 2) := by decide +kernel
theorem d47_3 : decode jdk_52_method_16_code 3 = .ok (.astore_n 3, 1) := by decide +kernel
theorem d47_4 : decode jdk_52_method_16_code 4 = .ok (.aload_n 0, 1) := by decide +kernel
theorem d47_5 : decode jdk_52_method_16_code 5 = .ok (.iload_n 1, 1) := by decide +kernel
theorem d47_6 : decode jdk_52_method_16_code 6 = .ok (.aload_n 3, 1) := by decide +kernel
theorem d47_7 : decode jdk_52_method_16_code 7 = .ok (.iconst 0, 1) := by decide +kernel
theorem d47_8 : decode jdk_52_method_16_code 8 = .ok (.iload_n 2, 1) := by decide +kernel
theorem d47_9 : decode jdk_52_method_16_code 9 = .ok (.invokestatic 115, 3) := by decide +kernel
theorem d47_12 : decode jdk_52_method_16_code 12 = .ok (.istore 4, 2) := by decide +kernel
theorem d47_14 : decode jdk_52_method_16_code 14 = .ok (.iload 4, 2) := by decide +kernel
theorem d47_16 : decode jdk_52_method_16_code 16 = .ok (.iload_n 2, 1) := by decide +kernel
theorem d47_17 : decode jdk_52_method_16_code 17 = .ok (.if_icmp .eq 40, 3) := by decide +kernel
theorem d47_57 : decode jdk_52_method_16_code 57 = .ok (.aload_n 3, 1) := by decide +kernel
theorem d47_58 : decode jdk_52_method_16_code 58 = .ok (.areturn, 1) := by decide +kernel
theorem d48_0 : decode jdk_52_method_21_code 0 = .ok (.iconst 0, 1) := by decide +kernel
theorem d48_1 : decode jdk_52_method_21_code 1 = .ok (.istore 5, 2) := by decide +kernel
theorem d48_3 : decode jdk_52_method_21_code 3 = .ok (.iload 5, 2) := by decide +kernel
theorem d48_5 : decode jdk_52_method_21_code 5 = .ok (.iload 4, 2) := by decide +kernel
theorem d48_7 : decode jdk_52_method_21_code 7 = .ok (.if_icmp .ge 37, 3) := by decide +kernel
theorem d48_10 : decode jdk_52_method_21_code 10 = .ok (.aload_n 0, 1) := by decide +kernel
theorem d48_11 : decode jdk_52_method_21_code 11 = .ok (.iload_n 1, 1) := by decide +kernel
theorem d48_12 : decode jdk_52_method_21_code 12 = .ok (.caload, 1) := by decide +kernel
theorem d48_13 : decode jdk_52_method_21_code 13 = .ok (.istore 6, 2) := by decide +kernel
theorem d48_15 : decode jdk_52_method_21_code 15 = .ok (.iload 6, 2) := by decide +kernel
theorem d48_17 : decode jdk_52_method_21_code 17 = .ok (.sipush 255, 3) := by decide +kernel
theorem d48_20 : decode jdk_52_method_21_code 20 = .ok (.if_icmp .le 6, 3) := by decide +kernel
theorem d48_26 : decode jdk_52_method_21_code 26 = .ok (.aload_n 2, 1) := by decide +kernel
theorem d48_27 : decode jdk_52_method_21_code 27 = .ok (.iload_n 3, 1) := by decide +kernel
theorem d48_28 : decode jdk_52_method_21_code 28 = .ok (.iload 6, 2) := by decide +kernel
theorem d48_30 : decode jdk_52_method_21_code 30 = .ok (.i2b, 1) := by decide +kernel
theorem d48_31 : decode jdk_52_method_21_code 31 = .ok (.bastore, 1) := by decide +kernel
theorem d48_32 : decode jdk_52_method_21_code 32 = .ok (.iinc 1 1, 3) := by decide +kernel
theorem d48_35 : decode jdk_52_method_21_code 35 = .ok (.iinc 3 1, 3) := by decide +kernel
theorem d48_38 : decode jdk_52_method_21_code 38 = .ok (.iinc 5 1, 3) := by decide +kernel
theorem d48_41 : decode jdk_52_method_21_code 41 = .ok (.goto (-38), 3) := by decide +kernel
theorem d48_44 : decode jdk_52_method_21_code 44 = .ok (.iload 4, 2) := by decide +kernel
theorem d48_46 : decode jdk_52_method_21_code 46 = .ok (.ireturn, 1) := by decide +kernel
theorem d49_0 : decode jdk_52_method_15_code 0 = .ok (.iload_n 1, 1) := by decide +kernel
theorem d49_1 : decode jdk_52_method_15_code 1 = .ok (.aload_n 0, 1) := by decide +kernel
theorem d49_2 : decode jdk_52_method_15_code 2 = .ok (.arraylength, 1) := by decide +kernel
theorem d49_3 : decode jdk_52_method_15_code 3 = .ok (.isub, 1) := by decide +kernel
theorem d49_4 : decode jdk_52_method_15_code 4 = .ok (.bipush 31, 2) := by decide +kernel
theorem d49_6 : decode jdk_52_method_15_code 6 = .ok (.iushr, 1) := by decide +kernel
theorem d49_7 : decode jdk_52_method_15_code 7 = .ok (.i2b, 1) := by decide +kernel
theorem d49_8 : decode jdk_52_method_15_code 8 = .ok (.ireturn, 1) := by decide +kernel
theorem pd_0 : parseMethodDescriptor "()V" = some ⟨[], none⟩ := by decide +kernel
theorem pd_1 : parseMethodDescriptor "(I)Ljava/lang/StringBuilder;" = some ⟨[.int], (some (.object "java/lang/StringBuilder"))⟩ := by decide +kernel
theorem pd_2 : parseMethodDescriptor "(Ljava/lang/String;)Ljava/lang/StringBuilder;" = some ⟨[(.object "java/lang/String")], (some (.object "java/lang/StringBuilder"))⟩ := by decide +kernel
theorem pd_3 : parseMethodDescriptor "()Ljava/lang/String;" = some ⟨[], (some (.object "java/lang/String"))⟩ := by decide +kernel
theorem pd_4 : parseMethodDescriptor "(I)Ljava/lang/String;" = some ⟨[.int], (some (.object "java/lang/String"))⟩ := by decide +kernel
theorem pd_5 : parseMethodDescriptor "()B" = some ⟨[], (some .byte)⟩ := by decide +kernel
theorem pd_6 : parseMethodDescriptor "([CI[BII)I" = some ⟨[(.array .char), .int, (.array .byte), .int, .int], (some .int)⟩ := by decide +kernel
theorem pd_7 : parseMethodDescriptor "([CII)[B" = some ⟨[(.array .char), .int, .int], (some (.array .byte))⟩ := by decide +kernel
theorem pd_8 : parseMethodDescriptor "([BI)B" = some ⟨[(.array .byte), .int], (some .byte)⟩ := by decide +kernel
theorem pd_9 : parseMethodDescriptor "([CIILjava/lang/Void;)V" = some ⟨[(.array .char), .int, .int, (.object "java/lang/Void")], none⟩ := by decide +kernel
theorem pd_10 : parseMethodDescriptor "(C)Z" = some ⟨[.char], (some .boolean)⟩ := by decide +kernel
theorem pd_11 : parseMethodDescriptor "(C)[B" = some ⟨[.char], (some (.array .byte))⟩ := by decide +kernel
theorem pd_12 : parseMethodDescriptor "([BB)V" = some ⟨[(.array .byte), .byte], none⟩ := by decide +kernel
theorem pd_13 : parseMethodDescriptor "(I)V" = some ⟨[.int], none⟩ := by decide +kernel
theorem pd_14 : parseMethodDescriptor "(Ljava/lang/String;)V" = some ⟨[(.object "java/lang/String")], none⟩ := by decide +kernel
theorem pd_15 : parseMethodDescriptor "([BIB)V" = some ⟨[(.array .byte), .int, .byte], none⟩ := by decide +kernel
theorem pd_16 : parseMethodDescriptor "()I" = some ⟨[], (some .int)⟩ := by decide +kernel
theorem pd_17 : parseMethodDescriptor "(ILjava/lang/String;)V" = some ⟨[.int, (.object "java/lang/String")], none⟩ := by decide +kernel
theorem pd_18 : parseMethodDescriptor "(Ljava/lang/String;)Ljava/lang/AbstractStringBuilder;" = some ⟨[(.object "java/lang/String")], (some (.object "java/lang/AbstractStringBuilder"))⟩ := by decide +kernel
theorem pd_19 : parseMethodDescriptor "(II)I" = some ⟨[.int, .int], (some .int)⟩ := by decide +kernel
theorem pd_20 : parseMethodDescriptor "(III)I" = some ⟨[.int, .int, .int], (some .int)⟩ := by decide +kernel
theorem pd_21 : parseMethodDescriptor "(I)I" = some ⟨[.int], (some .int)⟩ := by decide +kernel
theorem pd_22 : parseMethodDescriptor "([BI)[B" = some ⟨[(.array .byte), .int], (some (.array .byte))⟩ := by decide +kernel
theorem pd_23 : parseMethodDescriptor "(II)V" = some ⟨[.int, .int], none⟩ := by decide +kernel
theorem pd_24 : parseMethodDescriptor "([BII)[B" = some ⟨[(.array .byte), .int, .int], (some (.array .byte))⟩ := by decide +kernel
theorem pd_25 : parseMethodDescriptor "()[B" = some ⟨[], (some (.array .byte))⟩ := by decide +kernel
theorem pd_26 : parseMethodDescriptor "()Z" = some ⟨[], (some .boolean)⟩ := by decide +kernel
theorem pd_27 : parseMethodDescriptor "(Ljava/lang/AbstractStringBuilder;Ljava/lang/Void;)V" = some ⟨[(.object "java/lang/AbstractStringBuilder"), (.object "java/lang/Void")], none⟩ := by decide +kernel
theorem pd_28 : parseMethodDescriptor "(Ljava/lang/StringBuilder;)V" = some ⟨[(.object "java/lang/StringBuilder")], none⟩ := by decide +kernel
theorem pd_29 : parseMethodDescriptor "(II[B)I" = some ⟨[.int, .int, (.array .byte)], (some .int)⟩ := by decide +kernel
theorem pd_30 : parseMethodDescriptor "(I)Ljava/lang/AbstractStringBuilder;" = some ⟨[.int], (some (.object "java/lang/AbstractStringBuilder"))⟩ := by decide +kernel
theorem pd_31 : parseMethodDescriptor "(IILjava/util/function/BiFunction;)I" = some ⟨[.int, .int, (.object "java/util/function/BiFunction")], (some .int)⟩ := by decide +kernel
theorem pd_32 : parseMethodDescriptor "([BI)C" = some ⟨[(.array .byte), .int], (some .char)⟩ := by decide +kernel
theorem pd_33 : parseMethodDescriptor "(JJ)C" = some ⟨[.long, .long], (some .char)⟩ := by decide +kernel
theorem pd_34 : parseMethodDescriptor "(I)C" = some ⟨[.int], (some .char)⟩ := by decide +kernel
theorem pd_35 : parseMethodDescriptor "(Ljava/lang/String;[CI)Z" = some ⟨[(.object "java/lang/String"), (.array .char), .int], (some .boolean)⟩ := by decide +kernel
theorem pd_36 : parseMethodDescriptor "([CII)I" = some ⟨[(.array .char), .int, .int], (some .int)⟩ := by decide +kernel
theorem pd_37 : parseMethodDescriptor "(Ljava/lang/String;I)Ljava/lang/String;" = some ⟨[(.object "java/lang/String"), .int], (some (.object "java/lang/String"))⟩ := by decide +kernel
theorem pd_38 : parseMethodDescriptor "([C)V" = some ⟨[(.array .char)], none⟩ := by decide +kernel
theorem pd_39 : parseMethodDescriptor "(C)Ljava/lang/String;" = some ⟨[.char], (some (.object "java/lang/String"))⟩ := by decide +kernel
set_option maxRecDepth 65536 in
set_option maxHeartbeats 4000000 in
theorem rm_coder {l : Launch} {Z : State} {a0 : Array Value} (H : Wd Z a0) {h : Heap} {a : Addr} (C : Fld Z h a ST "coder" "B" (.int 0)) : Met l Z (⟨"java/lang/String", "coder", "()B"⟩ : MethodName) jdk_42_method_152_code 1 (some .byte) ({ frames := 0, cells := 0, slots := 0, locals := 0 } : Room) h [] #[.ref a] (fun v h' G => v = some (.int 0) ∧ h = h') := by
  refine Met.mk (L := #[.val (.ref a)]) (by decide +kernel) (fun m => by first | (simp [entryFrame, mkF, argsToLocals, Value.category]; done) | rfl) (fun K => ?_)
  show Go _ _ K "java/lang/String" "coder" _ _ _ _ _ _ _ _ _ 0 _ _
  obtain ⟨cz, Sz, nz⟩ := H.2.2.2.1
  refine go_getstatic (v := .int cz) (q := 3) (w_4 H) Via.refl Sz d13_0 rfl ?_
  refine go_ifN (q := 6) d13_3 nz rfl ?_
  refine go_aloadN (v := .ref a) (q := 7) d13_6 rfl rfl rfl ?_
  refine go_getfield (v := .int 0) (q := 10) (w_24 H) Via.refl C d13_7 rfl ?_
  refine go_goto (q := 14) d13_10 (by decide) (by decide) ?_
  exact go_ireturn H (G := []) (t := .byte) rfl (by decide) rfl d13_14 (by decide) (by decide) (fun _ q => nomatch q) ⟨rfl, rfl⟩
set_option maxRecDepth 65536 in
set_option maxHeartbeats 4000000 in
theorem rm_len {l : Launch} {Z : State} {a0 : Array Value} (H : Wd Z a0) {h : Heap} {F : List Addr} {a : Addr} {cs : List Int32} (S : Str Z h F a cs) : Met l Z (⟨"java/lang/String", "length", "()I"⟩ : MethodName) jdk_42_method_54_code 1 (some .int) ({ frames := 1, cells := 0, slots := 0, locals := 13 } : Room) h [] #[.ref a] (fun v h' G => v = some (.int (Int32.ofNat cs.length)) ∧ h = h') := by
  refine Met.mk (L := #[.val (.ref a)]) (by decide +kernel) (fun m => by first | (simp [entryFrame, mkF, argsToLocals, Value.category]; done) | rfl) (fun K => ?_)
  show Go _ _ K "java/lang/String" "length" _ _ _ _ _ _ _ _ _ 0 _ _
  obtain ⟨E, C, ha, hl, bb, k, hb, Vv, A⟩ := S
  refine go_aloadN (v := .ref a) (q := 1) d12_0 rfl rfl rfl ?_
  refine go_getfield (v := .ref bb) (q := 4) (w_22 H) Via.refl Vv d12_1 rfl ?_
  refine go_arraylength (z := Int32.ofNat cs.length) (q := 5) A d12_4 rfl ?_
  refine go_aloadN (v := .ref a) (q := 6) d12_5 rfl rfl rfl ?_
  refine go_virtual (c' := 0) (s' := 0) (q := 9) (S := [.int (Int32.ofNat cs.length)]) (argsL := []) H (C := "java/lang/String") (w_78 H) (w_79 H) (nf_self (w_81 H)) (w_81 H) (w_80 H) (w_2 H) (w_82 H) (by decide) E (rm_coder H C) rfl rfl (lenOf pd_5 rfl) (fun _ q => nomatch q) rfl (by decide) (Nat.le_of_ble_eq_true rfl) rfl rfl (by decide) (by decide) d12_6 rfl ?_
  rintro _ _ G - ⟨rfl, rfl⟩
  refine nx_ (v := none) ?_
  show Go _ _ _ _ _ _ _ _ _ _ _ _ _ _ 9 #[.val (.ref a)] [.int 0, .int (Int32.ofNat cs.length)]
  refine go_ishr (r := Int32.ofNat cs.length) (q := 10) d12_9 (shr0 _) rfl ?_
  exact go_ireturn H (G := []) (t := .int) rfl (by decide) rfl d12_10 (by decide) (by decide) (fun _ q => nomatch q) ⟨rfl, rfl⟩
theorem bts_set {cs : List Int32} {i : Nat} (hi : i < cs.length) : (bts (cs.take i) ++ List.replicate (cs.length - i) (Value.int 0)).set i (.int (cs[i].toInt8.toInt32)) = bts (cs.take (i + 1)) ++ List.replicate (cs.length - (i + 1)) (Value.int 0) := by
  have hl : (bts (cs.take i)).length = i := by simp; omega
  rw [List.set_append_right _ _ (by omega), hl, Nat.sub_self]
  obtain ⟨m, hm⟩ : ∃ m, cs.length - i = m + 1 := ⟨cs.length - i - 1, by omega⟩
  rw [hm, show cs.length - (i + 1) = m by omega, List.replicate_succ, List.set_cons_zero, List.take_succ_eq_append_getElem hi]
  simp only [bts, List.map_append, List.map_cons, List.map_nil, List.append_assoc, List.singleton_append]

set_option maxRecDepth 65536 in
set_option maxHeartbeats 4000000 in
theorem lp_cmp5 {l : Launch} {Z : State} {a0 : Array Value} (H : Wd Z a0) {K : Cx} {h : Heap} {ca ba : Addr} {kc kb : ClassId} {cs : List Int32} (A : Arv Z h ca kc .char (Int32.ofNat cs.length) (ints cs) (.int 0)) (hl : Lat cs) (hne : ca ≠ ba) : ∀ (n i : Nat) (x6 : Slot) (h1 : Heap), n + i = cs.length → One x6 → Keep h h1 [ba] → Arv Z h1 ba kb .byte (Int32.ofNat cs.length) (bts (cs.take i) ++ List.replicate (cs.length - i) (.int 0)) (.int 0) → Go l Z K "java/lang/StringUTF16" "compress" jdk_52_method_21_code 7 (some .int) ({ frames := 0, cells := 0, slots := 0, locals := 0 } : Room) (fun v h' G => v = some (.int (Int32.ofNat cs.length)) ∧ Keep h h' [ba] ∧ Arv Z h' ba kb .byte (Int32.ofNat cs.length) (bts cs) (.int 0)) h1 [ba] 0 0 3 #[.val (.ref ca), .val (.int (Int32.ofNat i)), .val (.ref ba), .val (.int (Int32.ofNat i)), .val (.int (Int32.ofNat cs.length)), .val (.int (Int32.ofNat i)), x6] []

  | 0, i, x6, h1, hn, h6, K1, V1 => by
    obtain rfl : i = cs.length := by omega
    refine go_iload (v := (Int32.ofNat cs.length)) (q := 5) d48_3 rfl rfl ?_
    refine go_iload (v := (Int32.ofNat cs.length)) (q := 7) d48_5 rfl rfl ?_
    refine go_icY (q := 44) d48_7 (show ¬ Int32.ofNat cs.length < Int32.ofNat cs.length from Int32.lt_irrefl) (by decide) (by decide) ?_
    refine go_iload (v := (Int32.ofNat cs.length)) (q := 46) d48_44 rfl rfl ?_
    have V1 : Arv Z h1 ba kb .byte (Int32.ofNat cs.length) (bts cs) (.int 0) := by simpa using V1
    exact go_ireturn H (G := []) (t := .int) rfl (by decide) rfl d48_46 (by decide) (by decide) (fun _ q => nomatch q) ⟨rfl, K1, V1⟩
  | n + 1, i, x6, h1, hn, h6, K1, V1 => by
    have hi : i < cs.length := by omega
    have hb := hl.1
    have hc := hl.2 cs[i] (List.getElem_mem hi)
    refine go_iload (v := (Int32.ofNat i)) (q := 5) d48_3 rfl rfl ?_
    refine go_iload (v := (Int32.ofNat cs.length)) (q := 7) d48_5 rfl rfl ?_
    refine go_icN (q := 10) d48_7 ((lt_ofNat (by omega) (by omega)).mpr hi) rfl ?_
    refine go_aloadN (v := .ref ca) (q := 11) d48_10 rfl rfl rfl ?_
    refine go_iloadN (v := (Int32.ofNat i)) (q := 12) d48_11 rfl rfl ?_
    refine go_caload (v := .int (cs[i])) (q := 13) (A.keep K1 (ninS hne nin0)) ⟨nn_ofNat (by omega), (lt_ofNat (by omega) (by omega)).mpr hi⟩ (by rw [cl_ofNat (by omega)]; simp [ints, hi]) d48_12 rfl ?_
    refine go_istoreO (L' := #[.val (.ref ca), .val (.int (Int32.ofNat i)), .val (.ref ba), .val (.int (Int32.ofNat i)), .val (.int (Int32.ofNat cs.length)), .val (.int (Int32.ofNat i)), .val (.int (cs[i]))]) (q := 15) d48_13 rfl h6 rfl rfl ?_
    refine go_iload (v := cs[i]) (q := 17) d48_15 rfl rfl ?_
    refine go_sipush (x := (255 : Int32)) (q := 20) d48_17 rfl rfl ?_
    refine go_icY (q := 26) d48_20 (show ¬ (255 : Int32) < cs[i] from hc.2) (by decide) (by decide) ?_
    refine go_aloadN (v := .ref ba) (q := 27) d48_26 rfl rfl rfl ?_
    refine go_iloadN (v := (Int32.ofNat i)) (q := 28) d48_27 rfl rfl ?_
    refine go_iload (v := cs[i]) (q := 30) d48_28 rfl rfl ?_
    refine go_i2b (r := (cs[i]).toInt8.toInt32) (q := 31) d48_30 rfl rfl ?_
    refine go_bastore (i := i) (y := cs[i].toInt8.toInt32) (q := 32) V1 ⟨nn_ofNat (by omega), (lt_ofNat (by omega) (by omega)).mpr hi⟩ (cl_ofNat (by omega)) (by simp; omega) (by simp) (show (cs[i].toInt8.toInt32).toInt8.toInt32 = cs[i].toInt8.toInt32 by simp) d48_31 rfl ?_
    intro h2 K2 z2 V2
    rw [bts_set hi] at V2
    refine go_iinc (x := (Int32.ofNat i)) (y := (Int32.ofNat (i + 1))) (L' := #[.val (.ref ca), .val (.int (Int32.ofNat (i + 1))), .val (.ref ba), .val (.int (Int32.ofNat i)), .val (.int (Int32.ofNat cs.length)), .val (.int (Int32.ofNat i)), .val (.int (cs[i]))]) (q := 35) d48_32 rfl add1_ofNat rfl rfl ?_
    refine go_iinc (x := (Int32.ofNat i)) (y := (Int32.ofNat (i + 1))) (L' := #[.val (.ref ca), .val (.int (Int32.ofNat (i + 1))), .val (.ref ba), .val (.int (Int32.ofNat (i + 1))), .val (.int (Int32.ofNat cs.length)), .val (.int (Int32.ofNat i)), .val (.int (cs[i]))]) (q := 38) d48_35 rfl add1_ofNat rfl rfl ?_
    refine go_iinc (x := (Int32.ofNat i)) (y := (Int32.ofNat (i + 1))) (L' := #[.val (.ref ca), .val (.int (Int32.ofNat (i + 1))), .val (.ref ba), .val (.int (Int32.ofNat (i + 1))), .val (.int (Int32.ofNat cs.length)), .val (.int (Int32.ofNat (i + 1))), .val (.int (cs[i]))]) (q := 41) d48_38 rfl add1_ofNat rfl rfl ?_
    refine go_goto (q := 3) d48_41 (by decide) (by decide) ?_
    exact lp_cmp5 H A hl hne n (i + 1) _ h2 (by omega) (One.val rfl) (K1.trans K2 (fun x q => Or.inl q)) V2
set_option maxRecDepth 65536 in
set_option maxHeartbeats 4000000 in
theorem rm_cmp5 {l : Launch} {Z : State} {a0 : Array Value} (H : Wd Z a0) {h : Heap} {ca ba : Addr} {kc kb : ClassId} {cs : List Int32} (A : Arv Z h ca kc .char (Int32.ofNat cs.length) (ints cs) (.int 0)) (V : Arv Z h ba kb .byte (Int32.ofNat cs.length) (List.replicate cs.length (.int 0)) (.int 0)) (hl : Lat cs) (hne : ca ≠ ba) : Met l Z (⟨"java/lang/StringUTF16", "compress", "([CI[BII)I"⟩ : MethodName) jdk_52_method_21_code 7 (some .int) ({ frames := 0, cells := 0, slots := 0, locals := 0 } : Room) h [ba] #[.ref ca, .int 0, .ref ba, .int 0, .int (Int32.ofNat cs.length)] (fun v h' G => v = some (.int (Int32.ofNat cs.length)) ∧ Keep h h' [ba] ∧ Arv Z h' ba kb .byte (Int32.ofNat cs.length) (bts cs) (.int 0)) := by
  refine Met.mk (L := #[.val (.ref ca), .val (.int 0), .val (.ref ba), .val (.int 0), .val (.int (Int32.ofNat cs.length)), .unset, .unset]) (by decide +kernel) (fun m => by first | (simp [entryFrame, mkF, argsToLocals, Value.category]; done) | rfl) (fun K => ?_)
  show Go _ _ K "java/lang/StringUTF16" "compress" _ _ _ _ _ _ _ _ _ 0 _ _
  refine go_iconst (x := (0 : Int32)) (q := 1) d48_0 rfl rfl ?_
  refine go_istore (L' := #[.val (.ref ca), .val (.int 0), .val (.ref ba), .val (.int 0), .val (.int (Int32.ofNat cs.length)), .val (.int (0 : Int32)), .unset]) (q := 3) d48_1 rfl rfl ?_
  exact lp_cmp5 H A hl hne cs.length 0 _ h (by omega) One.u (Keep.refl _ _) (by simpa using V)
set_option maxRecDepth 65536 in
set_option maxHeartbeats 4000000 in
theorem rm_cmp3 {l : Launch} {Z : State} {a0 : Array Value} (H : Wd Z a0) {h : Heap} {ca : Addr} {kc : ClassId} {cs : List Int32} (A : Arv Z h ca kc .char (Int32.ofNat cs.length) (ints cs) (.int 0)) (hl : Lat cs) (hn : cs.length ≤ 16) : Met l Z (⟨"java/lang/StringUTF16", "compress", "([CII)[B"⟩ : MethodName) jdk_52_method_16_code 6 (some (.array .byte)) ({ frames := 1, cells := 1, slots := 16, locals := 18 } : Room) h [] #[.ref ca, .int 0, .int (Int32.ofNat cs.length)] (fun v h' G => ∃ ba kb, v = some (.ref ba) ∧ h.size ≤ ba ∧ Keep h h' [] ∧ Arv Z h' ba kb .byte (Int32.ofNat cs.length) (bts cs) (.int 0)) := by
  refine Met.mk (L := #[.val (.ref ca), .val (.int 0), .val (.int (Int32.ofNat cs.length)), .unset, .unset, .unset]) (by decide +kernel) (fun m => by first | (simp [entryFrame, mkF, argsToLocals, Value.category]; done) | rfl) (fun K => ?_)
  show Go _ _ K "java/lang/StringUTF16" "compress" _ _ _ _ _ _ _ _ _ 0 _ _
  refine go_iloadN (v := (Int32.ofNat cs.length)) (q := 1) d47_0 rfl rfl ?_
  refine go_newarray (ty := .byte) (dv := .int 0) (n := cs.length) (cap := 16) (ad := "[B") (c' := 1) (s' := 16) (q := 3) rfl rfl (cl_ofNat (by have := hl.1; omega)) (w_14 H) d47_1 (nn_ofNat (by have := hl.1; omega)) hn (by decide) rfl rfl rfl rfl (by decide) (by decide) ?_
  intro h1 ba kb g1 E1 V1 X1
  refine go_astoreN (L' := #[.val (.ref ca), .val (.int 0), .val (.int (Int32.ofNat cs.length)), .val (.ref ba), .unset, .unset]) (q := 4) d47_3 rfl rfl rfl ?_
  refine go_aloadN (v := .ref ca) (q := 5) d47_4 rfl rfl rfl ?_
  refine go_iloadN (v := 0) (q := 6) d47_5 rfl rfl ?_
  refine go_aloadN (v := .ref ba) (q := 7) d47_6 rfl rfl rfl ?_
  refine go_iconst (x := (0 : Int32)) (q := 8) d47_7 rfl rfl ?_
  refine go_iloadN (v := (Int32.ofNat cs.length)) (q := 9) d47_8 rfl rfl ?_
  have ne : ca ≠ ba := fun q => absurd A.lt (by rw [q, g1]; exact Nat.lt_irrefl _)
  refine go_static (c' := 1) (s' := 16) (q := 12) (S := []) (argsL := [.ref ca, .int 0, .ref ba, .int (0 : Int32), .int (Int32.ofNat cs.length)]) H (w_239 H) (w_240 H) (w_237 H) (w_241 H) (by decide) (rm_cmp5 H (A.ext E1) V1 hl ne) rfl rfl (lenOf pd_6 rfl) (fun _ q => q) rfl (by decide) (Nat.le_of_ble_eq_true rfl) rfl rfl (by decide) (by decide) d47_9 rfl ?_
  rintro _ h2 G - ⟨rfl, K2, V2⟩
  refine nx_ (v := none) ?_
  show Go _ _ _ _ _ _ _ _ _ _ _ _ _ _ 12 #[.val (.ref ca), .val (.int 0), .val (.int (Int32.ofNat cs.length)), .val (.ref ba), .unset, .unset] [.int (Int32.ofNat cs.length)]
  refine go_istore (L' := #[.val (.ref ca), .val (.int 0), .val (.int (Int32.ofNat cs.length)), .val (.ref ba), .val (.int (Int32.ofNat cs.length)), .unset]) (q := 14) d47_12 rfl rfl ?_
  refine go_iload (v := (Int32.ofNat cs.length)) (q := 16) d47_14 rfl rfl ?_
  refine go_iloadN (v := (Int32.ofNat cs.length)) (q := 17) d47_16 rfl rfl ?_
  refine go_icY (q := 57) d47_17 rfl (by decide) (by decide) ?_
  refine go_aloadN (v := .ref ba) (q := 58) d47_57 rfl rfl rfl ?_
  exact go_areturn H (G := []) (t := (.array .byte)) rfl rfl rfl d47_58 (by decide) (by decide) (fun _ q => nomatch q) ⟨ba, kb, rfl, by rw [g1]; exact Nat.le_refl _, ((Keep.refl h []).ext E1).trans K2 (fun x q => by cases List.mem_singleton.mp q; exact Or.inr (by rw [g1]; exact Nat.le_refl _)), V2⟩
set_option maxRecDepth 65536 in
set_option maxHeartbeats 4000000 in
theorem rm_codL {l : Launch} {Z : State} {a0 : Array Value} (H : Wd Z a0) {h : Heap} {ba : Addr} {kb : ClassId} {z : Int32} {vs : List Value} {dv : Value} (A : Arv Z h ba kb .byte z vs dv) : Met l Z (⟨"java/lang/StringUTF16", "coderFromArrayLen", "([BI)B"⟩ : MethodName) jdk_52_method_15_code 2 (some .byte) ({ frames := 0, cells := 0, slots := 0, locals := 0 } : Room) h [] #[.ref ba, .int z] (fun v h' G => v = some (.int 0) ∧ h = h') := by
  refine Met.mk (L := #[.val (.ref ba), .val (.int z)]) (by decide +kernel) (fun m => by first | (simp [entryFrame, mkF, argsToLocals, Value.category]; done) | rfl) (fun K => ?_)
  show Go _ _ K "java/lang/StringUTF16" "coderFromArrayLen" _ _ _ _ _ _ _ _ _ 0 _ _
  refine go_iloadN (v := z) (q := 1) d49_0 rfl rfl ?_
  refine go_aloadN (v := .ref ba) (q := 2) d49_1 rfl rfl rfl ?_
  refine go_arraylength (z := z) (q := 3) A d49_2 rfl ?_
  refine go_isub (r := 0) (q := 4) d49_3 (Int32.sub_self _) rfl ?_
  refine go_bipush (x := (31 : Int32)) (q := 6) d49_4 rfl rfl ?_
  refine go_iushr (r := 0) (q := 7) d49_6 rfl rfl ?_
  refine go_i2b (r := 0) (q := 8) d49_7 rfl rfl ?_
  exact go_ireturn H (G := []) (t := .byte) rfl (by decide) rfl d49_8 (by decide) (by decide) (fun _ q => nomatch q) ⟨rfl, rfl⟩
set_option maxRecDepth 65536 in
set_option maxHeartbeats 4000000 in
theorem rm_new4 {l : Launch} {Z : State} {a0 : Array Value} (H : Wd Z a0) {h : Heap} {F : List Addr} {x ca : Addr} {kc : ClassId} {cs : List Int32} (E : Exa Z h x ST) (C : Fld Z h x ST "coder" "B" (.int 0)) (Vv : Fld Z h x ST "value" "[B" .null) (A : Arv Z h ca kc .char (Int32.ofNat cs.length) (ints cs) (.int 0)) (hl : Lat cs) (hn : cs.length ≤ 16) (hx : x ∉ F) : Met l Z (⟨"java/lang/String", "<init>", "([CIILjava/lang/Void;)V"⟩ : MethodName) jdk_42_method_149_code 6 none ({ frames := 2, cells := 4, slots := 16, locals := 35 } : Room) h (x :: F) #[.ref x, .ref ca, .int 0, .int (Int32.ofNat cs.length), .null] (fun v h' G => v = none ∧ Keep h h' [x] ∧ Str Z h' F x cs) := by
  refine Met.mk (L := #[.val (.ref x), .val (.ref ca), .val (.int 0), .val (.int (Int32.ofNat cs.length)), .val (.null), .unset]) (by decide +kernel) (fun m => by first | (simp [entryFrame, mkF, argsToLocals, Value.category]; done) | rfl) (fun K => ?_)
  show Go _ _ K "java/lang/String" "<init>" _ _ _ _ _ _ _ _ _ 0 _ _
  obtain ⟨cz, Sz, nz⟩ := H.2.2.2.1
  have sne : RoadKit.slotOf Z ST "value" "[B" ≠ RoadKit.slotOf Z ST "coder" "B" := slot_ne (C := ST) (Or.inr (w_23 H)) (Or.inr (w_25 H)) (by decide) (t := .array .byte) (t' := .byte) (by decide) (by decide)
  have wiS := (w_10 H)
  refine go_aloadN (v := .ref x) (q := 1) d6_0 rfl rfl rfl ?_
  refine go_initO (q := 4) (w_19 H) (w_20 H) (w_21 H) rfl d6_1 rfl (by decide) (Nat.le_of_ble_eq_true rfl) ?_
  refine go_iloadN (v := (Int32.ofNat cs.length)) (q := 5) d6_4 rfl rfl ?_
  refine go_mine fun hMine hOld => ?_
  by_cases h0 : cs.length = 0
  · obtain rfl : cs = [] := List.length_eq_zero_iff.mp h0
    refine go_ifN (q := 8) d6_5 rfl rfl ?_
    refine go_aloadN (v := .ref x) (q := 9) d6_8 rfl rfl rfl ?_
    refine go_lit (cs := []) (n := 0) (c' := 2) (s' := 4) (q := 11) H (w_34 H) (by decide) (by decide) (by decide) (by decide) (by decide) d6_9 (by decide) (by decide) rfl rfl rfl (by decide) (by decide) ?_
    intro h1 a1 E1 S1
    obtain ⟨X1, C1, n1, -, b1, k1, m1, V1, A1⟩ := S1
    refine go_getfield (v := .ref b1) (q := 14) (w_22 H) Via.refl V1 d6_11 rfl ?_
    have nxb : x ≠ b1 := fun q => m1 (by rw [← q]; simp)
    refine go_putfield (q := 17) (w_22 H) Via.refl (Vv.ext E1) (E.ext E1) (Or.inr ⟨(w_23 H), rfl, rfl⟩) (w_10 H) (ty := (.array .byte)) (by decide) rfl rfl (by simp) d6_14 rfl ?_
    intro h2 W2
    refine go_aloadN (v := .ref x) (q := 18) d6_17 rfl rfl rfl ?_
    refine go_lit (cs := []) (n := 0) (c' := 4) (s' := 8) (q := 20) H (w_34 H) (by decide) (by decide) (by decide) (by decide) (by decide) d6_18 (by decide) (by decide) rfl rfl rfl (by decide) (by decide) ?_
    intro h3 a3 E3 S3
    obtain ⟨X3, C3, n3, -, b3, k3, m3, V3, A3⟩ := S3
    refine go_getfield (v := .int 0) (q := 23) (w_24 H) Via.refl C3 d6_20 rfl ?_
    refine go_putfield (q := 26) (w_24 H) Via.refl (((C.ext E1).other W2 (Or.inr sne.symm)).ext E3) (((E.ext E1).wr W2).ext E3) (Or.inr ⟨(w_25 H), rfl, rfl⟩) (w_10 H) (ty := .byte) (by decide) rfl rfl (by simp) d6_23 rfl ?_
    intro h4 W4
    have Kp : Keep h h4 [x] := ((((Keep.refl h [x]).ext E1).wr W2 (Or.inl (by simp))).ext E3).wr W4 (Or.inl (by simp))
    have Ar : Arv Z h4 b1 k1 .byte (Int32.ofNat ([] : List Int32).length) (bts []) (.int 0) := ((A1.other W2 nxb.symm).ext E3).other W4 nxb.symm
    exact go_return H (G := []) rfl d6_26 (by decide) (by decide) (fun _ q => nomatch q) ⟨rfl, Kp, (((E.ext E1).wr W2).ext E3).wr W4, ((((C.ext E1).other W2 (Or.inr sne.symm)).ext E3).same W4), hx, hl, b1, k1, fun q => m1 (by simp [q]), ((((Vv.ext E1).same W2).ext E3).other W4 (Or.inr sne)), Ar⟩
  · refine go_ifY (q := 27) d6_5 (show ¬ _ = _ from fun q => h0 ((eq_ofNat (n := 0) (by have := hl.1; omega) (by decide)).mp q)) (by decide) (by decide) ?_
    refine go_getstatic (v := .int cz) (q := 30) (w_4 H) Via.refl Sz d6_27 rfl ?_
    refine go_ifN (q := 33) d6_30 nz rfl ?_
    refine go_aloadN (v := .ref ca) (q := 34) d6_33 rfl rfl rfl ?_
    refine go_iloadN (v := 0) (q := 35) d6_34 rfl rfl ?_
    refine go_iloadN (v := (Int32.ofNat cs.length)) (q := 36) d6_35 rfl rfl ?_
    refine go_static (c' := 1) (s' := 16) (q := 39) (S := []) (argsL := [.ref ca, .int 0, .int (Int32.ofNat cs.length)]) H (w_235 H) (w_236 H) (w_237 H) (w_238 H) (by decide) (rm_cmp3 H A hl hn) rfl rfl (lenOf pd_7 rfl) (fun _ q => nomatch q) rfl (by decide) (Nat.le_of_ble_eq_true rfl) rfl rfl (by decide) (by decide) d6_36 rfl ?_
    rintro _ h1 G - ⟨ba, kb, rfl, gb, K1, V1⟩
    refine nx_ (v := none) ?_
    show Go _ _ _ _ _ _ _ _ _ _ _ _ _ _ 39 #[.val (.ref x), .val (.ref ca), .val (.int 0), .val (.int (Int32.ofNat cs.length)), .val (.null), .unset] [.ref ba]
    refine go_astore (L' := #[.val (.ref x), .val (.ref ca), .val (.int 0), .val (.int (Int32.ofNat cs.length)), .val (.null), .val (.ref ba)]) (q := 41) d6_39 rfl rfl rfl ?_
    refine go_aloadN (v := .ref x) (q := 42) d6_41 rfl rfl rfl ?_
    refine go_aload (v := .ref ba) (q := 44) d6_42 rfl rfl rfl ?_
    refine go_iloadN (v := (Int32.ofNat cs.length)) (q := 45) d6_44 rfl rfl ?_
    refine go_static (c' := 1) (s' := 16) (q := 48) (S := [.ref x]) (argsL := [.ref ba, .int (Int32.ofNat cs.length)]) H (w_242 H) (w_243 H) (w_237 H) (w_244 H) (by decide) (rm_codL H V1) rfl rfl (lenOf pd_8 rfl) (fun _ q => nomatch q) rfl (by decide) (Nat.le_of_ble_eq_true rfl) rfl rfl (by decide) (by decide) d6_45 rfl ?_
    rintro _ _ G - ⟨rfl, rfl⟩
    refine nx_ (v := none) ?_
    show Go _ _ _ _ _ _ _ _ _ _ _ _ _ _ 48 #[.val (.ref x), .val (.ref ca), .val (.int 0), .val (.int (Int32.ofNat cs.length)), .val (.null), .val (.ref ba)] [.int 0, .ref x]
    refine go_putfield (q := 51) (w_24 H) Via.refl (C.keep K1 nin0) (E.keep K1) (Or.inr ⟨(w_25 H), rfl, rfl⟩) (w_10 H) (ty := .byte) (by decide) rfl rfl (by simp) d6_48 rfl ?_
    intro h2 W2
    have nxb : ba ≠ x := E.keep K1 |>.neArv V1 wiS |>.symm
    refine go_aloadN (v := .ref x) (q := 52) d6_51 rfl rfl rfl ?_
    refine go_aload (v := .ref ba) (q := 54) d6_52 rfl rfl rfl ?_
    refine go_putfield (q := 57) (w_22 H) Via.refl ((Vv.keep K1 nin0).other W2 (Or.inr sne)) ((E.keep K1).wr W2) (Or.inr ⟨(w_23 H), rfl, rfl⟩) (w_10 H) (ty := (.array .byte)) (by decide) rfl rfl (by simp) d6_54 rfl ?_
    intro h3 W3
    have Kp : Keep h h3 [x] := ((kless K1 (by simp)).wr W2 (Or.inl (by simp))).wr W3 (Or.inl (by simp))
    exact go_return H (G := []) rfl d6_57 (by decide) (by decide) (fun _ q => nomatch q) ⟨rfl, Kp, ((E.keep K1).wr W2).wr W3, (((C.keep K1 nin0).same W2).other W3 (Or.inr sne.symm)), hx, hl, ba, kb, fun q => absurd (hMine ba (by simp [q])).2 (Nat.not_lt.mpr gb), (((Vv.keep K1 nin0).other W2 (Or.inr sne)).same W3), ((V1.other W2 nxb).other W3 nxb)⟩
set_option maxRecDepth 65536 in
set_option maxHeartbeats 4000000 in
theorem rm_new1 {l : Launch} {Z : State} {a0 : Array Value} (H : Wd Z a0) {h : Heap} {F : List Addr} {x ca : Addr} {kc : ClassId} {cs : List Int32} (E : Exa Z h x ST) (C : Fld Z h x ST "coder" "B" (.int 0)) (Vv : Fld Z h x ST "value" "[B" .null) (A : Arv Z h ca kc .char (Int32.ofNat cs.length) (ints cs) (.int 0)) (hl : Lat cs) (hn : cs.length ≤ 16) (hx : x ∉ F) : Met l Z (⟨"java/lang/String", "<init>", "([C)V"⟩ : MethodName) jdk_42_method_3_code 2 none ({ frames := 3, cells := 4, slots := 16, locals := 52 } : Room) h (x :: F) #[.ref x, .ref ca] (fun v h' G => v = none ∧ Keep h h' [x] ∧ Str Z h' F x cs) := by
  refine Met.mk (L := #[.val (.ref x), .val (.ref ca)]) (by decide +kernel) (fun m => by first | (simp [entryFrame, mkF, argsToLocals, Value.category]; done) | rfl) (fun K => ?_)
  show Go _ _ K "java/lang/String" "<init>" _ _ _ _ _ _ _ _ _ 0 _ _
  refine go_aloadN (v := .ref x) (q := 1) d5_0 rfl rfl rfl ?_
  refine go_aloadN (v := .ref ca) (q := 2) d5_1 rfl rfl rfl ?_
  refine go_iconst (x := (0 : Int32)) (q := 3) d5_2 rfl rfl ?_
  refine go_aloadN (v := .ref ca) (q := 4) d5_3 rfl rfl rfl ?_
  refine go_arraylength (z := (Int32.ofNat cs.length)) (q := 5) A d5_4 rfl ?_
  refine go_null (q := 6) d5_5 rfl ?_
  refine go_special (c' := 4) (s' := 16) (q := 9) (S := []) (argsL := [.ref ca, .int (0 : Int32), .int (Int32.ofNat cs.length), .null]) H rfl (w_31 H) (w_32 H) (w_2 H) (w_33 H) (by decide) (rm_new4 H E C Vv A hl hn hx) rfl rfl (lenOf pd_9 rfl) (fun _ q => q) rfl (by decide) (Nat.le_of_ble_eq_true rfl) rfl rfl (by decide) (by decide) d5_6 rfl ?_
  rintro _ h1 G - ⟨rfl, K1, S1⟩
  refine nx_ (v := none) ?_
  show Go _ _ _ _ _ _ _ _ _ _ _ _ _ _ 9 #[.val (.ref x), .val (.ref ca)] []
  exact go_return H (G := []) rfl d5_9 (by decide) (by decide) (fun _ q => nomatch q) ⟨rfl, K1, S1⟩
set_option maxRecDepth 65536 in
set_option maxHeartbeats 4000000 in
theorem rm_canE {l : Launch} {Z : State} {a0 : Array Value} (H : Wd Z a0) {h : Heap} {c : Int32} (hc : ¬ 255 < c) : Met l Z (⟨"java/lang/StringLatin1", "canEncode", "(C)Z"⟩ : MethodName) jdk_43_method_3_code 1 (some .boolean) ({ frames := 0, cells := 0, slots := 0, locals := 0 } : Room) h [] #[.int c] (fun v h' G => v = some (.int 1) ∧ h = h') := by
  refine Met.mk (L := #[.val (.int c)]) (by decide +kernel) (fun m => by first | (simp [entryFrame, mkF, argsToLocals, Value.category]; done) | rfl) (fun K => ?_)
  show Go _ _ K "java/lang/StringLatin1" "canEncode" _ _ _ _ _ _ _ _ _ 0 _ _
  refine go_iloadN (v := c) (q := 1) d1_0 rfl rfl ?_
  refine go_sipush (x := (255 : Int32)) (q := 4) d1_1 rfl rfl ?_
  refine go_icN (q := 7) d1_4 (show ¬ (255 : Int32) < c from hc) rfl ?_
  refine go_iconst (x := (1 : Int32)) (q := 8) d1_7 rfl rfl ?_
  refine go_goto (q := 12) d1_8 (by decide) (by decide) ?_
  exact go_ireturn H (G := []) (t := .boolean) rfl (by decide) rfl d1_12 (by decide) (by decide) (fun _ q => nomatch q) ⟨rfl, rfl⟩
set_option maxRecDepth 65536 in
set_option maxHeartbeats 4000000 in
theorem rm_toB {l : Launch} {Z : State} {a0 : Array Value} (H : Wd Z a0) {h : Heap} {c : Int32}  : Met l Z (⟨"java/lang/StringLatin1", "toBytes", "(C)[B"⟩ : MethodName) jdk_43_method_46_code 1 (some (.array .byte)) ({ frames := 0, cells := 1, slots := 1, locals := 0 } : Room) h [] #[.int c] (fun v h' G => ∃ ba kb, v = some (.ref ba) ∧ h.size ≤ ba ∧ Keep h h' [] ∧ Arv Z h' ba kb .byte (Int32.ofNat [c].length) (bts [c]) (.int 0)) := by
  refine Met.mk (L := #[.val (.int c)]) (by decide +kernel) (fun m => by first | (simp [entryFrame, mkF, argsToLocals, Value.category]; done) | rfl) (fun K => ?_)
  show Go _ _ K "java/lang/StringLatin1" "toBytes" _ _ _ _ _ _ _ _ _ 0 _ _
  have Ka : Keep h h [] := Keep.refl _ _
  refine go_iconst (x := (1 : Int32)) (q := 1) d2_0 rfl rfl ?_
  refine go_newarray (ty := .byte) (dv := .int 0) (n := 1) (cap := 1) (ad := "[B") (c' := 1) (s' := 1) (q := 3) rfl rfl (by decide) (w_14 H) d2_1 (by decide) (by decide) (by decide) rfl rfl rfl rfl (by decide) (by decide) ?_
  intro h1 ba kb g1 E1 V1 X1
  have f_Ka_ba : h.size ≤ ba := by rw [g1]; exact Ka.1
  have Ka : Keep h h1 [] := Ka.ext E1
  have V1 : Arv Z h1 ba kb .byte 1 [.int 0] (.int 0) := V1
  refine go_dup (q := 4) d2_3 rfl rfl ?_
  refine go_iconst (x := (0 : Int32)) (q := 5) d2_4 rfl rfl ?_
  refine go_iloadN (v := c) (q := 6) d2_5 rfl rfl ?_
  refine go_i2b (r := c.toInt8.toInt32) (q := 7) d2_6 rfl rfl ?_
  refine go_bastore (i := 0) (y := c.toInt8.toInt32) (q := 8) V1 (by decide) rfl (Nat.le_of_ble_eq_true rfl) (by simp) (show (c.toInt8.toInt32).toInt8.toInt32 = c.toInt8.toInt32 by simp) d2_7 rfl ?_
  intro h2 K2 z2 V2
  have Ka : Keep h h2 [] := kfresh Ka K2 f_Ka_ba
  exact go_areturn H (G := []) (t := (.array .byte)) rfl rfl rfl d2_8 (by decide) (by decide) (fun _ q => nomatch q) ⟨ba, kb, rfl, f_Ka_ba, Ka, V2⟩
set_option maxRecDepth 65536 in
set_option maxHeartbeats 4000000 in
theorem rm_initBB {l : Launch} {Z : State} {a0 : Array Value} (H : Wd Z a0) {h : Heap} {F : List Addr} {x ba : Addr} {kb : ClassId} {cs : List Int32} (E : Exa Z h x ST) (C : Fld Z h x ST "coder" "B" (.int 0)) (Vv : Fld Z h x ST "value" "[B" .null) (A : Arv Z h ba kb .byte (Int32.ofNat cs.length) (bts cs) (.int 0)) (hl : Lat cs) (hx : x ∉ F) (hb : ba ∉ F) : Met l Z (⟨"java/lang/String", "<init>", "([BB)V"⟩ : MethodName) jdk_42_method_151_code 3 none ({ frames := 1, cells := 0, slots := 0, locals := 12 } : Room) h (x :: F) #[.ref x, .ref ba, .int 0] (fun v h' G => v = none ∧ Keep h h' [x] ∧ Str Z h' F x cs) := by
  refine Met.mk (L := #[.val (.ref x), .val (.ref ba), .val (.int 0)]) (by decide +kernel) (fun m => by first | (simp [entryFrame, mkF, argsToLocals, Value.category]; done) | rfl) (fun K => ?_)
  show Go _ _ K "java/lang/String" "<init>" _ _ _ _ _ _ _ _ _ 0 _ _
  have sne : RoadKit.slotOf Z ST "value" "[B" ≠ RoadKit.slotOf Z ST "coder" "B" := slot_ne (C := ST) (Or.inr (w_23 H)) (Or.inr (w_25 H)) (by decide) (t := .array .byte) (t' := .byte) (by decide) (by decide)
  have nxb : ba ≠ x := (E.neArv A (w_10 H)).symm
  refine go_aloadN (v := .ref x) (q := 1) d3_0 rfl rfl rfl ?_
  refine go_initO (q := 4) (w_19 H) (w_20 H) (w_21 H) rfl d3_1 rfl (by decide) (Nat.le_of_ble_eq_true rfl) ?_
  refine go_aloadN (v := .ref x) (q := 5) d3_4 rfl rfl rfl ?_
  refine go_aloadN (v := .ref ba) (q := 6) d3_5 rfl rfl rfl ?_
  refine go_putfield (q := 9) (w_22 H) Via.refl Vv E (Or.inr ⟨(w_23 H), rfl, rfl⟩) (w_10 H) (ty := (.array .byte)) (by decide) rfl rfl (by simp) d3_6 rfl ?_
  intro h1 W1
  refine go_aloadN (v := .ref x) (q := 10) d3_9 rfl rfl rfl ?_
  refine go_iloadN (v := 0) (q := 11) d3_10 rfl rfl ?_
  refine go_putfield (q := 14) (w_24 H) Via.refl (C.other W1 (Or.inr sne.symm)) (E.wr W1) (Or.inr ⟨(w_25 H), rfl, rfl⟩) (w_10 H) (ty := .byte) (by decide) rfl rfl (by simp) d3_11 rfl ?_
  intro h2 W2
  exact go_return H (G := []) rfl d3_14 (by decide) (by decide) (fun _ q => nomatch q) ⟨rfl, (Keep.of_wr W1).wr W2 (Or.inl (by simp)), (E.wr W1).wr W2, (C.other W1 (Or.inr sne.symm)).same W2, hx, hl, ba, kb, hb, (Vv.same W1).other W2 (Or.inr sne), (A.other W1 nxb).other W2 nxb⟩
set_option maxRecDepth 65536 in
set_option maxHeartbeats 4000000 in
theorem rm_vofC {l : Launch} {Z : State} {a0 : Array Value} (H : Wd Z a0) {h : Heap} {F : List Addr} {c : Int32} (hc : ¬ c < 0 ∧ ¬ 255 < c) (hFl : ∀ x ∈ F, x < h.size) : Met l Z (⟨"java/lang/String", "valueOf", "(C)Ljava/lang/String;"⟩ : MethodName) jdk_42_method_139_code 1 (some (.object "java/lang/String")) ({ frames := 2, cells := 2, slots := 5, locals := 27 } : Room) h F #[.int c] (fun v h' G => ∃ a, v = some (.ref a) ∧ Keep h h' [] ∧ Str Z h' F a [c]) := by
  refine Met.mk (L := #[.val (.int c)]) (by decide +kernel) (fun m => by first | (simp [entryFrame, mkF, argsToLocals, Value.category]; done) | rfl) (fun K => ?_)
  show Go _ _ K "java/lang/String" "valueOf" _ _ _ _ _ _ _ _ _ 0 _ _
  have Ka : Keep h h [] := Keep.refl _ _
  obtain ⟨cz, Sz, nz⟩ := H.2.2.2.1
  refine go_getstatic (v := .int cz) (q := 3) (w_4 H) Via.refl Sz d0_0 rfl ?_
  refine go_ifN (q := 6) d0_3 nz rfl ?_
  refine go_iloadN (v := c) (q := 7) d0_6 rfl rfl ?_
  refine go_static (c' := 0) (s' := 0) (q := 10) (S := []) (argsL := [.int c]) H (w_5 H) (w_6 H) (w_7 H) (w_8 H) (by decide) (rm_canE H hc.2) rfl rfl (lenOf pd_10 rfl) (fun _ q => nomatch q) rfl (by decide) (Nat.le_of_ble_eq_true rfl) rfl rfl (by decide) (by decide) d0_7 rfl ?_
  rintro _ _ G - ⟨rfl, rfl⟩
  refine nx_ (v := none) ?_
  show Go _ _ _ _ _ _ _ _ _ _ _ _ _ _ 10 #[.val (.int c)] [.int 1]
  refine go_ifN (q := 13) d0_10 (by decide) rfl ?_
  refine go_new (c' := 1) (s' := 4) (q := 16) (w_9 H) (w_10 H) (w_2 H) d0_13 rfl rfl rfl (by decide) (by decide) ?_
  intro h1 x g1 E1 A1 D1
  have f_Ka_x : h.size ≤ x := by rw [g1]; exact Ka.1
  have Ka : Keep h h1 [] := Ka.ext E1
  have C1 : Fld Z h1 x ST "coder" "B" (.int 0) := D1 (Or.inr (w_25 H)) (ty := .byte) (by decide)
  have V1 : Fld Z h1 x ST "value" "[B" .null := D1 (Or.inr (w_23 H)) (ty := .array .byte) (by decide)
  refine go_dup (q := 17) d0_16 rfl rfl ?_
  refine go_iloadN (v := c) (q := 18) d0_17 rfl rfl ?_
  refine go_static (c' := 2) (s' := 5) (q := 21) (S := [.ref x, .ref x]) (argsL := [.int c]) H (w_11 H) (w_12 H) (w_7 H) (w_13 H) (by decide) (rm_toB H) rfl rfl (lenOf pd_11 rfl) (fun _ q => nomatch q) rfl (by decide) (Nat.le_of_ble_eq_true rfl) rfl rfl (by decide) (by decide) d0_18 rfl ?_
  rintro _ h2 G - ⟨ba, kb, rfl, gb, K2, B2⟩
  refine nx_ (v := none) ?_
  have Ka : Keep h h2 [] := Ka.trans K2 (fun _ q => nomatch q)
  show Go _ _ _ _ _ _ _ _ _ _ _ _ _ _ 21 #[.val (.int c)] [.ref ba, .ref x, .ref x]
  have nF : x ∉ F := fun q => absurd (hFl x q) (Nat.not_lt.mpr f_Ka_x)
  have nb : ba ∉ F := fun q => absurd (hFl ba q) (Nat.not_lt.mpr (Nat.le_trans E1.1 gb))
  refine go_iconst (x := (0 : Int32)) (q := 22) d0_21 rfl rfl ?_
  refine go_special (c' := 2) (s' := 5) (q := 25) (S := [.ref x]) (argsL := [.ref ba, .int (0 : Int32)]) H rfl (w_15 H) (w_16 H) (w_2 H) (w_18 H) (by decide) (rm_initBB H (cs := [c]) (A1.keep K2) (C1.keep K2 nin0) (V1.keep K2 nin0) B2 ⟨Nat.le_of_ble_eq_true rfl, by intro d hd; simp only [List.mem_cons, List.not_mem_nil, or_false] at hd; subst hd; exact hc⟩ nF nb) rfl rfl (lenOf pd_12 rfl) (by intro z hz; simp only [List.mem_cons, List.not_mem_nil, or_false] at hz ⊢; first | exact hz | exact Or.inl hz | (rcases hz with hz | hz <;> simp [hz]; done) | (rcases hz with rfl | rfl <;> simp)) rfl (by decide) (Nat.le_of_ble_eq_true rfl) rfl rfl (by decide) (by decide) d0_22 rfl ?_
  rintro _ h3 G - ⟨rfl, K3, S⟩
  refine nx_ (v := none) ?_
  have Ka : Keep h h3 [] := kfresh Ka K3 f_Ka_x
  show Go _ _ _ _ _ _ _ _ _ _ _ _ _ _ 25 #[.val (.int c)] [.ref x]
  exact go_areturn H (G := []) (t := (.object "java/lang/String")) rfl rfl rfl d0_25 (by decide) (by decide) (fun _ q => nomatch q) ⟨x, rfl, Ka, S⟩
set_option maxRecDepth 65536 in
set_option maxHeartbeats 4000000 in
theorem rm_asbI {l : Launch} {Z : State} {a0 : Array Value} (H : Wd Z a0) {h : Heap} {x : Addr} {n : Nat} (E : Exa Z h x SBN) (Vv : Fld Z h x ABN "value" "[B" .null) (C : Fld Z h x ABN "coder" "B" (.int 0)) (N : Fld Z h x ABN "count" "I" (.int 0)) (hn : n ≤ 16) : Met l Z (⟨"java/lang/AbstractStringBuilder", "<init>", "(I)V"⟩ : MethodName) jdk_68_method_2_code 2 none ({ frames := 1, cells := 1, slots := 16, locals := 12 } : Room) h [x] #[.ref x, .int (Int32.ofNat n)] (fun u h' G => ∃ v, u = none ∧ G = [v] ∧ h.size ≤ v ∧ Keep h h' [x] ∧ SBd Z h' x v n []) := by
  refine Met.mk (L := #[.val (.ref x), .val (.int (Int32.ofNat n))]) (by decide +kernel) (fun m => by first | (simp [entryFrame, mkF, argsToLocals, Value.category]; done) | rfl) (fun K => ?_)
  show Go _ _ K "java/lang/AbstractStringBuilder" "<init>" _ _ _ _ _ _ _ _ _ 0 _ _
  obtain ⟨cz, Sz, nz⟩ := H.2.2.2.1
  have s1 : RoadKit.slotOf Z ABN "value" "[B" ≠ RoadKit.slotOf Z ABN "coder" "B" := slot_ne (C := SBN) (Or.inl (w_59 H)) (Or.inl (w_61 H)) (by decide) (t := .array .byte) (t' := .byte) (by decide) (by decide)
  have s2 : RoadKit.slotOf Z ABN "value" "[B" ≠ RoadKit.slotOf Z ABN "count" "I" := slot_ne (C := SBN) (Or.inl (w_59 H)) (Or.inl (w_84 H)) (by decide) (t := .array .byte) (t' := .int) (by decide) (by decide)
  have s3 : RoadKit.slotOf Z ABN "coder" "B" ≠ RoadKit.slotOf Z ABN "count" "I" := slot_ne (C := SBN) (Or.inl (w_61 H)) (Or.inl (w_84 H)) (by decide) (t := .byte) (t' := .int) (by decide) (by decide)
  refine go_aloadN (v := .ref x) (q := 1) d9_0 rfl rfl rfl ?_
  refine go_initO (q := 4) (w_56 H) (w_20 H) (w_21 H) rfl d9_1 rfl (by decide) (Nat.le_of_ble_eq_true rfl) ?_
  refine go_getstatic (v := .int cz) (q := 7) (w_57 H) Via.refl Sz d9_4 rfl ?_
  refine go_ifN (q := 10) d9_7 nz rfl ?_
  refine go_aloadN (v := .ref x) (q := 11) d9_10 rfl rfl rfl ?_
  refine go_iloadN (v := (Int32.ofNat n)) (q := 12) d9_11 rfl rfl ?_
  refine go_newarray (ty := .byte) (dv := .int 0) (n := n) (cap := 16) (ad := "[B") (c' := 1) (s' := 16) (q := 14) rfl rfl (cl_ofNat (by omega)) (w_14 H) d9_12 (nn_ofNat (by omega)) hn (by decide) rfl rfl rfl rfl (by decide) (by decide) ?_
  intro h1 v k g1 E1 V1 X1
  have nxv : v ≠ x := ((E.ext E1).neArv V1 (w_45 H)).symm
  refine go_putfield (q := 17) (w_58 H) Via.refl (Vv.ext E1) (E.ext E1) (Or.inl (w_59 H)) (w_45 H) (ty := (.array .byte)) (by decide) rfl rfl (by simp) d9_14 rfl ?_
  intro h2 W2
  refine go_aloadN (v := .ref x) (q := 18) d9_17 rfl rfl rfl ?_
  refine go_iconst (x := (0 : Int32)) (q := 19) d9_18 rfl rfl ?_
  refine go_putfield (q := 22) (w_60 H) Via.refl ((C.ext E1).other W2 (Or.inr s1.symm)) ((E.ext E1).wr W2) (Or.inl (w_61 H)) (w_45 H) (ty := .byte) (by decide) rfl rfl (by simp) d9_19 rfl ?_
  intro h3 W3
  refine go_goto (q := 38) d9_22 (by decide) (by decide) ?_
  have Kp : Keep h h3 [x] := (((Keep.refl h [x]).ext E1).wr W2 (Or.inl (by simp))).wr W3 (Or.inl (by simp))
  have Ar : Arv Z h3 v k .byte (Int32.ofNat n) (bts [] ++ zs (n - ([] : List Int32).length)) (.int 0) := (V1.other W2 nxv).other W3 nxv
  exact go_return H (G := [v]) rfl d9_38 (by decide) (by decide) (by simp) ⟨v, rfl, rfl, by rw [g1]; exact Nat.le_refl _, Kp, ((E.ext E1).wr W2).wr W3, (((Vv.ext E1).same W2).other W3 (Or.inr s1)), (((C.ext E1).other W2 (Or.inr s1.symm)).same W3), (((N.ext E1).other W2 (Or.inr s2.symm)).other W3 (Or.inr s3.symm)), ⟨by decide, by intro c hc; cases hc⟩, Nat.zero_le _, by omega, k, Ar⟩
set_option maxRecDepth 65536 in
set_option maxHeartbeats 4000000 in
theorem rm_sbI {l : Launch} {Z : State} {a0 : Array Value} (H : Wd Z a0) {h : Heap} {x : Addr} (E : Exa Z h x SBN) (Vv : Fld Z h x ABN "value" "[B" .null) (C : Fld Z h x ABN "coder" "B" (.int 0)) (N : Fld Z h x ABN "count" "I" (.int 0)) : Met l Z (⟨"java/lang/StringBuilder", "<init>", "()V"⟩ : MethodName) jdk_67_method_1_code 1 none ({ frames := 2, cells := 1, slots := 16, locals := 25 } : Room) h [x] #[.ref x] (fun u h' G => ∃ v, u = none ∧ G = [v] ∧ h.size ≤ v ∧ Keep h h' [x] ∧ SBd Z h' x v 16 []) := by
  refine Met.mk (L := #[.val (.ref x)]) (by decide +kernel) (fun m => by first | (simp [entryFrame, mkF, argsToLocals, Value.category]; done) | rfl) (fun K => ?_)
  show Go _ _ K "java/lang/StringBuilder" "<init>" _ _ _ _ _ _ _ _ _ 0 _ _
  refine go_aloadN (v := .ref x) (q := 1) d8_0 rfl rfl rfl ?_
  refine go_bipush (x := (16 : Int32)) (q := 3) d8_1 rfl rfl ?_
  refine go_special (c' := 1) (s' := 16) (q := 6) (S := []) (argsL := [.int (16 : Int32)]) H rfl (w_50 H) (w_51 H) (w_54 H) (w_55 H) (by decide) (rm_asbI H (n := 16) E Vv C N (by decide)) rfl rfl (lenOf pd_13 rfl) (fun _ q => q) rfl (by decide) (Nat.le_of_ble_eq_true rfl) rfl rfl (by decide) (by decide) d8_3 rfl ?_
  rintro _ h1 G - ⟨v, rfl, rfl, gv, K1, S1⟩
  refine ⟨[v], fun _ q => Or.inl q, ?_⟩
  show Go _ _ _ _ _ _ _ _ _ _ _ _ _ _ 6 #[.val (.ref x)] []
  exact go_return H (G := [v]) rfl d8_6 (by decide) (by decide) (fun _ q => q) ⟨v, rfl, rfl, gv, K1, S1⟩
set_option maxRecDepth 65536 in
set_option maxHeartbeats 4000000 in
theorem rm_ens {l : Launch} {Z : State} {a0 : Array Value} (H : Wd Z a0) {h : Heap} {x v : Addr} {cap n : Nat} {cs : List Int32} (S : SBd Z h x v cap cs) (hn : n ≤ cap) : Met l Z (⟨"java/lang/AbstractStringBuilder", "ensureCapacityInternal", "(I)V"⟩ : MethodName) jdk_68_method_9_code 3 none ({ frames := 0, cells := 0, slots := 0, locals := 0 } : Room) h [] #[.ref x, .int (Int32.ofNat n)] (fun u h' G => u = none ∧ h = h') := by
  refine Met.mk (L := #[.val (.ref x), .val (.int (Int32.ofNat n)), .unset]) (by decide +kernel) (fun m => by first | (simp [entryFrame, mkF, argsToLocals, Value.category]; done) | rfl) (fun K => ?_)
  show Go _ _ K "java/lang/AbstractStringBuilder" "ensureCapacityInternal" _ _ _ _ _ _ _ _ _ 0 _ _
  obtain ⟨E, Vv, C, N, hl, l1, l2, k, A⟩ := S
  refine go_aloadN (v := .ref x) (q := 1) d14_0 rfl rfl rfl ?_
  refine go_getfield (v := .ref v) (q := 4) (w_58 H) Via.refl Vv d14_1 rfl ?_
  refine go_arraylength (z := (Int32.ofNat cap)) (q := 5) A d14_4 rfl ?_
  refine go_aloadN (v := .ref x) (q := 6) d14_5 rfl rfl rfl ?_
  refine go_getfield (v := .int 0) (q := 9) (w_60 H) Via.refl C d14_6 rfl ?_
  refine go_ishr (r := (Int32.ofNat cap)) (q := 10) d14_9 (shr0 _) rfl ?_
  refine go_istoreN (L' := #[.val (.ref x), .val (.int (Int32.ofNat n)), .val (.int (Int32.ofNat cap))]) (q := 11) d14_10 rfl rfl ?_
  refine go_iloadN (v := (Int32.ofNat n)) (q := 12) d14_11 rfl rfl ?_
  refine go_iloadN (v := (Int32.ofNat cap)) (q := 13) d14_12 rfl rfl ?_
  refine go_isub (r := (Int32.ofNat n) - (Int32.ofNat cap)) (q := 14) d14_13 rfl rfl ?_
  refine go_ifY (q := 38) d14_14 (not_pos_sub hn (by omega)) (by decide) (by decide) ?_
  exact go_return H (G := []) rfl d14_38 (by decide) (by decide) (fun _ q => nomatch q) ⟨rfl, rfl⟩
set_option maxRecDepth 65536 in
set_option maxHeartbeats 4000000 in
theorem rm_infl {l : Launch} {Z : State} {a0 : Array Value} (H : Wd Z a0) {h : Heap} {F : List Addr} {x a : Addr} {cs : List Int32} (C : Fld Z h x ABN "coder" "B" (.int 0)) (S : Str Z h F a cs) : Met l Z (⟨"java/lang/AbstractStringBuilder", "inflateIfNeededFor", "(Ljava/lang/String;)V"⟩ : MethodName) jdk_68_method_71_code 2 none ({ frames := 1, cells := 0, slots := 0, locals := 13 } : Room) h [] #[.ref x, .ref a] (fun u h' G => u = none ∧ h = h') := by
  refine Met.mk (L := #[.val (.ref x), .val (.ref a)]) (by decide +kernel) (fun m => by first | (simp [entryFrame, mkF, argsToLocals, Value.category]; done) | rfl) (fun K => ?_)
  show Go _ _ K "java/lang/AbstractStringBuilder" "inflateIfNeededFor" _ _ _ _ _ _ _ _ _ 0 _ _
  obtain ⟨cz, Sz, nz⟩ := H.2.2.2.1
  refine go_getstatic (v := .int cz) (q := 3) (w_57 H) Via.refl Sz d16_0 rfl ?_
  refine go_ifN (q := 6) d16_3 nz rfl ?_
  refine go_aloadN (v := .ref x) (q := 7) d16_6 rfl rfl rfl ?_
  refine go_getfield (v := .int 0) (q := 10) (w_60 H) Via.refl C d16_7 rfl ?_
  refine go_aloadN (v := .ref a) (q := 11) d16_10 rfl rfl rfl ?_
  refine go_virtual (c' := 0) (s' := 0) (q := 14) (S := [.int 0]) (argsL := []) H (C := "java/lang/String") (w_100 H) (w_79 H) (nf_self (w_81 H)) (w_81 H) (w_80 H) (w_2 H) (w_82 H) (by decide) S.exa (rm_coder H S.2.1) rfl rfl (lenOf pd_5 rfl) (fun _ q => nomatch q) rfl (by decide) (Nat.le_of_ble_eq_true rfl) rfl rfl (by decide) (by decide) d16_11 rfl ?_
  rintro _ _ G - ⟨rfl, rfl⟩
  refine nx_ (v := none) ?_
  show Go _ _ _ _ _ _ _ _ _ _ _ _ _ _ 14 #[.val (.ref x), .val (.ref a)] [.int 0, .int 0]
  refine go_icY (q := 21) d16_14 rfl (by decide) (by decide) ?_
  exact go_return H (G := []) rfl d16_21 (by decide) (by decide) (fun _ q => nomatch q) ⟨rfl, rfl⟩
set_option maxRecDepth 65536 in
set_option maxHeartbeats 4000000 in
theorem rm_getB {l : Launch} {Z : State} {a0 : Array Value} (H : Wd Z a0) {h : Heap} {F : List Addr} {a v : Addr} {k : ClassId} {cap : Nat} {cs ds : List Int32} (S : Str Z h F a ds) (A : Arv Z h v k .byte (Int32.ofNat cap) (bts cs ++ zs (cap - cs.length)) (.int 0)) (hb : cs.length + ds.length ≤ cap) (hcap : cap ≤ 4096) : Met l Z (⟨"java/lang/String", "getBytes", "([BIB)V"⟩ : MethodName) jdk_42_method_147_code 4 none ({ frames := 1, cells := 0, slots := 0, locals := 40 } : Room) h [v] #[.ref a, .ref v, .int (Int32.ofNat cs.length), .int 0] (fun u h' G => u = none ∧ Keep h h' [v] ∧ Arv Z h' v k .byte (Int32.ofNat cap) (bts (cs ++ ds) ++ zs (cap - (cs ++ ds).length)) (.int 0)) := by
  refine Met.mk (L := #[.val (.ref a), .val (.ref v), .val (.int (Int32.ofNat cs.length)), .val (.int 0)]) (by decide +kernel) (fun m => by first | (simp [entryFrame, mkF, argsToLocals, Value.category]; done) | rfl) (fun K => ?_)
  show Go _ _ K "java/lang/String" "getBytes" _ _ _ _ _ _ _ _ _ 0 _ _
  obtain ⟨E, C, ha, hl, bb, kb, hbb, Vv, B⟩ := S
  refine go_aloadN (v := .ref a) (q := 1) d17_0 rfl rfl rfl ?_
  refine go_virtual (c' := 0) (s' := 0) (q := 4) (S := []) (argsL := []) H (C := "java/lang/String") (w_78 H) (w_79 H) (nf_self (w_81 H)) (w_81 H) (w_80 H) (w_2 H) (w_82 H) (by decide) E (rm_coder H C) rfl rfl (lenOf pd_5 rfl) (fun _ q => nomatch q) rfl (by decide) (Nat.le_of_ble_eq_true rfl) rfl rfl (by decide) (by decide) d17_1 rfl ?_
  rintro _ _ G - ⟨rfl, rfl⟩
  refine nx_ (v := none) ?_
  show Go _ _ _ _ _ _ _ _ _ _ _ _ _ _ 4 #[.val (.ref a), .val (.ref v), .val (.int (Int32.ofNat cs.length)), .val (.int 0)] [.int 0]
  refine go_iloadN (v := 0) (q := 5) d17_4 rfl rfl ?_
  refine go_icN (q := 8) d17_5 rfl rfl ?_
  refine go_aloadN (v := .ref a) (q := 9) d17_8 rfl rfl rfl ?_
  refine go_getfield (v := .ref bb) (q := 12) (w_22 H) Via.refl Vv d17_9 rfl ?_
  refine go_iconst (x := (0 : Int32)) (q := 13) d17_12 rfl rfl ?_
  refine go_aloadN (v := .ref v) (q := 14) d17_13 rfl rfl rfl ?_
  refine go_iloadN (v := (Int32.ofNat cs.length)) (q := 15) d17_14 rfl rfl ?_
  refine go_iloadN (v := 0) (q := 16) d17_15 rfl rfl ?_
  refine go_ishl (r := (Int32.ofNat cs.length)) (q := 17) d17_16 (shl0 _) rfl ?_
  refine go_aloadN (v := .ref a) (q := 18) d17_17 rfl rfl rfl ?_
  refine go_getfield (v := .ref bb) (q := 21) (w_22 H) Via.refl Vv d17_18 rfl ?_
  refine go_arraylength (z := (Int32.ofNat ds.length)) (q := 22) B d17_21 rfl ?_
  refine go_arraycopy (q := 25) (us := bts ds) (w_106 H) (w_109 H) (w_107 H) (w_108 H) B A rfl (by decide) (nn_ofNat (by omega)) (nn_ofNat (by omega)) (by rw [cl_ofNat (by omega)]; exact Nat.le_of_eq (Nat.zero_add _)) (by rw [cl_ofNat (by omega), cl_ofNat (by omega), cl_ofNat (by omega)]; exact hb) (by rw [cl_ofNat (by omega), show (0 : Int32).toNatClampNeg = 0 from rfl]; simp only [Nat.zero_add]; exact (us_eq ds).symm) (by rw [cl_ofNat (by omega), cl_ofNat (by omega), List.length_append, bts_len, List.length_replicate]; omega) (by simp) rfl (by decide) (Nat.le_of_ble_eq_true rfl) d17_22 rfl ?_
  intro h1 K1 V1
  rw [cl_ofNat (by omega), cl_ofNat (by omega), cat_eq hb] at V1
  refine go_goto (q := 43) d17_25 (by decide) (by decide) ?_
  exact go_return H (G := []) rfl d17_43 (by decide) (by decide) (fun _ q => nomatch q) ⟨rfl, K1, V1⟩
set_option maxRecDepth 65536 in
set_option maxHeartbeats 4000000 in
theorem rm_putS {l : Launch} {Z : State} {a0 : Array Value} (H : Wd Z a0) {h : Heap} {F : List Addr} {x a v : Addr} {cap : Nat} {cs ds : List Int32} (S : Str Z h F a ds) (B : SBd Z h x v cap cs) (hb : cs.length + ds.length ≤ cap) : Met l Z (⟨"java/lang/AbstractStringBuilder", "putStringAt", "(ILjava/lang/String;)V"⟩ : MethodName) jdk_68_method_73_code 3 none ({ frames := 2, cells := 0, slots := 0, locals := 55 } : Room) h [v] #[.ref x, .int (Int32.ofNat cs.length), .ref a] (fun u h' G => u = none ∧ Keep h h' [v] ∧ ∃ k, Arv Z h' v k .byte (Int32.ofNat cap) (bts (cs ++ ds) ++ zs (cap - (cs ++ ds).length)) (.int 0)) := by
  refine Met.mk (L := #[.val (.ref x), .val (.int (Int32.ofNat cs.length)), .val (.ref a)]) (by decide +kernel) (fun m => by first | (simp [entryFrame, mkF, argsToLocals, Value.category]; done) | rfl) (fun K => ?_)
  show Go _ _ K "java/lang/AbstractStringBuilder" "putStringAt" _ _ _ _ _ _ _ _ _ 0 _ _
  obtain ⟨E, Vv, C, N, hl, l1, l2, k, A⟩ := B
  refine go_aloadN (v := .ref x) (q := 1) d15_0 rfl rfl rfl ?_
  refine go_aloadN (v := .ref a) (q := 2) d15_1 rfl rfl rfl ?_
  refine go_virtual (c' := 0) (s' := 0) (q := 5) (S := []) (argsL := [.ref a]) H (C := "java/lang/StringBuilder") (w_95 H) (decl_of (w_96 H) (w_99 H)) (nf_self (w_98 H)) (w_98 H) (w_96 H) (w_54 H) (w_99 H) (by decide) E (rm_infl H C S) rfl rfl (lenOf pd_14 rfl) (fun _ q => nomatch q) rfl (by decide) (Nat.le_of_ble_eq_true rfl) rfl rfl (by decide) (by decide) d15_2 rfl ?_
  rintro _ _ G - ⟨rfl, rfl⟩
  refine nx_ (v := none) ?_
  show Go _ _ _ _ _ _ _ _ _ _ _ _ _ _ 5 #[.val (.ref x), .val (.int (Int32.ofNat cs.length)), .val (.ref a)] []
  refine go_aloadN (v := .ref a) (q := 6) d15_5 rfl rfl rfl ?_
  refine go_aloadN (v := .ref x) (q := 7) d15_6 rfl rfl rfl ?_
  refine go_getfield (v := .ref v) (q := 10) (w_58 H) Via.refl Vv d15_7 rfl ?_
  refine go_iloadN (v := (Int32.ofNat cs.length)) (q := 11) d15_10 rfl rfl ?_
  refine go_aloadN (v := .ref x) (q := 12) d15_11 rfl rfl rfl ?_
  refine go_getfield (v := .int 0) (q := 15) (w_60 H) Via.refl C d15_12 rfl ?_
  refine go_virtual (c' := 0) (s' := 0) (q := 18) (S := []) (argsL := [.ref v, .int (Int32.ofNat cs.length), .int 0]) H (C := "java/lang/String") (w_101 H) (w_102 H) (nf_self (w_104 H)) (w_104 H) (w_103 H) (w_2 H) (w_105 H) (by decide) S.exa (rm_getB H S A hb l2) rfl rfl (lenOf pd_15 rfl) (fun _ q => q) rfl (by decide) (Nat.le_of_ble_eq_true rfl) rfl rfl (by decide) (by decide) d15_15 rfl ?_
  rintro _ h1 G - ⟨rfl, K1, V1⟩
  refine nx_ (v := none) ?_
  show Go _ _ _ _ _ _ _ _ _ _ _ _ _ _ 18 #[.val (.ref x), .val (.int (Int32.ofNat cs.length)), .val (.ref a)] []
  exact go_return H (G := []) rfl d15_18 (by decide) (by decide) (fun _ q => nomatch q) ⟨rfl, K1, k, V1⟩
set_option maxRecDepth 65536 in
set_option maxHeartbeats 4000000 in
theorem rm_appA {l : Launch} {Z : State} {a0 : Array Value} (H : Wd Z a0) {h : Heap} {F : List Addr} {x a v : Addr} {cap : Nat} {cs ds : List Int32} (S : Str Z h F a ds) (B : SBd Z h x v cap cs) (hb : cs.length + ds.length ≤ cap) : Met l Z (⟨"java/lang/AbstractStringBuilder", "append", "(Ljava/lang/String;)Ljava/lang/AbstractStringBuilder;"⟩ : MethodName) jdk_68_method_22_code 3 (some (.object "java/lang/AbstractStringBuilder")) ({ frames := 3, cells := 0, slots := 0, locals := 70 } : Room) h [x, v] #[.ref x, .ref a] (fun u h' G => u = some (.ref x) ∧ Keep h h' [x, v] ∧ SBd Z h' x v cap (cs ++ ds)) := by
  refine Met.mk (L := #[.val (.ref x), .val (.ref a), .unset]) (by decide +kernel) (fun m => by first | (simp [entryFrame, mkF, argsToLocals, Value.category]; done) | rfl) (fun K => ?_)
  show Go _ _ K "java/lang/AbstractStringBuilder" "append" _ _ _ _ _ _ _ _ _ 0 _ _
  have B0 := B
  obtain ⟨E, Vv, C, N, hl, l1, l2, k, A⟩ := B
  have s2 : RoadKit.slotOf Z ABN "value" "[B" ≠ RoadKit.slotOf Z ABN "count" "I" := slot_ne (C := SBN) (Or.inl (w_59 H)) (Or.inl (w_84 H)) (by decide) (t := .array .byte) (t' := .int) (by decide) (by decide)
  have s3 : RoadKit.slotOf Z ABN "coder" "B" ≠ RoadKit.slotOf Z ABN "count" "I" := slot_ne (C := SBN) (Or.inl (w_61 H)) (Or.inl (w_84 H)) (by decide) (t := .byte) (t' := .int) (by decide) (by decide)
  have nxv : v ≠ x := (E.neArv A (w_45 H)).symm
  refine go_aloadN (v := .ref a) (q := 1) d11_0 rfl rfl rfl ?_
  refine go_nnY (q := 9) d11_1 (by decide) (by decide) ?_
  refine go_aloadN (v := .ref a) (q := 10) d11_9 rfl rfl rfl ?_
  refine go_virtual (c' := 0) (s' := 0) (q := 13) (S := []) (argsL := []) H (C := "java/lang/String") (w_73 H) (w_74 H) (nf_self (w_76 H)) (w_76 H) (w_75 H) (w_2 H) (w_77 H) (by decide) S.exa (rm_len H S) rfl rfl (lenOf pd_16 rfl) (fun _ q => nomatch q) rfl (by decide) (Nat.le_of_ble_eq_true rfl) rfl rfl (by decide) (by decide) d11_10 rfl ?_
  rintro _ _ G - ⟨rfl, rfl⟩
  refine nx_ (v := none) ?_
  show Go _ _ _ _ _ _ _ _ _ _ _ _ _ _ 13 #[.val (.ref x), .val (.ref a), .unset] [.int (Int32.ofNat ds.length)]
  refine go_istoreN (L' := #[.val (.ref x), .val (.ref a), .val (.int (Int32.ofNat ds.length))]) (q := 14) d11_13 rfl rfl ?_
  refine go_aloadN (v := .ref x) (q := 15) d11_14 rfl rfl rfl ?_
  refine go_aloadN (v := .ref x) (q := 16) d11_15 rfl rfl rfl ?_
  refine go_getfield (v := .int (Int32.ofNat cs.length)) (q := 19) (w_83 H) Via.refl N d11_16 rfl ?_
  refine go_iloadN (v := (Int32.ofNat ds.length)) (q := 20) d11_19 rfl rfl ?_
  refine go_iadd (r := (Int32.ofNat (cs.length + ds.length))) (q := 21) d11_20 (add_ofNat _ _) rfl ?_
  refine go_virtual (c' := 0) (s' := 0) (q := 24) (S := []) (argsL := [.int (Int32.ofNat (cs.length + ds.length))]) H (C := "java/lang/StringBuilder") (w_85 H) (decl_of (w_86 H) (w_89 H)) (nf_self (w_88 H)) (w_88 H) (w_86 H) (w_54 H) (w_89 H) (by decide) E (rm_ens H B0 hb) rfl rfl (lenOf pd_13 rfl) (fun _ q => nomatch q) rfl (by decide) (Nat.le_of_ble_eq_true rfl) rfl rfl (by decide) (by decide) d11_21 rfl ?_
  rintro _ _ G - ⟨rfl, rfl⟩
  refine nx_ (v := none) ?_
  show Go _ _ _ _ _ _ _ _ _ _ _ _ _ _ 24 #[.val (.ref x), .val (.ref a), .val (.int (Int32.ofNat ds.length))] []
  refine go_aloadN (v := .ref x) (q := 25) d11_24 rfl rfl rfl ?_
  refine go_aloadN (v := .ref x) (q := 26) d11_25 rfl rfl rfl ?_
  refine go_getfield (v := .int (Int32.ofNat cs.length)) (q := 29) (w_83 H) Via.refl N d11_26 rfl ?_
  refine go_aloadN (v := .ref a) (q := 30) d11_29 rfl rfl rfl ?_
  refine go_virtual (c' := 0) (s' := 0) (q := 33) (S := []) (argsL := [.int (Int32.ofNat cs.length), .ref a]) H (C := "java/lang/StringBuilder") (w_90 H) (decl_of (w_91 H) (w_94 H)) (nf_self (w_93 H)) (w_93 H) (w_91 H) (w_54 H) (w_94 H) (by decide) E (rm_putS H S B0 hb) rfl rfl (lenOf pd_17 rfl) (by simp) rfl (by decide) (Nat.le_of_ble_eq_true rfl) rfl rfl (by decide) (by decide) d11_30 rfl ?_
  rintro _ h1 G - ⟨rfl, K1, k1, V1⟩
  refine nx_ (v := none) ?_
  show Go _ _ _ _ _ _ _ _ _ _ _ _ _ _ 33 #[.val (.ref x), .val (.ref a), .val (.int (Int32.ofNat ds.length))] []
  refine go_aloadN (v := .ref x) (q := 34) d11_33 rfl rfl rfl ?_
  refine go_dup (q := 35) d11_34 rfl rfl ?_
  refine go_getfield (v := .int (Int32.ofNat cs.length)) (q := 38) (w_83 H) Via.refl (N.keep K1 (ninS nxv.symm nin0)) d11_35 rfl ?_
  refine go_iloadN (v := (Int32.ofNat ds.length)) (q := 39) d11_38 rfl rfl ?_
  refine go_iadd (r := (Int32.ofNat (cs ++ ds).length)) (q := 40) d11_39 ((add_ofNat _ _).trans (by rw [List.length_append])) rfl ?_
  refine go_putfield (q := 43) (w_83 H) Via.refl (N.keep K1 (ninS nxv.symm nin0)) (E.keep K1) (Or.inl (w_84 H)) (w_45 H) (ty := .int) (by decide) rfl rfl (by simp) d11_40 rfl ?_
  intro h2 W2
  have Kp : Keep h h2 [x, v] := (kless K1 (by simp)).wr W2 (Or.inl (by simp))
  refine go_aloadN (v := .ref x) (q := 44) d11_43 rfl rfl rfl ?_
  exact go_areturn H (G := []) (t := (.object "java/lang/AbstractStringBuilder")) rfl rfl rfl d11_44 (by decide) (by decide) (fun _ q => nomatch q) ⟨rfl, Kp, (E.keep K1).wr W2, (Vv.keep K1 (ninS nxv.symm nin0)).other W2 (Or.inr s2), (C.keep K1 (ninS nxv.symm nin0)).other W2 (Or.inr s3), (N.keep K1 (ninS nxv.symm nin0)).same W2, hl.app S.lat (by omega), by rw [List.length_append]; exact hb, l2, k1, V1.other W2 nxv⟩
set_option maxRecDepth 65536 in
set_option maxHeartbeats 4000000 in
theorem rm_app {l : Launch} {Z : State} {a0 : Array Value} (H : Wd Z a0) {h : Heap} {F : List Addr} {x a v : Addr} {cap : Nat} {cs ds : List Int32} (S : Str Z h F a ds) (B : SBd Z h x v cap cs) (hb : cs.length + ds.length ≤ cap) : Met l Z (⟨"java/lang/StringBuilder", "append", "(Ljava/lang/String;)Ljava/lang/StringBuilder;"⟩ : MethodName) jdk_67_method_7_code 2 (some (.object "java/lang/StringBuilder")) ({ frames := 4, cells := 0, slots := 0, locals := 85 } : Room) h [x, v] #[.ref x, .ref a] (fun u h' G => u = some (.ref x) ∧ Keep h h' [x, v] ∧ SBd Z h' x v cap (cs ++ ds)) := by
  refine Met.mk (L := #[.val (.ref x), .val (.ref a)]) (by decide +kernel) (fun m => by first | (simp [entryFrame, mkF, argsToLocals, Value.category]; done) | rfl) (fun K => ?_)
  show Go _ _ K "java/lang/StringBuilder" "append" _ _ _ _ _ _ _ _ _ 0 _ _
  refine go_aloadN (v := .ref x) (q := 1) d10_0 rfl rfl rfl ?_
  refine go_aloadN (v := .ref a) (q := 2) d10_1 rfl rfl rfl ?_
  refine go_super (c' := 0) (s' := 0) (q := 5) (S := []) (argsL := [.ref a]) H (C := "java/lang/StringBuilder") (w_68 H) (same_of (y := ({ cls := "java/lang/AbstractStringBuilder", name := "append", desc := "(Ljava/lang/String;)Ljava/lang/AbstractStringBuilder;" } : Jvm.MethodName)) (w := ({ cls := "java/lang/AbstractStringBuilder", name := "ensureCapacityInternal", desc := "(I)V" } : Jvm.MethodName)) (C := "java/lang/StringBuilder") rfl (w_88 H) (w_71 H) (by decide)) (w_69 H) (w_70 H) (w_54 H) (w_72 H) (by decide) B.exa (rm_appA H S B hb) rfl rfl (lenOf pd_18 rfl) (fun _ q => q) rfl (by decide) (Nat.le_of_ble_eq_true rfl) rfl rfl (by decide) (by decide) d10_2 rfl ?_
  rintro _ h1 G - ⟨rfl, K1, S1⟩
  refine nx_ (v := none) ?_
  show Go _ _ _ _ _ _ _ _ _ _ _ _ _ _ 5 #[.val (.ref x), .val (.ref a)] [.ref x]
  refine go_pop (q := 6) d10_5 rfl rfl ?_
  refine go_aloadN (v := .ref x) (q := 7) d10_6 rfl rfl rfl ?_
  exact go_areturn H (G := []) (t := (.object "java/lang/StringBuilder")) rfl rfl rfl d10_7 (by decide) (by decide) (fun _ q => nomatch q) ⟨rfl, K1, S1⟩
set_option maxRecDepth 65536 in
set_option maxHeartbeats 4000000 in
theorem rm_min {l : Launch} {Z : State} {a0 : Array Value} (H : Wd Z a0) {h : Heap} {i j : Int32}  : Met l Z (⟨"java/lang/Math", "min", "(II)I"⟩ : MethodName) jdk_29_method_69_code 2 (some .int) ({ frames := 0, cells := 0, slots := 0, locals := 0 } : Room) h [] #[.int i, .int j] (fun u h' G => u = some (.int (if j < i then j else i)) ∧ h = h') := by
  refine Met.mk (L := #[.val (.int i), .val (.int j)]) (by decide +kernel) (fun m => by first | (simp [entryFrame, mkF, argsToLocals, Value.category]; done) | rfl) (fun K => ?_)
  show Go _ _ K "java/lang/Math" "min" _ _ _ _ _ _ _ _ _ 0 _ _
  refine go_iloadN (v := i) (q := 1) d28_0 rfl rfl ?_
  refine go_iloadN (v := j) (q := 2) d28_1 rfl rfl ?_
  by_cases q : j < i
  · refine go_icY (q := 9) d28_2 q (by decide) (by decide) ?_
    refine go_iloadN (v := j) (q := 10) d28_9 rfl rfl ?_
    exact go_ireturn H (G := []) (t := .int) rfl (by decide) rfl d28_10 (by decide) (by decide) (fun _ q => nomatch q) ⟨by rw [if_pos q], rfl⟩
  · refine go_icN (q := 5) d28_2 q rfl ?_
    refine go_iloadN (v := i) (q := 6) d28_5 rfl rfl ?_
    refine go_goto (q := 10) d28_6 (by decide) (by decide) ?_
    exact go_ireturn H (G := []) (t := .int) rfl (by decide) rfl d28_10 (by decide) (by decide) (fun _ q => nomatch q) ⟨by rw [if_neg q], rfl⟩
set_option maxRecDepth 65536 in
set_option maxHeartbeats 4000000 in
theorem rm_max {l : Launch} {Z : State} {a0 : Array Value} (H : Wd Z a0) {h : Heap} {i j : Int32}  : Met l Z (⟨"java/lang/Math", "max", "(II)I"⟩ : MethodName) jdk_29_method_65_code 2 (some .int) ({ frames := 0, cells := 0, slots := 0, locals := 0 } : Room) h [] #[.int i, .int j] (fun u h' G => u = some (.int (if i < j then j else i)) ∧ h = h') := by
  refine Met.mk (L := #[.val (.int i), .val (.int j)]) (by decide +kernel) (fun m => by first | (simp [entryFrame, mkF, argsToLocals, Value.category]; done) | rfl) (fun K => ?_)
  show Go _ _ K "java/lang/Math" "max" _ _ _ _ _ _ _ _ _ 0 _ _
  refine go_iloadN (v := i) (q := 1) d32_0 rfl rfl ?_
  refine go_iloadN (v := j) (q := 2) d32_1 rfl rfl ?_
  by_cases q : i < j
  · refine go_icY (q := 9) d32_2 q (by decide) (by decide) ?_
    refine go_iloadN (v := j) (q := 10) d32_9 rfl rfl ?_
    exact go_ireturn H (G := []) (t := .int) rfl (by decide) rfl d32_10 (by decide) (by decide) (fun _ q => nomatch q) ⟨by rw [if_pos q], rfl⟩
  · refine go_icN (q := 5) d32_2 q rfl ?_
    refine go_iloadN (v := i) (q := 6) d32_5 rfl rfl ?_
    refine go_goto (q := 10) d32_6 (by decide) (by decide) ?_
    exact go_ireturn H (G := []) (t := .int) rfl (by decide) rfl d32_10 (by decide) (by decide) (fun _ q => nomatch q) ⟨by rw [if_neg q], rfl⟩
set_option maxRecDepth 65536 in
set_option maxHeartbeats 4000000 in
theorem rm_ckL {l : Launch} {Z : State} {a0 : Array Value} (H : Wd Z a0) {h : Heap} {i j : Int32} (hij : ¬ j < i) : Met l Z (⟨"java/util/Arrays", "checkLength", "(II)V"⟩ : MethodName) jdk_65_method_131_code 2 none ({ frames := 0, cells := 0, slots := 0, locals := 0 } : Room) h [] #[.int i, .int j] (fun u h' G => u = none ∧ h = h') := by
  refine Met.mk (L := #[.val (.int i), .val (.int j)]) (by decide +kernel) (fun m => by first | (simp [entryFrame, mkF, argsToLocals, Value.category]; done) | rfl) (fun K => ?_)
  show Go _ _ K "java/util/Arrays" "checkLength" _ _ _ _ _ _ _ _ _ 0 _ _
  refine go_iloadN (v := j) (q := 1) d27_0 rfl rfl ?_
  refine go_iloadN (v := i) (q := 2) d27_1 rfl rfl ?_
  refine go_icY (q := 37) d27_2 hij (by decide) (by decide) ?_
  exact go_return H (G := []) rfl d27_37 (by decide) (by decide) (fun _ q => nomatch q) ⟨rfl, rfl⟩
set_option maxRecDepth 65536 in
set_option maxHeartbeats 4000000 in
theorem rm_nwl {l : Launch} {Z : State} {a0 : Array Value} (H : Wd Z a0) {h : Heap} {a g p : Nat} (h1 : g ≤ p) (h2 : a + p ≤ 1000) (h3 : 0 < a + p) : Met l Z (⟨"jdk/internal/util/ArraysSupport", "newLength", "(III)I"⟩ : MethodName) jdk_48_method_27_code 4 (some .int) ({ frames := 1, cells := 0, slots := 0, locals := 14 } : Room) h [] #[.int (Int32.ofNat a), .int (Int32.ofNat g), .int (Int32.ofNat p)] (fun u h' G => u = some (.int (Int32.ofNat (a + p))) ∧ h = h') := by
  refine Met.mk (L := #[.val (.int (Int32.ofNat a)), .val (.int (Int32.ofNat g)), .val (.int (Int32.ofNat p)), .unset]) (by decide +kernel) (fun m => by first | (simp [entryFrame, mkF, argsToLocals, Value.category]; done) | rfl) (fun K => ?_)
  show Go _ _ K "jdk/internal/util/ArraysSupport" "newLength" _ _ _ _ _ _ _ _ _ 0 _ _
  refine go_iloadN (v := (Int32.ofNat a)) (q := 1) d31_0 rfl rfl ?_
  refine go_iloadN (v := (Int32.ofNat g)) (q := 2) d31_1 rfl rfl ?_
  refine go_iloadN (v := (Int32.ofNat p)) (q := 3) d31_2 rfl rfl ?_
  refine go_static (c' := 0) (s' := 0) (q := 6) (S := [.int (Int32.ofNat a)]) (argsL := [.int (Int32.ofNat g), .int (Int32.ofNat p)]) H (w_172 H) (w_173 H) (w_152 H) (w_174 H) (by decide) (rm_max H) rfl rfl (lenOf pd_19 rfl) (fun _ q => nomatch q) rfl (by decide) (Nat.le_of_ble_eq_true rfl) rfl rfl (by decide) (by decide) d31_3 rfl ?_
  rintro _ _ G - ⟨rfl, rfl⟩
  refine nx_ (v := none) ?_
  show Go _ _ _ _ _ _ _ _ _ _ _ _ _ _ 6 #[.val (.int (Int32.ofNat a)), .val (.int (Int32.ofNat g)), .val (.int (Int32.ofNat p)), .unset] [.int (if Int32.ofNat g < Int32.ofNat p then Int32.ofNat p else Int32.ofNat g), .int (Int32.ofNat a)]
  rw [show (if Int32.ofNat g < Int32.ofNat p then Int32.ofNat p else Int32.ofNat g) = Int32.ofNat p from by split; rfl; rename_i q; rw [lt_ofNat (by omega) (by omega)] at q; rw [show g = p by omega]]
  show Go _ _ _ _ _ _ _ _ _ _ _ _ _ _ 6 #[.val (.int (Int32.ofNat a)), .val (.int (Int32.ofNat g)), .val (.int (Int32.ofNat p)), .unset] [.int (Int32.ofNat p), .int (Int32.ofNat a)]
  refine go_iadd (r := (Int32.ofNat (a + p))) (q := 7) d31_6 (add_ofNat _ _) rfl ?_
  refine go_istoreN (L' := #[.val (.int (Int32.ofNat a)), .val (.int (Int32.ofNat g)), .val (.int (Int32.ofNat p)), .val (.int (Int32.ofNat (a + p)))]) (q := 8) d31_7 rfl rfl ?_
  refine go_iconst (x := (0 : Int32)) (q := 9) d31_8 rfl rfl ?_
  refine go_iloadN (v := (Int32.ofNat (a + p))) (q := 10) d31_9 rfl rfl ?_
  refine go_icN (q := 13) d31_10 ((lt_ofNat (i := 0) (by omega) (by omega)).mpr h3) rfl ?_
  refine go_iloadN (v := (Int32.ofNat (a + p))) (q := 14) d31_13 rfl rfl ?_
  refine go_ldcInt (v := (2147483639 : Int32)) (q := 16) (w_175 H) d31_14 rfl ?_
  refine go_icN (q := 19) d31_16 (fun q => absurd ((lt_ofNat (i := 2147483639) (by decide) (by omega)).mp q) (by omega)) rfl ?_
  refine go_iloadN (v := (Int32.ofNat (a + p))) (q := 20) d31_19 rfl rfl ?_
  exact go_ireturn H (G := []) (t := .int) rfl (by decide) rfl d31_20 (by decide) (by decide) (fun _ q => nomatch q) ⟨rfl, rfl⟩
set_option maxRecDepth 65536 in
set_option maxHeartbeats 4000000 in
theorem rm_nwc {l : Launch} {Z : State} {a0 : Array Value} (H : Wd Z a0) {h : Heap} {x v : Addr} {cap n : Nat} {cs : List Int32} (B : SBd Z h x v cap cs) (h1 : cap < n) (h2 : n ≤ cap + (cap + 2)) (h3 : cap ≤ 34) : Met l Z (⟨"java/lang/AbstractStringBuilder", "newCapacity", "(I)I"⟩ : MethodName) jdk_68_method_10_code 6 (some .int) ({ frames := 2, cells := 0, slots := 0, locals := 32 } : Room) h [] #[.ref x, .int (Int32.ofNat n)] (fun u h' G => u = some (.int (Int32.ofNat (cap + (cap + 2)))) ∧ h = h') := by
  refine Met.mk (L := #[.val (.ref x), .val (.int (Int32.ofNat n)), .unset, .unset, .unset, .unset]) (by decide +kernel) (fun m => by first | (simp [entryFrame, mkF, argsToLocals, Value.category]; done) | rfl) (fun K => ?_)
  show Go _ _ K "java/lang/AbstractStringBuilder" "newCapacity" _ _ _ _ _ _ _ _ _ 0 _ _
  obtain ⟨E, Vv, C, N, hl, l1, l2, k, A⟩ := B
  refine go_aloadN (v := .ref x) (q := 1) d30_0 rfl rfl rfl ?_
  refine go_getfield (v := .ref v) (q := 4) (w_58 H) Via.refl Vv d30_1 rfl ?_
  refine go_arraylength (z := (Int32.ofNat cap)) (q := 5) A d30_4 rfl ?_
  refine go_istoreN (L' := #[.val (.ref x), .val (.int (Int32.ofNat n)), .val (.int (Int32.ofNat cap)), .unset, .unset, .unset]) (q := 6) d30_5 rfl rfl ?_
  refine go_iloadN (v := (Int32.ofNat n)) (q := 7) d30_6 rfl rfl ?_
  refine go_aloadN (v := .ref x) (q := 8) d30_7 rfl rfl rfl ?_
  refine go_getfield (v := .int 0) (q := 11) (w_60 H) Via.refl C d30_8 rfl ?_
  refine go_ishl (r := (Int32.ofNat n)) (q := 12) d30_11 (shl0 _) rfl ?_
  refine go_istoreN (L' := #[.val (.ref x), .val (.int (Int32.ofNat n)), .val (.int (Int32.ofNat cap)), .val (.int (Int32.ofNat n)), .unset, .unset]) (q := 13) d30_12 rfl rfl ?_
  refine go_iloadN (v := (Int32.ofNat n)) (q := 14) d30_13 rfl rfl ?_
  refine go_iloadN (v := (Int32.ofNat cap)) (q := 15) d30_14 rfl rfl ?_
  refine go_isub (r := (Int32.ofNat (n - cap))) (q := 16) d30_15 (subNat (by omega) (by omega)) rfl ?_
  refine go_istore (L' := #[.val (.ref x), .val (.int (Int32.ofNat n)), .val (.int (Int32.ofNat cap)), .val (.int (Int32.ofNat n)), .val (.int (Int32.ofNat (n - cap))), .unset]) (q := 18) d30_16 rfl rfl ?_
  refine go_iloadN (v := (Int32.ofNat cap)) (q := 19) d30_18 rfl rfl ?_
  refine go_iload (v := (Int32.ofNat (n - cap))) (q := 21) d30_19 rfl rfl ?_
  refine go_iloadN (v := (Int32.ofNat cap)) (q := 22) d30_21 rfl rfl ?_
  refine go_iconst (x := (2 : Int32)) (q := 23) d30_22 rfl rfl ?_
  refine go_aloadN (v := .ref x) (q := 24) d30_23 rfl rfl rfl ?_
  refine go_getfield (v := .int 0) (q := 27) (w_60 H) Via.refl C d30_24 rfl ?_
  refine go_ishl (r := (2 : Int32)) (q := 28) d30_27 (shl0 _) rfl ?_
  refine go_iadd (r := (Int32.ofNat (cap + 2))) (q := 29) d30_28 (add_ofNat cap 2) rfl ?_
  refine go_static (c' := 0) (s' := 0) (q := 32) (S := []) (argsL := [.int (Int32.ofNat cap), .int (Int32.ofNat (n - cap)), .int (Int32.ofNat (cap + 2))]) H (w_168 H) (w_169 H) (w_170 H) (w_171 H) (by decide) (rm_nwl H (a := cap) (g := n - cap) (p := cap + 2) (by omega) (by omega) (by omega)) rfl rfl (lenOf pd_20 rfl) (fun _ q => nomatch q) rfl (by decide) (Nat.le_of_ble_eq_true rfl) rfl rfl (by decide) (by decide) d30_29 rfl ?_
  rintro _ _ G - ⟨rfl, rfl⟩
  refine nx_ (v := none) ?_
  show Go _ _ _ _ _ _ _ _ _ _ _ _ _ _ 32 #[.val (.ref x), .val (.int (Int32.ofNat n)), .val (.int (Int32.ofNat cap)), .val (.int (Int32.ofNat n)), .val (.int (Int32.ofNat (n - cap))), .unset] [.int (Int32.ofNat (cap + (cap + 2)))]
  refine go_istore (L' := #[.val (.ref x), .val (.int (Int32.ofNat n)), .val (.int (Int32.ofNat cap)), .val (.int (Int32.ofNat n)), .val (.int (Int32.ofNat (n - cap))), .val (.int (Int32.ofNat (cap + (cap + 2))))]) (q := 34) d30_32 rfl rfl ?_
  refine go_iload (v := (Int32.ofNat (cap + (cap + 2)))) (q := 36) d30_34 rfl rfl ?_
  refine go_ldcInt (v := (2147483647 : Int32)) (q := 38) (w_176 H) d30_36 rfl ?_
  refine go_icY (q := 51) d30_38 (show ¬ _ = _ from fun e => absurd ((eq_ofNat (n := 2147483647) (by omega) (by decide)).mp e) (by omega)) (by decide) (by decide) ?_
  refine go_iload (v := (Int32.ofNat (cap + (cap + 2)))) (q := 53) d30_51 rfl rfl ?_
  refine go_aloadN (v := .ref x) (q := 54) d30_53 rfl rfl rfl ?_
  refine go_getfield (v := .int 0) (q := 57) (w_60 H) Via.refl C d30_54 rfl ?_
  refine go_ishr (r := (Int32.ofNat (cap + (cap + 2)))) (q := 58) d30_57 (shr0 _) rfl ?_
  exact go_ireturn H (G := []) (t := .int) rfl (by decide) rfl d30_58 (by decide) (by decide) (fun _ q => nomatch q) ⟨rfl, rfl⟩
set_option maxRecDepth 65536 in
set_option maxHeartbeats 4000000 in
theorem rm_cpO {l : Launch} {Z : State} {a0 : Array Value} (H : Wd Z a0) {h : Heap} {v : Addr} {k : ClassId} {n m : Nat} {cs : List Int32} (A : Arv Z h v k .byte (Int32.ofNat n) (bts cs ++ zs (n - cs.length)) (.int 0)) (hb : cs.length ≤ n) (hn : n < m) (hm : m ≤ 70) : Met l Z (⟨"java/util/Arrays", "copyOf", "([BI)[B"⟩ : MethodName) jdk_65_method_121_code 3 (some (.array .byte)) ({ frames := 1, cells := 1, slots := 70, locals := 34 } : Room) h [] #[.ref v, .int (Int32.ofNat m)] (fun u h' G => ∃ ba kb, u = some (.ref ba) ∧ G = [ba] ∧ h.size ≤ ba ∧ Keep h h' [] ∧ Exa Z h' ba "[B" ∧ Arv Z h' ba kb .byte (Int32.ofNat m) (bts cs ++ zs (m - cs.length)) (.int 0)) := by
  refine Met.mk (L := #[.val (.ref v), .val (.int (Int32.ofNat m)), .unset]) (by decide +kernel) (fun m => by first | (simp [entryFrame, mkF, argsToLocals, Value.category]; done) | rfl) (fun K => ?_)
  show Go _ _ K "java/util/Arrays" "copyOf" _ _ _ _ _ _ _ _ _ 0 _ _
  have Ka : Keep h h [] := Keep.refl _ _
  refine go_iloadN (v := (Int32.ofNat m)) (q := 1) d33_0 rfl rfl ?_
  refine go_aloadN (v := .ref v) (q := 2) d33_1 rfl rfl rfl ?_
  refine go_arraylength (z := (Int32.ofNat n)) (q := 3) A d33_2 rfl ?_
  refine go_icY (q := 14) d33_3 (show ¬ _ = _ from fun e => absurd ((eq_ofNat (by omega) (by omega)).mp e) (by omega)) (by decide) (by decide) ?_
  refine go_iloadN (v := (Int32.ofNat m)) (q := 15) d33_14 rfl rfl ?_
  refine go_newarray (ty := .byte) (dv := .int 0) (n := m) (cap := 70) (ad := "[B") (c' := 1) (s' := 70) (q := 17) rfl rfl (cl_ofNat (by omega)) (w_14 H) d33_15 (nn_ofNat (by omega)) hm (by decide) rfl rfl rfl rfl (by decide) (by decide) ?_
  intro h1 ba kb g1 E1 V1 X1
  have f_Ka_ba : h.size ≤ ba := by rw [g1]; exact Ka.1
  have Ka : Keep h h1 [] := Ka.ext E1
  refine go_astoreN (L' := #[.val (.ref v), .val (.int (Int32.ofNat m)), .val (.ref ba)]) (q := 18) d33_17 rfl rfl rfl ?_
  refine go_aloadN (v := .ref v) (q := 19) d33_18 rfl rfl rfl ?_
  refine go_iconst (x := (0 : Int32)) (q := 20) d33_19 rfl rfl ?_
  refine go_aloadN (v := .ref ba) (q := 21) d33_20 rfl rfl rfl ?_
  refine go_iconst (x := (0 : Int32)) (q := 22) d33_21 rfl rfl ?_
  refine go_aloadN (v := .ref v) (q := 23) d33_22 rfl rfl rfl ?_
  refine go_arraylength (z := (Int32.ofNat n)) (q := 24) (A.ext E1) d33_23 rfl ?_
  refine go_iloadN (v := (Int32.ofNat m)) (q := 25) d33_24 rfl rfl ?_
  refine go_static (c' := 1) (s' := 70) (q := 28) (S := [.int (0 : Int32), .ref ba, .int (0 : Int32), .ref v]) (argsL := [.int (Int32.ofNat n), .int (Int32.ofNat m)]) H (w_150 H) (w_151 H) (w_152 H) (w_153 H) (by decide) (rm_min H) rfl rfl (lenOf pd_19 rfl) (fun _ q => nomatch q) rfl (by decide) (Nat.le_of_ble_eq_true rfl) rfl rfl (by decide) (by decide) d33_25 rfl ?_
  rintro _ _ G - ⟨rfl, rfl⟩
  refine nx_ (v := none) ?_
  show Go _ _ _ _ _ _ _ _ _ _ _ _ _ _ 28 #[.val (.ref v), .val (.int (Int32.ofNat m)), .val (.ref ba)] [.int (if Int32.ofNat m < Int32.ofNat n then Int32.ofNat m else Int32.ofNat n), .int (0 : Int32), .ref ba, .int (0 : Int32), .ref v]
  rw [show (if Int32.ofNat m < Int32.ofNat n then Int32.ofNat m else Int32.ofNat n) = Int32.ofNat n from if_neg (fun q => absurd ((lt_ofNat (by omega) (by omega)).mp q) (by omega))]
  show Go _ _ _ _ _ _ _ _ _ _ _ _ _ _ 28 #[.val (.ref v), .val (.int (Int32.ofNat m)), .val (.ref ba)] [.int (Int32.ofNat n), .int (0 : Int32), .ref ba, .int (0 : Int32), .ref v]
  have hvl : (bts cs ++ zs (n - cs.length)).length = n := by rw [List.length_append, bts_len, List.length_replicate]; omega
  refine go_arraycopy (q := 31) (us := bts cs ++ zs (n - cs.length)) (w_154 H) (w_109 H) (w_107 H) (w_108 H) (A.ext E1) V1 rfl (by decide) (by decide) (nn_ofNat (by omega)) (by rw [cl_ofNat (by omega)]; exact Nat.le_of_eq (Nat.zero_add _)) (by rw [cl_ofNat (by omega), cl_ofNat (by omega)]; exact Nat.le_trans (Nat.le_of_eq (Nat.zero_add _)) (Nat.le_of_lt hn)) (by rw [cl_ofNat (by omega), show (0 : Int32).toNatClampNeg = 0 from rfl]; simp only [Nat.zero_add]; rw [show List.range n = List.range (bts cs ++ zs (n - cs.length)).length by rw [hvl]]; exact (range_all _ _).symm) (by rw [cl_ofNat (by omega), List.length_replicate]; exact Nat.le_trans (Nat.le_of_eq (Nat.zero_add _)) (Nat.le_of_lt hn)) (by simp) rfl (by decide) (Nat.le_of_ble_eq_true rfl) d33_28 rfl ?_
  intro h2 K2 V2
  have Ka : Keep h h2 [] := kfresh Ka K2 f_Ka_ba
  rw [cl_ofNat (by omega), show (0 : Int32).toNatClampNeg = 0 from rfl, List.take_zero, List.nil_append, Nat.zero_add, List.drop_replicate, List.append_assoc, show zs (n - cs.length) ++ List.replicate (m - n) (Value.int 0) = zs (m - cs.length) from by rw [List.replicate_append_replicate]; congr 1; omega] at V2
  refine go_aloadN (v := .ref ba) (q := 32) d33_31 rfl rfl rfl ?_
  exact go_areturn H (G := [ba]) (t := (.array .byte)) rfl rfl rfl d33_32 (by decide) (by decide) (by simp) ⟨ba, kb, rfl, rfl, f_Ka_ba, Ka, X1.keep K2, V2⟩
set_option maxRecDepth 65536 in
set_option maxHeartbeats 4000000 in
theorem rm_ensG {l : Launch} {Z : State} {a0 : Array Value} (H : Wd Z a0) {h : Heap} {x v : Addr} {cap n : Nat} {cs : List Int32} (B : SBd Z h x v cap cs) (h1 : cap < n) (h2 : n ≤ cap + (cap + 2)) (h3 : cap ≤ 34) : Met l Z (⟨"java/lang/AbstractStringBuilder", "ensureCapacityInternal", "(I)V"⟩ : MethodName) jdk_68_method_9_code 3 none ({ frames := 3, cells := 1, slots := 70, locals := 52 } : Room) h [x] #[.ref x, .int (Int32.ofNat n)] (fun u h' G => ∃ w, u = none ∧ G = [w] ∧ h.size ≤ w ∧ Keep h h' [x] ∧ SBd Z h' x w (cap + (cap + 2)) cs ∧ Exa Z h' w "[B") := by
  refine Met.mk (L := #[.val (.ref x), .val (.int (Int32.ofNat n)), .unset]) (by decide +kernel) (fun m => by first | (simp [entryFrame, mkF, argsToLocals, Value.category]; done) | rfl) (fun K => ?_)
  show Go _ _ K "java/lang/AbstractStringBuilder" "ensureCapacityInternal" _ _ _ _ _ _ _ _ _ 0 _ _
  have B0 := B
  obtain ⟨E, Vv, C, N, hl, l1, l2, k, A⟩ := B
  have s1 : RoadKit.slotOf Z ABN "value" "[B" ≠ RoadKit.slotOf Z ABN "coder" "B" := slot_ne (C := SBN) (Or.inl (w_59 H)) (Or.inl (w_61 H)) (by decide) (t := .array .byte) (t' := .byte) (by decide) (by decide)
  have s2 : RoadKit.slotOf Z ABN "value" "[B" ≠ RoadKit.slotOf Z ABN "count" "I" := slot_ne (C := SBN) (Or.inl (w_59 H)) (Or.inl (w_84 H)) (by decide) (t := .array .byte) (t' := .int) (by decide) (by decide)
  refine go_aloadN (v := .ref x) (q := 1) d14_0 rfl rfl rfl ?_
  refine go_getfield (v := .ref v) (q := 4) (w_58 H) Via.refl Vv d14_1 rfl ?_
  refine go_arraylength (z := (Int32.ofNat cap)) (q := 5) A d14_4 rfl ?_
  refine go_aloadN (v := .ref x) (q := 6) d14_5 rfl rfl rfl ?_
  refine go_getfield (v := .int 0) (q := 9) (w_60 H) Via.refl C d14_6 rfl ?_
  refine go_ishr (r := (Int32.ofNat cap)) (q := 10) d14_9 (shr0 _) rfl ?_
  refine go_istoreN (L' := #[.val (.ref x), .val (.int (Int32.ofNat n)), .val (.int (Int32.ofNat cap))]) (q := 11) d14_10 rfl rfl ?_
  refine go_iloadN (v := (Int32.ofNat n)) (q := 12) d14_11 rfl rfl ?_
  refine go_iloadN (v := (Int32.ofNat cap)) (q := 13) d14_12 rfl rfl ?_
  refine go_isub (r := (Int32.ofNat (n - cap))) (q := 14) d14_13 (subNat (by omega) (by omega)) rfl ?_
  refine go_ifN (q := 17) d14_14 ((lt_ofNat (i := 0) (by omega) (by omega)).mpr (by omega)) rfl ?_
  refine go_aloadN (v := .ref x) (q := 18) d14_17 rfl rfl rfl ?_
  refine go_aloadN (v := .ref x) (q := 19) d14_18 rfl rfl rfl ?_
  refine go_getfield (v := .ref v) (q := 22) (w_58 H) Via.refl Vv d14_19 rfl ?_
  refine go_aloadN (v := .ref x) (q := 23) d14_22 rfl rfl rfl ?_
  refine go_iloadN (v := (Int32.ofNat n)) (q := 24) d14_23 rfl rfl ?_
  refine go_virtual (c' := 0) (s' := 0) (q := 27) (S := [.ref v, .ref x]) (argsL := [.int (Int32.ofNat n)]) H (C := "java/lang/StringBuilder") (w_163 H) (decl_of (w_164 H) (w_167 H)) (nf_self (w_166 H)) (w_166 H) (w_164 H) (w_54 H) (w_167 H) (by decide) E (rm_nwc H B0 h1 h2 h3) rfl rfl (lenOf pd_21 rfl) (fun _ q => nomatch q) rfl (by decide) (Nat.le_of_ble_eq_true rfl) rfl rfl (by decide) (by decide) d14_24 rfl ?_
  rintro _ _ G - ⟨rfl, rfl⟩
  refine nx_ (v := none) ?_
  show Go _ _ _ _ _ _ _ _ _ _ _ _ _ _ 27 #[.val (.ref x), .val (.int (Int32.ofNat n)), .val (.int (Int32.ofNat cap))] [.int (Int32.ofNat (cap + (cap + 2))), .ref v, .ref x]
  refine go_aloadN (v := .ref x) (q := 28) d14_27 rfl rfl rfl ?_
  refine go_getfield (v := .int 0) (q := 31) (w_60 H) Via.refl C d14_28 rfl ?_
  refine go_ishl (r := (Int32.ofNat (cap + (cap + 2)))) (q := 32) d14_31 (shl0 _) rfl ?_
  refine go_static (c' := 1) (s' := 70) (q := 35) (S := [.ref x]) (argsL := [.ref v, .int (Int32.ofNat (cap + (cap + 2)))]) H (w_177 H) (w_178 H) (w_142 H) (w_179 H) (by decide) (rm_cpO H A l1 (m := (cap + (cap + 2))) (by omega) (by omega)) rfl rfl (lenOf pd_22 rfl) (fun _ q => nomatch q) rfl (by decide) (Nat.le_of_ble_eq_true rfl) rfl rfl (by decide) (by decide) d14_32 rfl ?_
  rintro _ hc G - ⟨ba, kb, rfl, rfl, gb, Kc, Xc, Vc⟩
  refine ⟨[ba, x], (by intro y q; simpa using q), ?_⟩
  show Go _ _ _ _ _ _ _ _ _ _ _ _ _ _ 35 #[.val (.ref x), .val (.int (Int32.ofNat n)), .val (.int (Int32.ofNat cap))] [.ref ba, .ref x]
  have nxb : ba ≠ x := ((E.keep Kc).neArv Vc (w_45 H)).symm
  refine go_putfield (q := 38) (w_58 H) Via.refl (Vv.keep Kc nin0) (E.keep Kc) (Or.inl (w_59 H)) (w_45 H) (ty := (.array .byte)) (by decide) rfl rfl (by simp) d14_35 rfl ?_
  intro hd Wd
  exact go_return H (G := [ba]) rfl d14_38 (by decide) (by decide) (by simp) ⟨ba, rfl, rfl, gb, (kless Kc (by simp)).wr Wd (Or.inl (by simp)), ⟨(E.keep Kc).wr Wd, (Vv.keep Kc nin0).same Wd, (C.keep Kc nin0).other Wd (Or.inr s1.symm), (N.keep Kc nin0).other Wd (Or.inr s2.symm), hl, by omega, by omega, kb, Vc.other Wd nxb⟩, Xc.wr Wd⟩
set_option maxRecDepth 65536 in
set_option maxHeartbeats 4000000 in
theorem rm_appAX {l : Launch} {Z : State} {a0 : Array Value} (H : Wd Z a0) {h : Heap} {F : List Addr} {x a v : Addr} {cap : Nat} {cs ds : List Int32} (S : Str Z h F a ds) (B : SBd Z h x v cap cs) (hxF : x ∈ F) (hb : cs.length + ds.length ≤ cap + (cap + 2)) (hcap : cap ≤ 34 ∨ cs.length + ds.length ≤ cap) (X : cs.length + ds.length ≤ cap → Exa Z h v "[B") : Met l Z (⟨"java/lang/AbstractStringBuilder", "append", "(Ljava/lang/String;)Ljava/lang/AbstractStringBuilder;"⟩ : MethodName) jdk_68_method_22_code 3 (some (.object "java/lang/AbstractStringBuilder")) ({ frames := 4, cells := 1, slots := 70, locals := 86 } : Room) h [x, v] #[.ref x, .ref a] (fun u h' G => ∃ w cap', u = some (.ref x) ∧ G = [x, w] ∧ (w = v ∨ h.size ≤ w) ∧ (cap' = cap ∨ cap' = cap + (cap + 2)) ∧ Keep h h' [x, v] ∧ SBd Z h' x w cap' (cs ++ ds) ∧ Exa Z h' w "[B") := by
  refine Met.mk (L := #[.val (.ref x), .val (.ref a), .unset]) (by decide +kernel) (fun m => by first | (simp [entryFrame, mkF, argsToLocals, Value.category]; done) | rfl) (fun K => ?_)
  show Go _ _ K "java/lang/AbstractStringBuilder" "append" _ _ _ _ _ _ _ _ _ 0 _ _
  have B0 := B
  obtain ⟨E, Vv, C, N, hl, l1, l2, k, A⟩ := B
  have s2 : RoadKit.slotOf Z ABN "value" "[B" ≠ RoadKit.slotOf Z ABN "count" "I" := slot_ne (C := SBN) (Or.inl (w_59 H)) (Or.inl (w_84 H)) (by decide) (t := .array .byte) (t' := .int) (by decide) (by decide)
  have s3 : RoadKit.slotOf Z ABN "coder" "B" ≠ RoadKit.slotOf Z ABN "count" "I" := slot_ne (C := SBN) (Or.inl (w_61 H)) (Or.inl (w_84 H)) (by decide) (t := .byte) (t' := .int) (by decide) (by decide)
  refine go_aloadN (v := .ref a) (q := 1) d11_0 rfl rfl rfl ?_
  refine go_nnY (q := 9) d11_1 (by decide) (by decide) ?_
  refine go_aloadN (v := .ref a) (q := 10) d11_9 rfl rfl rfl ?_
  refine go_virtual (c' := 0) (s' := 0) (q := 13) (S := []) (argsL := []) H (C := "java/lang/String") (w_73 H) (w_74 H) (nf_self (w_76 H)) (w_76 H) (w_75 H) (w_2 H) (w_77 H) (by decide) S.exa (rm_len H S) rfl rfl (lenOf pd_16 rfl) (fun _ q => nomatch q) rfl (by decide) (Nat.le_of_ble_eq_true rfl) rfl rfl (by decide) (by decide) d11_10 rfl ?_
  rintro _ _ G - ⟨rfl, rfl⟩
  refine nx_ (v := none) ?_
  show Go _ _ _ _ _ _ _ _ _ _ _ _ _ _ 13 #[.val (.ref x), .val (.ref a), .unset] [.int (Int32.ofNat ds.length)]
  refine go_istoreN (L' := #[.val (.ref x), .val (.ref a), .val (.int (Int32.ofNat ds.length))]) (q := 14) d11_13 rfl rfl ?_
  refine go_aloadN (v := .ref x) (q := 15) d11_14 rfl rfl rfl ?_
  refine go_aloadN (v := .ref x) (q := 16) d11_15 rfl rfl rfl ?_
  refine go_getfield (v := .int (Int32.ofNat cs.length)) (q := 19) (w_83 H) Via.refl N d11_16 rfl ?_
  refine go_iloadN (v := (Int32.ofNat ds.length)) (q := 20) d11_19 rfl rfl ?_
  refine go_iadd (r := (Int32.ofNat (cs.length + ds.length))) (q := 21) d11_20 (add_ofNat _ _) rfl ?_
  by_cases g : cs.length + ds.length ≤ cap
  · refine go_virtual (c' := 0) (s' := 0) (q := 24) (S := []) (argsL := [.int (Int32.ofNat (cs.length + ds.length))]) H (C := "java/lang/StringBuilder") (w_85 H) (decl_of (w_86 H) (w_89 H)) (nf_self (w_88 H)) (w_88 H) (w_86 H) (w_54 H) (w_89 H) (by decide) E (rm_ens H B0 g) rfl rfl (lenOf pd_13 rfl) (fun _ q => nomatch q) rfl (by decide) (Nat.le_of_ble_eq_true rfl) rfl rfl (by decide) (by decide) d11_21 rfl ?_
    rintro _ _ G - ⟨rfl, rfl⟩
    refine nx_ (v := none) ?_
    show Go _ _ _ _ _ _ _ _ _ _ _ _ _ _ 24 #[.val (.ref x), .val (.ref a), .val (.int (Int32.ofNat ds.length))] []
    have K0 : Keep h h [x, v] := Keep.refl _ _
    have X1 := X g
    have S1 := S
    have B1 := B0
    have hg := g
    have hv : v = v ∨ h.size ≤ v := Or.inl rfl
    have nxv : v ≠ x := (E.neArv A (w_45 H)).symm
    refine go_aloadN (v := .ref x) (q := 25) d11_24 rfl rfl rfl ?_
    refine go_aloadN (v := .ref x) (q := 26) d11_25 rfl rfl rfl ?_
    refine go_getfield (v := .int (Int32.ofNat cs.length)) (q := 29) (w_83 H) Via.refl N d11_26 rfl ?_
    refine go_aloadN (v := .ref a) (q := 30) d11_29 rfl rfl rfl ?_
    refine go_virtual (c' := 0) (s' := 0) (q := 33) (S := []) (argsL := [.int (Int32.ofNat cs.length), .ref a]) H (C := "java/lang/StringBuilder") (w_90 H) (decl_of (w_91 H) (w_94 H)) (nf_self (w_93 H)) (w_93 H) (w_91 H) (w_54 H) (w_94 H) (by decide) E (rm_putS H S1 B1 hg) rfl rfl (lenOf pd_17 rfl) (by simp) rfl (by decide) (Nat.le_of_ble_eq_true rfl) rfl rfl (by decide) (by decide) d11_30 rfl ?_
    rintro _ h1 G - ⟨rfl, K1, k1, V1⟩
    refine nx_ (v := none) ?_
    show Go _ _ _ _ _ _ _ _ _ _ _ _ _ _ 33 #[.val (.ref x), .val (.ref a), .val (.int (Int32.ofNat ds.length))] []
    refine go_aloadN (v := .ref x) (q := 34) d11_33 rfl rfl rfl ?_
    refine go_dup (q := 35) d11_34 rfl rfl ?_
    refine go_getfield (v := .int (Int32.ofNat cs.length)) (q := 38) (w_83 H) Via.refl (N.keep K1 (ninS nxv.symm nin0)) d11_35 rfl ?_
    refine go_iloadN (v := (Int32.ofNat ds.length)) (q := 39) d11_38 rfl rfl ?_
    refine go_iadd (r := (Int32.ofNat (cs ++ ds).length)) (q := 40) d11_39 ((add_ofNat _ _).trans (by rw [List.length_append])) rfl ?_
    refine go_putfield (q := 43) (w_83 H) Via.refl (N.keep K1 (ninS nxv.symm nin0)) (E.keep K1) (Or.inl (w_84 H)) (w_45 H) (ty := .int) (by decide) rfl rfl (by simp) d11_40 rfl ?_
    intro h2 W2
    have Kp : Keep h h2 [x, v] := (K0.trans K1 (by intro y q; simp only [List.mem_cons, List.not_mem_nil, or_false] at q; subst q; exact hv.elim (fun e => Or.inl (by simp [e])) Or.inr)).wr W2 (Or.inl (by simp))
    refine go_aloadN (v := .ref x) (q := 44) d11_43 rfl rfl rfl ?_
    exact go_areturn H (G := [x, v]) (t := (.object "java/lang/AbstractStringBuilder")) rfl rfl rfl d11_44 (by decide) (by decide) (by simp) ⟨v, cap, rfl, rfl, hv, Or.inl rfl, Kp, ⟨(E.keep K1).wr W2, (Vv.keep K1 (ninS nxv.symm nin0)).other W2 (Or.inr s2), (C.keep K1 (ninS nxv.symm nin0)).other W2 (Or.inr s3), (N.keep K1 (ninS nxv.symm nin0)).same W2, hl.app S.lat (by omega), by rw [List.length_append]; exact hg, l2, k1, V1.other W2 nxv⟩, (X1.keep K1).wr W2⟩
  · refine go_virtual (c' := 1) (s' := 70) (q := 24) (S := []) (argsL := [.int (Int32.ofNat (cs.length + ds.length))]) H (C := "java/lang/StringBuilder") (w_85 H) (decl_of (w_86 H) (w_89 H)) (nf_self (w_88 H)) (w_88 H) (w_86 H) (w_54 H) (w_89 H) (by decide) E (rm_ensG H B0 (by omega) hb (by omega)) rfl rfl (lenOf pd_13 rfl) (by simp) rfl (by decide) (Nat.le_of_ble_eq_true rfl) rfl rfl (by decide) (by decide) d11_21 rfl ?_
    rintro _ he G - ⟨w, rfl, rfl, gw, Ke, B1, X1⟩
    refine ⟨[w, x, v], (by intro y q; simpa using q), ?_⟩
    show Go _ _ _ _ _ _ _ _ _ _ _ _ _ _ 24 #[.val (.ref x), .val (.ref a), .val (.int (Int32.ofNat ds.length))] []
    have K0 : Keep h he [x, v] := kless Ke (by simp)
    have S1 := S.keep Ke (by intro y q; simp only [List.mem_cons, List.not_mem_nil, or_false] at q; subst q; exact Or.inl hxF)
    have hg := hb
    have hv : w = v ∨ h.size ≤ w := Or.inr gw
    obtain ⟨E, Vv, C, N, hl, l1, l2, k, A⟩ := id B1
    have nxv : w ≠ x := (E.neArv A (w_45 H)).symm
    refine go_aloadN (v := .ref x) (q := 25) d11_24 rfl rfl rfl ?_
    refine go_aloadN (v := .ref x) (q := 26) d11_25 rfl rfl rfl ?_
    refine go_getfield (v := .int (Int32.ofNat cs.length)) (q := 29) (w_83 H) Via.refl N d11_26 rfl ?_
    refine go_aloadN (v := .ref a) (q := 30) d11_29 rfl rfl rfl ?_
    refine go_virtual (c' := 1) (s' := 70) (q := 33) (S := []) (argsL := [.int (Int32.ofNat cs.length), .ref a]) H (C := "java/lang/StringBuilder") (w_90 H) (decl_of (w_91 H) (w_94 H)) (nf_self (w_93 H)) (w_93 H) (w_91 H) (w_54 H) (w_94 H) (by decide) E (rm_putS H S1 B1 hg) rfl rfl (lenOf pd_17 rfl) (by simp) rfl (by decide) (Nat.le_of_ble_eq_true rfl) rfl rfl (by decide) (by decide) d11_30 rfl ?_
    rintro _ h1 G - ⟨rfl, K1, k1, V1⟩
    refine nx_ (v := none) ?_
    show Go _ _ _ _ _ _ _ _ _ _ _ _ _ _ 33 #[.val (.ref x), .val (.ref a), .val (.int (Int32.ofNat ds.length))] []
    refine go_aloadN (v := .ref x) (q := 34) d11_33 rfl rfl rfl ?_
    refine go_dup (q := 35) d11_34 rfl rfl ?_
    refine go_getfield (v := .int (Int32.ofNat cs.length)) (q := 38) (w_83 H) Via.refl (N.keep K1 (ninS nxv.symm nin0)) d11_35 rfl ?_
    refine go_iloadN (v := (Int32.ofNat ds.length)) (q := 39) d11_38 rfl rfl ?_
    refine go_iadd (r := (Int32.ofNat (cs ++ ds).length)) (q := 40) d11_39 ((add_ofNat _ _).trans (by rw [List.length_append])) rfl ?_
    refine go_putfield (q := 43) (w_83 H) Via.refl (N.keep K1 (ninS nxv.symm nin0)) (E.keep K1) (Or.inl (w_84 H)) (w_45 H) (ty := .int) (by decide) rfl rfl (by simp) d11_40 rfl ?_
    intro h2 W2
    have Kp : Keep h h2 [x, v] := (K0.trans K1 (by intro y q; simp only [List.mem_cons, List.not_mem_nil, or_false] at q; subst q; exact hv.elim (fun e => Or.inl (by simp [e])) Or.inr)).wr W2 (Or.inl (by simp))
    refine go_aloadN (v := .ref x) (q := 44) d11_43 rfl rfl rfl ?_
    exact go_areturn H (G := [x, w]) (t := (.object "java/lang/AbstractStringBuilder")) rfl rfl rfl d11_44 (by decide) (by decide) (by simp) ⟨w, (cap + (cap + 2)), rfl, rfl, hv, Or.inr rfl, Kp, ⟨(E.keep K1).wr W2, (Vv.keep K1 (ninS nxv.symm nin0)).other W2 (Or.inr s2), (C.keep K1 (ninS nxv.symm nin0)).other W2 (Or.inr s3), (N.keep K1 (ninS nxv.symm nin0)).same W2, hl.app S.lat (by omega), by rw [List.length_append]; exact hg, l2, k1, V1.other W2 nxv⟩, (X1.keep K1).wr W2⟩
set_option maxRecDepth 65536 in
set_option maxHeartbeats 4000000 in
theorem rm_apX {l : Launch} {Z : State} {a0 : Array Value} (H : Wd Z a0) {h : Heap} {F : List Addr} {x a v : Addr} {cap : Nat} {cs ds : List Int32} (S : Str Z h F a ds) (B : SBd Z h x v cap cs) (hxF : x ∈ F) (hb : cs.length + ds.length ≤ cap + (cap + 2)) (hcap : cap ≤ 34 ∨ cs.length + ds.length ≤ cap) (X : cs.length + ds.length ≤ cap → Exa Z h v "[B") : Met l Z (⟨"java/lang/StringBuilder", "append", "(Ljava/lang/String;)Ljava/lang/StringBuilder;"⟩ : MethodName) jdk_67_method_7_code 2 (some (.object "java/lang/StringBuilder")) ({ frames := 5, cells := 1, slots := 70, locals := 100 } : Room) h [x, v] #[.ref x, .ref a] (fun u h' G => ∃ w cap', u = some (.ref x) ∧ G = [x, w] ∧ (w = v ∨ h.size ≤ w) ∧ (cap' = cap ∨ cap' = cap + (cap + 2)) ∧ Keep h h' [x, v] ∧ SBd Z h' x w cap' (cs ++ ds) ∧ Exa Z h' w "[B") := by
  refine Met.mk (L := #[.val (.ref x), .val (.ref a)]) (by decide +kernel) (fun m => by first | (simp [entryFrame, mkF, argsToLocals, Value.category]; done) | rfl) (fun K => ?_)
  show Go _ _ K "java/lang/StringBuilder" "append" _ _ _ _ _ _ _ _ _ 0 _ _
  refine go_aloadN (v := .ref x) (q := 1) d10_0 rfl rfl rfl ?_
  refine go_aloadN (v := .ref a) (q := 2) d10_1 rfl rfl rfl ?_
  refine go_super (c' := 1) (s' := 70) (q := 5) (S := []) (argsL := [.ref a]) H (C := "java/lang/StringBuilder") (w_68 H) (same_of (y := ({ cls := "java/lang/AbstractStringBuilder", name := "append", desc := "(Ljava/lang/String;)Ljava/lang/AbstractStringBuilder;" } : Jvm.MethodName)) (w := ({ cls := "java/lang/AbstractStringBuilder", name := "ensureCapacityInternal", desc := "(I)V" } : Jvm.MethodName)) (C := "java/lang/StringBuilder") rfl (w_88 H) (w_71 H) (by decide)) (w_69 H) (w_70 H) (w_54 H) (w_72 H) (by decide) B.exa (rm_appAX H S B hxF hb hcap X) rfl rfl (lenOf pd_18 rfl) (fun _ q => q) rfl (by decide) (Nat.le_of_ble_eq_true rfl) rfl rfl (by decide) (by decide) d10_2 rfl ?_
  rintro _ h1 G - ⟨w, cap', rfl, rfl, q1, q2, q3, q4, q5⟩
  refine ⟨[x, w], fun _ q => Or.inl q, ?_⟩
  show Go _ _ _ _ _ _ _ _ _ _ _ _ _ _ 5 #[.val (.ref x), .val (.ref a)] [.ref x]
  refine go_pop (q := 6) d10_5 rfl rfl ?_
  refine go_aloadN (v := .ref x) (q := 7) d10_6 rfl rfl rfl ?_
  exact go_areturn H (G := [x, w]) (t := (.object "java/lang/StringBuilder")) rfl rfl rfl d10_7 (by decide) (by decide) (fun _ q => q) ⟨w, cap', rfl, rfl, q1, q2, q3, q4, q5⟩
set_option maxRecDepth 65536 in
set_option maxHeartbeats 4000000 in
theorem rm_cRB {l : Launch} {Z : State} {a0 : Array Value} (H : Wd Z a0) {h : Heap} {v : Addr} {k : ClassId} {n : Nat} {cs : List Int32} (A : Arv Z h v k .byte (Int32.ofNat n) (bts cs ++ zs (n - cs.length)) (.int 0)) (hb : cs.length ≤ n) (hn : n ≤ 4096) (hc : cs.length ≤ 40) : Met l Z (⟨"java/util/Arrays", "copyOfRangeByte", "([BII)[B"⟩ : MethodName) jdk_65_method_133_code 5 (some (.array .byte)) ({ frames := 1, cells := 1, slots := 40, locals := 40 } : Room) h [] #[.ref v, .int 0, .int (Int32.ofNat cs.length)] (fun u h' G => ∃ ba kb, u = some (.ref ba) ∧ h.size ≤ ba ∧ Keep h h' [] ∧ Arv Z h' ba kb .byte (Int32.ofNat cs.length) (bts cs) (.int 0)) := by
  refine Met.mk (L := #[.val (.ref v), .val (.int 0), .val (.int (Int32.ofNat cs.length)), .unset, .unset]) (by decide +kernel) (fun m => by first | (simp [entryFrame, mkF, argsToLocals, Value.category]; done) | rfl) (fun K => ?_)
  show Go _ _ K "java/util/Arrays" "copyOfRangeByte" _ _ _ _ _ _ _ _ _ 0 _ _
  have Ka : Keep h h [] := Keep.refl _ _
  refine go_iloadN (v := 0) (q := 1) d26_0 rfl rfl ?_
  refine go_iloadN (v := (Int32.ofNat cs.length)) (q := 2) d26_1 rfl rfl ?_
  refine go_static (c' := 0) (s' := 0) (q := 5) (S := []) (argsL := [.int 0, .int (Int32.ofNat cs.length)]) H (w_147 H) (w_148 H) (w_142 H) (w_149 H) (by decide) (rm_ckL H (nn_ofNat (by omega))) rfl rfl (lenOf pd_23 rfl) (fun _ q => nomatch q) rfl (by decide) (Nat.le_of_ble_eq_true rfl) rfl rfl (by decide) (by decide) d26_2 rfl ?_
  rintro _ _ G - ⟨rfl, rfl⟩
  refine nx_ (v := none) ?_
  show Go _ _ _ _ _ _ _ _ _ _ _ _ _ _ 5 #[.val (.ref v), .val (.int 0), .val (.int (Int32.ofNat cs.length)), .unset, .unset] []
  refine go_iloadN (v := (Int32.ofNat cs.length)) (q := 6) d26_5 rfl rfl ?_
  refine go_iloadN (v := 0) (q := 7) d26_6 rfl rfl ?_
  refine go_isub (r := (Int32.ofNat cs.length)) (q := 8) d26_7 (Int32.sub_zero _) rfl ?_
  refine go_istoreN (L' := #[.val (.ref v), .val (.int 0), .val (.int (Int32.ofNat cs.length)), .val (.int (Int32.ofNat cs.length)), .unset]) (q := 9) d26_8 rfl rfl ?_
  refine go_iloadN (v := (Int32.ofNat cs.length)) (q := 10) d26_9 rfl rfl ?_
  refine go_newarray (ty := .byte) (dv := .int 0) (n := cs.length) (cap := 40) (ad := "[B") (c' := 1) (s' := 40) (q := 12) rfl rfl (cl_ofNat (by omega)) (w_14 H) d26_10 (nn_ofNat (by omega)) hc (by decide) rfl rfl rfl rfl (by decide) (by decide) ?_
  intro h1 ba kb g1 E1 V1 X1
  have f_Ka_ba : h.size ≤ ba := by rw [g1]; exact Ka.1
  have Ka : Keep h h1 [] := Ka.ext E1
  refine go_astore (L' := #[.val (.ref v), .val (.int 0), .val (.int (Int32.ofNat cs.length)), .val (.int (Int32.ofNat cs.length)), .val (.ref ba)]) (q := 14) d26_12 rfl rfl rfl ?_
  refine go_aloadN (v := .ref v) (q := 15) d26_14 rfl rfl rfl ?_
  refine go_iloadN (v := 0) (q := 16) d26_15 rfl rfl ?_
  refine go_aload (v := .ref ba) (q := 18) d26_16 rfl rfl rfl ?_
  refine go_iconst (x := (0 : Int32)) (q := 19) d26_18 rfl rfl ?_
  refine go_aloadN (v := .ref v) (q := 20) d26_19 rfl rfl rfl ?_
  refine go_arraylength (z := (Int32.ofNat n)) (q := 21) (A.ext E1) d26_20 rfl ?_
  refine go_iloadN (v := 0) (q := 22) d26_21 rfl rfl ?_
  refine go_isub (r := (Int32.ofNat n)) (q := 23) d26_22 (Int32.sub_zero _) rfl ?_
  refine go_iloadN (v := (Int32.ofNat cs.length)) (q := 24) d26_23 rfl rfl ?_
  refine go_static (c' := 1) (s' := 40) (q := 27) (S := [.int (0 : Int32), .ref ba, .int 0, .ref v]) (argsL := [.int (Int32.ofNat n), .int (Int32.ofNat cs.length)]) H (w_150 H) (w_151 H) (w_152 H) (w_153 H) (by decide) (rm_min H) rfl rfl (lenOf pd_19 rfl) (fun _ q => nomatch q) rfl (by decide) (Nat.le_of_ble_eq_true rfl) rfl rfl (by decide) (by decide) d26_24 rfl ?_
  rintro _ _ G - ⟨rfl, rfl⟩
  refine nx_ (v := none) ?_
  show Go _ _ _ _ _ _ _ _ _ _ _ _ _ _ 27 #[.val (.ref v), .val (.int 0), .val (.int (Int32.ofNat cs.length)), .val (.int (Int32.ofNat cs.length)), .val (.ref ba)] [.int (if Int32.ofNat cs.length < Int32.ofNat n then Int32.ofNat cs.length else Int32.ofNat n), .int (0 : Int32), .ref ba, .int 0, .ref v]
  rw [show (if Int32.ofNat cs.length < Int32.ofNat n then Int32.ofNat cs.length else Int32.ofNat n) = Int32.ofNat cs.length from by split; rfl; rename_i q; rw [lt_ofNat (by omega) (by omega)] at q; rw [show n = cs.length by omega]]
  show Go _ _ _ _ _ _ _ _ _ _ _ _ _ _ 27 #[.val (.ref v), .val (.int 0), .val (.int (Int32.ofNat cs.length)), .val (.int (Int32.ofNat cs.length)), .val (.ref ba)] [.int (Int32.ofNat cs.length), .int (0 : Int32), .ref ba, .int 0, .ref v]
  refine go_arraycopy (q := 30) (us := bts cs) (w_154 H) (w_109 H) (w_107 H) (w_108 H) (A.ext E1) V1 rfl (by decide) (by decide) (nn_ofNat (by omega)) (by rw [cl_ofNat (by omega), cl_ofNat (by omega)]; exact Nat.le_trans (Nat.le_of_eq (Nat.zero_add _)) hb) (by rw [cl_ofNat (by omega)]; exact Nat.le_of_eq (Nat.zero_add _)) (by rw [cl_ofNat (by omega), show (0 : Int32).toNatClampNeg = 0 from rfl]; simp only [Nat.zero_add]; exact (us_pre _ _).symm) (by rw [cl_ofNat (by omega), List.length_replicate]; exact Nat.le_of_eq (Nat.zero_add _)) (by simp) rfl (by decide) (Nat.le_of_ble_eq_true rfl) d26_27 rfl ?_
  intro h2 K2 V2
  have Ka : Keep h h2 [] := kfresh Ka K2 f_Ka_ba
  rw [cl_ofNat (by omega), show (0 : Int32).toNatClampNeg = 0 from rfl, List.take_zero, List.nil_append, Nat.zero_add, List.drop_of_length_le (by simp), List.append_nil] at V2
  refine go_aload (v := .ref ba) (q := 32) d26_30 rfl rfl rfl ?_
  exact go_areturn H (G := []) (t := (.array .byte)) rfl rfl rfl d26_32 (by decide) (by decide) (fun _ q => nomatch q) ⟨ba, kb, rfl, f_Ka_ba, Ka, V2⟩
set_option maxRecDepth 65536 in
set_option maxHeartbeats 4000000 in
theorem rm_cRX {l : Launch} {Z : State} {a0 : Array Value} (H : Wd Z a0) {h : Heap} {v : Addr} {k : ClassId} {n : Nat} {cs : List Int32} (A : Arv Z h v k .byte (Int32.ofNat n) (bts cs ++ zs (n - cs.length)) (.int 0)) (hb : cs.length ≤ n) (X : cs.length = n → Exa Z h v "[B") (hn : n ≤ 4096) (hc : cs.length ≤ 40) : Met l Z (⟨"java/util/Arrays", "copyOfRange", "([BII)[B"⟩ : MethodName) jdk_65_method_132_code 3 (some (.array .byte)) ({ frames := 2, cells := 1, slots := 40, locals := 56 } : Room) h [] #[.ref v, .int 0, .int (Int32.ofNat cs.length)] (fun u h' G => ∃ ba kb, u = some (.ref ba) ∧ h.size ≤ ba ∧ Keep h h' [] ∧ Arv Z h' ba kb .byte (Int32.ofNat cs.length) (bts cs) (.int 0)) := by
  refine Met.mk (L := #[.val (.ref v), .val (.int 0), .val (.int (Int32.ofNat cs.length))]) (by decide +kernel) (fun m => by first | (simp [entryFrame, mkF, argsToLocals, Value.category]; done) | rfl) (fun K => ?_)
  show Go _ _ K "java/util/Arrays" "copyOfRange" _ _ _ _ _ _ _ _ _ 0 _ _
  refine go_iloadN (v := 0) (q := 1) d25_0 rfl rfl ?_
  refine go_ifN (q := 4) d25_1 (by decide) rfl ?_
  refine go_iloadN (v := (Int32.ofNat cs.length)) (q := 5) d25_4 rfl rfl ?_
  refine go_aloadN (v := .ref v) (q := 6) d25_5 rfl rfl rfl ?_
  refine go_arraylength (z := (Int32.ofNat n)) (q := 7) A d25_6 rfl ?_
  by_cases e : cs.length = n
  · have Ka : Keep h h [] := Keep.refl _ _
    refine go_icY (q := 17) d25_7 (show _ = _ by rw [e]) (by decide) (by decide) ?_
    refine go_aloadN (v := .ref v) (q := 18) d25_17 rfl rfl rfl ?_
    refine go_clone (cap := 40) (c' := 1) (s' := 40) (q := 21) (w_254 H) (w_255 H) (w_259 H) (w_257 H) (w_258 H) (w_260 H) A (X e) rfl (by decide) (Nat.le_of_ble_eq_true rfl) (by rw [cl_ofNat (by omega)]; omega) d25_18 rfl rfl rfl (by decide) (by decide) ?_
    intro h1 d g1 E1 V1 X1
    have f_Ka_d : h.size ≤ d := by rw [g1]; exact Ka.1
    have Ka : Keep h h1 [] := Ka.ext E1
    refine go_checkcast (q := 24) (w_261 H) (Ins.self X1) d25_21 rfl ?_
    have V1 : Arv Z h1 d k .byte (Int32.ofNat cs.length) (bts cs) (.int 0) := by rw [← e, Nat.sub_self, show zs 0 = [] from rfl, List.append_nil] at V1; exact V1
    exact go_areturn H (G := []) (t := (.array .byte)) rfl rfl rfl d25_24 (by decide) (by decide) (fun _ q => nomatch q) ⟨d, k, rfl, f_Ka_d, Ka, V1⟩
  · refine go_icN (q := 10) d25_7 (fun q => absurd ((eq_ofNat (by omega) (by omega)).mp q) e) rfl ?_
    refine go_aloadN (v := .ref v) (q := 11) d25_10 rfl rfl rfl ?_
    refine go_iloadN (v := 0) (q := 12) d25_11 rfl rfl ?_
    refine go_iloadN (v := (Int32.ofNat cs.length)) (q := 13) d25_12 rfl rfl ?_
    refine go_static (c' := 1) (s' := 40) (q := 16) (S := []) (argsL := [.ref v, .int 0, .int (Int32.ofNat cs.length)]) H (w_144 H) (w_145 H) (w_142 H) (w_146 H) (by decide) (rm_cRB H A hb hn hc) rfl rfl (lenOf pd_24 rfl) (fun _ q => nomatch q) rfl (by decide) (Nat.le_of_ble_eq_true rfl) rfl rfl (by decide) (by decide) d25_13 rfl ?_
    rintro _ h1 G - ⟨ba, kb, rfl, gb, K1, V1⟩
    refine nx_ (v := none) ?_
    show Go _ _ _ _ _ _ _ _ _ _ _ _ _ _ 16 #[.val (.ref v), .val (.int 0), .val (.int (Int32.ofNat cs.length))] [.ref ba]
    exact go_areturn H (G := []) (t := (.array .byte)) rfl rfl rfl d25_16 (by decide) (by decide) (fun _ q => nomatch q) ⟨ba, kb, rfl, gb, K1, V1⟩
set_option maxRecDepth 65536 in
set_option maxHeartbeats 4000000 in
theorem rm_gV {l : Launch} {Z : State} {a0 : Array Value} (H : Wd Z a0) {h : Heap} {x v : Addr} (Vv : Fld Z h x ABN "value" "[B" (.ref v)) : Met l Z (⟨"java/lang/AbstractStringBuilder", "getValue", "()[B"⟩ : MethodName) jdk_68_method_64_code 1 (some (.array .byte)) ({ frames := 0, cells := 0, slots := 0, locals := 0 } : Room) h [] #[.ref x] (fun u h' G => u = some (.ref v) ∧ h = h') := by
  refine Met.mk (L := #[.val (.ref x)]) (by decide +kernel) (fun m => by first | (simp [entryFrame, mkF, argsToLocals, Value.category]; done) | rfl) (fun K => ?_)
  show Go _ _ K "java/lang/AbstractStringBuilder" "getValue" _ _ _ _ _ _ _ _ _ 0 _ _
  refine go_aloadN (v := .ref x) (q := 1) d21_0 rfl rfl rfl ?_
  refine go_getfield (v := .ref v) (q := 4) (w_58 H) Via.refl Vv d21_1 rfl ?_
  exact go_areturn H (G := []) (t := (.array .byte)) rfl rfl rfl d21_4 (by decide) (by decide) (fun _ q => nomatch q) ⟨rfl, rfl⟩
set_option maxRecDepth 65536 in
set_option maxHeartbeats 4000000 in
theorem rm_aLen {l : Launch} {Z : State} {a0 : Array Value} (H : Wd Z a0) {h : Heap} {x : Addr} {n : Int32} (N : Fld Z h x ABN "count" "I" (.int n)) : Met l Z (⟨"java/lang/AbstractStringBuilder", "length", "()I"⟩ : MethodName) jdk_68_method_6_code 1 (some .int) ({ frames := 0, cells := 0, slots := 0, locals := 0 } : Room) h [] #[.ref x] (fun u h' G => u = some (.int n) ∧ h = h') := by
  refine Met.mk (L := #[.val (.ref x)]) (by decide +kernel) (fun m => by first | (simp [entryFrame, mkF, argsToLocals, Value.category]; done) | rfl) (fun K => ?_)
  show Go _ _ K "java/lang/AbstractStringBuilder" "length" _ _ _ _ _ _ _ _ _ 0 _ _
  refine go_aloadN (v := .ref x) (q := 1) d23_0 rfl rfl rfl ?_
  refine go_getfield (v := .int n) (q := 4) (w_83 H) Via.refl N d23_1 rfl ?_
  exact go_ireturn H (G := []) (t := .int) rfl (by decide) rfl d23_4 (by decide) (by decide) (fun _ q => nomatch q) ⟨rfl, rfl⟩
set_option maxRecDepth 65536 in
set_option maxHeartbeats 4000000 in
theorem rm_sLen {l : Launch} {Z : State} {a0 : Array Value} (H : Wd Z a0) {h : Heap} {x : Addr} {n : Int32} (E : Exa Z h x SBN) (N : Fld Z h x ABN "count" "I" (.int n)) : Met l Z (⟨"java/lang/StringBuilder", "length", "()I"⟩ : MethodName) jdk_67_method_93_code 1 (some .int) ({ frames := 1, cells := 0, slots := 0, locals := 12 } : Room) h [] #[.ref x] (fun u h' G => u = some (.int n) ∧ h = h') := by
  refine Met.mk (L := #[.val (.ref x)]) (by decide +kernel) (fun m => by first | (simp [entryFrame, mkF, argsToLocals, Value.category]; done) | rfl) (fun K => ?_)
  show Go _ _ K "java/lang/StringBuilder" "length" _ _ _ _ _ _ _ _ _ 0 _ _
  refine go_aloadN (v := .ref x) (q := 1) d22_0 rfl rfl rfl ?_
  refine go_super (c' := 0) (s' := 0) (q := 4) (S := []) (argsL := []) H (C := "java/lang/StringBuilder") (w_133 H) (same_of (y := ({ cls := "java/lang/AbstractStringBuilder", name := "length", desc := "()I" } : Jvm.MethodName)) (w := ({ cls := "java/lang/AbstractStringBuilder", name := "ensureCapacityInternal", desc := "(I)V" } : Jvm.MethodName)) (C := "java/lang/StringBuilder") rfl (w_88 H) (w_128 H) (by decide)) (w_129 H) (w_70 H) (w_54 H) (w_134 H) (by decide) E (rm_aLen H N) rfl rfl (lenOf pd_16 rfl) (fun _ q => nomatch q) rfl (by decide) (Nat.le_of_ble_eq_true rfl) rfl rfl (by decide) (by decide) d22_1 rfl ?_
  rintro _ _ G - ⟨rfl, rfl⟩
  refine nx_ (v := none) ?_
  show Go _ _ _ _ _ _ _ _ _ _ _ _ _ _ 4 #[.val (.ref x)] [.int n]
  exact go_ireturn H (G := []) (t := .int) rfl (by decide) rfl d22_4 (by decide) (by decide) (fun _ q => nomatch q) ⟨rfl, rfl⟩
set_option maxRecDepth 65536 in
set_option maxHeartbeats 4000000 in
theorem rm_aL1 {l : Launch} {Z : State} {a0 : Array Value} (H : Wd Z a0) {h : Heap} {x : Addr} (C : Fld Z h x ABN "coder" "B" (.int 0)) : Met l Z (⟨"java/lang/AbstractStringBuilder", "isLatin1", "()Z"⟩ : MethodName) jdk_68_method_68_code 1 (some .boolean) ({ frames := 0, cells := 0, slots := 0, locals := 0 } : Room) h [] #[.ref x] (fun u h' G => u = some (.int 1) ∧ h = h') := by
  refine Met.mk (L := #[.val (.ref x)]) (by decide +kernel) (fun m => by first | (simp [entryFrame, mkF, argsToLocals, Value.category]; done) | rfl) (fun K => ?_)
  show Go _ _ K "java/lang/AbstractStringBuilder" "isLatin1" _ _ _ _ _ _ _ _ _ 0 _ _
  obtain ⟨cz, Sz, nz⟩ := H.2.2.2.1
  refine go_getstatic (v := .int cz) (q := 3) (w_57 H) Via.refl Sz d24_0 rfl ?_
  refine go_ifN (q := 6) d24_3 nz rfl ?_
  refine go_aloadN (v := .ref x) (q := 7) d24_6 rfl rfl rfl ?_
  refine go_getfield (v := .int 0) (q := 10) (w_60 H) Via.refl C d24_7 rfl ?_
  refine go_ifN (q := 13) d24_10 rfl rfl ?_
  refine go_iconst (x := (1 : Int32)) (q := 14) d24_13 rfl rfl ?_
  refine go_goto (q := 18) d24_14 (by decide) (by decide) ?_
  exact go_ireturn H (G := []) (t := .boolean) rfl (by decide) rfl d24_18 (by decide) (by decide) (fun _ q => nomatch q) ⟨rfl, rfl⟩
set_option maxRecDepth 65536 in
set_option maxHeartbeats 4000000 in
theorem rm_iASBX {l : Launch} {Z : State} {a0 : Array Value} (H : Wd Z a0) {h : Heap} {F : List Addr} {x s v : Addr} {n : Nat} {cs : List Int32} (E : Exa Z h x ST) (C : Fld Z h x ST "coder" "B" (.int 0)) (Vv : Fld Z h x ST "value" "[B" .null) (B : SBd Z h s v n cs) (hb : cs.length ≤ n) (X : cs.length = n → Exa Z h v "[B") (hc : cs.length ≤ 40) (hx : x ∉ F) (hFl : ∀ y ∈ F, y < h.size) : Met l Z (⟨"java/lang/String", "<init>", "(Ljava/lang/AbstractStringBuilder;Ljava/lang/Void;)V"⟩ : MethodName) jdk_42_method_150_code 5 none ({ frames := 3, cells := 1, slots := 40, locals := 72 } : Room) h (x :: F) #[.ref x, .ref s, .null] (fun u h' G => u = none ∧ Keep h h' [x] ∧ Str Z h' F x cs) := by
  refine Met.mk (L := #[.val (.ref x), .val (.ref s), .val (.null), .unset, .unset]) (by decide +kernel) (fun m => by first | (simp [entryFrame, mkF, argsToLocals, Value.category]; done) | rfl) (fun K => ?_)
  show Go _ _ K "java/lang/String" "<init>" _ _ _ _ _ _ _ _ _ 0 _ _
  obtain ⟨BE, BV, BC, BN, hl, l1, l2, k, A⟩ := B
  have sne : RoadKit.slotOf Z ST "value" "[B" ≠ RoadKit.slotOf Z ST "coder" "B" := slot_ne (C := ST) (Or.inr (w_23 H)) (Or.inr (w_25 H)) (by decide) (t := .array .byte) (t' := .byte) (by decide) (by decide)
  have wiS := (w_10 H)
  have nvx : v ≠ x := (E.neArv A wiS).symm
  refine go_aloadN (v := .ref x) (q := 1) d20_0 rfl rfl rfl ?_
  refine go_initO (q := 4) (w_19 H) (w_20 H) (w_21 H) rfl d20_1 rfl (by decide) (Nat.le_of_ble_eq_true rfl) ?_
  refine go_aloadN (v := .ref s) (q := 5) d20_4 rfl rfl rfl ?_
  refine go_virtual (c' := 0) (s' := 0) (q := 8) (S := []) (argsL := []) H (C := "java/lang/StringBuilder") (w_122 H) (w_123 H) (nf_self (w_125 H)) (w_125 H) (w_124 H) (w_54 H) (w_126 H) (by decide) BE (rm_gV H BV) rfl rfl (lenOf pd_25 rfl) (fun _ q => nomatch q) rfl (by decide) (Nat.le_of_ble_eq_true rfl) rfl rfl (by decide) (by decide) d20_5 rfl ?_
  rintro _ _ G - ⟨rfl, rfl⟩
  refine nx_ (v := none) ?_
  show Go _ _ _ _ _ _ _ _ _ _ _ _ _ _ 8 #[.val (.ref x), .val (.ref s), .val (.null), .unset, .unset] [.ref v]
  refine go_astoreN (L' := #[.val (.ref x), .val (.ref s), .val (.null), .val (.ref v), .unset]) (q := 9) d20_8 rfl rfl rfl ?_
  refine go_aloadN (v := .ref s) (q := 10) d20_9 rfl rfl rfl ?_
  refine go_virtual (c' := 0) (s' := 0) (q := 13) (S := []) (argsL := []) H (C := "java/lang/StringBuilder") (w_127 H) (w_128 H) (nf_mate (y := ({ cls := "java/lang/AbstractStringBuilder", name := "length", desc := "()I" } : Jvm.MethodName)) (w := ({ cls := "java/lang/AbstractStringBuilder", name := "ensureCapacityInternal", desc := "(I)V" } : Jvm.MethodName)) (C := "java/lang/StringBuilder") rfl (w_88 H)) (w_130 H) (w_131 H) (w_46 H) (w_132 H) (by decide) BE (rm_sLen H BE BN) rfl rfl (lenOf pd_16 rfl) (fun _ q => nomatch q) rfl (by decide) (Nat.le_of_ble_eq_true rfl) rfl rfl (by decide) (by decide) d20_10 rfl ?_
  rintro _ _ G - ⟨rfl, rfl⟩
  refine nx_ (v := none) ?_
  show Go _ _ _ _ _ _ _ _ _ _ _ _ _ _ 13 #[.val (.ref x), .val (.ref s), .val (.null), .val (.ref v), .unset] [.int (Int32.ofNat cs.length)]
  refine go_istore (L' := #[.val (.ref x), .val (.ref s), .val (.null), .val (.ref v), .val (.int (Int32.ofNat cs.length))]) (q := 15) d20_13 rfl rfl ?_
  refine go_aloadN (v := .ref s) (q := 16) d20_15 rfl rfl rfl ?_
  refine go_virtual (c' := 0) (s' := 0) (q := 19) (S := []) (argsL := []) H (C := "java/lang/StringBuilder") (w_135 H) (w_136 H) (nf_self (w_138 H)) (w_138 H) (w_137 H) (w_54 H) (w_139 H) (by decide) BE (rm_aL1 H BC) rfl rfl (lenOf pd_26 rfl) (fun _ q => nomatch q) rfl (by decide) (Nat.le_of_ble_eq_true rfl) rfl rfl (by decide) (by decide) d20_16 rfl ?_
  rintro _ _ G - ⟨rfl, rfl⟩
  refine nx_ (v := none) ?_
  show Go _ _ _ _ _ _ _ _ _ _ _ _ _ _ 19 #[.val (.ref x), .val (.ref s), .val (.null), .val (.ref v), .val (.int (Int32.ofNat cs.length))] [.int 1]
  refine go_ifN (q := 22) d20_19 (by decide) rfl ?_
  refine go_aloadN (v := .ref x) (q := 23) d20_22 rfl rfl rfl ?_
  refine go_iconst (x := (0 : Int32)) (q := 24) d20_23 rfl rfl ?_
  refine go_putfield (q := 27) (w_24 H) Via.refl C E (Or.inr ⟨(w_25 H), rfl, rfl⟩) (w_10 H) (ty := .byte) (by decide) rfl rfl (by simp) d20_24 rfl ?_
  intro h1 W1
  refine go_aloadN (v := .ref x) (q := 28) d20_27 rfl rfl rfl ?_
  refine go_aloadN (v := .ref v) (q := 29) d20_28 rfl rfl rfl ?_
  refine go_iconst (x := (0 : Int32)) (q := 30) d20_29 rfl rfl ?_
  refine go_iload (v := (Int32.ofNat cs.length)) (q := 32) d20_30 rfl rfl ?_
  refine go_static (c' := 1) (s' := 40) (q := 35) (S := [.ref x]) (argsL := [.ref v, .int (0 : Int32), .int (Int32.ofNat cs.length)]) H (w_140 H) (w_141 H) (w_142 H) (w_143 H) (by decide) (rm_cRX H (A.other W1 nvx) hb (fun e => (X e).wr W1) l2 hc) rfl rfl (lenOf pd_24 rfl) (fun _ q => nomatch q) rfl (by decide) (Nat.le_of_ble_eq_true rfl) rfl rfl (by decide) (by decide) d20_32 rfl ?_
  rintro _ h2 G - ⟨ba, kb, rfl, gb, K2, V2⟩
  refine nx_ (v := none) ?_
  show Go _ _ _ _ _ _ _ _ _ _ _ _ _ _ 35 #[.val (.ref x), .val (.ref s), .val (.null), .val (.ref v), .val (.int (Int32.ofNat cs.length))] [.ref ba, .ref x]
  have nxb : ba ≠ x := (((E.wr W1).keep K2).neArv V2 wiS).symm
  refine go_putfield (q := 38) (w_22 H) Via.refl ((Vv.other W1 (Or.inr sne)).keep K2 nin0) ((E.wr W1).keep K2) (Or.inr ⟨(w_23 H), rfl, rfl⟩) (w_10 H) (ty := (.array .byte)) (by decide) rfl rfl (by simp) d20_35 rfl ?_
  intro h3 W3
  refine go_goto (q := 97) d20_38 (by decide) (by decide) ?_
  have Kp : Keep h h3 [x] := ((Keep.of_wr W1).trans K2 (fun _ q => nomatch q)).wr W3 (Or.inl (by simp))
  exact go_return H (G := []) rfl d20_97 (by decide) (by decide) (fun _ q => nomatch q) ⟨rfl, Kp, ((E.wr W1).keep K2).wr W3, ((C.same W1).keep K2 nin0).other W3 (Or.inr sne.symm), hx, hl, ba, kb, fun q => absurd (hFl ba q) (Nat.not_lt.mpr (Nat.le_trans (Nat.le_of_eq W1.size.symm) gb)), ((Vv.other W1 (Or.inr sne)).keep K2 nin0).same W3, V2.other W3 nxb⟩
set_option maxRecDepth 65536 in
set_option maxHeartbeats 4000000 in
theorem rm_iSBX {l : Launch} {Z : State} {a0 : Array Value} (H : Wd Z a0) {h : Heap} {F : List Addr} {x s v : Addr} {n : Nat} {cs : List Int32} (E : Exa Z h x ST) (C : Fld Z h x ST "coder" "B" (.int 0)) (Vv : Fld Z h x ST "value" "[B" .null) (B : SBd Z h s v n cs) (hb : cs.length ≤ n) (X : cs.length = n → Exa Z h v "[B") (hc : cs.length ≤ 40) (hx : x ∉ F) (hFl : ∀ y ∈ F, y < h.size) : Met l Z (⟨"java/lang/String", "<init>", "(Ljava/lang/StringBuilder;)V"⟩ : MethodName) jdk_42_method_53_code 2 none ({ frames := 4, cells := 1, slots := 40, locals := 90 } : Room) h (x :: F) #[.ref x, .ref s] (fun u h' G => u = none ∧ Keep h h' [x] ∧ Str Z h' F x cs) := by
  refine Met.mk (L := #[.val (.ref x), .val (.ref s)]) (by decide +kernel) (fun m => by first | (simp [entryFrame, mkF, argsToLocals, Value.category]; done) | rfl) (fun K => ?_)
  show Go _ _ K "java/lang/String" "<init>" _ _ _ _ _ _ _ _ _ 0 _ _
  refine go_aloadN (v := .ref x) (q := 1) d19_0 rfl rfl rfl ?_
  refine go_aloadN (v := .ref s) (q := 2) d19_1 rfl rfl rfl ?_
  refine go_null (q := 3) d19_2 rfl ?_
  refine go_special (c' := 1) (s' := 40) (q := 6) (S := []) (argsL := [.ref s, .null]) H rfl (w_119 H) (w_120 H) (w_2 H) (w_121 H) (by decide) (rm_iASBX H E C Vv B hb X hc hx hFl) rfl rfl (lenOf pd_27 rfl) (fun _ q => q) rfl (by decide) (Nat.le_of_ble_eq_true rfl) rfl rfl (by decide) (by decide) d19_3 rfl ?_
  rintro _ h1 G - ⟨rfl, K1, S1⟩
  refine nx_ (v := none) ?_
  show Go _ _ _ _ _ _ _ _ _ _ _ _ _ _ 6 #[.val (.ref x), .val (.ref s)] []
  exact go_return H (G := []) rfl d19_6 (by decide) (by decide) (fun _ q => nomatch q) ⟨rfl, K1, S1⟩
set_option maxRecDepth 65536 in
set_option maxHeartbeats 4000000 in
theorem rm_toSX {l : Launch} {Z : State} {a0 : Array Value} (H : Wd Z a0) {h : Heap} {F : List Addr} {s v : Addr} {n : Nat} {cs : List Int32} (B : SBd Z h s v n cs) (hb : cs.length ≤ n) (X : cs.length = n → Exa Z h v "[B") (hc : cs.length ≤ 40) (hFl : ∀ y ∈ F, y < h.size) : Met l Z (⟨"java/lang/StringBuilder", "toString", "()Ljava/lang/String;"⟩ : MethodName) jdk_67_method_42_code 1 (some (.object "java/lang/String")) ({ frames := 5, cells := 2, slots := 44, locals := 106 } : Room) h F #[.ref s] (fun u h' G => ∃ a, u = some (.ref a) ∧ Keep h h' [] ∧ Str Z h' F a cs) := by
  refine Met.mk (L := #[.val (.ref s)]) (by decide +kernel) (fun m => by first | (simp [entryFrame, mkF, argsToLocals, Value.category]; done) | rfl) (fun K => ?_)
  show Go _ _ K "java/lang/StringBuilder" "toString" _ _ _ _ _ _ _ _ _ 0 _ _
  have Ka : Keep h h [] := Keep.refl _ _
  refine go_new (c' := 1) (s' := 4) (q := 3) (w_115 H) (w_10 H) (w_2 H) d18_0 rfl rfl rfl (by decide) (by decide) ?_
  intro h1 x g1 E1 A1 D1
  have f_Ka_x : h.size ≤ x := by rw [g1]; exact Ka.1
  have Ka : Keep h h1 [] := Ka.ext E1
  have C1 : Fld Z h1 x ST "coder" "B" (.int 0) := D1 (Or.inr (w_25 H)) (ty := .byte) (by decide)
  have V1 : Fld Z h1 x ST "value" "[B" .null := D1 (Or.inr (w_23 H)) (ty := .array .byte) (by decide)
  have nF : x ∉ F := fun q => absurd (hFl x q) (Nat.not_lt.mpr f_Ka_x)
  refine go_dup (q := 4) d18_3 rfl rfl ?_
  refine go_aloadN (v := .ref s) (q := 5) d18_4 rfl rfl rfl ?_
  refine go_special (c' := 2) (s' := 44) (q := 8) (S := [.ref x]) (argsL := [.ref s]) H rfl (w_116 H) (w_117 H) (w_2 H) (w_118 H) (by decide) (rm_iSBX H A1 C1 V1 (B.ext E1) hb (fun e => (X e).ext E1) hc nF (fun y q => Nat.lt_of_lt_of_le (hFl y q) E1.1)) rfl rfl (lenOf pd_28 rfl) (fun _ q => q) rfl (by decide) (Nat.le_of_ble_eq_true rfl) rfl rfl (by decide) (by decide) d18_5 rfl ?_
  rintro _ h2 G - ⟨rfl, K2, S2⟩
  refine nx_ (v := none) ?_
  have Ka : Keep h h2 [] := kfresh Ka K2 f_Ka_x
  show Go _ _ _ _ _ _ _ _ _ _ _ _ _ _ 8 #[.val (.ref s)] [.ref x]
  exact go_areturn H (G := []) (t := (.object "java/lang/String")) rfl rfl rfl d18_8 (by decide) (by decide) (fun _ q => nomatch q) ⟨x, rfl, Ka, S2⟩
set_option maxRecDepth 65536 in
set_option maxHeartbeats 4000000 in
theorem lp_ss {l : Launch} {Z : State} {a0 : Array Value} (H : Wd Z a0) {K : Cx} {h : Heap} {m sg : Nat} (hm : m ≤ 2147483648) : Go l Z K "java/lang/Integer" "stringSize" jdk_33_method_13_code 4 (some .int) ({ frames := 0, cells := 0, slots := 0, locals := 0 } : Room) (fun u h' G => u = some (.int (Int32.ofNat (ndg m + sg))) ∧ h = h') h [] 0 0 11 #[.val (.int (negI m)), .val (.int (Int32.ofNat sg)), .unset, .unset] [] := by
  refine go_bipush (x := (-10 : Int32)) (q := 13) d37_11 rfl rfl ?_
  refine go_istoreN (L' := #[.val (.int (negI m)), .val (.int (Int32.ofNat sg)), .val (.int (-10 : Int32)), .unset]) (q := 14) d37_13 rfl rfl ?_
  refine go_iconst (x := (1 : Int32)) (q := 15) d37_14 rfl rfl ?_
  refine go_istoreN (L' := #[.val (.int (negI m)), .val (.int (Int32.ofNat sg)), .val (.int (-10 : Int32)), .val (.int (1 : Int32))]) (q := 16) d37_15 rfl rfl ?_
  refine go_iloadN (v := (1 : Int32)) (q := 17) d37_16 rfl rfl ?_
  refine go_bipush (x := (10 : Int32)) (q := 19) d37_17 rfl rfl ?_
  refine go_icN (q := 22) d37_19 (by decide) rfl ?_
  refine go_iloadN (v := (negI m)) (q := 23) d37_22 rfl rfl ?_
  refine go_iloadN (v := (-10 : Int32)) (q := 24) d37_23 rfl rfl ?_
  have e1 : (-10 : Int32) < negI m ↔ m < 10 := by rw [show (-10 : Int32) = negI 10 from by decide]; exact neg_lt (by decide) hm
  by_cases q1 : m < 10
  · refine go_icN (q := 27) d37_24 (e1.mpr q1) rfl ?_
    refine go_iloadN (v := (1 : Int32)) (q := 28) d37_27 rfl rfl ?_
    refine go_iloadN (v := (Int32.ofNat sg)) (q := 29) d37_28 rfl rfl ?_
    refine go_iadd (r := (Int32.ofNat (ndg m + sg))) (q := 30) d37_29 (by rw [ndg, if_pos q1]; exact add_ofNat 1 sg) rfl ?_
    exact go_ireturn H (G := []) (t := .int) rfl (by decide) rfl d37_30 (by decide) (by decide) (fun _ q => nomatch q) ⟨rfl, rfl⟩
  refine go_icY (q := 31) d37_24 (fun z => q1 (e1.mp z)) (by decide) (by decide) ?_
  refine go_bipush (x := (10 : Int32)) (q := 33) d37_31 rfl rfl ?_
  refine go_iloadN (v := (-10 : Int32)) (q := 34) d37_33 rfl rfl ?_
  refine go_imul (r := (-100 : Int32)) (q := 35) d37_34 (by decide) rfl ?_
  refine go_istoreN (L' := #[.val (.int (negI m)), .val (.int (Int32.ofNat sg)), .val (.int (-100 : Int32)), .val (.int (1 : Int32))]) (q := 36) d37_35 rfl rfl ?_
  refine go_iinc (x := (1 : Int32)) (y := (2 : Int32)) (L' := #[.val (.int (negI m)), .val (.int (Int32.ofNat sg)), .val (.int (-100 : Int32)), .val (.int (2 : Int32))]) (q := 39) d37_36 rfl (by decide) rfl rfl ?_
  refine go_goto (q := 16) d37_39 (by decide) (by decide) ?_
  refine go_iloadN (v := (2 : Int32)) (q := 17) d37_16 rfl rfl ?_
  refine go_bipush (x := (10 : Int32)) (q := 19) d37_17 rfl rfl ?_
  refine go_icN (q := 22) d37_19 (by decide) rfl ?_
  refine go_iloadN (v := (negI m)) (q := 23) d37_22 rfl rfl ?_
  refine go_iloadN (v := (-100 : Int32)) (q := 24) d37_23 rfl rfl ?_
  have e2 : (-100 : Int32) < negI m ↔ m < 100 := by rw [show (-100 : Int32) = negI 100 from by decide]; exact neg_lt (by decide) hm
  by_cases q2 : m < 100
  · refine go_icN (q := 27) d37_24 (e2.mpr q2) rfl ?_
    refine go_iloadN (v := (2 : Int32)) (q := 28) d37_27 rfl rfl ?_
    refine go_iloadN (v := (Int32.ofNat sg)) (q := 29) d37_28 rfl rfl ?_
    refine go_iadd (r := (Int32.ofNat (ndg m + sg))) (q := 30) d37_29 (by rw [ndg, if_neg q1, if_pos q2]; exact add_ofNat 2 sg) rfl ?_
    exact go_ireturn H (G := []) (t := .int) rfl (by decide) rfl d37_30 (by decide) (by decide) (fun _ q => nomatch q) ⟨rfl, rfl⟩
  refine go_icY (q := 31) d37_24 (fun z => q2 (e2.mp z)) (by decide) (by decide) ?_
  refine go_bipush (x := (10 : Int32)) (q := 33) d37_31 rfl rfl ?_
  refine go_iloadN (v := (-100 : Int32)) (q := 34) d37_33 rfl rfl ?_
  refine go_imul (r := (-1000 : Int32)) (q := 35) d37_34 (by decide) rfl ?_
  refine go_istoreN (L' := #[.val (.int (negI m)), .val (.int (Int32.ofNat sg)), .val (.int (-1000 : Int32)), .val (.int (2 : Int32))]) (q := 36) d37_35 rfl rfl ?_
  refine go_iinc (x := (2 : Int32)) (y := (3 : Int32)) (L' := #[.val (.int (negI m)), .val (.int (Int32.ofNat sg)), .val (.int (-1000 : Int32)), .val (.int (3 : Int32))]) (q := 39) d37_36 rfl (by decide) rfl rfl ?_
  refine go_goto (q := 16) d37_39 (by decide) (by decide) ?_
  refine go_iloadN (v := (3 : Int32)) (q := 17) d37_16 rfl rfl ?_
  refine go_bipush (x := (10 : Int32)) (q := 19) d37_17 rfl rfl ?_
  refine go_icN (q := 22) d37_19 (by decide) rfl ?_
  refine go_iloadN (v := (negI m)) (q := 23) d37_22 rfl rfl ?_
  refine go_iloadN (v := (-1000 : Int32)) (q := 24) d37_23 rfl rfl ?_
  have e3 : (-1000 : Int32) < negI m ↔ m < 1000 := by rw [show (-1000 : Int32) = negI 1000 from by decide]; exact neg_lt (by decide) hm
  by_cases q3 : m < 1000
  · refine go_icN (q := 27) d37_24 (e3.mpr q3) rfl ?_
    refine go_iloadN (v := (3 : Int32)) (q := 28) d37_27 rfl rfl ?_
    refine go_iloadN (v := (Int32.ofNat sg)) (q := 29) d37_28 rfl rfl ?_
    refine go_iadd (r := (Int32.ofNat (ndg m + sg))) (q := 30) d37_29 (by rw [ndg, if_neg q1, if_neg q2, if_pos q3]; exact add_ofNat 3 sg) rfl ?_
    exact go_ireturn H (G := []) (t := .int) rfl (by decide) rfl d37_30 (by decide) (by decide) (fun _ q => nomatch q) ⟨rfl, rfl⟩
  refine go_icY (q := 31) d37_24 (fun z => q3 (e3.mp z)) (by decide) (by decide) ?_
  refine go_bipush (x := (10 : Int32)) (q := 33) d37_31 rfl rfl ?_
  refine go_iloadN (v := (-1000 : Int32)) (q := 34) d37_33 rfl rfl ?_
  refine go_imul (r := (-10000 : Int32)) (q := 35) d37_34 (by decide) rfl ?_
  refine go_istoreN (L' := #[.val (.int (negI m)), .val (.int (Int32.ofNat sg)), .val (.int (-10000 : Int32)), .val (.int (3 : Int32))]) (q := 36) d37_35 rfl rfl ?_
  refine go_iinc (x := (3 : Int32)) (y := (4 : Int32)) (L' := #[.val (.int (negI m)), .val (.int (Int32.ofNat sg)), .val (.int (-10000 : Int32)), .val (.int (4 : Int32))]) (q := 39) d37_36 rfl (by decide) rfl rfl ?_
  refine go_goto (q := 16) d37_39 (by decide) (by decide) ?_
  refine go_iloadN (v := (4 : Int32)) (q := 17) d37_16 rfl rfl ?_
  refine go_bipush (x := (10 : Int32)) (q := 19) d37_17 rfl rfl ?_
  refine go_icN (q := 22) d37_19 (by decide) rfl ?_
  refine go_iloadN (v := (negI m)) (q := 23) d37_22 rfl rfl ?_
  refine go_iloadN (v := (-10000 : Int32)) (q := 24) d37_23 rfl rfl ?_
  have e4 : (-10000 : Int32) < negI m ↔ m < 10000 := by rw [show (-10000 : Int32) = negI 10000 from by decide]; exact neg_lt (by decide) hm
  by_cases q4 : m < 10000
  · refine go_icN (q := 27) d37_24 (e4.mpr q4) rfl ?_
    refine go_iloadN (v := (4 : Int32)) (q := 28) d37_27 rfl rfl ?_
    refine go_iloadN (v := (Int32.ofNat sg)) (q := 29) d37_28 rfl rfl ?_
    refine go_iadd (r := (Int32.ofNat (ndg m + sg))) (q := 30) d37_29 (by rw [ndg, if_neg q1, if_neg q2, if_neg q3, if_pos q4]; exact add_ofNat 4 sg) rfl ?_
    exact go_ireturn H (G := []) (t := .int) rfl (by decide) rfl d37_30 (by decide) (by decide) (fun _ q => nomatch q) ⟨rfl, rfl⟩
  refine go_icY (q := 31) d37_24 (fun z => q4 (e4.mp z)) (by decide) (by decide) ?_
  refine go_bipush (x := (10 : Int32)) (q := 33) d37_31 rfl rfl ?_
  refine go_iloadN (v := (-10000 : Int32)) (q := 34) d37_33 rfl rfl ?_
  refine go_imul (r := (-100000 : Int32)) (q := 35) d37_34 (by decide) rfl ?_
  refine go_istoreN (L' := #[.val (.int (negI m)), .val (.int (Int32.ofNat sg)), .val (.int (-100000 : Int32)), .val (.int (4 : Int32))]) (q := 36) d37_35 rfl rfl ?_
  refine go_iinc (x := (4 : Int32)) (y := (5 : Int32)) (L' := #[.val (.int (negI m)), .val (.int (Int32.ofNat sg)), .val (.int (-100000 : Int32)), .val (.int (5 : Int32))]) (q := 39) d37_36 rfl (by decide) rfl rfl ?_
  refine go_goto (q := 16) d37_39 (by decide) (by decide) ?_
  refine go_iloadN (v := (5 : Int32)) (q := 17) d37_16 rfl rfl ?_
  refine go_bipush (x := (10 : Int32)) (q := 19) d37_17 rfl rfl ?_
  refine go_icN (q := 22) d37_19 (by decide) rfl ?_
  refine go_iloadN (v := (negI m)) (q := 23) d37_22 rfl rfl ?_
  refine go_iloadN (v := (-100000 : Int32)) (q := 24) d37_23 rfl rfl ?_
  have e5 : (-100000 : Int32) < negI m ↔ m < 100000 := by rw [show (-100000 : Int32) = negI 100000 from by decide]; exact neg_lt (by decide) hm
  by_cases q5 : m < 100000
  · refine go_icN (q := 27) d37_24 (e5.mpr q5) rfl ?_
    refine go_iloadN (v := (5 : Int32)) (q := 28) d37_27 rfl rfl ?_
    refine go_iloadN (v := (Int32.ofNat sg)) (q := 29) d37_28 rfl rfl ?_
    refine go_iadd (r := (Int32.ofNat (ndg m + sg))) (q := 30) d37_29 (by rw [ndg, if_neg q1, if_neg q2, if_neg q3, if_neg q4, if_pos q5]; exact add_ofNat 5 sg) rfl ?_
    exact go_ireturn H (G := []) (t := .int) rfl (by decide) rfl d37_30 (by decide) (by decide) (fun _ q => nomatch q) ⟨rfl, rfl⟩
  refine go_icY (q := 31) d37_24 (fun z => q5 (e5.mp z)) (by decide) (by decide) ?_
  refine go_bipush (x := (10 : Int32)) (q := 33) d37_31 rfl rfl ?_
  refine go_iloadN (v := (-100000 : Int32)) (q := 34) d37_33 rfl rfl ?_
  refine go_imul (r := (-1000000 : Int32)) (q := 35) d37_34 (by decide) rfl ?_
  refine go_istoreN (L' := #[.val (.int (negI m)), .val (.int (Int32.ofNat sg)), .val (.int (-1000000 : Int32)), .val (.int (5 : Int32))]) (q := 36) d37_35 rfl rfl ?_
  refine go_iinc (x := (5 : Int32)) (y := (6 : Int32)) (L' := #[.val (.int (negI m)), .val (.int (Int32.ofNat sg)), .val (.int (-1000000 : Int32)), .val (.int (6 : Int32))]) (q := 39) d37_36 rfl (by decide) rfl rfl ?_
  refine go_goto (q := 16) d37_39 (by decide) (by decide) ?_
  refine go_iloadN (v := (6 : Int32)) (q := 17) d37_16 rfl rfl ?_
  refine go_bipush (x := (10 : Int32)) (q := 19) d37_17 rfl rfl ?_
  refine go_icN (q := 22) d37_19 (by decide) rfl ?_
  refine go_iloadN (v := (negI m)) (q := 23) d37_22 rfl rfl ?_
  refine go_iloadN (v := (-1000000 : Int32)) (q := 24) d37_23 rfl rfl ?_
  have e6 : (-1000000 : Int32) < negI m ↔ m < 1000000 := by rw [show (-1000000 : Int32) = negI 1000000 from by decide]; exact neg_lt (by decide) hm
  by_cases q6 : m < 1000000
  · refine go_icN (q := 27) d37_24 (e6.mpr q6) rfl ?_
    refine go_iloadN (v := (6 : Int32)) (q := 28) d37_27 rfl rfl ?_
    refine go_iloadN (v := (Int32.ofNat sg)) (q := 29) d37_28 rfl rfl ?_
    refine go_iadd (r := (Int32.ofNat (ndg m + sg))) (q := 30) d37_29 (by rw [ndg, if_neg q1, if_neg q2, if_neg q3, if_neg q4, if_neg q5, if_pos q6]; exact add_ofNat 6 sg) rfl ?_
    exact go_ireturn H (G := []) (t := .int) rfl (by decide) rfl d37_30 (by decide) (by decide) (fun _ q => nomatch q) ⟨rfl, rfl⟩
  refine go_icY (q := 31) d37_24 (fun z => q6 (e6.mp z)) (by decide) (by decide) ?_
  refine go_bipush (x := (10 : Int32)) (q := 33) d37_31 rfl rfl ?_
  refine go_iloadN (v := (-1000000 : Int32)) (q := 34) d37_33 rfl rfl ?_
  refine go_imul (r := (-10000000 : Int32)) (q := 35) d37_34 (by decide) rfl ?_
  refine go_istoreN (L' := #[.val (.int (negI m)), .val (.int (Int32.ofNat sg)), .val (.int (-10000000 : Int32)), .val (.int (6 : Int32))]) (q := 36) d37_35 rfl rfl ?_
  refine go_iinc (x := (6 : Int32)) (y := (7 : Int32)) (L' := #[.val (.int (negI m)), .val (.int (Int32.ofNat sg)), .val (.int (-10000000 : Int32)), .val (.int (7 : Int32))]) (q := 39) d37_36 rfl (by decide) rfl rfl ?_
  refine go_goto (q := 16) d37_39 (by decide) (by decide) ?_
  refine go_iloadN (v := (7 : Int32)) (q := 17) d37_16 rfl rfl ?_
  refine go_bipush (x := (10 : Int32)) (q := 19) d37_17 rfl rfl ?_
  refine go_icN (q := 22) d37_19 (by decide) rfl ?_
  refine go_iloadN (v := (negI m)) (q := 23) d37_22 rfl rfl ?_
  refine go_iloadN (v := (-10000000 : Int32)) (q := 24) d37_23 rfl rfl ?_
  have e7 : (-10000000 : Int32) < negI m ↔ m < 10000000 := by rw [show (-10000000 : Int32) = negI 10000000 from by decide]; exact neg_lt (by decide) hm
  by_cases q7 : m < 10000000
  · refine go_icN (q := 27) d37_24 (e7.mpr q7) rfl ?_
    refine go_iloadN (v := (7 : Int32)) (q := 28) d37_27 rfl rfl ?_
    refine go_iloadN (v := (Int32.ofNat sg)) (q := 29) d37_28 rfl rfl ?_
    refine go_iadd (r := (Int32.ofNat (ndg m + sg))) (q := 30) d37_29 (by rw [ndg, if_neg q1, if_neg q2, if_neg q3, if_neg q4, if_neg q5, if_neg q6, if_pos q7]; exact add_ofNat 7 sg) rfl ?_
    exact go_ireturn H (G := []) (t := .int) rfl (by decide) rfl d37_30 (by decide) (by decide) (fun _ q => nomatch q) ⟨rfl, rfl⟩
  refine go_icY (q := 31) d37_24 (fun z => q7 (e7.mp z)) (by decide) (by decide) ?_
  refine go_bipush (x := (10 : Int32)) (q := 33) d37_31 rfl rfl ?_
  refine go_iloadN (v := (-10000000 : Int32)) (q := 34) d37_33 rfl rfl ?_
  refine go_imul (r := (-100000000 : Int32)) (q := 35) d37_34 (by decide) rfl ?_
  refine go_istoreN (L' := #[.val (.int (negI m)), .val (.int (Int32.ofNat sg)), .val (.int (-100000000 : Int32)), .val (.int (7 : Int32))]) (q := 36) d37_35 rfl rfl ?_
  refine go_iinc (x := (7 : Int32)) (y := (8 : Int32)) (L' := #[.val (.int (negI m)), .val (.int (Int32.ofNat sg)), .val (.int (-100000000 : Int32)), .val (.int (8 : Int32))]) (q := 39) d37_36 rfl (by decide) rfl rfl ?_
  refine go_goto (q := 16) d37_39 (by decide) (by decide) ?_
  refine go_iloadN (v := (8 : Int32)) (q := 17) d37_16 rfl rfl ?_
  refine go_bipush (x := (10 : Int32)) (q := 19) d37_17 rfl rfl ?_
  refine go_icN (q := 22) d37_19 (by decide) rfl ?_
  refine go_iloadN (v := (negI m)) (q := 23) d37_22 rfl rfl ?_
  refine go_iloadN (v := (-100000000 : Int32)) (q := 24) d37_23 rfl rfl ?_
  have e8 : (-100000000 : Int32) < negI m ↔ m < 100000000 := by rw [show (-100000000 : Int32) = negI 100000000 from by decide]; exact neg_lt (by decide) hm
  by_cases q8 : m < 100000000
  · refine go_icN (q := 27) d37_24 (e8.mpr q8) rfl ?_
    refine go_iloadN (v := (8 : Int32)) (q := 28) d37_27 rfl rfl ?_
    refine go_iloadN (v := (Int32.ofNat sg)) (q := 29) d37_28 rfl rfl ?_
    refine go_iadd (r := (Int32.ofNat (ndg m + sg))) (q := 30) d37_29 (by rw [ndg, if_neg q1, if_neg q2, if_neg q3, if_neg q4, if_neg q5, if_neg q6, if_neg q7, if_pos q8]; exact add_ofNat 8 sg) rfl ?_
    exact go_ireturn H (G := []) (t := .int) rfl (by decide) rfl d37_30 (by decide) (by decide) (fun _ q => nomatch q) ⟨rfl, rfl⟩
  refine go_icY (q := 31) d37_24 (fun z => q8 (e8.mp z)) (by decide) (by decide) ?_
  refine go_bipush (x := (10 : Int32)) (q := 33) d37_31 rfl rfl ?_
  refine go_iloadN (v := (-100000000 : Int32)) (q := 34) d37_33 rfl rfl ?_
  refine go_imul (r := (-1000000000 : Int32)) (q := 35) d37_34 (by decide) rfl ?_
  refine go_istoreN (L' := #[.val (.int (negI m)), .val (.int (Int32.ofNat sg)), .val (.int (-1000000000 : Int32)), .val (.int (8 : Int32))]) (q := 36) d37_35 rfl rfl ?_
  refine go_iinc (x := (8 : Int32)) (y := (9 : Int32)) (L' := #[.val (.int (negI m)), .val (.int (Int32.ofNat sg)), .val (.int (-1000000000 : Int32)), .val (.int (9 : Int32))]) (q := 39) d37_36 rfl (by decide) rfl rfl ?_
  refine go_goto (q := 16) d37_39 (by decide) (by decide) ?_
  refine go_iloadN (v := (9 : Int32)) (q := 17) d37_16 rfl rfl ?_
  refine go_bipush (x := (10 : Int32)) (q := 19) d37_17 rfl rfl ?_
  refine go_icN (q := 22) d37_19 (by decide) rfl ?_
  refine go_iloadN (v := (negI m)) (q := 23) d37_22 rfl rfl ?_
  refine go_iloadN (v := (-1000000000 : Int32)) (q := 24) d37_23 rfl rfl ?_
  have e9 : (-1000000000 : Int32) < negI m ↔ m < 1000000000 := by rw [show (-1000000000 : Int32) = negI 1000000000 from by decide]; exact neg_lt (by decide) hm
  by_cases q9 : m < 1000000000
  · refine go_icN (q := 27) d37_24 (e9.mpr q9) rfl ?_
    refine go_iloadN (v := (9 : Int32)) (q := 28) d37_27 rfl rfl ?_
    refine go_iloadN (v := (Int32.ofNat sg)) (q := 29) d37_28 rfl rfl ?_
    refine go_iadd (r := (Int32.ofNat (ndg m + sg))) (q := 30) d37_29 (by rw [ndg, if_neg q1, if_neg q2, if_neg q3, if_neg q4, if_neg q5, if_neg q6, if_neg q7, if_neg q8, if_pos q9]; exact add_ofNat 9 sg) rfl ?_
    exact go_ireturn H (G := []) (t := .int) rfl (by decide) rfl d37_30 (by decide) (by decide) (fun _ q => nomatch q) ⟨rfl, rfl⟩
  refine go_icY (q := 31) d37_24 (fun z => q9 (e9.mp z)) (by decide) (by decide) ?_
  refine go_bipush (x := (10 : Int32)) (q := 33) d37_31 rfl rfl ?_
  refine go_iloadN (v := (-1000000000 : Int32)) (q := 34) d37_33 rfl rfl ?_
  refine go_imul (r := (-1410065408 : Int32)) (q := 35) d37_34 (by decide) rfl ?_
  refine go_istoreN (L' := #[.val (.int (negI m)), .val (.int (Int32.ofNat sg)), .val (.int (-1410065408 : Int32)), .val (.int (9 : Int32))]) (q := 36) d37_35 rfl rfl ?_
  refine go_iinc (x := (9 : Int32)) (y := (10 : Int32)) (L' := #[.val (.int (negI m)), .val (.int (Int32.ofNat sg)), .val (.int (-1410065408 : Int32)), .val (.int (10 : Int32))]) (q := 39) d37_36 rfl (by decide) rfl rfl ?_
  refine go_goto (q := 16) d37_39 (by decide) (by decide) ?_
  refine go_iloadN (v := (10 : Int32)) (q := 17) d37_16 rfl rfl ?_
  refine go_bipush (x := (10 : Int32)) (q := 19) d37_17 rfl rfl ?_
  refine go_icY (q := 42) d37_19 (by decide) (by decide) (by decide) ?_
  refine go_bipush (x := (10 : Int32)) (q := 44) d37_42 rfl rfl ?_
  refine go_iloadN (v := (Int32.ofNat sg)) (q := 45) d37_44 rfl rfl ?_
  refine go_iadd (r := (Int32.ofNat (ndg m + sg))) (q := 46) d37_45 (by rw [ndg, if_neg q1, if_neg q2, if_neg q3, if_neg q4, if_neg q5, if_neg q6, if_neg q7, if_neg q8, if_neg q9]; exact add_ofNat 10 sg) rfl ?_
  exact go_ireturn H (G := []) (t := .int) rfl (by decide) rfl d37_46 (by decide) (by decide) (fun _ q => nomatch q) ⟨rfl, rfl⟩
set_option maxRecDepth 65536 in
set_option maxHeartbeats 4000000 in
theorem rm_ss {l : Launch} {Z : State} {a0 : Array Value} (H : Wd Z a0) {h : Heap} {x : Int32}  : Met l Z (⟨"java/lang/Integer", "stringSize", "(I)I"⟩ : MethodName) jdk_33_method_13_code 4 (some .int) ({ frames := 0, cells := 0, slots := 0, locals := 0 } : Room) h [] #[.int x] (fun u h' G => u = some (.int (Int32.ofNat (ndg (mag x) + sgn x))) ∧ h = h') := by
  refine Met.mk (L := #[.val (.int x), .unset, .unset, .unset]) (by decide +kernel) (fun m => by first | (simp [entryFrame, mkF, argsToLocals, Value.category]; done) | rfl) (fun K => ?_)
  show Go _ _ K "java/lang/Integer" "stringSize" _ _ _ _ _ _ _ _ _ 0 _ _
  refine go_iconst (x := (1 : Int32)) (q := 1) d37_0 rfl rfl ?_
  refine go_istoreN (L' := #[.val (.int x), .val (.int (1 : Int32)), .unset, .unset]) (q := 2) d37_1 rfl rfl ?_
  refine go_iloadN (v := x) (q := 3) d37_2 rfl rfl ?_
  by_cases q : x < 0
  · refine go_ifY (q := 11) d37_3 q (by decide) (by decide) ?_
    rw [show sgn x = 1 from if_pos q]
    have e := mag_neg q
    have hm := mag_le x
    generalize mag x = m at e hm ⊢
    subst e
    exact lp_ss H hm
  · refine go_ifN (q := 6) d37_3 q rfl ?_
    refine go_iconst (x := (0 : Int32)) (q := 7) d37_6 rfl rfl ?_
    refine go_istoreN (L' := #[.val (.int x), .val (.int (0 : Int32)), .unset, .unset]) (q := 8) d37_7 rfl rfl ?_
    refine go_iloadN (v := x) (q := 9) d37_8 rfl rfl ?_
    refine go_ineg (r := (negI (mag x))) (q := 10) d37_9 (mag_pos q) rfl ?_
    refine go_istoreN (L' := #[.val (.int (negI (mag x))), .val (.int (0 : Int32)), .unset, .unset]) (q := 11) d37_10 rfl rfl ?_
    rw [show sgn x = 0 from if_neg q]
    exact lp_ss H (sg := 0) (mag_le x)
set_option maxRecDepth 65536 in
set_option maxHeartbeats 4000000 in
theorem ex_gc0 {l : Launch} {Z : State} {a0 : Array Value} (H : Wd Z a0) {K : Cx} {h : Heap} {v : Addr} {kv : ClassId} {m : Nat} {s1 : Slot} (TB : Tabs Z) (hm : m ≤ 2147483648) {q k : Nat} {h1 : Heap} {s3 s4 : Slot} (hq : q < 100) (eq : q = m / 10 ^ k) (hk : ndg m = k + ndg q) (K1 : Keep h h1 [v]) (V1 : Arv Z h1 v kv .byte (Int32.ofNat 16) (zs (ndg q + 0) ++ (bts (dgs m k) ++ zs (16 - (ndg m + 0)))) (.int 0)) : Go l Z K "java/lang/Integer" "getChars" jdk_33_method_12_code 7 (some .int) ({ frames := 0, cells := 0, slots := 0, locals := 0 } : Room) (fun u h' G => (∃ r, u = some (.int r)) ∧ Keep h h' [v] ∧ Arv Z h' v kv .byte (Int32.ofNat 16) (bts (decS 0 m) ++ zs (16 - (decS 0 m).length)) (.int 0)) h1 [v] 0 0 22 #[.val (.int (negI q)), s1, .val (.ref v), s3, s4, .val (.int (Int32.ofNat (ndg q + 0))), .val (.int (0 : Int32))] [] := by
  obtain ⟨⟨d1, k1, S1, T1⟩, ⟨d2, k2, S2, T2⟩⟩ := TB
  have hnd := nd_le m
  have g1 : (-100 : Int32) < negI q ↔ q < 100 := by rw [show (-100 : Int32) = negI 100 from by decide]; exact neg_lt (by decide) (by omega)
  have g2 : negI q < (-9 : Int32) ↔ 9 < q := by rw [show (-9 : Int32) = negI 9 from by decide]; exact neg_lt (by omega) (by decide)
  have f1 : Int32.ofNat (48 + q % 10) = dig m k := by rw [dig, eq]
  refine go_iloadN (v := (negI q)) (q := 23) d38_22 rfl rfl ?_
  refine go_bipush (x := (-100 : Int32)) (q := 25) d38_23 rfl rfl ?_
  refine go_icY (q := 72) d38_25 (g1.mpr hq) (by decide) (by decide) ?_
  by_cases q9 : 9 < q
  · have hnq : ndg q = 2 := nd_mid (by omega) hq
    rw [hnq] at V1 hk ⊢
    show Go _ _ _ _ _ _ _ _ _ _ _ _ _ _ 72 #[.val (.int (negI q)), s1, .val (.ref v), s3, s4, .val (.int (Int32.ofNat (2 + 0))), .val (.int (0 : Int32))] []
    refine go_aloadN (v := .ref v) (q := 73) d38_72 rfl rfl rfl ?_
    refine go_iinc (x := (Int32.ofNat (2 + 0))) (y := (Int32.ofNat 1)) (L' := #[.val (.int (negI q)), s1, .val (.ref v), s3, s4, .val (.int (Int32.ofNat 1)), .val (.int (0 : Int32))]) (q := 76) d38_73 rfl (dec1 1) rfl rfl ?_
    refine go_iload (v := (Int32.ofNat 1)) (q := 78) d38_76 rfl rfl ?_
    refine go_getstatic (v := .ref d1) (q := 81) (w_200 H) Via.refl S1 d38_78 rfl ?_
    refine go_mine fun _ hO => ?_
    refine go_iloadN (v := (negI q)) (q := 82) d38_81 rfl rfl ?_
    refine go_ineg (r := (Int32.ofNat q)) (q := 83) d38_82 (neg_neg' (by omega)) rfl ?_
    refine go_baload (v := .int (dig m k)) (q := 84) (T1.ext hO.2) ⟨nn_ofNat (by omega), (lt_ofNat (n := 100) (by omega) (by decide)).mpr (by omega)⟩ (by rw [tab_at hq]; simp only [Value.int.injEq]; exact f1) d38_83 rfl ?_
    refine go_bastore (i := 1) (y := ((dig m k)).toInt8.toInt32) (q := 85) V1 ⟨nn_ofNat (by omega), (lt_ofNat (by omega) (by decide)).mpr (by omega)⟩ (cl_ofNat (by omega)) (by simp <;> omega) (by simp) (show (((dig m k)).toInt8.toInt32) = ((dig m k)).toInt8.toInt32 from rfl) d38_84 rfl ?_
    intro h2 K2 z2 V2
    have V2 : Arv Z h2 v kv .byte (Int32.ofNat 16) (zs 1 ++ (bts (dgs m (k + 1)) ++ zs (16 - (ndg m + 0)))) (.int 0) := by rw [show 2 + 0 = 1 + 1 from rfl, zs_set (p := 1), bts_dgs] at V2; exact V2
    have K1 := K1.trans K2 (fun _ q => Or.inl q)
    refine go_iloadN (v := (negI q)) (q := 86) d38_85 rfl rfl ?_
    refine go_bipush (x := (-9 : Int32)) (q := 88) d38_86 rfl rfl ?_
    refine go_icN (q := 91) d38_88 (g2.mpr q9) rfl ?_
    have f2 : Int32.ofNat (48 + q / 10) = dig m (k + 1) := by rw [dig, eq, Nat.div_div_eq_div_mul, ← Nat.pow_succ, Nat.mod_eq_of_lt (by rw [Nat.pow_succ, ← Nat.div_div_eq_div_mul, ← eq]; omega)]
    refine go_aloadN (v := .ref v) (q := 92) d38_91 rfl rfl rfl ?_
    refine go_iinc (x := (Int32.ofNat 1)) (y := (Int32.ofNat 0)) (L' := #[.val (.int (negI q)), s1, .val (.ref v), s3, s4, .val (.int (Int32.ofNat 0)), .val (.int (0 : Int32))]) (q := 95) d38_92 rfl (dec1 0) rfl rfl ?_
    refine go_iload (v := (Int32.ofNat 0)) (q := 97) d38_95 rfl rfl ?_
    refine go_getstatic (v := .ref d2) (q := 100) (w_245 H) Via.refl S2 d38_97 rfl ?_
    refine go_mine fun _ hO => ?_
    refine go_iloadN (v := (negI q)) (q := 101) d38_100 rfl rfl ?_
    refine go_ineg (r := (Int32.ofNat q)) (q := 102) d38_101 (neg_neg' (by omega)) rfl ?_
    refine go_baload (v := .int (dig m (k + 1))) (q := 103) (T2.ext hO.2) ⟨nn_ofNat (by omega), (lt_ofNat (n := 100) (by omega) (by decide)).mpr (by omega)⟩ (by rw [tab_at hq]; simp only [Value.int.injEq]; exact f2) d38_102 rfl ?_
    refine go_bastore (i := 0) (y := ((dig m (k + 1))).toInt8.toInt32) (q := 104) V2 ⟨nn_ofNat (by omega), (lt_ofNat (by omega) (by decide)).mpr (by omega)⟩ (cl_ofNat (by omega)) (by simp <;> omega) (by simp) (show (((dig m (k + 1))).toInt8.toInt32) = ((dig m (k + 1))).toInt8.toInt32 from rfl) d38_103 rfl ?_
    intro h3 K3 z3 V3
    have V3 : Arv Z h3 v kv .byte (Int32.ofNat 16) (zs 0 ++ (bts (dgs m (k + 2)) ++ zs (16 - (ndg m + 0)))) (.int 0) := by rw [show zs 1 = zs (0 + 1) from rfl, zs_set (p := 0), bts_dgs] at V3; exact V3
    have K1 := K1.trans K3 (fun _ q => Or.inl q)
    rw [show k + 2 = ndg m from hk.symm] at V3
    refine go_iload (v := (0 : Int32)) (q := 106) d38_104 rfl rfl ?_
    refine go_ifY (q := 118) d38_106 (by decide) (by decide) (by decide) ?_
    refine go_iload (v := (Int32.ofNat 0)) (q := 120) d38_118 rfl rfl ?_
    have V9 : Arv Z h3 v kv .byte (Int32.ofNat 16) (bts (decS 0 m) ++ zs (16 - (decS 0 m).length)) (.int 0) := by rw [decS_len, ← fin0]; exact V3
    exact go_ireturn H (G := []) (t := .int) rfl (by decide) rfl d38_120 (by decide) (by decide) (fun _ q => nomatch q) ⟨⟨_, rfl⟩, K1, V9⟩
  · have hnq : ndg q = 1 := nd_lo (by omega)
    rw [hnq] at V1 hk ⊢
    show Go _ _ _ _ _ _ _ _ _ _ _ _ _ _ 72 #[.val (.int (negI q)), s1, .val (.ref v), s3, s4, .val (.int (Int32.ofNat (1 + 0))), .val (.int (0 : Int32))] []
    refine go_aloadN (v := .ref v) (q := 73) d38_72 rfl rfl rfl ?_
    refine go_iinc (x := (Int32.ofNat (1 + 0))) (y := (Int32.ofNat 0)) (L' := #[.val (.int (negI q)), s1, .val (.ref v), s3, s4, .val (.int (Int32.ofNat 0)), .val (.int (0 : Int32))]) (q := 76) d38_73 rfl (dec1 0) rfl rfl ?_
    refine go_iload (v := (Int32.ofNat 0)) (q := 78) d38_76 rfl rfl ?_
    refine go_getstatic (v := .ref d1) (q := 81) (w_200 H) Via.refl S1 d38_78 rfl ?_
    refine go_mine fun _ hO => ?_
    refine go_iloadN (v := (negI q)) (q := 82) d38_81 rfl rfl ?_
    refine go_ineg (r := (Int32.ofNat q)) (q := 83) d38_82 (neg_neg' (by omega)) rfl ?_
    refine go_baload (v := .int (dig m k)) (q := 84) (T1.ext hO.2) ⟨nn_ofNat (by omega), (lt_ofNat (n := 100) (by omega) (by decide)).mpr (by omega)⟩ (by rw [tab_at hq]; simp only [Value.int.injEq]; exact f1) d38_83 rfl ?_
    refine go_bastore (i := 0) (y := ((dig m k)).toInt8.toInt32) (q := 85) V1 ⟨nn_ofNat (by omega), (lt_ofNat (by omega) (by decide)).mpr (by omega)⟩ (cl_ofNat (by omega)) (by simp <;> omega) (by simp) (show (((dig m k)).toInt8.toInt32) = ((dig m k)).toInt8.toInt32 from rfl) d38_84 rfl ?_
    intro h2 K2 z2 V2
    have V2 : Arv Z h2 v kv .byte (Int32.ofNat 16) (zs 0 ++ (bts (dgs m (k + 1)) ++ zs (16 - (ndg m + 0)))) (.int 0) := by rw [show 1 + 0 = 0 + 1 from rfl, zs_set (p := 0), bts_dgs] at V2; exact V2
    have K1 := K1.trans K2 (fun _ q => Or.inl q)
    refine go_iloadN (v := (negI q)) (q := 86) d38_85 rfl rfl ?_
    refine go_bipush (x := (-9 : Int32)) (q := 88) d38_86 rfl rfl ?_
    refine go_icY (q := 104) d38_88 (show ¬ _ from fun z => q9 (g2.mp z)) (by decide) (by decide) ?_
    rw [show k + 1 = ndg m from hk.symm] at V2
    refine go_iload (v := (0 : Int32)) (q := 106) d38_104 rfl rfl ?_
    refine go_ifY (q := 118) d38_106 (by decide) (by decide) (by decide) ?_
    refine go_iload (v := (Int32.ofNat 0)) (q := 120) d38_118 rfl rfl ?_
    have V9 : Arv Z h2 v kv .byte (Int32.ofNat 16) (bts (decS 0 m) ++ zs (16 - (decS 0 m).length)) (.int 0) := by rw [decS_len, ← fin0]; exact V2
    exact go_ireturn H (G := []) (t := .int) rfl (by decide) rfl d38_120 (by decide) (by decide) (fun _ q => nomatch q) ⟨⟨_, rfl⟩, K1, V9⟩
set_option maxRecDepth 65536 in
set_option maxHeartbeats 4000000 in
theorem lp_gc0 {l : Launch} {Z : State} {a0 : Array Value} (H : Wd Z a0) {K : Cx} {h : Heap} {v : Addr} {kv : ClassId} {m : Nat} {s1 : Slot} (TB : Tabs Z) (hm : m ≤ 2147483648) : ∀ (n q k : Nat) (h1 : Heap) (s3 s4 : Slot), q ≤ n → q = m / 10 ^ k → ndg m = k + ndg q → Keep h h1 [v] → One s3 → One s4 → Arv Z h1 v kv .byte (Int32.ofNat 16) (zs (ndg q + 0) ++ (bts (dgs m k) ++ zs (16 - (ndg m + 0)))) (.int 0) → Go l Z K "java/lang/Integer" "getChars" jdk_33_method_12_code 7 (some .int) ({ frames := 0, cells := 0, slots := 0, locals := 0 } : Room) (fun u h' G => (∃ r, u = some (.int r)) ∧ Keep h h' [v] ∧ Arv Z h' v kv .byte (Int32.ofNat 16) (bts (decS 0 m) ++ zs (16 - (decS 0 m).length)) (.int 0)) h1 [v] 0 0 22 #[.val (.int (negI q)), s1, .val (.ref v), s3, s4, .val (.int (Int32.ofNat (ndg q + 0))), .val (.int (0 : Int32))] []
  | 0, q, k, h1, s3, s4, hn, eq, hk, K1, o3, o4, V1 => ex_gc0 H TB hm (by omega) eq hk K1 V1
  | n + 1, q, k, h1, s3, s4, hn, eq, hk, K1, o3, o4, V1 => by
    by_cases hq : q < 100
    · exact ex_gc0 H TB hm hq eq hk K1 V1
    have hqm : q ≤ m := by rw [eq]; exact Nat.div_le_self _ _
    have T0 := TB
    obtain ⟨⟨d1, k1, S1, T1⟩, ⟨d2, k2, S2, T2⟩⟩ := TB
    have hnd := nd_le m
    have hnq := nd_le (q / 100)
    have g1 : (-100 : Int32) < negI q ↔ q < 100 := by rw [show (-100 : Int32) = negI 100 from by decide]; exact neg_lt (by decide) (by omega)
    have e100 := nd_100 (Nat.not_lt.mp hq) (by omega)
    rw [e100] at V1 hk ⊢
    have f1 : Int32.ofNat (48 + q % 100 % 10) = dig m k := by rw [dig, ← eq, show q % 100 % 10 = q % 10 by omega]
    have f2 : Int32.ofNat (48 + q % 100 / 10) = dig m (k + 1) := by rw [dig, Nat.pow_succ, ← Nat.div_div_eq_div_mul, ← eq, show q % 100 / 10 = q / 10 % 10 by omega]
    show Go _ _ _ _ _ _ _ _ _ _ _ _ _ _ 22 #[.val (.int (negI q)), s1, .val (.ref v), s3, s4, .val (.int (Int32.ofNat (ndg (q / 100) + 2 + 0))), .val (.int (0 : Int32))] []
    refine go_iloadN (v := (negI q)) (q := 23) d38_22 rfl rfl ?_
    refine go_bipush (x := (-100 : Int32)) (q := 25) d38_23 rfl rfl ?_
    refine go_icN (q := 28) d38_25 (fun z => hq (g1.mp z)) rfl ?_
    refine go_iloadN (v := (negI q)) (q := 29) d38_28 rfl rfl ?_
    refine go_bipush (x := (100 : Int32)) (q := 31) d38_29 rfl rfl ?_
    refine go_idiv (r := (negI (q / 100))) (q := 32) d38_31 (by decide) (neg_div (by omega)) rfl ?_
    refine go_istoreNO (L' := #[.val (.int (negI q)), s1, .val (.ref v), .val (.int (negI (q / 100))), s4, .val (.int (Int32.ofNat (ndg (q / 100) + 2 + 0))), .val (.int (0 : Int32))]) (q := 33) d38_32 rfl o3 rfl rfl ?_
    refine go_iloadN (v := (negI (q / 100))) (q := 34) d38_33 rfl rfl ?_
    refine go_bipush (x := (100 : Int32)) (q := 36) d38_34 rfl rfl ?_
    refine go_imul (r := (negI (q / 100)) * (100 : Int32)) (q := 37) d38_36 rfl rfl ?_
    refine go_iloadN (v := (negI q)) (q := 38) d38_37 rfl rfl ?_
    refine go_isub (r := (Int32.ofNat (q % 100))) (q := 39) d38_38 (neg_rem (by omega)) rfl ?_
    refine go_istoreO (L' := #[.val (.int (negI q)), s1, .val (.ref v), .val (.int (negI (q / 100))), .val (.int (Int32.ofNat (q % 100))), .val (.int (Int32.ofNat (ndg (q / 100) + 2 + 0))), .val (.int (0 : Int32))]) (q := 41) d38_39 rfl o4 rfl rfl ?_
    have c1 : Int32.ofNat (ndg (q / 100) + 2 + 0) + Int32.ofInt (-1) = Int32.ofNat (ndg (q / 100) + 1 + 0) := by rw [show ndg (q / 100) + 2 + 0 = (ndg (q / 100) + 1 + 0) + 1 by omega]; exact dec1 _
    have c2 : Int32.ofNat (ndg (q / 100) + 1 + 0) + Int32.ofInt (-1) = Int32.ofNat (ndg (q / 100) + 0) := by rw [show (ndg (q / 100) + 1 + 0) = (ndg (q / 100) + 0) + 1 by omega]; exact dec1 _
    refine go_iloadN (v := (negI (q / 100))) (q := 42) d38_41 rfl rfl ?_
    refine go_istoreN (L' := #[.val (.int (negI (q / 100))), s1, .val (.ref v), .val (.int (negI (q / 100))), .val (.int (Int32.ofNat (q % 100))), .val (.int (Int32.ofNat (ndg (q / 100) + 2 + 0))), .val (.int (0 : Int32))]) (q := 43) d38_42 rfl rfl ?_
    refine go_aloadN (v := .ref v) (q := 44) d38_43 rfl rfl rfl ?_
    refine go_iinc (x := (Int32.ofNat (ndg (q / 100) + 2 + 0))) (y := (Int32.ofNat (ndg (q / 100) + 1 + 0))) (L' := #[.val (.int (negI (q / 100))), s1, .val (.ref v), .val (.int (negI (q / 100))), .val (.int (Int32.ofNat (q % 100))), .val (.int (Int32.ofNat (ndg (q / 100) + 1 + 0))), .val (.int (0 : Int32))]) (q := 47) d38_44 rfl c1 rfl rfl ?_
    refine go_iload (v := (Int32.ofNat (ndg (q / 100) + 1 + 0))) (q := 49) d38_47 rfl rfl ?_
    refine go_getstatic (v := .ref d1) (q := 52) (w_200 H) Via.refl S1 d38_49 rfl ?_
    refine go_mine fun _ hO => ?_
    refine go_iload (v := (Int32.ofNat (q % 100))) (q := 54) d38_52 rfl rfl ?_
    refine go_baload (v := .int (dig m k)) (q := 55) (T1.ext hO.2) ⟨nn_ofNat (by omega), (lt_ofNat (n := 100) (by omega) (by decide)).mpr (by omega)⟩ (by rw [tab_at (Nat.mod_lt _ (by decide))]; simp only [Value.int.injEq]; exact f1) d38_54 rfl ?_
    refine go_bastore (i := (ndg (q / 100) + 1 + 0)) (y := ((dig m k)).toInt8.toInt32) (q := 56) V1 ⟨nn_ofNat (by omega), (lt_ofNat (by omega) (by decide)).mpr (by omega)⟩ (cl_ofNat (by omega)) (by simp <;> omega) (by simp) (show (((dig m k)).toInt8.toInt32) = ((dig m k)).toInt8.toInt32 from rfl) d38_55 rfl ?_
    intro h2 K2 z2 V2
    have V2 : Arv Z h2 v kv .byte (Int32.ofNat 16) (zs (ndg (q / 100) + 1 + 0) ++ (bts (dgs m (k + 1)) ++ zs (16 - (ndg m + 0)))) (.int 0) := by rw [show ndg (q / 100) + 2 + 0 = (ndg (q / 100) + 1 + 0) + 1 by omega, zs_set (p := (ndg (q / 100) + 1 + 0)), bts_dgs] at V2; exact V2
    refine go_aloadN (v := .ref v) (q := 57) d38_56 rfl rfl rfl ?_
    refine go_iinc (x := (Int32.ofNat (ndg (q / 100) + 1 + 0))) (y := (Int32.ofNat (ndg (q / 100) + 0))) (L' := #[.val (.int (negI (q / 100))), s1, .val (.ref v), .val (.int (negI (q / 100))), .val (.int (Int32.ofNat (q % 100))), .val (.int (Int32.ofNat (ndg (q / 100) + 0))), .val (.int (0 : Int32))]) (q := 60) d38_57 rfl c2 rfl rfl ?_
    refine go_iload (v := (Int32.ofNat (ndg (q / 100) + 0))) (q := 62) d38_60 rfl rfl ?_
    refine go_getstatic (v := .ref d2) (q := 65) (w_245 H) Via.refl S2 d38_62 rfl ?_
    refine go_mine fun _ hO => ?_
    refine go_iload (v := (Int32.ofNat (q % 100))) (q := 67) d38_65 rfl rfl ?_
    refine go_baload (v := .int (dig m (k + 1))) (q := 68) (T2.ext hO.2) ⟨nn_ofNat (by omega), (lt_ofNat (n := 100) (by omega) (by decide)).mpr (by omega)⟩ (by rw [tab_at (Nat.mod_lt _ (by decide))]; simp only [Value.int.injEq]; exact f2) d38_67 rfl ?_
    refine go_bastore (i := (ndg (q / 100) + 0)) (y := ((dig m (k + 1))).toInt8.toInt32) (q := 69) V2 ⟨nn_ofNat (by omega), (lt_ofNat (by omega) (by decide)).mpr (by omega)⟩ (cl_ofNat (by omega)) (by simp <;> omega) (by simp) (show (((dig m (k + 1))).toInt8.toInt32) = ((dig m (k + 1))).toInt8.toInt32 from rfl) d38_68 rfl ?_
    intro h3 K3 z3 V3
    have V3 : Arv Z h3 v kv .byte (Int32.ofNat 16) (zs (ndg (q / 100) + 0) ++ (bts (dgs m (k + 2)) ++ zs (16 - (ndg m + 0)))) (.int 0) := by rw [show ndg (q / 100) + 1 + 0 = (ndg (q / 100) + 0) + 1 by omega, zs_set (p := (ndg (q / 100) + 0)), bts_dgs] at V3; exact V3
    refine go_goto (q := 22) d38_69 (by decide) (by decide) ?_
    exact lp_gc0 H T0 hm n (q / 100) (k + 2) h3 _ _ (by omega) (by rw [eq, Nat.div_div_eq_div_mul, show (100 : Nat) = 10 ^ 2 from rfl, ← Nat.pow_add]) (by omega) ((K1.trans K2 (fun _ q => Or.inl q)).trans K3 (fun _ q => Or.inl q)) (One.val rfl) (One.val rfl) V3
set_option maxRecDepth 65536 in
set_option maxHeartbeats 4000000 in
theorem ex_gc1 {l : Launch} {Z : State} {a0 : Array Value} (H : Wd Z a0) {K : Cx} {h : Heap} {v : Addr} {kv : ClassId} {m : Nat} {s1 : Slot} (TB : Tabs Z) (hm : m ≤ 2147483648) {q k : Nat} {h1 : Heap} {s3 s4 : Slot} (hq : q < 100) (eq : q = m / 10 ^ k) (hk : ndg m = k + ndg q) (K1 : Keep h h1 [v]) (V1 : Arv Z h1 v kv .byte (Int32.ofNat 16) (zs (ndg q + 1) ++ (bts (dgs m k) ++ zs (16 - (ndg m + 1)))) (.int 0)) : Go l Z K "java/lang/Integer" "getChars" jdk_33_method_12_code 7 (some .int) ({ frames := 0, cells := 0, slots := 0, locals := 0 } : Room) (fun u h' G => (∃ r, u = some (.int r)) ∧ Keep h h' [v] ∧ Arv Z h' v kv .byte (Int32.ofNat 16) (bts (decS 1 m) ++ zs (16 - (decS 1 m).length)) (.int 0)) h1 [v] 0 0 22 #[.val (.int (negI q)), s1, .val (.ref v), s3, s4, .val (.int (Int32.ofNat (ndg q + 1))), .val (.int (1 : Int32))] [] := by
  obtain ⟨⟨d1, k1, S1, T1⟩, ⟨d2, k2, S2, T2⟩⟩ := TB
  have hnd := nd_le m
  have g1 : (-100 : Int32) < negI q ↔ q < 100 := by rw [show (-100 : Int32) = negI 100 from by decide]; exact neg_lt (by decide) (by omega)
  have g2 : negI q < (-9 : Int32) ↔ 9 < q := by rw [show (-9 : Int32) = negI 9 from by decide]; exact neg_lt (by omega) (by decide)
  have f1 : Int32.ofNat (48 + q % 10) = dig m k := by rw [dig, eq]
  refine go_iloadN (v := (negI q)) (q := 23) d38_22 rfl rfl ?_
  refine go_bipush (x := (-100 : Int32)) (q := 25) d38_23 rfl rfl ?_
  refine go_icY (q := 72) d38_25 (g1.mpr hq) (by decide) (by decide) ?_
  by_cases q9 : 9 < q
  · have hnq : ndg q = 2 := nd_mid (by omega) hq
    rw [hnq] at V1 hk ⊢
    show Go _ _ _ _ _ _ _ _ _ _ _ _ _ _ 72 #[.val (.int (negI q)), s1, .val (.ref v), s3, s4, .val (.int (Int32.ofNat (2 + 1))), .val (.int (1 : Int32))] []
    refine go_aloadN (v := .ref v) (q := 73) d38_72 rfl rfl rfl ?_
    refine go_iinc (x := (Int32.ofNat (2 + 1))) (y := (Int32.ofNat 2)) (L' := #[.val (.int (negI q)), s1, .val (.ref v), s3, s4, .val (.int (Int32.ofNat 2)), .val (.int (1 : Int32))]) (q := 76) d38_73 rfl (dec1 2) rfl rfl ?_
    refine go_iload (v := (Int32.ofNat 2)) (q := 78) d38_76 rfl rfl ?_
    refine go_getstatic (v := .ref d1) (q := 81) (w_200 H) Via.refl S1 d38_78 rfl ?_
    refine go_mine fun _ hO => ?_
    refine go_iloadN (v := (negI q)) (q := 82) d38_81 rfl rfl ?_
    refine go_ineg (r := (Int32.ofNat q)) (q := 83) d38_82 (neg_neg' (by omega)) rfl ?_
    refine go_baload (v := .int (dig m k)) (q := 84) (T1.ext hO.2) ⟨nn_ofNat (by omega), (lt_ofNat (n := 100) (by omega) (by decide)).mpr (by omega)⟩ (by rw [tab_at hq]; simp only [Value.int.injEq]; exact f1) d38_83 rfl ?_
    refine go_bastore (i := 2) (y := ((dig m k)).toInt8.toInt32) (q := 85) V1 ⟨nn_ofNat (by omega), (lt_ofNat (by omega) (by decide)).mpr (by omega)⟩ (cl_ofNat (by omega)) (by simp <;> omega) (by simp) (show (((dig m k)).toInt8.toInt32) = ((dig m k)).toInt8.toInt32 from rfl) d38_84 rfl ?_
    intro h2 K2 z2 V2
    have V2 : Arv Z h2 v kv .byte (Int32.ofNat 16) (zs 2 ++ (bts (dgs m (k + 1)) ++ zs (16 - (ndg m + 1)))) (.int 0) := by rw [show 2 + 1 = 2 + 1 from rfl, zs_set (p := 2), bts_dgs] at V2; exact V2
    have K1 := K1.trans K2 (fun _ q => Or.inl q)
    refine go_iloadN (v := (negI q)) (q := 86) d38_85 rfl rfl ?_
    refine go_bipush (x := (-9 : Int32)) (q := 88) d38_86 rfl rfl ?_
    refine go_icN (q := 91) d38_88 (g2.mpr q9) rfl ?_
    have f2 : Int32.ofNat (48 + q / 10) = dig m (k + 1) := by rw [dig, eq, Nat.div_div_eq_div_mul, ← Nat.pow_succ, Nat.mod_eq_of_lt (by rw [Nat.pow_succ, ← Nat.div_div_eq_div_mul, ← eq]; omega)]
    refine go_aloadN (v := .ref v) (q := 92) d38_91 rfl rfl rfl ?_
    refine go_iinc (x := (Int32.ofNat 2)) (y := (Int32.ofNat 1)) (L' := #[.val (.int (negI q)), s1, .val (.ref v), s3, s4, .val (.int (Int32.ofNat 1)), .val (.int (1 : Int32))]) (q := 95) d38_92 rfl (dec1 1) rfl rfl ?_
    refine go_iload (v := (Int32.ofNat 1)) (q := 97) d38_95 rfl rfl ?_
    refine go_getstatic (v := .ref d2) (q := 100) (w_245 H) Via.refl S2 d38_97 rfl ?_
    refine go_mine fun _ hO => ?_
    refine go_iloadN (v := (negI q)) (q := 101) d38_100 rfl rfl ?_
    refine go_ineg (r := (Int32.ofNat q)) (q := 102) d38_101 (neg_neg' (by omega)) rfl ?_
    refine go_baload (v := .int (dig m (k + 1))) (q := 103) (T2.ext hO.2) ⟨nn_ofNat (by omega), (lt_ofNat (n := 100) (by omega) (by decide)).mpr (by omega)⟩ (by rw [tab_at hq]; simp only [Value.int.injEq]; exact f2) d38_102 rfl ?_
    refine go_bastore (i := 1) (y := ((dig m (k + 1))).toInt8.toInt32) (q := 104) V2 ⟨nn_ofNat (by omega), (lt_ofNat (by omega) (by decide)).mpr (by omega)⟩ (cl_ofNat (by omega)) (by simp <;> omega) (by simp) (show (((dig m (k + 1))).toInt8.toInt32) = ((dig m (k + 1))).toInt8.toInt32 from rfl) d38_103 rfl ?_
    intro h3 K3 z3 V3
    have V3 : Arv Z h3 v kv .byte (Int32.ofNat 16) (zs 1 ++ (bts (dgs m (k + 2)) ++ zs (16 - (ndg m + 1)))) (.int 0) := by rw [show zs 2 = zs (1 + 1) from rfl, zs_set (p := 1), bts_dgs] at V3; exact V3
    have K1 := K1.trans K3 (fun _ q => Or.inl q)
    rw [show k + 2 = ndg m from hk.symm] at V3
    refine go_iload (v := (1 : Int32)) (q := 106) d38_104 rfl rfl ?_
    refine go_ifN (q := 109) d38_106 (by decide) rfl ?_
    refine go_aloadN (v := .ref v) (q := 110) d38_109 rfl rfl rfl ?_
    refine go_iinc (x := (Int32.ofNat 1)) (y := (Int32.ofNat 0)) (L' := #[.val (.int (negI q)), s1, .val (.ref v), s3, s4, .val (.int (Int32.ofNat 0)), .val (.int (1 : Int32))]) (q := 113) d38_110 rfl (dec1 0) rfl rfl ?_
    refine go_iload (v := (Int32.ofNat 0)) (q := 115) d38_113 rfl rfl ?_
    refine go_bipush (x := (45 : Int32)) (q := 117) d38_115 rfl rfl ?_
    refine go_bastore (i := 0) (y := (45 : Int32).toInt8.toInt32) (q := 118) V3 ⟨nn_ofNat (by omega), (lt_ofNat (by omega) (by decide)).mpr (by omega)⟩ (cl_ofNat (by omega)) (by simp) (by simp) (show ((45 : Int32).toInt8.toInt32) = (45 : Int32).toInt8.toInt32 from rfl) d38_117 rfl ?_
    intro h4 K4 z4 V4
    rw [show zs 1 = zs (0 + 1) from rfl, zs_set] at V4
    have K1 := K1.trans K4 (fun _ q => Or.inl q)
    refine go_iload (v := (Int32.ofNat 0)) (q := 120) d38_118 rfl rfl ?_
    have V9 : Arv Z h4 v kv .byte (Int32.ofNat 16) (bts (decS 1 m) ++ zs (16 - (decS 1 m).length)) (.int 0) := by rw [decS_len, ← fin1]; exact V4
    exact go_ireturn H (G := []) (t := .int) rfl (by decide) rfl d38_120 (by decide) (by decide) (fun _ q => nomatch q) ⟨⟨_, rfl⟩, K1, V9⟩
  · have hnq : ndg q = 1 := nd_lo (by omega)
    rw [hnq] at V1 hk ⊢
    show Go _ _ _ _ _ _ _ _ _ _ _ _ _ _ 72 #[.val (.int (negI q)), s1, .val (.ref v), s3, s4, .val (.int (Int32.ofNat (1 + 1))), .val (.int (1 : Int32))] []
    refine go_aloadN (v := .ref v) (q := 73) d38_72 rfl rfl rfl ?_
    refine go_iinc (x := (Int32.ofNat (1 + 1))) (y := (Int32.ofNat 1)) (L' := #[.val (.int (negI q)), s1, .val (.ref v), s3, s4, .val (.int (Int32.ofNat 1)), .val (.int (1 : Int32))]) (q := 76) d38_73 rfl (dec1 1) rfl rfl ?_
    refine go_iload (v := (Int32.ofNat 1)) (q := 78) d38_76 rfl rfl ?_
    refine go_getstatic (v := .ref d1) (q := 81) (w_200 H) Via.refl S1 d38_78 rfl ?_
    refine go_mine fun _ hO => ?_
    refine go_iloadN (v := (negI q)) (q := 82) d38_81 rfl rfl ?_
    refine go_ineg (r := (Int32.ofNat q)) (q := 83) d38_82 (neg_neg' (by omega)) rfl ?_
    refine go_baload (v := .int (dig m k)) (q := 84) (T1.ext hO.2) ⟨nn_ofNat (by omega), (lt_ofNat (n := 100) (by omega) (by decide)).mpr (by omega)⟩ (by rw [tab_at hq]; simp only [Value.int.injEq]; exact f1) d38_83 rfl ?_
    refine go_bastore (i := 1) (y := ((dig m k)).toInt8.toInt32) (q := 85) V1 ⟨nn_ofNat (by omega), (lt_ofNat (by omega) (by decide)).mpr (by omega)⟩ (cl_ofNat (by omega)) (by simp <;> omega) (by simp) (show (((dig m k)).toInt8.toInt32) = ((dig m k)).toInt8.toInt32 from rfl) d38_84 rfl ?_
    intro h2 K2 z2 V2
    have V2 : Arv Z h2 v kv .byte (Int32.ofNat 16) (zs 1 ++ (bts (dgs m (k + 1)) ++ zs (16 - (ndg m + 1)))) (.int 0) := by rw [show 1 + 1 = 1 + 1 from rfl, zs_set (p := 1), bts_dgs] at V2; exact V2
    have K1 := K1.trans K2 (fun _ q => Or.inl q)
    refine go_iloadN (v := (negI q)) (q := 86) d38_85 rfl rfl ?_
    refine go_bipush (x := (-9 : Int32)) (q := 88) d38_86 rfl rfl ?_
    refine go_icY (q := 104) d38_88 (show ¬ _ from fun z => q9 (g2.mp z)) (by decide) (by decide) ?_
    rw [show k + 1 = ndg m from hk.symm] at V2
    refine go_iload (v := (1 : Int32)) (q := 106) d38_104 rfl rfl ?_
    refine go_ifN (q := 109) d38_106 (by decide) rfl ?_
    refine go_aloadN (v := .ref v) (q := 110) d38_109 rfl rfl rfl ?_
    refine go_iinc (x := (Int32.ofNat 1)) (y := (Int32.ofNat 0)) (L' := #[.val (.int (negI q)), s1, .val (.ref v), s3, s4, .val (.int (Int32.ofNat 0)), .val (.int (1 : Int32))]) (q := 113) d38_110 rfl (dec1 0) rfl rfl ?_
    refine go_iload (v := (Int32.ofNat 0)) (q := 115) d38_113 rfl rfl ?_
    refine go_bipush (x := (45 : Int32)) (q := 117) d38_115 rfl rfl ?_
    refine go_bastore (i := 0) (y := (45 : Int32).toInt8.toInt32) (q := 118) V2 ⟨nn_ofNat (by omega), (lt_ofNat (by omega) (by decide)).mpr (by omega)⟩ (cl_ofNat (by omega)) (by simp) (by simp) (show ((45 : Int32).toInt8.toInt32) = (45 : Int32).toInt8.toInt32 from rfl) d38_117 rfl ?_
    intro h3 K3 z3 V3
    rw [show zs 1 = zs (0 + 1) from rfl, zs_set] at V3
    have K1 := K1.trans K3 (fun _ q => Or.inl q)
    refine go_iload (v := (Int32.ofNat 0)) (q := 120) d38_118 rfl rfl ?_
    have V9 : Arv Z h3 v kv .byte (Int32.ofNat 16) (bts (decS 1 m) ++ zs (16 - (decS 1 m).length)) (.int 0) := by rw [decS_len, ← fin1]; exact V3
    exact go_ireturn H (G := []) (t := .int) rfl (by decide) rfl d38_120 (by decide) (by decide) (fun _ q => nomatch q) ⟨⟨_, rfl⟩, K1, V9⟩
set_option maxRecDepth 65536 in
set_option maxHeartbeats 4000000 in
theorem lp_gc1 {l : Launch} {Z : State} {a0 : Array Value} (H : Wd Z a0) {K : Cx} {h : Heap} {v : Addr} {kv : ClassId} {m : Nat} {s1 : Slot} (TB : Tabs Z) (hm : m ≤ 2147483648) : ∀ (n q k : Nat) (h1 : Heap) (s3 s4 : Slot), q ≤ n → q = m / 10 ^ k → ndg m = k + ndg q → Keep h h1 [v] → One s3 → One s4 → Arv Z h1 v kv .byte (Int32.ofNat 16) (zs (ndg q + 1) ++ (bts (dgs m k) ++ zs (16 - (ndg m + 1)))) (.int 0) → Go l Z K "java/lang/Integer" "getChars" jdk_33_method_12_code 7 (some .int) ({ frames := 0, cells := 0, slots := 0, locals := 0 } : Room) (fun u h' G => (∃ r, u = some (.int r)) ∧ Keep h h' [v] ∧ Arv Z h' v kv .byte (Int32.ofNat 16) (bts (decS 1 m) ++ zs (16 - (decS 1 m).length)) (.int 0)) h1 [v] 0 0 22 #[.val (.int (negI q)), s1, .val (.ref v), s3, s4, .val (.int (Int32.ofNat (ndg q + 1))), .val (.int (1 : Int32))] []
  | 0, q, k, h1, s3, s4, hn, eq, hk, K1, o3, o4, V1 => ex_gc1 H TB hm (by omega) eq hk K1 V1
  | n + 1, q, k, h1, s3, s4, hn, eq, hk, K1, o3, o4, V1 => by
    by_cases hq : q < 100
    · exact ex_gc1 H TB hm hq eq hk K1 V1
    have hqm : q ≤ m := by rw [eq]; exact Nat.div_le_self _ _
    have T0 := TB
    obtain ⟨⟨d1, k1, S1, T1⟩, ⟨d2, k2, S2, T2⟩⟩ := TB
    have hnd := nd_le m
    have hnq := nd_le (q / 100)
    have g1 : (-100 : Int32) < negI q ↔ q < 100 := by rw [show (-100 : Int32) = negI 100 from by decide]; exact neg_lt (by decide) (by omega)
    have e100 := nd_100 (Nat.not_lt.mp hq) (by omega)
    rw [e100] at V1 hk ⊢
    have f1 : Int32.ofNat (48 + q % 100 % 10) = dig m k := by rw [dig, ← eq, show q % 100 % 10 = q % 10 by omega]
    have f2 : Int32.ofNat (48 + q % 100 / 10) = dig m (k + 1) := by rw [dig, Nat.pow_succ, ← Nat.div_div_eq_div_mul, ← eq, show q % 100 / 10 = q / 10 % 10 by omega]
    show Go _ _ _ _ _ _ _ _ _ _ _ _ _ _ 22 #[.val (.int (negI q)), s1, .val (.ref v), s3, s4, .val (.int (Int32.ofNat (ndg (q / 100) + 2 + 1))), .val (.int (1 : Int32))] []
    refine go_iloadN (v := (negI q)) (q := 23) d38_22 rfl rfl ?_
    refine go_bipush (x := (-100 : Int32)) (q := 25) d38_23 rfl rfl ?_
    refine go_icN (q := 28) d38_25 (fun z => hq (g1.mp z)) rfl ?_
    refine go_iloadN (v := (negI q)) (q := 29) d38_28 rfl rfl ?_
    refine go_bipush (x := (100 : Int32)) (q := 31) d38_29 rfl rfl ?_
    refine go_idiv (r := (negI (q / 100))) (q := 32) d38_31 (by decide) (neg_div (by omega)) rfl ?_
    refine go_istoreNO (L' := #[.val (.int (negI q)), s1, .val (.ref v), .val (.int (negI (q / 100))), s4, .val (.int (Int32.ofNat (ndg (q / 100) + 2 + 1))), .val (.int (1 : Int32))]) (q := 33) d38_32 rfl o3 rfl rfl ?_
    refine go_iloadN (v := (negI (q / 100))) (q := 34) d38_33 rfl rfl ?_
    refine go_bipush (x := (100 : Int32)) (q := 36) d38_34 rfl rfl ?_
    refine go_imul (r := (negI (q / 100)) * (100 : Int32)) (q := 37) d38_36 rfl rfl ?_
    refine go_iloadN (v := (negI q)) (q := 38) d38_37 rfl rfl ?_
    refine go_isub (r := (Int32.ofNat (q % 100))) (q := 39) d38_38 (neg_rem (by omega)) rfl ?_
    refine go_istoreO (L' := #[.val (.int (negI q)), s1, .val (.ref v), .val (.int (negI (q / 100))), .val (.int (Int32.ofNat (q % 100))), .val (.int (Int32.ofNat (ndg (q / 100) + 2 + 1))), .val (.int (1 : Int32))]) (q := 41) d38_39 rfl o4 rfl rfl ?_
    have c1 : Int32.ofNat (ndg (q / 100) + 2 + 1) + Int32.ofInt (-1) = Int32.ofNat (ndg (q / 100) + 1 + 1) := by rw [show ndg (q / 100) + 2 + 1 = (ndg (q / 100) + 1 + 1) + 1 by omega]; exact dec1 _
    have c2 : Int32.ofNat (ndg (q / 100) + 1 + 1) + Int32.ofInt (-1) = Int32.ofNat (ndg (q / 100) + 1) := by rw [show (ndg (q / 100) + 1 + 1) = (ndg (q / 100) + 1) + 1 by omega]; exact dec1 _
    refine go_iloadN (v := (negI (q / 100))) (q := 42) d38_41 rfl rfl ?_
    refine go_istoreN (L' := #[.val (.int (negI (q / 100))), s1, .val (.ref v), .val (.int (negI (q / 100))), .val (.int (Int32.ofNat (q % 100))), .val (.int (Int32.ofNat (ndg (q / 100) + 2 + 1))), .val (.int (1 : Int32))]) (q := 43) d38_42 rfl rfl ?_
    refine go_aloadN (v := .ref v) (q := 44) d38_43 rfl rfl rfl ?_
    refine go_iinc (x := (Int32.ofNat (ndg (q / 100) + 2 + 1))) (y := (Int32.ofNat (ndg (q / 100) + 1 + 1))) (L' := #[.val (.int (negI (q / 100))), s1, .val (.ref v), .val (.int (negI (q / 100))), .val (.int (Int32.ofNat (q % 100))), .val (.int (Int32.ofNat (ndg (q / 100) + 1 + 1))), .val (.int (1 : Int32))]) (q := 47) d38_44 rfl c1 rfl rfl ?_
    refine go_iload (v := (Int32.ofNat (ndg (q / 100) + 1 + 1))) (q := 49) d38_47 rfl rfl ?_
    refine go_getstatic (v := .ref d1) (q := 52) (w_200 H) Via.refl S1 d38_49 rfl ?_
    refine go_mine fun _ hO => ?_
    refine go_iload (v := (Int32.ofNat (q % 100))) (q := 54) d38_52 rfl rfl ?_
    refine go_baload (v := .int (dig m k)) (q := 55) (T1.ext hO.2) ⟨nn_ofNat (by omega), (lt_ofNat (n := 100) (by omega) (by decide)).mpr (by omega)⟩ (by rw [tab_at (Nat.mod_lt _ (by decide))]; simp only [Value.int.injEq]; exact f1) d38_54 rfl ?_
    refine go_bastore (i := (ndg (q / 100) + 1 + 1)) (y := ((dig m k)).toInt8.toInt32) (q := 56) V1 ⟨nn_ofNat (by omega), (lt_ofNat (by omega) (by decide)).mpr (by omega)⟩ (cl_ofNat (by omega)) (by simp <;> omega) (by simp) (show (((dig m k)).toInt8.toInt32) = ((dig m k)).toInt8.toInt32 from rfl) d38_55 rfl ?_
    intro h2 K2 z2 V2
    have V2 : Arv Z h2 v kv .byte (Int32.ofNat 16) (zs (ndg (q / 100) + 1 + 1) ++ (bts (dgs m (k + 1)) ++ zs (16 - (ndg m + 1)))) (.int 0) := by rw [show ndg (q / 100) + 2 + 1 = (ndg (q / 100) + 1 + 1) + 1 by omega, zs_set (p := (ndg (q / 100) + 1 + 1)), bts_dgs] at V2; exact V2
    refine go_aloadN (v := .ref v) (q := 57) d38_56 rfl rfl rfl ?_
    refine go_iinc (x := (Int32.ofNat (ndg (q / 100) + 1 + 1))) (y := (Int32.ofNat (ndg (q / 100) + 1))) (L' := #[.val (.int (negI (q / 100))), s1, .val (.ref v), .val (.int (negI (q / 100))), .val (.int (Int32.ofNat (q % 100))), .val (.int (Int32.ofNat (ndg (q / 100) + 1))), .val (.int (1 : Int32))]) (q := 60) d38_57 rfl c2 rfl rfl ?_
    refine go_iload (v := (Int32.ofNat (ndg (q / 100) + 1))) (q := 62) d38_60 rfl rfl ?_
    refine go_getstatic (v := .ref d2) (q := 65) (w_245 H) Via.refl S2 d38_62 rfl ?_
    refine go_mine fun _ hO => ?_
    refine go_iload (v := (Int32.ofNat (q % 100))) (q := 67) d38_65 rfl rfl ?_
    refine go_baload (v := .int (dig m (k + 1))) (q := 68) (T2.ext hO.2) ⟨nn_ofNat (by omega), (lt_ofNat (n := 100) (by omega) (by decide)).mpr (by omega)⟩ (by rw [tab_at (Nat.mod_lt _ (by decide))]; simp only [Value.int.injEq]; exact f2) d38_67 rfl ?_
    refine go_bastore (i := (ndg (q / 100) + 1)) (y := ((dig m (k + 1))).toInt8.toInt32) (q := 69) V2 ⟨nn_ofNat (by omega), (lt_ofNat (by omega) (by decide)).mpr (by omega)⟩ (cl_ofNat (by omega)) (by simp <;> omega) (by simp) (show (((dig m (k + 1))).toInt8.toInt32) = ((dig m (k + 1))).toInt8.toInt32 from rfl) d38_68 rfl ?_
    intro h3 K3 z3 V3
    have V3 : Arv Z h3 v kv .byte (Int32.ofNat 16) (zs (ndg (q / 100) + 1) ++ (bts (dgs m (k + 2)) ++ zs (16 - (ndg m + 1)))) (.int 0) := by rw [show ndg (q / 100) + 1 + 1 = (ndg (q / 100) + 1) + 1 by omega, zs_set (p := (ndg (q / 100) + 1)), bts_dgs] at V3; exact V3
    refine go_goto (q := 22) d38_69 (by decide) (by decide) ?_
    exact lp_gc1 H T0 hm n (q / 100) (k + 2) h3 _ _ (by omega) (by rw [eq, Nat.div_div_eq_div_mul, show (100 : Nat) = 10 ^ 2 from rfl, ← Nat.pow_add]) (by omega) ((K1.trans K2 (fun _ q => Or.inl q)).trans K3 (fun _ q => Or.inl q)) (One.val rfl) (One.val rfl) V3
set_option maxRecDepth 65536 in
set_option maxHeartbeats 4000000 in
theorem rm_gc {l : Launch} {Z : State} {a0 : Array Value} (H : Wd Z a0) {h : Heap} {v : Addr} {kv : ClassId} {x : Int32} (TB : Tabs Z) (V : Arv Z h v kv .byte (Int32.ofNat 16) (zs 16) (.int 0)) : Met l Z (⟨"java/lang/Integer", "getChars", "(II[B)I"⟩ : MethodName) jdk_33_method_12_code 7 (some .int) ({ frames := 0, cells := 0, slots := 0, locals := 0 } : Room) h [v] #[.int x, .int (Int32.ofNat (ndg (mag x) + sgn x)), .ref v] (fun u h' G => (∃ r, u = some (.int r)) ∧ Keep h h' [v] ∧ Arv Z h' v kv .byte (Int32.ofNat 16) (bts (dec x) ++ zs (16 - (dec x).length)) (.int 0)) := by
  refine Met.mk (L := #[.val (.int x), .val (.int (Int32.ofNat (ndg (mag x) + sgn x))), .val (.ref v), .unset, .unset, .unset, .unset]) (by decide +kernel) (fun m => by first | (simp [entryFrame, mkF, argsToLocals, Value.category]; done) | rfl) (fun K => ?_)
  show Go _ _ K "java/lang/Integer" "getChars" _ _ _ _ _ _ _ _ _ 0 _ _
  have hm := mag_le x
  have hd := dec_le x
  rw [dec_len] at hd
  refine go_iloadN (v := (Int32.ofNat (ndg (mag x) + sgn x))) (q := 1) d38_0 rfl rfl ?_
  refine go_istore (L' := #[.val (.int x), .val (.int (Int32.ofNat (ndg (mag x) + sgn x))), .val (.ref v), .unset, .unset, .val (.int (Int32.ofNat (ndg (mag x) + sgn x))), .unset]) (q := 3) d38_1 rfl rfl ?_
  refine go_iloadN (v := x) (q := 4) d38_3 rfl rfl ?_
  by_cases q : x < 0
  · refine go_ifN (q := 7) d38_4 q rfl ?_
    refine go_iconst (x := (1 : Int32)) (q := 8) d38_7 rfl rfl ?_
    refine go_goto (q := 12) d38_8 (by decide) (by decide) ?_
    refine go_istore (L' := #[.val (.int x), .val (.int (Int32.ofNat (ndg (mag x) + sgn x))), .val (.ref v), .unset, .unset, .val (.int (Int32.ofNat (ndg (mag x) + sgn x))), .val (.int (1 : Int32))]) (q := 14) d38_12 rfl rfl ?_
    refine go_iload (v := (1 : Int32)) (q := 16) d38_14 rfl rfl ?_
    refine go_ifY (q := 22) d38_16 (by decide) (by decide) (by decide) ?_
    have hs : sgn x = 1 := if_pos q
    rw [hs] at hd
    rw [dec, hs]
    have e := mag_neg q
    generalize mag x = m at e hm hd ⊢
    subst e
    exact lp_gc1 H TB hm m m 0 h _ _ (Nat.le_refl _) (by simp) (by omega) (Keep.refl _ _) One.u One.u (by rw [show bts (dgs m 0) = [] from rfl, List.nil_append, List.replicate_append_replicate, show ndg m + 1 + (16 - (ndg m + 1)) = 16 by omega]; exact V)
  · refine go_ifY (q := 11) d38_4 q (by decide) (by decide) ?_
    refine go_iconst (x := (0 : Int32)) (q := 12) d38_11 rfl rfl ?_
    refine go_istore (L' := #[.val (.int x), .val (.int (Int32.ofNat (ndg (mag x) + sgn x))), .val (.ref v), .unset, .unset, .val (.int (Int32.ofNat (ndg (mag x) + sgn x))), .val (.int (0 : Int32))]) (q := 14) d38_12 rfl rfl ?_
    refine go_iload (v := (0 : Int32)) (q := 16) d38_14 rfl rfl ?_
    refine go_ifN (q := 19) d38_16 (by decide) rfl ?_
    refine go_iloadN (v := x) (q := 20) d38_19 rfl rfl ?_
    refine go_ineg (r := (negI (mag x))) (q := 21) d38_20 (mag_pos q) rfl ?_
    refine go_istoreN (L' := #[.val (.int (negI (mag x))), .val (.int (Int32.ofNat (ndg (mag x) + sgn x))), .val (.ref v), .unset, .unset, .val (.int (Int32.ofNat (ndg (mag x) + sgn x))), .val (.int (0 : Int32))]) (q := 22) d38_21 rfl rfl ?_
    have hs : sgn x = 0 := if_neg q
    rw [hs] at hd
    rw [dec, hs]
    exact lp_gc0 H TB hm (mag x) (mag x) 0 h _ _ (Nat.le_refl _) (by simp) (by omega) (Keep.refl _ _) One.u One.u (by rw [show bts (dgs (mag x) 0) = [] from rfl, List.nil_append, List.replicate_append_replicate, show ndg (mag x) + 0 + (16 - (ndg (mag x) + 0)) = 16 by omega]; exact V)
set_option maxRecDepth 65536 in
set_option maxHeartbeats 4000000 in
theorem rm_apIA {l : Launch} {Z : State} {a0 : Array Value} (H : Wd Z a0) {h : Heap} {x v : Addr} {p : Int32} (TB : Tabs Z) (B : SBd Z h x v 16 []) : Met l Z (⟨"java/lang/AbstractStringBuilder", "append", "(I)Ljava/lang/AbstractStringBuilder;"⟩ : MethodName) jdk_68_method_32_code 4 (some (.object "java/lang/AbstractStringBuilder")) ({ frames := 1, cells := 0, slots := 0, locals := 20 } : Room) h [x, v] #[.ref x, .int p] (fun u h' G => u = some (.ref x) ∧ Keep h h' [x, v] ∧ SBd Z h' x v 16 (dec p)) := by
  refine Met.mk (L := #[.val (.ref x), .val (.int p), .unset, .unset]) (by decide +kernel) (fun m => by first | (simp [entryFrame, mkF, argsToLocals, Value.category]; done) | rfl) (fun K => ?_)
  show Go _ _ K "java/lang/AbstractStringBuilder" "append" _ _ _ _ _ _ _ _ _ 0 _ _
  have B0 := B
  obtain ⟨E, Vv, C, N, hl, l1, l2, k, A⟩ := B
  have hd := dec_le p
  have hdl := dec_len p
  have s2 : RoadKit.slotOf Z ABN "value" "[B" ≠ RoadKit.slotOf Z ABN "count" "I" := slot_ne (C := SBN) (Or.inl (w_59 H)) (Or.inl (w_84 H)) (by decide) (t := .array .byte) (t' := .int) (by decide) (by decide)
  have s3 : RoadKit.slotOf Z ABN "coder" "B" ≠ RoadKit.slotOf Z ABN "count" "I" := slot_ne (C := SBN) (Or.inl (w_61 H)) (Or.inl (w_84 H)) (by decide) (t := .byte) (t' := .int) (by decide) (by decide)
  have nxv : v ≠ x := (E.neArv A (w_45 H)).symm
  refine go_aloadN (v := .ref x) (q := 1) d36_0 rfl rfl rfl ?_
  refine go_getfield (v := .int (Int32.ofNat 0)) (q := 4) (w_83 H) Via.refl N d36_1 rfl ?_
  refine go_istoreN (L' := #[.val (.ref x), .val (.int p), .val (.int (Int32.ofNat 0)), .unset]) (q := 5) d36_4 rfl rfl ?_
  refine go_iloadN (v := (Int32.ofNat 0)) (q := 6) d36_5 rfl rfl ?_
  refine go_iloadN (v := p) (q := 7) d36_6 rfl rfl ?_
  refine go_static (c' := 0) (s' := 0) (q := 10) (S := [.int (Int32.ofNat 0)]) (argsL := [.int p]) H (w_192 H) (w_193 H) (w_194 H) (w_195 H) (by decide) (rm_ss H) rfl rfl (lenOf pd_21 rfl) (fun _ q => nomatch q) rfl (by decide) (Nat.le_of_ble_eq_true rfl) rfl rfl (by decide) (by decide) d36_7 rfl ?_
  rintro _ _ G - ⟨rfl, rfl⟩
  refine nx_ (v := none) ?_
  show Go _ _ _ _ _ _ _ _ _ _ _ _ _ _ 10 #[.val (.ref x), .val (.int p), .val (.int (Int32.ofNat 0)), .unset] [.int (Int32.ofNat (ndg (mag p) + sgn p)), .int (Int32.ofNat 0)]
  refine go_iadd (r := (Int32.ofNat (ndg (mag p) + sgn p))) (q := 11) d36_10 ((add_ofNat 0 _).trans (by rw [Nat.zero_add])) rfl ?_
  refine go_istoreN (L' := #[.val (.ref x), .val (.int p), .val (.int (Int32.ofNat 0)), .val (.int (Int32.ofNat (ndg (mag p) + sgn p)))]) (q := 12) d36_11 rfl rfl ?_
  refine go_aloadN (v := .ref x) (q := 13) d36_12 rfl rfl rfl ?_
  refine go_iloadN (v := (Int32.ofNat (ndg (mag p) + sgn p))) (q := 14) d36_13 rfl rfl ?_
  refine go_virtual (c' := 0) (s' := 0) (q := 17) (S := []) (argsL := [.int (Int32.ofNat (ndg (mag p) + sgn p))]) H (C := "java/lang/StringBuilder") (w_85 H) (decl_of (w_86 H) (w_89 H)) (nf_self (w_88 H)) (w_88 H) (w_86 H) (w_54 H) (w_89 H) (by decide) E (rm_ens H B0 (n := ndg (mag p) + sgn p) (by omega)) rfl rfl (lenOf pd_13 rfl) (fun _ q => nomatch q) rfl (by decide) (Nat.le_of_ble_eq_true rfl) rfl rfl (by decide) (by decide) d36_14 rfl ?_
  rintro _ _ G - ⟨rfl, rfl⟩
  refine nx_ (v := none) ?_
  show Go _ _ _ _ _ _ _ _ _ _ _ _ _ _ 17 #[.val (.ref x), .val (.int p), .val (.int (Int32.ofNat 0)), .val (.int (Int32.ofNat (ndg (mag p) + sgn p)))] []
  refine go_aloadN (v := .ref x) (q := 18) d36_17 rfl rfl rfl ?_
  refine go_virtual (c' := 0) (s' := 0) (q := 21) (S := []) (argsL := []) H (C := "java/lang/StringBuilder") (w_196 H) (w_136 H) (nf_self (w_138 H)) (w_138 H) (w_137 H) (w_54 H) (w_139 H) (by decide) E (rm_aL1 H C) rfl rfl (lenOf pd_26 rfl) (fun _ q => nomatch q) rfl (by decide) (Nat.le_of_ble_eq_true rfl) rfl rfl (by decide) (by decide) d36_18 rfl ?_
  rintro _ _ G - ⟨rfl, rfl⟩
  refine nx_ (v := none) ?_
  show Go _ _ _ _ _ _ _ _ _ _ _ _ _ _ 21 #[.val (.ref x), .val (.int p), .val (.int (Int32.ofNat 0)), .val (.int (Int32.ofNat (ndg (mag p) + sgn p)))] [.int 1]
  refine go_ifN (q := 24) d36_21 (by decide) rfl ?_
  refine go_iloadN (v := p) (q := 25) d36_24 rfl rfl ?_
  refine go_iloadN (v := (Int32.ofNat (ndg (mag p) + sgn p))) (q := 26) d36_25 rfl rfl ?_
  refine go_aloadN (v := .ref x) (q := 27) d36_26 rfl rfl rfl ?_
  refine go_getfield (v := .ref v) (q := 30) (w_58 H) Via.refl Vv d36_27 rfl ?_
  refine go_static (c' := 0) (s' := 0) (q := 33) (S := []) (argsL := [.int p, .int (Int32.ofNat (ndg (mag p) + sgn p)), .ref v]) H (w_197 H) (w_198 H) (w_194 H) (w_199 H) (by decide) (rm_gc H TB A) rfl rfl (lenOf pd_29 rfl) (by simp) rfl (by decide) (Nat.le_of_ble_eq_true rfl) rfl rfl (by decide) (by decide) d36_30 rfl ?_
  rintro _ h1 G - ⟨⟨r, rfl⟩, K1, V1⟩
  refine nx_ (v := none) ?_
  show Go _ _ _ _ _ _ _ _ _ _ _ _ _ _ 33 #[.val (.ref x), .val (.int p), .val (.int (Int32.ofNat 0)), .val (.int (Int32.ofNat (ndg (mag p) + sgn p)))] [.int r]
  refine go_pop (q := 34) d36_33 rfl rfl ?_
  refine go_goto (q := 48) d36_34 (by decide) (by decide) ?_
  refine go_aloadN (v := .ref x) (q := 49) d36_48 rfl rfl rfl ?_
  refine go_iloadN (v := (Int32.ofNat (ndg (mag p) + sgn p))) (q := 50) d36_49 rfl rfl ?_
  refine go_putfield (q := 53) (w_83 H) Via.refl (N.keep K1 (ninS nxv.symm nin0)) (E.keep K1) (Or.inl (w_84 H)) (w_45 H) (ty := .int) (by decide) rfl rfl (by simp) d36_50 rfl ?_
  intro h2 W2
  refine go_aloadN (v := .ref x) (q := 54) d36_53 rfl rfl rfl ?_
  exact go_areturn H (G := []) (t := (.object "java/lang/AbstractStringBuilder")) rfl rfl rfl d36_54 (by decide) (by decide) (fun _ q => nomatch q) ⟨rfl, (kless K1 (by simp)).wr W2 (Or.inl (by simp)), (E.keep K1).wr W2, (Vv.keep K1 (ninS nxv.symm nin0)).other W2 (Or.inr s2), (C.keep K1 (ninS nxv.symm nin0)).other W2 (Or.inr s3), by rw [hdl]; exact (N.keep K1 (ninS nxv.symm nin0)).same W2, dec_lat p, by omega, by decide, k, V1.other W2 nxv⟩
set_option maxRecDepth 65536 in
set_option maxHeartbeats 4000000 in
theorem rm_apI {l : Launch} {Z : State} {a0 : Array Value} (H : Wd Z a0) {h : Heap} {x v : Addr} {p : Int32} (TB : Tabs Z) (B : SBd Z h x v 16 []) : Met l Z (⟨"java/lang/StringBuilder", "append", "(I)Ljava/lang/StringBuilder;"⟩ : MethodName) jdk_67_method_15_code 2 (some (.object "java/lang/StringBuilder")) ({ frames := 2, cells := 0, slots := 0, locals := 36 } : Room) h [x, v] #[.ref x, .int p] (fun u h' G => u = some (.ref x) ∧ Keep h h' [x, v] ∧ SBd Z h' x v 16 (dec p)) := by
  refine Met.mk (L := #[.val (.ref x), .val (.int p)]) (by decide +kernel) (fun m => by first | (simp [entryFrame, mkF, argsToLocals, Value.category]; done) | rfl) (fun K => ?_)
  show Go _ _ K "java/lang/StringBuilder" "append" _ _ _ _ _ _ _ _ _ 0 _ _
  refine go_aloadN (v := .ref x) (q := 1) d35_0 rfl rfl rfl ?_
  refine go_iloadN (v := p) (q := 2) d35_1 rfl rfl ?_
  refine go_super (c' := 0) (s' := 0) (q := 5) (S := []) (argsL := [.int p]) H (C := "java/lang/StringBuilder") (w_188 H) (same_of (y := ({ cls := "java/lang/AbstractStringBuilder", name := "append", desc := "(I)Ljava/lang/AbstractStringBuilder;" } : Jvm.MethodName)) (w := ({ cls := "java/lang/AbstractStringBuilder", name := "ensureCapacityInternal", desc := "(I)V" } : Jvm.MethodName)) (C := "java/lang/StringBuilder") rfl (w_88 H) (w_190 H) (by decide)) (w_189 H) (w_70 H) (w_54 H) (w_191 H) (by decide) B.exa (rm_apIA H TB B) rfl rfl (lenOf pd_30 rfl) (fun _ q => q) rfl (by decide) (Nat.le_of_ble_eq_true rfl) rfl rfl (by decide) (by decide) d35_2 rfl ?_
  rintro _ h1 G - ⟨rfl, K1, S1⟩
  refine nx_ (v := none) ?_
  show Go _ _ _ _ _ _ _ _ _ _ _ _ _ _ 5 #[.val (.ref x), .val (.int p)] [.ref x]
  refine go_pop (q := 6) d35_5 rfl rfl ?_
  refine go_aloadN (v := .ref x) (q := 7) d35_6 rfl rfl rfl ?_
  exact go_areturn H (G := []) (t := (.object "java/lang/StringBuilder")) rfl rfl rfl d35_7 (by decide) (by decide) (fun _ q => nomatch q) ⟨rfl, K1, S1⟩
set_option maxRecDepth 65536 in
set_option maxHeartbeats 4000000 in
theorem rm_isL {l : Launch} {Z : State} {a0 : Array Value} (H : Wd Z a0) {h : Heap} {a : Addr} (C : Fld Z h a ST "coder" "B" (.int 0)) : Met l Z (⟨"java/lang/String", "isLatin1", "()Z"⟩ : MethodName) jdk_42_method_154_code 1 (some .boolean) ({ frames := 0, cells := 0, slots := 0, locals := 0 } : Room) h [] #[.ref a] (fun v h' G => v = some (.int 1) ∧ h = h') := by
  refine Met.mk (L := #[.val (.ref a)]) (by decide +kernel) (fun m => by first | (simp [entryFrame, mkF, argsToLocals, Value.category]; done) | rfl) (fun K => ?_)
  show Go _ _ K "java/lang/String" "isLatin1" _ _ _ _ _ _ _ _ _ 0 _ _
  obtain ⟨cz, Sz, nz⟩ := H.2.2.2.1
  refine go_getstatic (v := .int cz) (q := 3) (w_4 H) Via.refl Sz d43_0 rfl ?_
  refine go_ifN (q := 6) d43_3 nz rfl ?_
  refine go_aloadN (v := .ref a) (q := 7) d43_6 rfl rfl rfl ?_
  refine go_getfield (v := .int 0) (q := 10) (w_24 H) Via.refl C d43_7 rfl ?_
  refine go_ifN (q := 13) d43_10 rfl rfl ?_
  refine go_iconst (x := (1 : Int32)) (q := 14) d43_13 rfl rfl ?_
  refine go_goto (q := 18) d43_14 (by decide) (by decide) ?_
  exact go_ireturn H (G := []) (t := .boolean) rfl (by decide) rfl d43_18 (by decide) (by decide) (fun _ q => nomatch q) ⟨rfl, rfl⟩
set_option maxRecDepth 65536 in
set_option maxHeartbeats 4000000 in
theorem rm_ckP {l : Launch} {Z : State} {a0 : Array Value} (H : Wd Z a0) {h : Heap} {i n : Int32} {f : Value} (hf : f.isRef = true) (h0 : ¬ i < 0) (h1 : i < n) : Met l Z (⟨"jdk/internal/util/Preconditions", "checkIndex", "(IILjava/util/function/BiFunction;)I"⟩ : MethodName) jdk_41_method_11_code 3 (some .int) ({ frames := 0, cells := 0, slots := 0, locals := 0 } : Room) h [] #[.int i, .int n, f] (fun v h' G => v = some (.int i) ∧ h = h') := by
  refine Met.mk (L := #[.val (.int i), .val (.int n), .val (f)]) (by decide +kernel) (fun m => by rcases ref_cases hf with rfl | ⟨_, rfl⟩ <;> first | (simp [entryFrame, mkF, argsToLocals, Value.category]; done) | rfl) (fun K => ?_)
  show Go _ _ K "jdk/internal/util/Preconditions" "checkIndex" _ _ _ _ _ _ _ _ _ 0 _ _
  refine go_iloadN (v := i) (q := 1) d46_0 rfl rfl ?_
  refine go_ifN (q := 4) d46_1 h0 rfl ?_
  refine go_iloadN (v := i) (q := 5) d46_4 rfl rfl ?_
  refine go_iloadN (v := n) (q := 6) d46_5 rfl rfl ?_
  refine go_icY (q := 16) d46_6 h1 (by decide) (by decide) ?_
  refine go_iloadN (v := i) (q := 17) d46_16 rfl rfl ?_
  exact go_ireturn H (G := []) (t := .int) rfl (by decide) rfl d46_17 (by decide) (by decide) (fun _ q => nomatch q) ⟨rfl, rfl⟩
set_option maxRecDepth 65536 in
set_option maxHeartbeats 4000000 in
theorem rm_ckS {l : Launch} {Z : State} {a0 : Array Value} (H : Wd Z a0) {h : Heap} {i n : Int32} (h0 : ¬ i < 0) (h1 : i < n) : Met l Z (⟨"java/lang/String", "checkIndex", "(II)V"⟩ : MethodName) jdk_42_method_155_code 2 none ({ frames := 1, cells := 0, slots := 0, locals := 14 } : Room) h [] #[.int i, .int n] (fun v h' G => v = none ∧ h = h') := by
  refine Met.mk (L := #[.val (.int i), .val (.int n)]) (by decide +kernel) (fun m => by first | (simp [entryFrame, mkF, argsToLocals, Value.category]; done) | rfl) (fun K => ?_)
  show Go _ _ K "java/lang/String" "checkIndex" _ _ _ _ _ _ _ _ _ 0 _ _
  obtain ⟨fm, Sf, rf⟩ := H.2.2.2.2.1
  refine go_iloadN (v := i) (q := 1) d45_0 rfl rfl ?_
  refine go_iloadN (v := n) (q := 2) d45_1 rfl rfl ?_
  refine go_getstatic (v := fm) (q := 5) (w_230 H) Via.refl Sf d45_2 rfl ?_
  refine go_static (c' := 0) (s' := 0) (q := 8) (S := []) (argsL := [.int i, .int n, fm]) H (w_232 H) (w_233 H) (w_231 H) (w_234 H) (by decide) (rm_ckP H rf h0 h1) rfl rfl (lenOf pd_31 rfl) (fun _ q => nomatch q) rfl (by decide) (Nat.le_of_ble_eq_true rfl) rfl rfl (by decide) (by decide) d45_5 rfl ?_
  rintro _ _ G - ⟨rfl, rfl⟩
  refine nx_ (v := none) ?_
  show Go _ _ _ _ _ _ _ _ _ _ _ _ _ _ 8 #[.val (.int i), .val (.int n)] [.int i]
  refine go_pop (q := 9) d45_8 rfl rfl ?_
  exact go_return H (G := []) rfl d45_9 (by decide) (by decide) (fun _ q => nomatch q) ⟨rfl, rfl⟩
set_option maxRecDepth 65536 in
set_option maxHeartbeats 4000000 in
theorem rm_l1ch {l : Launch} {Z : State} {a0 : Array Value} (H : Wd Z a0) {h : Heap} {ba : Addr} {kb : ClassId} {cs : List Int32} {i : Nat} (A : Arv Z h ba kb .byte (Int32.ofNat cs.length) (bts cs) (.int 0)) (hl : Lat cs) (hi : i < cs.length) : Met l Z (⟨"java/lang/StringLatin1", "charAt", "([BI)C"⟩ : MethodName) jdk_43_method_2_code 2 (some .char) ({ frames := 2, cells := 0, slots := 0, locals := 27 } : Room) h [] #[.ref ba, .int (Int32.ofNat i)] (fun v h' G => v = some (.int cs[i]) ∧ h = h') := by
  refine Met.mk (L := #[.val (.ref ba), .val (.int (Int32.ofNat i))]) (by decide +kernel) (fun m => by first | (simp [entryFrame, mkF, argsToLocals, Value.category]; done) | rfl) (fun K => ?_)
  show Go _ _ K "java/lang/StringLatin1" "charAt" _ _ _ _ _ _ _ _ _ 0 _ _
  have hb := hl.1
  have hc := hl.2 cs[i] (List.getElem_mem hi)
  have n0 : ¬ Int32.ofNat i < 0 := nn_ofNat (by omega)
  have n1 : Int32.ofNat i < Int32.ofNat cs.length := (lt_ofNat (by omega) (by omega)).mpr hi
  refine go_iloadN (v := (Int32.ofNat i)) (q := 1) d44_0 rfl rfl ?_
  refine go_aloadN (v := .ref ba) (q := 2) d44_1 rfl rfl rfl ?_
  refine go_arraylength (z := (Int32.ofNat cs.length)) (q := 3) A d44_2 rfl ?_
  refine go_static (c' := 0) (s' := 0) (q := 6) (S := []) (argsL := [.int (Int32.ofNat i), .int (Int32.ofNat cs.length)]) H (w_227 H) (w_228 H) (w_2 H) (w_229 H) (by decide) (rm_ckS H n0 n1) rfl rfl (lenOf pd_23 rfl) (fun _ q => nomatch q) rfl (by decide) (Nat.le_of_ble_eq_true rfl) rfl rfl (by decide) (by decide) d44_3 rfl ?_
  rintro _ _ G - ⟨rfl, rfl⟩
  refine nx_ (v := none) ?_
  show Go _ _ _ _ _ _ _ _ _ _ _ _ _ _ 6 #[.val (.ref ba), .val (.int (Int32.ofNat i))] []
  refine go_aloadN (v := .ref ba) (q := 7) d44_6 rfl rfl rfl ?_
  refine go_iloadN (v := (Int32.ofNat i)) (q := 8) d44_7 rfl rfl ?_
  refine go_baload (v := .int (cs[i].toInt8.toInt32)) (q := 9) A ⟨n0, n1⟩ (by rw [cl_ofNat (by omega)]; exact bts_at hi) d44_8 rfl ?_
  refine go_sipush (x := (255 : Int32)) (q := 12) d44_9 rfl rfl ?_
  refine go_iand (r := cs[i]) (q := 13) d44_12 (b_and hc) rfl ?_
  refine go_i2c (r := cs[i]) (q := 14) d44_13 (nar_char hc.1 hc.2) rfl ?_
  exact go_ireturn H (G := []) (t := .char) rfl (by decide) (by show Value.int (nar .char cs[i]) = _; rw [nar_char hc.1 hc.2]) d44_14 (by decide) (by decide) (fun _ q => nomatch q) ⟨rfl, rfl⟩
set_option maxRecDepth 65536 in
set_option maxHeartbeats 4000000 in
theorem rm_chAt {l : Launch} {Z : State} {a0 : Array Value} (H : Wd Z a0) {h : Heap} {F : List Addr} {a : Addr} {cs : List Int32} {i : Nat} (S : Str Z h F a cs) (hi : i < cs.length) : Met l Z (⟨"java/lang/String", "charAt", "(I)C"⟩ : MethodName) jdk_42_method_56_code 2 (some .char) ({ frames := 3, cells := 0, slots := 0, locals := 40 } : Room) h [] #[.ref a, .int (Int32.ofNat i)] (fun v h' G => v = some (.int cs[i]) ∧ h = h') := by
  refine Met.mk (L := #[.val (.ref a), .val (.int (Int32.ofNat i))]) (by decide +kernel) (fun m => by first | (simp [entryFrame, mkF, argsToLocals, Value.category]; done) | rfl) (fun K => ?_)
  show Go _ _ K "java/lang/String" "charAt" _ _ _ _ _ _ _ _ _ 0 _ _
  obtain ⟨E, C, ha, hl, bb, k, hb, Vv, A⟩ := S
  have hc := hl.2 cs[i] (List.getElem_mem hi)
  refine go_aloadN (v := .ref a) (q := 1) d42_0 rfl rfl rfl ?_
  refine go_virtual (c' := 0) (s' := 0) (q := 4) (S := []) (argsL := []) H (C := "java/lang/String") (w_219 H) (w_220 H) (nf_self (w_222 H)) (w_222 H) (w_221 H) (w_2 H) (w_223 H) (by decide) E (rm_isL H C) rfl rfl (lenOf pd_26 rfl) (fun _ q => nomatch q) rfl (by decide) (Nat.le_of_ble_eq_true rfl) rfl rfl (by decide) (by decide) d42_1 rfl ?_
  rintro _ _ G - ⟨rfl, rfl⟩
  refine nx_ (v := none) ?_
  show Go _ _ _ _ _ _ _ _ _ _ _ _ _ _ 4 #[.val (.ref a), .val (.int (Int32.ofNat i))] [.int 1]
  refine go_ifN (q := 7) d42_4 (by decide) rfl ?_
  refine go_aloadN (v := .ref a) (q := 8) d42_7 rfl rfl rfl ?_
  refine go_getfield (v := .ref bb) (q := 11) (w_22 H) Via.refl Vv d42_8 rfl ?_
  refine go_iloadN (v := (Int32.ofNat i)) (q := 12) d42_11 rfl rfl ?_
  refine go_static (c' := 0) (s' := 0) (q := 15) (S := []) (argsL := [.ref bb, .int (Int32.ofNat i)]) H (w_224 H) (w_225 H) (w_7 H) (w_226 H) (by decide) (rm_l1ch H A hl hi) rfl rfl (lenOf pd_32 rfl) (fun _ q => nomatch q) rfl (by decide) (Nat.le_of_ble_eq_true rfl) rfl rfl (by decide) (by decide) d42_12 rfl ?_
  rintro _ _ G - ⟨rfl, rfl⟩
  refine nx_ (v := none) ?_
  show Go _ _ _ _ _ _ _ _ _ _ _ _ _ _ 15 #[.val (.ref a), .val (.int (Int32.ofNat i))] [.int (cs[i])]
  exact go_ireturn H (G := []) (t := .char) rfl (by decide) (by show Value.int (nar .char cs[i]) = _; rw [nar_char hc.1 hc.2]) d42_15 (by decide) (by decide) (fun _ q => nomatch q) ⟨rfl, rfl⟩
set_option maxRecDepth 65536 in
set_option maxHeartbeats 4000000 in
theorem rm_pn {l : Launch} {Z : State} {a0 : Array Value} (H : Wd Z a0) {h : Heap} {F : List Addr} {p : Int32} (TB : Tabs Z) : Met l Z (⟨"com/example/saga/saga/server/SurfaceUris", "pageNumber", "(I)Ljava/lang/String;"⟩ : MethodName) prog_12_method_8_code 1 (some (.object "java/lang/String")) ({ frames := 6, cells := 6, slots := 72, locals := 124 } : Room) h F #[.int p] (fun v h' G => ∃ a, v = some (.ref a) ∧ Keep h h' [] ∧ Str Z h' F a (pnl p)) := by
  refine Met.mk (L := #[.val (.int p)]) (plainFor_of_name (by first | (simp [plainName, overriddenIn]; done) | decide +kernel)) (fun m => by first | (simp [entryFrame, mkF, argsToLocals, Value.category]; done) | rfl) (fun K => ?_)
  show Go _ _ K "com/example/saga/saga/server/SurfaceUris" "pageNumber" _ _ _ _ _ _ _ _ _ 0 _ _
  have Ka : Keep h h [] := Keep.refl _ _
  refine go_iloadN (v := p) (q := 1) d34_0 rfl rfl ?_
  refine go_iconst (x := (1 : Int32)) (q := 2) d34_1 rfl rfl ?_
  by_cases q1 : p = 1
  · refine go_icN (q := 5) d34_2 q1 rfl ?_
    refine go_lit (cs := []) (n := 0) (c' := 2) (s' := 4) (q := 7) H (w_263 H) (by decide) (by decide) (by decide) (by decide) (by decide) d34_5 (by decide) (by decide) rfl rfl rfl (by decide) (by decide) ?_
    intro h1 a1 E1 S1
    have Ka : Keep h h1 [] := Ka.ext E1
    refine go_goto (q := 29) d34_7 (by decide) (by decide) ?_
    exact go_areturn H (G := []) (t := (.object "java/lang/String")) rfl rfl rfl d34_29 (by decide) (by decide) (fun _ q => nomatch q) ⟨a1, rfl, Ka, by rw [pnl_1 q1]; exact S1⟩
  · refine go_icY (q := 10) d34_2 q1 (by decide) (by decide) ?_
    have Kn : Keep h h [] := Keep.refl _ _
    refine go_new (c' := 1) (s' := 4) (q := 13) (w_44 H) (w_45 H) (w_46 H) d34_10 rfl rfl rfl (by decide) (by decide) ?_
    intro h1 x g1 E1 A1 D1
    have f_Ka_x : h.size ≤ x := by rw [g1]; exact Ka.1
    have f_Kn_x : h.size ≤ x := by rw [g1]; exact Kn.1
    have Ka : Keep h h1 [] := Ka.ext E1
    have Kn : Keep h h1 [] := Kn.ext E1
    have V1 : Fld Z h1 x ABN "value" "[B" .null := D1 (Or.inl (w_59 H)) (ty := .array .byte) (by decide)
    have C1 : Fld Z h1 x ABN "coder" "B" (.int 0) := D1 (Or.inl (w_61 H)) (ty := .byte) (by decide)
    have N1 : Fld Z h1 x ABN "count" "I" (.int 0) := D1 (Or.inl (w_84 H)) (ty := .int) (by decide)
    refine go_dup (q := 14) d34_13 rfl rfl ?_
    refine go_special (c' := 2) (s' := 20) (q := 17) (S := [.ref x]) (argsL := []) H rfl (w_47 H) (w_48 H) (w_46 H) (w_49 H) (by decide) (rm_sbI H A1 V1 C1 N1) rfl rfl (lenOf pd_0 rfl) (by intro z hz; simp only [List.mem_cons, List.not_mem_nil, or_false] at hz ⊢; first | exact hz | exact Or.inl hz | (rcases hz with hz | hz <;> simp [hz]; done) | (rcases hz with rfl | rfl <;> simp)) rfl (by decide) (Nat.le_of_ble_eq_true rfl) rfl rfl (by decide) (by decide) d34_14 rfl ?_
    rintro _ h2 G - ⟨v, rfl, rfl, gv, K2, B⟩
    refine ⟨v :: (x :: F), (by intro y q; simpa using q), ?_⟩
    have Ka : Keep h h2 [] := kfresh Ka K2 f_Ka_x
    have Kn : Keep h h2 [] := kfresh Kn K2 f_Kn_x
    show Go _ _ _ _ _ _ _ _ _ _ _ _ _ _ 17 #[.val (.int p)] [.ref x]
    have f_Ka_v : h.size ≤ v := Nat.le_trans (Nat.le_of_lt (Nat.lt_of_le_of_lt f_Ka_x A1.lt)) gv
    have f_Kn_v : h.size ≤ v := Nat.le_trans (Nat.le_of_lt (Nat.lt_of_le_of_lt f_Kn_x A1.lt)) gv
    refine go_iloadN (v := p) (q := 18) d34_17 rfl rfl ?_
    refine go_virtual (c' := 2) (s' := 20) (q := 21) (S := []) (argsL := [.int p]) H (C := "java/lang/StringBuilder") (w_183 H) (w_184 H) (nf_self (w_186 H)) (w_186 H) (w_185 H) (w_46 H) (w_187 H) (by decide) B.exa (rm_apI H TB B) rfl rfl (lenOf pd_1 rfl) (by intro z hz; simp only [List.mem_cons, List.not_mem_nil, or_false] at hz ⊢; first | exact hz | exact Or.inl hz | (rcases hz with hz | hz <;> simp [hz]; done) | (rcases hz with rfl | rfl <;> simp)) rfl (by decide) (Nat.le_of_ble_eq_true rfl) rfl rfl (by decide) (by decide) d34_18 rfl ?_
    rintro _ ha G - ⟨rfl, Kq, Bn⟩
    refine nx_ (v := none) ?_
    show Go _ _ _ _ _ _ _ _ _ _ _ _ _ _ 21 #[.val (.int p)] [.ref x]
    have B := Bn
    have Ka : Keep h ha [] := Ka.trans Kq (by intro y q; simp only [List.mem_cons, List.not_mem_nil, or_false] at q; rcases q with rfl | rfl; exact Or.inr f_Ka_x; exact Or.inr f_Ka_v)
    have Kn : Keep h ha [] := Kn.trans Kq (by intro y q; simp only [List.mem_cons, List.not_mem_nil, or_false] at q; rcases q with rfl | rfl; exact Or.inr f_Kn_x; exact Or.inr f_Kn_v)
    refine go_lit (cs := [47]) (n := 4) (c' := 4) (s' := 28) (q := 23) H (w_201 H) (by decide) (by decide) (by decide) (by decide) (by decide) d34_21 (by decide) (by decide) rfl rfl rfl (by decide) (by decide) ?_
    intro hl0 al0 El0 Sl0
    have Ka : Keep h hl0 [] := Ka.ext El0
    have Kn : Keep h hl0 [] := Kn.ext El0
    have B := B.ext El0
    refine go_virtual (c' := 4) (s' := 28) (q := 26) (S := []) (argsL := [.ref al0]) H (C := "java/lang/StringBuilder") (w_63 H) (w_64 H) (nf_self (w_66 H)) (w_66 H) (w_65 H) (w_46 H) (w_67 H) (by decide) B.exa (rm_app H Sl0 B (by have := dec_le p; simp <;> omega)) rfl rfl (lenOf pd_2 rfl) (by intro z hz; simp only [List.mem_cons, List.not_mem_nil, or_false] at hz ⊢; first | exact hz | exact Or.inl hz | (rcases hz with hz | hz <;> simp [hz]; done) | (rcases hz with rfl | rfl <;> simp)) rfl (by decide) (Nat.le_of_ble_eq_true rfl) rfl rfl (by decide) (by decide) d34_23 rfl ?_
    rintro _ ha0 G - ⟨rfl, Ka0, Bn⟩
    refine nx_ (v := none) ?_
    show Go _ _ _ _ _ _ _ _ _ _ _ _ _ _ 26 #[.val (.int p)] [.ref x]
    have B := Bn
    have Ka : Keep h ha0 [] := Ka.trans Ka0 (by intro y q; simp only [List.mem_cons, List.not_mem_nil, or_false] at q; rcases q with rfl | rfl; exact Or.inr f_Ka_x; exact Or.inr f_Ka_v)
    have Kn : Keep h ha0 [] := Kn.trans Ka0 (by intro y q; simp only [List.mem_cons, List.not_mem_nil, or_false] at q; rcases q with rfl | rfl; exact Or.inr f_Kn_x; exact Or.inr f_Kn_v)
    have Sl0 := Sl0.keep Ka0 (by intro y q; simp only [List.mem_cons, List.not_mem_nil, or_false] at q ⊢; rcases q with rfl | rfl <;> simp)
    refine go_mine fun hM _ => ?_
    refine go_virtual (c' := 6) (s' := 72) (q := 29) (S := []) (argsL := []) H (C := "java/lang/StringBuilder") (w_110 H) (w_111 H) (nf_self (w_113 H)) (w_113 H) (w_112 H) (w_46 H) (w_114 H) (by decide) B.exa (rm_toSX H (F := F) B (by have := dec_le p; simp <;> omega) (fun e => absurd e (by have := dec_le p; simp <;> omega)) (by have := dec_le p; simp <;> omega) (fun y q => (hM y (by simp [q])).2)) rfl rfl (lenOf pd_3 rfl) (by intro y q; simp [q]) rfl (by decide) (Nat.le_of_ble_eq_true rfl) rfl rfl (by decide) (by decide) d34_26 rfl ?_
    rintro _ hz G - ⟨r, rfl, Kz, Sz⟩
    refine nx_ (v := none) ?_
    have Ka : Keep h hz [] := Ka.trans Kz (fun _ q => nomatch q)
    have Kn : Keep h hz [] := Kn.trans Kz (fun _ q => nomatch q)
    have B := B.keep0 Kz
    show Go _ _ _ _ _ _ _ _ _ _ _ _ _ _ 29 #[.val (.int p)] [.ref r]
    exact go_areturn H (G := []) (t := (.object "java/lang/String")) rfl rfl rfl d34_29 (by decide) (by decide) (fun _ q => nomatch q) ⟨r, rfl, Ka, by rw [pnl_n q1]; exact Sz⟩
set_option maxRecDepth 65536 in
set_option maxHeartbeats 4000000 in
theorem rm_suI {l : Launch} {Z : State} {a0 : Array Value} (H : Wd Z a0) {h : Heap} {F : List Addr} {s a : Addr} {as : List Int32} (E : Exa Z h s SUN) (Fb : Fld Z h s SUN "base" SDs .null) (S : Str Z h (s :: F) a as) (ha : as.length ≤ 2) : Met l Z (⟨"com/example/saga/saga/server/SurfaceUris", "<init>", "(Ljava/lang/String;)V"⟩ : MethodName) prog_12_method_1_code 2 none ({ frames := 6, cells := 6, slots := 96, locals := 130 } : Room) h (s :: F) #[.ref s, .ref a] (fun v h' G => v = none ∧ Keep h h' [s] ∧ ∃ b, Fld Z h' s SUN "base" SDs (.ref b) ∧ Str Z h' (s :: F) b ((([] : List Int32) ++ [104, 116, 116, 112, 58, 47, 47]) ++ as)) := by
  refine Met.mk (L := #[.val (.ref s), .val (.ref a)]) (plainFor_of_name (by first | (simp [plainName, overriddenIn]; done) | decide +kernel)) (fun m => by first | (simp [entryFrame, mkF, argsToLocals, Value.category]; done) | rfl) (fun K => ?_)
  show Go _ _ K "com/example/saga/saga/server/SurfaceUris" "<init>" _ _ _ _ _ _ _ _ _ 0 _ _
  refine go_mine fun hM0 _ => ?_
  refine go_aloadN (v := .ref s) (q := 1) d7_0 rfl rfl rfl ?_
  refine go_initO (q := 4) (w_43 H) (w_20 H) (w_21 H) rfl d7_1 rfl (by decide) (Nat.le_of_ble_eq_true rfl) ?_
  refine go_aloadN (v := .ref s) (q := 5) d7_4 rfl rfl rfl ?_
  have Ka : Keep h h [] := Keep.refl _ _
  have Kn : Keep h h [] := Keep.refl _ _
  refine go_new (c' := 1) (s' := 4) (q := 8) (w_44 H) (w_45 H) (w_46 H) d7_5 rfl rfl rfl (by decide) (by decide) ?_
  intro h1 x g1 E1 A1 D1
  have f_Ka_x : h.size ≤ x := by rw [g1]; exact Ka.1
  have f_Kn_x : h.size ≤ x := by rw [g1]; exact Kn.1
  have Ka : Keep h h1 [] := Ka.ext E1
  have Kn : Keep h h1 [] := Kn.ext E1
  have V1 : Fld Z h1 x ABN "value" "[B" .null := D1 (Or.inl (w_59 H)) (ty := .array .byte) (by decide)
  have C1 : Fld Z h1 x ABN "coder" "B" (.int 0) := D1 (Or.inl (w_61 H)) (ty := .byte) (by decide)
  have N1 : Fld Z h1 x ABN "count" "I" (.int 0) := D1 (Or.inl (w_84 H)) (ty := .int) (by decide)
  refine go_dup (q := 9) d7_8 rfl rfl ?_
  refine go_special (c' := 2) (s' := 20) (q := 12) (S := [.ref x, .ref s]) (argsL := []) H rfl (w_47 H) (w_48 H) (w_46 H) (w_49 H) (by decide) (rm_sbI H A1 V1 C1 N1) rfl rfl (lenOf pd_0 rfl) (by intro z hz; simp only [List.mem_cons, List.not_mem_nil, or_false] at hz ⊢; first | exact hz | exact Or.inl hz | (rcases hz with hz | hz <;> simp [hz]; done) | (rcases hz with rfl | rfl <;> simp)) rfl (by decide) (Nat.le_of_ble_eq_true rfl) rfl rfl (by decide) (by decide) d7_9 rfl ?_
  rintro _ h2 G - ⟨v, rfl, rfl, gv, K2, B⟩
  refine ⟨v :: (x :: (s :: F)), (by intro y q; simpa using q), ?_⟩
  have Ka : Keep h h2 [] := kfresh Ka K2 f_Ka_x
  have Kn : Keep h h2 [] := kfresh Kn K2 f_Kn_x
  show Go _ _ _ _ _ _ _ _ _ _ _ _ _ _ 12 #[.val (.ref s), .val (.ref a)] [.ref x, .ref s]
  have f_Ka_v : h.size ≤ v := Nat.le_trans (Nat.le_of_lt (Nat.lt_of_le_of_lt f_Ka_x A1.lt)) gv
  have f_Kn_v : h.size ≤ v := Nat.le_trans (Nat.le_of_lt (Nat.lt_of_le_of_lt f_Kn_x A1.lt)) gv
  have S := ((S).grow (F' := (v :: (x :: (s :: F)))) (by intro y q; rcases List.mem_cons.mp q with rfl | q; exact Or.inr f_Kn_v; rcases List.mem_cons.mp q with rfl | q; exact Or.inr f_Kn_x; exact Or.inl q)).keep0 Kn
  refine go_lit (cs := [104, 116, 116, 112, 58, 47, 47]) (n := 28) (c' := 4) (s' := 52) (q := 14) H (w_62 H) (by decide) (by decide) (by decide) (by decide) (by decide) d7_12 (by decide) (by decide) rfl rfl rfl (by decide) (by decide) ?_
  intro hl0 al0 El0 Sl0
  have Ka : Keep h hl0 [] := Ka.ext El0
  have Kn : Keep h hl0 [] := Kn.ext El0
  have S := S.ext El0
  have B := B.ext El0
  refine go_virtual (c' := 4) (s' := 52) (q := 17) (S := [.ref s]) (argsL := [.ref al0]) H (C := "java/lang/StringBuilder") (w_63 H) (w_64 H) (nf_self (w_66 H)) (w_66 H) (w_65 H) (w_46 H) (w_67 H) (by decide) B.exa (rm_app H Sl0 B (by simp)) rfl rfl (lenOf pd_2 rfl) (by intro z hz; simp only [List.mem_cons, List.not_mem_nil, or_false] at hz ⊢; first | exact hz | exact Or.inl hz | (rcases hz with hz | hz <;> simp [hz]; done) | (rcases hz with rfl | rfl <;> simp)) rfl (by decide) (Nat.le_of_ble_eq_true rfl) rfl rfl (by decide) (by decide) d7_14 rfl ?_
  rintro _ ha0 G - ⟨rfl, Ka0, Bn⟩
  refine nx_ (v := none) ?_
  show Go _ _ _ _ _ _ _ _ _ _ _ _ _ _ 17 #[.val (.ref s), .val (.ref a)] [.ref x, .ref s]
  have B := Bn
  have Ka : Keep h ha0 [] := Ka.trans Ka0 (by intro y q; simp only [List.mem_cons, List.not_mem_nil, or_false] at q; rcases q with rfl | rfl; exact Or.inr f_Ka_x; exact Or.inr f_Ka_v)
  have Kn : Keep h ha0 [] := Kn.trans Ka0 (by intro y q; simp only [List.mem_cons, List.not_mem_nil, or_false] at q; rcases q with rfl | rfl; exact Or.inr f_Kn_x; exact Or.inr f_Kn_v)
  have S := S.keep Ka0 (by intro y q; simp only [List.mem_cons, List.not_mem_nil, or_false] at q ⊢; rcases q with rfl | rfl <;> simp)
  have Sl0 := Sl0.keep Ka0 (by intro y q; simp only [List.mem_cons, List.not_mem_nil, or_false] at q ⊢; rcases q with rfl | rfl <;> simp)
  refine go_aloadN (v := .ref a) (q := 18) d7_17 rfl rfl rfl ?_
  refine go_virtual (c' := 4) (s' := 52) (q := 21) (S := [.ref s]) (argsL := [.ref a]) H (C := "java/lang/StringBuilder") (w_63 H) (w_64 H) (nf_self (w_66 H)) (w_66 H) (w_65 H) (w_46 H) (w_67 H) (by decide) B.exa (rm_app H S B (by simp <;> omega)) rfl rfl (lenOf pd_2 rfl) (by intro z hz; simp only [List.mem_cons, List.not_mem_nil, or_false] at hz ⊢; first | exact hz | exact Or.inl hz | (rcases hz with hz | hz <;> simp [hz]; done) | (rcases hz with rfl | rfl <;> simp)) rfl (by decide) (Nat.le_of_ble_eq_true rfl) rfl rfl (by decide) (by decide) d7_18 rfl ?_
  rintro _ ha1 G - ⟨rfl, Ka1, Bn⟩
  refine nx_ (v := none) ?_
  show Go _ _ _ _ _ _ _ _ _ _ _ _ _ _ 21 #[.val (.ref s), .val (.ref a)] [.ref x, .ref s]
  have B := Bn
  have Ka : Keep h ha1 [] := Ka.trans Ka1 (by intro y q; simp only [List.mem_cons, List.not_mem_nil, or_false] at q; rcases q with rfl | rfl; exact Or.inr f_Ka_x; exact Or.inr f_Ka_v)
  have Kn : Keep h ha1 [] := Kn.trans Ka1 (by intro y q; simp only [List.mem_cons, List.not_mem_nil, or_false] at q; rcases q with rfl | rfl; exact Or.inr f_Kn_x; exact Or.inr f_Kn_v)
  have S := S.keep Ka1 (by intro y q; simp only [List.mem_cons, List.not_mem_nil, or_false] at q ⊢; rcases q with rfl | rfl <;> simp)
  refine go_mine fun hM _ => ?_
  refine go_virtual (c' := 6) (s' := 96) (q := 24) (S := [.ref s]) (argsL := []) H (C := "java/lang/StringBuilder") (w_110 H) (w_111 H) (nf_self (w_113 H)) (w_113 H) (w_112 H) (w_46 H) (w_114 H) (by decide) B.exa (rm_toSX H (F := (s :: F)) B (by simp <;> omega) (fun e => absurd e (by simp <;> omega)) (by simp <;> omega) (fun y q => (hM y (by simp [q])).2)) rfl rfl (lenOf pd_3 rfl) (by intro y q; simp [q]) rfl (by decide) (Nat.le_of_ble_eq_true rfl) rfl rfl (by decide) (by decide) d7_21 rfl ?_
  rintro _ hz G - ⟨r, rfl, Kz, Sz⟩
  refine nx_ (v := none) ?_
  have Ka : Keep h hz [] := Ka.trans Kz (fun _ q => nomatch q)
  have Kn : Keep h hz [] := Kn.trans Kz (fun _ q => nomatch q)
  have S := S.keep0 Kz
  have B := B.keep0 Kz
  show Go _ _ _ _ _ _ _ _ _ _ _ _ _ _ 24 #[.val (.ref s), .val (.ref a)] [.ref r, .ref s]
  refine go_putfield (q := 27) (w_155 H) Via.refl (Fb.keep Ka nin0) (E.keep Ka) (Or.inr ⟨(w_156 H), rfl, rfl⟩) (w_38 H) (ty := (.object "java/lang/String")) (by decide) rfl rfl (by simp) d7_24 rfl ?_
  intro hw Ww
  exact go_return H (G := []) rfl d7_27 (by decide) (by decide) (fun _ q => nomatch q) ⟨rfl, (kless Ka (by simp)).wr Ww (Or.inl (by simp)), r, (Fb.keep Ka nin0).same Ww, Sz.keep (Keep.of_wr Ww) (by intro y q; simp only [List.mem_cons, List.not_mem_nil, or_false] at q; exact Or.inl (by simp [q]))⟩
set_option maxRecDepth 65536 in
set_option maxHeartbeats 4000000 in
theorem rm_tm {l : Launch} {Z : State} {a0 : Array Value} (H : Wd Z a0) {h : Heap} {F : List Addr} {s b u : Addr} {bs us : List Int32} {p : Int32} (TB : Tabs Z) (E : Exa Z h s SUN) (Fb : Fld Z h s SUN "base" SDs (.ref b)) (Sb : Str Z h F b bs) (Su : Str Z h F u us) (h1 : 7 ≤ bs.length) (h2 : bs.length ≤ 9) (h3 : us.length ≤ 2) : Met l Z (⟨"com/example/saga/saga/server/SurfaceUris", "linkTimeMap", "(Ljava/lang/String;I)Ljava/lang/String;"⟩ : MethodName) prog_12_method_3_code 3 (some (.object "java/lang/String")) ({ frames := 8, cells := 15, slots := 406, locals := 170 } : Room) h F #[.ref s, .ref u, .int p] (fun v h' G => ∃ a, v = some (.ref a) ∧ Keep h h' [] ∧ Str Z h' F a ((((([] : List Int32) ++ bs) ++ [47, 116, 105, 109, 101, 109, 97, 112, 47, 108, 105, 110, 107, 47]) ++ (pnl p)) ++ us)) := by
  refine Met.mk (L := #[.val (.ref s), .val (.ref u), .val (.int p)]) (plainFor_of_name (by first | (simp [plainName, overriddenIn]; done) | decide +kernel)) (fun m => by first | (simp [entryFrame, mkF, argsToLocals, Value.category]; done) | rfl) (fun K => ?_)
  show Go _ _ K "com/example/saga/saga/server/SurfaceUris" "linkTimeMap" _ _ _ _ _ _ _ _ _ 0 _ _
  have hpn := pnl_le p
  have Ka : Keep h h [] := Keep.refl _ _
  have Kn : Keep h h [] := Keep.refl _ _
  refine go_new (c' := 1) (s' := 4) (q := 3) (w_44 H) (w_45 H) (w_46 H) d29_0 rfl rfl rfl (by decide) (by decide) ?_
  intro h1 x g1 E1 A1 D1
  have f_Ka_x : h.size ≤ x := by rw [g1]; exact Ka.1
  have f_Kn_x : h.size ≤ x := by rw [g1]; exact Kn.1
  have Ka : Keep h h1 [] := Ka.ext E1
  have Kn : Keep h h1 [] := Kn.ext E1
  have V1 : Fld Z h1 x ABN "value" "[B" .null := D1 (Or.inl (w_59 H)) (ty := .array .byte) (by decide)
  have C1 : Fld Z h1 x ABN "coder" "B" (.int 0) := D1 (Or.inl (w_61 H)) (ty := .byte) (by decide)
  have N1 : Fld Z h1 x ABN "count" "I" (.int 0) := D1 (Or.inl (w_84 H)) (ty := .int) (by decide)
  refine go_dup (q := 4) d29_3 rfl rfl ?_
  refine go_special (c' := 2) (s' := 20) (q := 7) (S := [.ref x]) (argsL := []) H rfl (w_47 H) (w_48 H) (w_46 H) (w_49 H) (by decide) (rm_sbI H A1 V1 C1 N1) rfl rfl (lenOf pd_0 rfl) (by intro z hz; simp only [List.mem_cons, List.not_mem_nil, or_false] at hz ⊢; first | exact hz | exact Or.inl hz | (rcases hz with hz | hz <;> simp [hz]; done) | (rcases hz with rfl | rfl <;> simp)) rfl (by decide) (Nat.le_of_ble_eq_true rfl) rfl rfl (by decide) (by decide) d29_4 rfl ?_
  rintro _ h2 G - ⟨v, rfl, rfl, gv, K2, B⟩
  refine ⟨v :: (x :: F), (by intro y q; simpa using q), ?_⟩
  have Ka : Keep h h2 [] := kfresh Ka K2 f_Ka_x
  have Kn : Keep h h2 [] := kfresh Kn K2 f_Kn_x
  show Go _ _ _ _ _ _ _ _ _ _ _ _ _ _ 7 #[.val (.ref s), .val (.ref u), .val (.int p)] [.ref x]
  have f_Ka_v : h.size ≤ v := Nat.le_trans (Nat.le_of_lt (Nat.lt_of_le_of_lt f_Ka_x A1.lt)) gv
  have f_Kn_v : h.size ≤ v := Nat.le_trans (Nat.le_of_lt (Nat.lt_of_le_of_lt f_Kn_x A1.lt)) gv
  have Sb := ((Sb).grow (F' := (v :: (x :: F))) (by intro y q; rcases List.mem_cons.mp q with rfl | q; exact Or.inr f_Kn_v; rcases List.mem_cons.mp q with rfl | q; exact Or.inr f_Kn_x; exact Or.inl q)).keep0 Kn
  have Su := ((Su).grow (F' := (v :: (x :: F))) (by intro y q; rcases List.mem_cons.mp q with rfl | q; exact Or.inr f_Kn_v; rcases List.mem_cons.mp q with rfl | q; exact Or.inr f_Kn_x; exact Or.inl q)).keep0 Kn
  refine go_aloadN (v := .ref s) (q := 8) d29_7 rfl rfl rfl ?_
  refine go_getfield (v := .ref b) (q := 11) (w_155 H) Via.refl (Fb.keep Ka nin0) d29_8 rfl ?_
  refine go_virtual (c' := 2) (s' := 20) (q := 14) (S := []) (argsL := [.ref b]) H (C := "java/lang/StringBuilder") (w_63 H) (w_64 H) (nf_self (w_66 H)) (w_66 H) (w_65 H) (w_46 H) (w_67 H) (by decide) B.exa (rm_app H Sb B (by simp <;> omega)) rfl rfl (lenOf pd_2 rfl) (by intro z hz; simp only [List.mem_cons, List.not_mem_nil, or_false] at hz ⊢; first | exact hz | exact Or.inl hz | (rcases hz with hz | hz <;> simp [hz]; done) | (rcases hz with rfl | rfl <;> simp)) rfl (by decide) (Nat.le_of_ble_eq_true rfl) rfl rfl (by decide) (by decide) d29_11 rfl ?_
  rintro _ ha0 G - ⟨rfl, Ka0, Bn⟩
  refine nx_ (v := none) ?_
  show Go _ _ _ _ _ _ _ _ _ _ _ _ _ _ 14 #[.val (.ref s), .val (.ref u), .val (.int p)] [.ref x]
  have B := Bn
  have Ka : Keep h ha0 [] := Ka.trans Ka0 (by intro y q; simp only [List.mem_cons, List.not_mem_nil, or_false] at q; rcases q with rfl | rfl; exact Or.inr f_Ka_x; exact Or.inr f_Ka_v)
  have Kn : Keep h ha0 [] := Kn.trans Ka0 (by intro y q; simp only [List.mem_cons, List.not_mem_nil, or_false] at q; rcases q with rfl | rfl; exact Or.inr f_Kn_x; exact Or.inr f_Kn_v)
  have Sb := Sb.keep Ka0 (by intro y q; simp only [List.mem_cons, List.not_mem_nil, or_false] at q ⊢; rcases q with rfl | rfl <;> simp)
  have Su := Su.keep Ka0 (by intro y q; simp only [List.mem_cons, List.not_mem_nil, or_false] at q ⊢; rcases q with rfl | rfl <;> simp)
  refine go_lit (cs := [47, 116, 105, 109, 101, 109, 97, 112, 47, 108, 105, 110, 107, 47]) (n := 56) (c' := 4) (s' := 80) (q := 16) H (w_162 H) (by decide) (by decide) (by decide) (by decide) (by decide) d29_14 (by decide) (by decide) rfl rfl rfl (by decide) (by decide) ?_
  intro hl1 al1 El1 Sl1
  have Ka : Keep h hl1 [] := Ka.ext El1
  have Kn : Keep h hl1 [] := Kn.ext El1
  have Su := Su.ext El1
  have B := B.ext El1
  refine go_virtual (c' := 5) (s' := 150) (q := 19) (S := []) (argsL := [.ref al1]) H (C := "java/lang/StringBuilder") (w_63 H) (w_64 H) (nf_self (w_66 H)) (w_66 H) (w_65 H) (w_46 H) (w_67 H) (by decide) B.exa (rm_apX H Sl1 B (by simp) (by simp <;> omega) (Or.inl (by decide)) (fun e => absurd e (by simp <;> omega))) rfl rfl (lenOf pd_2 rfl) (by intro y q; simp only [List.mem_cons, List.not_mem_nil, or_false] at q; rcases q with rfl | rfl <;> simp) rfl (by decide) (Nat.le_of_ble_eq_true rfl) rfl rfl (by decide) (by decide) d29_16 rfl ?_
  rintro _ hx1 G - ⟨vx1, cap1, rfl, rfl, hv1, hc1, Kx1, Bn, Xv⟩
  refine ⟨vx1 :: (v :: (x :: F)), (by intro y q; rcases List.mem_cons.mp q with rfl | q; exact Or.inl (by simp); exact Or.inr q), ?_⟩
  show Go _ _ _ _ _ _ _ _ _ _ _ _ _ _ 19 #[.val (.ref s), .val (.ref u), .val (.int p)] [.ref x]
  have B := Bn
  have f_Ka_vx1 : h.size ≤ vx1 := hv1.elim (fun e => by rw [e]; exact f_Ka_v) (fun q => Nat.le_trans Ka.1 q)
  have f_Kn_vx1 : h.size ≤ vx1 := hv1.elim (fun e => by rw [e]; exact f_Kn_v) (fun q => Nat.le_trans Kn.1 q)
  have Su := Su.grow (F' := (vx1 :: (v :: (x :: F)))) (by intro y q; rcases List.mem_cons.mp q with rfl | q; exact hv1.elim (fun e => Or.inl (by simp [e])) Or.inr; exact Or.inl q)
  have Sl1 := Sl1.grow (F' := (vx1 :: (v :: (x :: F)))) (by intro y q; rcases List.mem_cons.mp q with rfl | q; exact hv1.elim (fun e => Or.inl (by simp [e])) Or.inr; exact Or.inl q)
  have Ka : Keep h hx1 [] := Ka.trans Kx1 (by intro y q; simp only [List.mem_cons, List.not_mem_nil, or_false] at q; rcases q with rfl | rfl; exact Or.inr f_Ka_x; exact Or.inr f_Ka_v)
  have Kn : Keep h hx1 [] := Kn.trans Kx1 (by intro y q; simp only [List.mem_cons, List.not_mem_nil, or_false] at q; rcases q with rfl | rfl; exact Or.inr f_Kn_x; exact Or.inr f_Kn_v)
  have Su := Su.keep Kx1 (by intro y q; simp only [List.mem_cons, List.not_mem_nil, or_false] at q ⊢; rcases q with rfl | rfl <;> simp)
  have Sl1 := Sl1.keep Kx1 (by intro y q; simp only [List.mem_cons, List.not_mem_nil, or_false] at q ⊢; rcases q with rfl | rfl <;> simp)
  obtain rfl : cap1 = 34 := by have q := B.le; simp at q; omega
  refine go_iloadN (v := p) (q := 20) d29_19 rfl rfl ?_
  refine go_mine fun hMp _ => ?_
  refine go_static (c' := 11) (s' := 222) (q := 23) (S := [.ref x]) (argsL := [.int p]) H (w_180 H) (w_181 H) (w_39 H) (w_182 H) (by decide) (rm_pn H (F := (vx1 :: (v :: (x :: F)))) TB) rfl rfl (lenOf pd_4 rfl) (fun _ q => q) rfl (by decide) (Nat.le_of_ble_eq_true rfl) rfl rfl (by decide) (by decide) d29_20 rfl ?_
  rintro _ hp G - ⟨sp, rfl, Kp, Sp⟩
  refine nx_ (v := none) ?_
  have Ka : Keep h hp [] := Ka.trans Kp (fun _ q => nomatch q)
  have Kn : Keep h hp [] := Kn.trans Kp (fun _ q => nomatch q)
  have Su := Su.keep0 Kp
  have B := B.keep0 Kp
  have Xv := Xv.keep Kp
  show Go _ _ _ _ _ _ _ _ _ _ _ _ _ _ 23 #[.val (.ref s), .val (.ref u), .val (.int p)] [.ref sp, .ref x]
  refine go_virtual (c' := 12) (s' := 292) (q := 26) (S := []) (argsL := [.ref sp]) H (C := "java/lang/StringBuilder") (w_63 H) (w_64 H) (nf_self (w_66 H)) (w_66 H) (w_65 H) (w_46 H) (w_67 H) (by decide) B.exa (rm_apX H Sp B (by simp) (by simp <;> omega) (Or.inl (by decide)) (fun _ => Xv)) rfl rfl (lenOf pd_2 rfl) (by intro y q; simp only [List.mem_cons, List.not_mem_nil, or_false] at q; rcases q with rfl | rfl <;> simp) rfl (by decide) (Nat.le_of_ble_eq_true rfl) rfl rfl (by decide) (by decide) d29_23 rfl ?_
  rintro _ hx2 G - ⟨vx2, cap2, rfl, rfl, hv2, hc2, Kx2, Bn, Xv⟩
  refine ⟨vx2 :: (vx1 :: (v :: (x :: F))), (by intro y q; rcases List.mem_cons.mp q with rfl | q; exact Or.inl (by simp); exact Or.inr q), ?_⟩
  show Go _ _ _ _ _ _ _ _ _ _ _ _ _ _ 26 #[.val (.ref s), .val (.ref u), .val (.int p)] [.ref x]
  have B := Bn
  have f_Ka_vx2 : h.size ≤ vx2 := hv2.elim (fun e => by rw [e]; exact f_Ka_vx1) (fun q => Nat.le_trans Ka.1 q)
  have f_Kn_vx2 : h.size ≤ vx2 := hv2.elim (fun e => by rw [e]; exact f_Kn_vx1) (fun q => Nat.le_trans Kn.1 q)
  have Su := Su.grow (F' := (vx2 :: (vx1 :: (v :: (x :: F))))) (by intro y q; rcases List.mem_cons.mp q with rfl | q; exact hv2.elim (fun e => Or.inl (by simp [e])) Or.inr; exact Or.inl q)
  have Sp := Sp.grow (F' := (vx2 :: (vx1 :: (v :: (x :: F))))) (by intro y q; rcases List.mem_cons.mp q with rfl | q; exact hv2.elim (fun e => Or.inl (by simp [e])) Or.inr; exact Or.inl q)
  have Ka : Keep h hx2 [] := Ka.trans Kx2 (by intro y q; simp only [List.mem_cons, List.not_mem_nil, or_false] at q; rcases q with rfl | rfl; exact Or.inr f_Ka_x; exact Or.inr f_Ka_vx1)
  have Kn : Keep h hx2 [] := Kn.trans Kx2 (by intro y q; simp only [List.mem_cons, List.not_mem_nil, or_false] at q; rcases q with rfl | rfl; exact Or.inr f_Kn_x; exact Or.inr f_Kn_vx1)
  have Su := Su.keep Kx2 (by intro y q; simp only [List.mem_cons, List.not_mem_nil, or_false] at q ⊢; rcases q with rfl | rfl <;> simp)
  have Sp := Sp.keep Kx2 (by intro y q; simp only [List.mem_cons, List.not_mem_nil, or_false] at q ⊢; rcases q with rfl | rfl <;> simp)
  refine go_aloadN (v := .ref u) (q := 27) d29_26 rfl rfl rfl ?_
  refine go_virtual (c' := 13) (s' := 362) (q := 30) (S := []) (argsL := [.ref u]) H (C := "java/lang/StringBuilder") (w_63 H) (w_64 H) (nf_self (w_66 H)) (w_66 H) (w_65 H) (w_46 H) (w_67 H) (by decide) B.exa (rm_apX H Su B (by simp) (by simp <;> omega) (by rcases hc2 with h | h; exact Or.inl (by omega); exact Or.inr (by simp <;> omega)) (fun _ => Xv)) rfl rfl (lenOf pd_2 rfl) (by intro y q; simp only [List.mem_cons, List.not_mem_nil, or_false] at q; rcases q with rfl | rfl <;> simp) rfl (by decide) (Nat.le_of_ble_eq_true rfl) rfl rfl (by decide) (by decide) d29_27 rfl ?_
  rintro _ hx3 G - ⟨vx3, cap3, rfl, rfl, hv3, hc3, Kx3, Bn, Xv⟩
  refine ⟨vx3 :: (vx2 :: (vx1 :: (v :: (x :: F)))), (by intro y q; rcases List.mem_cons.mp q with rfl | q; exact Or.inl (by simp); exact Or.inr q), ?_⟩
  show Go _ _ _ _ _ _ _ _ _ _ _ _ _ _ 30 #[.val (.ref s), .val (.ref u), .val (.int p)] [.ref x]
  have B := Bn
  have f_Ka_vx3 : h.size ≤ vx3 := hv3.elim (fun e => by rw [e]; exact f_Ka_vx2) (fun q => Nat.le_trans Ka.1 q)
  have f_Kn_vx3 : h.size ≤ vx3 := hv3.elim (fun e => by rw [e]; exact f_Kn_vx2) (fun q => Nat.le_trans Kn.1 q)
  have Su := Su.grow (F' := (vx3 :: (vx2 :: (vx1 :: (v :: (x :: F)))))) (by intro y q; rcases List.mem_cons.mp q with rfl | q; exact hv3.elim (fun e => Or.inl (by simp [e])) Or.inr; exact Or.inl q)
  have Ka : Keep h hx3 [] := Ka.trans Kx3 (by intro y q; simp only [List.mem_cons, List.not_mem_nil, or_false] at q; rcases q with rfl | rfl; exact Or.inr f_Ka_x; exact Or.inr f_Ka_vx2)
  have Kn : Keep h hx3 [] := Kn.trans Kx3 (by intro y q; simp only [List.mem_cons, List.not_mem_nil, or_false] at q; rcases q with rfl | rfl; exact Or.inr f_Kn_x; exact Or.inr f_Kn_vx2)
  have Su := Su.keep Kx3 (by intro y q; simp only [List.mem_cons, List.not_mem_nil, or_false] at q ⊢; rcases q with rfl | rfl <;> simp)
  refine go_mine fun hM _ => ?_
  refine go_virtual (c' := 15) (s' := 406) (q := 33) (S := []) (argsL := []) H (C := "java/lang/StringBuilder") (w_110 H) (w_111 H) (nf_self (w_113 H)) (w_113 H) (w_112 H) (w_46 H) (w_114 H) (by decide) B.exa (rm_toSX H (F := F) B B.le (fun _ => Xv) (by simp <;> omega) (fun y q => (hM y (by simp [q])).2)) rfl rfl (lenOf pd_3 rfl) (by intro y q; simp [q]) rfl (by decide) (Nat.le_of_ble_eq_true rfl) rfl rfl (by decide) (by decide) d29_30 rfl ?_
  rintro _ hz G - ⟨r, rfl, Kz, Sz⟩
  refine nx_ (v := none) ?_
  have Ka : Keep h hz [] := Ka.trans Kz (fun _ q => nomatch q)
  have Kn : Keep h hz [] := Kn.trans Kz (fun _ q => nomatch q)
  have B := B.keep0 Kz
  have Xv := Xv.keep Kz
  show Go _ _ _ _ _ _ _ _ _ _ _ _ _ _ 33 #[.val (.ref s), .val (.ref u), .val (.int p)] [.ref r]
  exact go_areturn H (G := []) (t := (.object "java/lang/String")) rfl rfl rfl d29_33 (by decide) (by decide) (fun _ q => nomatch q) ⟨r, rfl, Ka, Sz⟩
set_option maxRecDepth 65536 in
set_option maxHeartbeats 4000000 in
theorem rm_dg {l : Launch} {Z : State} {a0 : Array Value} (H : Wd Z a0) {h : Heap} {m e : Nat} {P : Int64} (hm : m ≤ 2147483648) (he : e ≤ 9) (hP : P = Int64.ofNat (10 ^ e)) : Met l Z (⟨"com/example/saga/saga/server/SurfaceUrisLinkTimeMapPinLaw", "dig", "(JJ)C"⟩ : MethodName) method_4_code 4 (some .char) ({ frames := 0, cells := 0, slots := 0, locals := 0 } : Room) h [] #[.long (Int64.ofNat m), .long P] (fun u h' G => u = some (.int (dig m e)) ∧ h = h') := by
  refine Met.mk (L := #[.val (.long (Int64.ofNat m)), .second, .val (.long P), .second]) (plainFor_of_name (by first | (simp [plainName, overriddenIn]; done) | decide +kernel)) (fun m => by first | (simp [entryFrame, mkF, argsToLocals, Value.category]; done) | rfl) (fun K => ?_)
  show Go _ _ K "com/example/saga/saga/server/SurfaceUrisLinkTimeMapPinLaw" "dig" _ _ _ _ _ _ _ _ _ 0 _ _
  obtain ⟨d1, d2, d3⟩ := dig64 hm he
  have hdk := dig_ok m e
  refine go_bipush (x := (48 : Int32)) (q := 2) d40_0 rfl rfl ?_
  refine go_lloadN (v := (Int64.ofNat m)) (q := 3) d40_2 rfl rfl ?_
  refine go_lloadN (v := P) (q := 4) d40_3 rfl rfl ?_
  refine go_ldiv (r := (Int64.ofNat (m / 10 ^ e))) (q := 5) d40_4 (by rw [hP]; exact (pw_ne he).1) (by rw [hP]; exact d1) rfl ?_
  refine go_ldc2 (v := (10 : Int64)) (q := 8) (w_206 H) d40_5 rfl ?_
  refine go_lrem (r := (Int64.ofNat (m / 10 ^ e % 10))) (q := 9) d40_8 (by decide) d2 rfl ?_
  refine go_l2i (r := (Int32.ofNat (m / 10 ^ e % 10))) (q := 10) d40_9 d3 rfl ?_
  refine go_iadd (r := (dig m e)) (q := 11) d40_10 (add_ofNat 48 _) rfl ?_
  refine go_i2c (r := (dig m e)) (q := 12) d40_11 (nar_char hdk.1 hdk.2) rfl ?_
  exact go_ireturn H (G := []) (t := .char) rfl (by decide) (by show Value.int (nar .char (dig m e)) = _; rw [nar_char hdk.1 hdk.2]) d40_12 (by decide) (by decide) (fun _ q => nomatch q) ⟨rfl, rfl⟩
abbrev GP (l : Launch) (Z : State) (K : Cx) (h1 : Heap) (y : Addr) (c1 : List Int32) (p1 : Int32) (h : Heap) (F : List Addr) (c s pc : Nat) (L : Array Slot) (S : List Value) : Prop := Go l Z K "com/example/saga/saga/server/SurfaceUrisLinkTimeMapPinLaw" "putPage" method_5_code 7 (some .int) ({ frames := 1, cells := 0, slots := 0, locals := 30 } : Room) (fun u h' G => u = some (.int (Int32.ofNat (c1 ++ pnl p1).length)) ∧ Keep h1 h' [y] ∧ Ech Z h' y (c1 ++ pnl p1)) h F c s pc L S
set_option maxRecDepth 65536 in
set_option maxHeartbeats 8000000 in
theorem jp158_1 {l : Launch} {Z : State} {a0 : Array Value} (H : Wd Z a0) {K : Cx} {h h1 : Heap} {y : Addr} {c1 cs : List Int32} {p1 p2 a1 : Int32} {m : Nat} (hm : m ≤ 2147483648) (V : Ech Z h y cs) (K0 : Keep h1 h [y]) (hl : cs.length ≤ 24) (hQ : c1 ++ pnl p1 = cs ++ (dgs m 1 ++ [47])) : GP l Z K h1 y c1 p1 h [y] 0 0 158 #[.val (.ref y), .val (.int a1), .val (.int p2), .val (.int (Int32.ofNat cs.length)), .val (.long (Int64.ofNat m)), .second, .val (.int (1 : Int32))] [] := by
  refine go_iload (v := (1 : Int32)) (q := 160) d39_158 rfl rfl ?_
  refine go_bipush (x := (10 : Int32)) (q := 162) d39_160 rfl rfl ?_
  refine go_icY (q := 179) d39_162 (by decide) (by decide) (by decide) ?_
  refine go_iload (v := (1 : Int32)) (q := 181) d39_179 rfl rfl ?_
  refine go_bipush (x := (9 : Int32)) (q := 183) d39_181 rfl rfl ?_
  refine go_icY (q := 200) d39_183 (by decide) (by decide) (by decide) ?_
  refine go_iload (v := (1 : Int32)) (q := 202) d39_200 rfl rfl ?_
  refine go_bipush (x := (8 : Int32)) (q := 204) d39_202 rfl rfl ?_
  refine go_icY (q := 221) d39_204 (by decide) (by decide) (by decide) ?_
  refine go_iload (v := (1 : Int32)) (q := 223) d39_221 rfl rfl ?_
  refine go_bipush (x := (7 : Int32)) (q := 225) d39_223 rfl rfl ?_
  refine go_icY (q := 242) d39_225 (by decide) (by decide) (by decide) ?_
  refine go_iload (v := (1 : Int32)) (q := 244) d39_242 rfl rfl ?_
  refine go_bipush (x := (6 : Int32)) (q := 246) d39_244 rfl rfl ?_
  refine go_icY (q := 263) d39_246 (by decide) (by decide) (by decide) ?_
  refine go_iload (v := (1 : Int32)) (q := 265) d39_263 rfl rfl ?_
  refine go_iconst (x := (5 : Int32)) (q := 266) d39_265 rfl rfl ?_
  refine go_icY (q := 283) d39_266 (by decide) (by decide) (by decide) ?_
  refine go_iload (v := (1 : Int32)) (q := 285) d39_283 rfl rfl ?_
  refine go_iconst (x := (4 : Int32)) (q := 286) d39_285 rfl rfl ?_
  refine go_icY (q := 303) d39_286 (by decide) (by decide) (by decide) ?_
  refine go_iload (v := (1 : Int32)) (q := 305) d39_303 rfl rfl ?_
  refine go_iconst (x := (3 : Int32)) (q := 306) d39_305 rfl rfl ?_
  refine go_icY (q := 323) d39_306 (by decide) (by decide) (by decide) ?_
  refine go_iload (v := (1 : Int32)) (q := 325) d39_323 rfl rfl ?_
  refine go_iconst (x := (2 : Int32)) (q := 326) d39_325 rfl rfl ?_
  refine go_icY (q := 343) d39_326 (by decide) (by decide) (by decide) ?_
  refine go_aloadN (v := .ref y) (q := 344) d39_343 rfl rfl rfl ?_
  refine go_iloadN (v := (Int32.ofNat cs.length)) (q := 345) d39_344 rfl rfl ?_
  refine go_iinc (x := (Int32.ofNat cs.length)) (y := (Int32.ofNat (cs ++ [dig m 0]).length)) (L' := #[.val (.ref y), .val (.int a1), .val (.int p2), .val (.int (Int32.ofNat (cs ++ [dig m 0]).length)), .val (.long (Int64.ofNat m)), .second, .val (.int (1 : Int32))]) (q := 348) d39_345 rfl inc_push rfl rfl ?_
  refine go_lload (v := (Int64.ofNat m)) (q := 350) d39_348 rfl rfl ?_
  refine go_lconst (x := (1 : Int64)) (q := 351) d39_350 rfl rfl ?_
  refine go_static (c' := 0) (s' := 0) (q := 354) (S := [.int (Int32.ofNat cs.length), .ref y]) (argsL := [.long (Int64.ofNat m), .long (1 : Int64)]) H (w_207 H) (w_208 H) (w_204 H) (w_209 H) (by decide) (rm_dg H (e := 0) hm (by decide) (by first | rfl | decide)) rfl rfl (lenOf pd_33 rfl) (fun _ q => nomatch q) rfl (by decide) (Nat.le_of_ble_eq_true rfl) rfl rfl (by decide) (by decide) d39_351 rfl ?_
  rintro _ _ G - ⟨rfl, rfl⟩
  refine nx_ (v := none) ?_
  show Go _ _ _ _ _ _ _ _ _ _ _ _ _ _ 354 #[.val (.ref y), .val (.int a1), .val (.int p2), .val (.int (Int32.ofNat (cs ++ [dig m 0]).length)), .val (.long (Int64.ofNat m)), .second, .val (.int (1 : Int32))] [.int (dig m 0), .int (Int32.ofNat cs.length), .ref y]
  have hn1 := hl
  obtain ⟨ky, V⟩ := V
  refine go_castore (i := cs.length) (y := (dig m 0)) (q := 355) V ⟨nn_ofNat (by omega), (lt_ofNat (n := 40) (by omega) (by decide)).mpr (by omega)⟩ (cl_ofNat (by omega)) (by simp <;> omega) (by simp) (nar_char (dig_ok m 0).1 (dig_ok m 0).2) d39_354 rfl ?_
  intro hp1 Khp1 zhp1 Vhp1
  rw [push_c (cs := cs) (by omega)] at Vhp1
  have V : Ech Z hp1 y (cs ++ [dig m 0]) := ⟨ky, Vhp1⟩
  have K0 := K0.trans Khp1 (fun _ q => Or.inl q)
  refine go_aloadN (v := .ref y) (q := 356) d39_355 rfl rfl rfl ?_
  refine go_iloadN (v := (Int32.ofNat (cs ++ [dig m 0]).length)) (q := 357) d39_356 rfl rfl ?_
  refine go_iinc (x := (Int32.ofNat (cs ++ [dig m 0]).length)) (y := (Int32.ofNat ((cs ++ [dig m 0]) ++ [47]).length)) (L' := #[.val (.ref y), .val (.int a1), .val (.int p2), .val (.int (Int32.ofNat ((cs ++ [dig m 0]) ++ [47]).length)), .val (.long (Int64.ofNat m)), .second, .val (.int (1 : Int32))]) (q := 360) d39_357 rfl inc_push rfl rfl ?_
  refine go_bipush (x := (47 : Int32)) (q := 362) d39_360 rfl rfl ?_
  have hn2 : (cs ++ [dig m 0]).length = cs.length + 1 := by simp
  obtain ⟨ky, V⟩ := V
  refine go_castore (i := (cs ++ [dig m 0]).length) (y := 47) (q := 363) V ⟨nn_ofNat (by omega), (lt_ofNat (n := 40) (by omega) (by decide)).mpr (by omega)⟩ (cl_ofNat (by omega)) (by simp <;> omega) (by simp) (nar_char ((by decide : ¬ (47 : Int32) < 0 ∧ ¬ 255 < (47 : Int32))).1 ((by decide : ¬ (47 : Int32) < 0 ∧ ¬ 255 < (47 : Int32))).2) d39_362 rfl ?_
  intro hp2 Khp2 zhp2 Vhp2
  rw [push_c (cs := (cs ++ [dig m 0])) (by omega)] at Vhp2
  have V : Ech Z hp2 y ((cs ++ [dig m 0]) ++ [47]) := ⟨ky, Vhp2⟩
  have K0 := K0.trans Khp2 (fun _ q => Or.inl q)
  refine go_iloadN (v := (Int32.ofNat ((cs ++ [dig m 0]) ++ [47]).length)) (q := 364) d39_363 rfl rfl ?_
  have e : ((cs ++ [dig m 0]) ++ [47]) = c1 ++ pnl p1 := by rw [hQ]; simp [dgs]
  rw [e] at V
  rw [e]
  show Go _ _ _ _ _ _ _ _ _ _ _ _ _ _ 364 #[.val (.ref y), .val (.int a1), .val (.int p2), .val (.int (Int32.ofNat (c1 ++ pnl p1).length)), .val (.long (Int64.ofNat m)), .second, .val (.int (1 : Int32))] [.int (Int32.ofNat (c1 ++ pnl p1).length)]
  exact go_ireturn H (G := []) (t := .int) rfl (by decide) rfl d39_364 (by decide) (by decide) (fun _ q => nomatch q) ⟨rfl, K0, V⟩
set_option maxRecDepth 65536 in
set_option maxHeartbeats 8000000 in
theorem jp158_2 {l : Launch} {Z : State} {a0 : Array Value} (H : Wd Z a0) {K : Cx} {h h1 : Heap} {y : Addr} {c1 cs : List Int32} {p1 p2 a1 : Int32} {m : Nat} (hm : m ≤ 2147483648) (V : Ech Z h y cs) (K0 : Keep h1 h [y]) (hl : cs.length ≤ 24) (hQ : c1 ++ pnl p1 = cs ++ (dgs m 2 ++ [47])) : GP l Z K h1 y c1 p1 h [y] 0 0 158 #[.val (.ref y), .val (.int a1), .val (.int p2), .val (.int (Int32.ofNat cs.length)), .val (.long (Int64.ofNat m)), .second, .val (.int (2 : Int32))] [] := by
  refine go_iload (v := (2 : Int32)) (q := 160) d39_158 rfl rfl ?_
  refine go_bipush (x := (10 : Int32)) (q := 162) d39_160 rfl rfl ?_
  refine go_icY (q := 179) d39_162 (by decide) (by decide) (by decide) ?_
  refine go_iload (v := (2 : Int32)) (q := 181) d39_179 rfl rfl ?_
  refine go_bipush (x := (9 : Int32)) (q := 183) d39_181 rfl rfl ?_
  refine go_icY (q := 200) d39_183 (by decide) (by decide) (by decide) ?_
  refine go_iload (v := (2 : Int32)) (q := 202) d39_200 rfl rfl ?_
  refine go_bipush (x := (8 : Int32)) (q := 204) d39_202 rfl rfl ?_
  refine go_icY (q := 221) d39_204 (by decide) (by decide) (by decide) ?_
  refine go_iload (v := (2 : Int32)) (q := 223) d39_221 rfl rfl ?_
  refine go_bipush (x := (7 : Int32)) (q := 225) d39_223 rfl rfl ?_
  refine go_icY (q := 242) d39_225 (by decide) (by decide) (by decide) ?_
  refine go_iload (v := (2 : Int32)) (q := 244) d39_242 rfl rfl ?_
  refine go_bipush (x := (6 : Int32)) (q := 246) d39_244 rfl rfl ?_
  refine go_icY (q := 263) d39_246 (by decide) (by decide) (by decide) ?_
  refine go_iload (v := (2 : Int32)) (q := 265) d39_263 rfl rfl ?_
  refine go_iconst (x := (5 : Int32)) (q := 266) d39_265 rfl rfl ?_
  refine go_icY (q := 283) d39_266 (by decide) (by decide) (by decide) ?_
  refine go_iload (v := (2 : Int32)) (q := 285) d39_283 rfl rfl ?_
  refine go_iconst (x := (4 : Int32)) (q := 286) d39_285 rfl rfl ?_
  refine go_icY (q := 303) d39_286 (by decide) (by decide) (by decide) ?_
  refine go_iload (v := (2 : Int32)) (q := 305) d39_303 rfl rfl ?_
  refine go_iconst (x := (3 : Int32)) (q := 306) d39_305 rfl rfl ?_
  refine go_icY (q := 323) d39_306 (by decide) (by decide) (by decide) ?_
  refine go_iload (v := (2 : Int32)) (q := 325) d39_323 rfl rfl ?_
  refine go_iconst (x := (2 : Int32)) (q := 326) d39_325 rfl rfl ?_
  refine go_icN (q := 329) d39_326 (by decide) rfl ?_
  refine go_aloadN (v := .ref y) (q := 330) d39_329 rfl rfl rfl ?_
  refine go_iloadN (v := (Int32.ofNat cs.length)) (q := 331) d39_330 rfl rfl ?_
  refine go_iinc (x := (Int32.ofNat cs.length)) (y := (Int32.ofNat (cs ++ [dig m 1]).length)) (L' := #[.val (.ref y), .val (.int a1), .val (.int p2), .val (.int (Int32.ofNat (cs ++ [dig m 1]).length)), .val (.long (Int64.ofNat m)), .second, .val (.int (2 : Int32))]) (q := 334) d39_331 rfl inc_push rfl rfl ?_
  refine go_lload (v := (Int64.ofNat m)) (q := 336) d39_334 rfl rfl ?_
  refine go_ldc2 (v := (10 : Int64)) (q := 339) (w_206 H) d39_336 rfl ?_
  refine go_static (c' := 0) (s' := 0) (q := 342) (S := [.int (Int32.ofNat cs.length), .ref y]) (argsL := [.long (Int64.ofNat m), .long (10 : Int64)]) H (w_207 H) (w_208 H) (w_204 H) (w_209 H) (by decide) (rm_dg H (e := 1) hm (by decide) (by first | rfl | decide)) rfl rfl (lenOf pd_33 rfl) (fun _ q => nomatch q) rfl (by decide) (Nat.le_of_ble_eq_true rfl) rfl rfl (by decide) (by decide) d39_339 rfl ?_
  rintro _ _ G - ⟨rfl, rfl⟩
  refine nx_ (v := none) ?_
  show Go _ _ _ _ _ _ _ _ _ _ _ _ _ _ 342 #[.val (.ref y), .val (.int a1), .val (.int p2), .val (.int (Int32.ofNat (cs ++ [dig m 1]).length)), .val (.long (Int64.ofNat m)), .second, .val (.int (2 : Int32))] [.int (dig m 1), .int (Int32.ofNat cs.length), .ref y]
  have hn1 := hl
  obtain ⟨ky, V⟩ := V
  refine go_castore (i := cs.length) (y := (dig m 1)) (q := 343) V ⟨nn_ofNat (by omega), (lt_ofNat (n := 40) (by omega) (by decide)).mpr (by omega)⟩ (cl_ofNat (by omega)) (by simp <;> omega) (by simp) (nar_char (dig_ok m 1).1 (dig_ok m 1).2) d39_342 rfl ?_
  intro hp1 Khp1 zhp1 Vhp1
  rw [push_c (cs := cs) (by omega)] at Vhp1
  have V : Ech Z hp1 y (cs ++ [dig m 1]) := ⟨ky, Vhp1⟩
  have K0 := K0.trans Khp1 (fun _ q => Or.inl q)
  refine go_aloadN (v := .ref y) (q := 344) d39_343 rfl rfl rfl ?_
  refine go_iloadN (v := (Int32.ofNat (cs ++ [dig m 1]).length)) (q := 345) d39_344 rfl rfl ?_
  refine go_iinc (x := (Int32.ofNat (cs ++ [dig m 1]).length)) (y := (Int32.ofNat ((cs ++ [dig m 1]) ++ [dig m 0]).length)) (L' := #[.val (.ref y), .val (.int a1), .val (.int p2), .val (.int (Int32.ofNat ((cs ++ [dig m 1]) ++ [dig m 0]).length)), .val (.long (Int64.ofNat m)), .second, .val (.int (2 : Int32))]) (q := 348) d39_345 rfl inc_push rfl rfl ?_
  refine go_lload (v := (Int64.ofNat m)) (q := 350) d39_348 rfl rfl ?_
  refine go_lconst (x := (1 : Int64)) (q := 351) d39_350 rfl rfl ?_
  refine go_static (c' := 0) (s' := 0) (q := 354) (S := [.int (Int32.ofNat (cs ++ [dig m 1]).length), .ref y]) (argsL := [.long (Int64.ofNat m), .long (1 : Int64)]) H (w_207 H) (w_208 H) (w_204 H) (w_209 H) (by decide) (rm_dg H (e := 0) hm (by decide) (by first | rfl | decide)) rfl rfl (lenOf pd_33 rfl) (fun _ q => nomatch q) rfl (by decide) (Nat.le_of_ble_eq_true rfl) rfl rfl (by decide) (by decide) d39_351 rfl ?_
  rintro _ _ G - ⟨rfl, rfl⟩
  refine nx_ (v := none) ?_
  show Go _ _ _ _ _ _ _ _ _ _ _ _ _ _ 354 #[.val (.ref y), .val (.int a1), .val (.int p2), .val (.int (Int32.ofNat ((cs ++ [dig m 1]) ++ [dig m 0]).length)), .val (.long (Int64.ofNat m)), .second, .val (.int (2 : Int32))] [.int (dig m 0), .int (Int32.ofNat (cs ++ [dig m 1]).length), .ref y]
  have hn2 : (cs ++ [dig m 1]).length = cs.length + 1 := by simp
  obtain ⟨ky, V⟩ := V
  refine go_castore (i := (cs ++ [dig m 1]).length) (y := (dig m 0)) (q := 355) V ⟨nn_ofNat (by omega), (lt_ofNat (n := 40) (by omega) (by decide)).mpr (by omega)⟩ (cl_ofNat (by omega)) (by simp <;> omega) (by simp) (nar_char (dig_ok m 0).1 (dig_ok m 0).2) d39_354 rfl ?_
  intro hp2 Khp2 zhp2 Vhp2
  rw [push_c (cs := (cs ++ [dig m 1])) (by omega)] at Vhp2
  have V : Ech Z hp2 y ((cs ++ [dig m 1]) ++ [dig m 0]) := ⟨ky, Vhp2⟩
  have K0 := K0.trans Khp2 (fun _ q => Or.inl q)
  refine go_aloadN (v := .ref y) (q := 356) d39_355 rfl rfl rfl ?_
  refine go_iloadN (v := (Int32.ofNat ((cs ++ [dig m 1]) ++ [dig m 0]).length)) (q := 357) d39_356 rfl rfl ?_
  refine go_iinc (x := (Int32.ofNat ((cs ++ [dig m 1]) ++ [dig m 0]).length)) (y := (Int32.ofNat (((cs ++ [dig m 1]) ++ [dig m 0]) ++ [47]).length)) (L' := #[.val (.ref y), .val (.int a1), .val (.int p2), .val (.int (Int32.ofNat (((cs ++ [dig m 1]) ++ [dig m 0]) ++ [47]).length)), .val (.long (Int64.ofNat m)), .second, .val (.int (2 : Int32))]) (q := 360) d39_357 rfl inc_push rfl rfl ?_
  refine go_bipush (x := (47 : Int32)) (q := 362) d39_360 rfl rfl ?_
  have hn3 : ((cs ++ [dig m 1]) ++ [dig m 0]).length = cs.length + 2 := by simp
  obtain ⟨ky, V⟩ := V
  refine go_castore (i := ((cs ++ [dig m 1]) ++ [dig m 0]).length) (y := 47) (q := 363) V ⟨nn_ofNat (by omega), (lt_ofNat (n := 40) (by omega) (by decide)).mpr (by omega)⟩ (cl_ofNat (by omega)) (by simp <;> omega) (by simp) (nar_char ((by decide : ¬ (47 : Int32) < 0 ∧ ¬ 255 < (47 : Int32))).1 ((by decide : ¬ (47 : Int32) < 0 ∧ ¬ 255 < (47 : Int32))).2) d39_362 rfl ?_
  intro hp3 Khp3 zhp3 Vhp3
  rw [push_c (cs := ((cs ++ [dig m 1]) ++ [dig m 0])) (by omega)] at Vhp3
  have V : Ech Z hp3 y (((cs ++ [dig m 1]) ++ [dig m 0]) ++ [47]) := ⟨ky, Vhp3⟩
  have K0 := K0.trans Khp3 (fun _ q => Or.inl q)
  refine go_iloadN (v := (Int32.ofNat (((cs ++ [dig m 1]) ++ [dig m 0]) ++ [47]).length)) (q := 364) d39_363 rfl rfl ?_
  have e : (((cs ++ [dig m 1]) ++ [dig m 0]) ++ [47]) = c1 ++ pnl p1 := by rw [hQ]; simp [dgs]
  rw [e] at V
  rw [e]
  show Go _ _ _ _ _ _ _ _ _ _ _ _ _ _ 364 #[.val (.ref y), .val (.int a1), .val (.int p2), .val (.int (Int32.ofNat (c1 ++ pnl p1).length)), .val (.long (Int64.ofNat m)), .second, .val (.int (2 : Int32))] [.int (Int32.ofNat (c1 ++ pnl p1).length)]
  exact go_ireturn H (G := []) (t := .int) rfl (by decide) rfl d39_364 (by decide) (by decide) (fun _ q => nomatch q) ⟨rfl, K0, V⟩
set_option maxRecDepth 65536 in
set_option maxHeartbeats 8000000 in
theorem jp158_3 {l : Launch} {Z : State} {a0 : Array Value} (H : Wd Z a0) {K : Cx} {h h1 : Heap} {y : Addr} {c1 cs : List Int32} {p1 p2 a1 : Int32} {m : Nat} (hm : m ≤ 2147483648) (V : Ech Z h y cs) (K0 : Keep h1 h [y]) (hl : cs.length ≤ 24) (hQ : c1 ++ pnl p1 = cs ++ (dgs m 3 ++ [47])) : GP l Z K h1 y c1 p1 h [y] 0 0 158 #[.val (.ref y), .val (.int a1), .val (.int p2), .val (.int (Int32.ofNat cs.length)), .val (.long (Int64.ofNat m)), .second, .val (.int (3 : Int32))] [] := by
  refine go_iload (v := (3 : Int32)) (q := 160) d39_158 rfl rfl ?_
  refine go_bipush (x := (10 : Int32)) (q := 162) d39_160 rfl rfl ?_
  refine go_icY (q := 179) d39_162 (by decide) (by decide) (by decide) ?_
  refine go_iload (v := (3 : Int32)) (q := 181) d39_179 rfl rfl ?_
  refine go_bipush (x := (9 : Int32)) (q := 183) d39_181 rfl rfl ?_
  refine go_icY (q := 200) d39_183 (by decide) (by decide) (by decide) ?_
  refine go_iload (v := (3 : Int32)) (q := 202) d39_200 rfl rfl ?_
  refine go_bipush (x := (8 : Int32)) (q := 204) d39_202 rfl rfl ?_
  refine go_icY (q := 221) d39_204 (by decide) (by decide) (by decide) ?_
  refine go_iload (v := (3 : Int32)) (q := 223) d39_221 rfl rfl ?_
  refine go_bipush (x := (7 : Int32)) (q := 225) d39_223 rfl rfl ?_
  refine go_icY (q := 242) d39_225 (by decide) (by decide) (by decide) ?_
  refine go_iload (v := (3 : Int32)) (q := 244) d39_242 rfl rfl ?_
  refine go_bipush (x := (6 : Int32)) (q := 246) d39_244 rfl rfl ?_
  refine go_icY (q := 263) d39_246 (by decide) (by decide) (by decide) ?_
  refine go_iload (v := (3 : Int32)) (q := 265) d39_263 rfl rfl ?_
  refine go_iconst (x := (5 : Int32)) (q := 266) d39_265 rfl rfl ?_
  refine go_icY (q := 283) d39_266 (by decide) (by decide) (by decide) ?_
  refine go_iload (v := (3 : Int32)) (q := 285) d39_283 rfl rfl ?_
  refine go_iconst (x := (4 : Int32)) (q := 286) d39_285 rfl rfl ?_
  refine go_icY (q := 303) d39_286 (by decide) (by decide) (by decide) ?_
  refine go_iload (v := (3 : Int32)) (q := 305) d39_303 rfl rfl ?_
  refine go_iconst (x := (3 : Int32)) (q := 306) d39_305 rfl rfl ?_
  refine go_icN (q := 309) d39_306 (by decide) rfl ?_
  refine go_aloadN (v := .ref y) (q := 310) d39_309 rfl rfl rfl ?_
  refine go_iloadN (v := (Int32.ofNat cs.length)) (q := 311) d39_310 rfl rfl ?_
  refine go_iinc (x := (Int32.ofNat cs.length)) (y := (Int32.ofNat (cs ++ [dig m 2]).length)) (L' := #[.val (.ref y), .val (.int a1), .val (.int p2), .val (.int (Int32.ofNat (cs ++ [dig m 2]).length)), .val (.long (Int64.ofNat m)), .second, .val (.int (3 : Int32))]) (q := 314) d39_311 rfl inc_push rfl rfl ?_
  refine go_lload (v := (Int64.ofNat m)) (q := 316) d39_314 rfl rfl ?_
  refine go_ldc2 (v := (100 : Int64)) (q := 319) (w_246 H) d39_316 rfl ?_
  refine go_static (c' := 0) (s' := 0) (q := 322) (S := [.int (Int32.ofNat cs.length), .ref y]) (argsL := [.long (Int64.ofNat m), .long (100 : Int64)]) H (w_207 H) (w_208 H) (w_204 H) (w_209 H) (by decide) (rm_dg H (e := 2) hm (by decide) (by first | rfl | decide)) rfl rfl (lenOf pd_33 rfl) (fun _ q => nomatch q) rfl (by decide) (Nat.le_of_ble_eq_true rfl) rfl rfl (by decide) (by decide) d39_319 rfl ?_
  rintro _ _ G - ⟨rfl, rfl⟩
  refine nx_ (v := none) ?_
  show Go _ _ _ _ _ _ _ _ _ _ _ _ _ _ 322 #[.val (.ref y), .val (.int a1), .val (.int p2), .val (.int (Int32.ofNat (cs ++ [dig m 2]).length)), .val (.long (Int64.ofNat m)), .second, .val (.int (3 : Int32))] [.int (dig m 2), .int (Int32.ofNat cs.length), .ref y]
  have hn1 := hl
  obtain ⟨ky, V⟩ := V
  refine go_castore (i := cs.length) (y := (dig m 2)) (q := 323) V ⟨nn_ofNat (by omega), (lt_ofNat (n := 40) (by omega) (by decide)).mpr (by omega)⟩ (cl_ofNat (by omega)) (by simp <;> omega) (by simp) (nar_char (dig_ok m 2).1 (dig_ok m 2).2) d39_322 rfl ?_
  intro hp1 Khp1 zhp1 Vhp1
  rw [push_c (cs := cs) (by omega)] at Vhp1
  have V : Ech Z hp1 y (cs ++ [dig m 2]) := ⟨ky, Vhp1⟩
  have K0 := K0.trans Khp1 (fun _ q => Or.inl q)
  refine go_iload (v := (3 : Int32)) (q := 325) d39_323 rfl rfl ?_
  refine go_iconst (x := (2 : Int32)) (q := 326) d39_325 rfl rfl ?_
  refine go_icN (q := 329) d39_326 (by decide) rfl ?_
  refine go_aloadN (v := .ref y) (q := 330) d39_329 rfl rfl rfl ?_
  refine go_iloadN (v := (Int32.ofNat (cs ++ [dig m 2]).length)) (q := 331) d39_330 rfl rfl ?_
  refine go_iinc (x := (Int32.ofNat (cs ++ [dig m 2]).length)) (y := (Int32.ofNat ((cs ++ [dig m 2]) ++ [dig m 1]).length)) (L' := #[.val (.ref y), .val (.int a1), .val (.int p2), .val (.int (Int32.ofNat ((cs ++ [dig m 2]) ++ [dig m 1]).length)), .val (.long (Int64.ofNat m)), .second, .val (.int (3 : Int32))]) (q := 334) d39_331 rfl inc_push rfl rfl ?_
  refine go_lload (v := (Int64.ofNat m)) (q := 336) d39_334 rfl rfl ?_
  refine go_ldc2 (v := (10 : Int64)) (q := 339) (w_206 H) d39_336 rfl ?_
  refine go_static (c' := 0) (s' := 0) (q := 342) (S := [.int (Int32.ofNat (cs ++ [dig m 2]).length), .ref y]) (argsL := [.long (Int64.ofNat m), .long (10 : Int64)]) H (w_207 H) (w_208 H) (w_204 H) (w_209 H) (by decide) (rm_dg H (e := 1) hm (by decide) (by first | rfl | decide)) rfl rfl (lenOf pd_33 rfl) (fun _ q => nomatch q) rfl (by decide) (Nat.le_of_ble_eq_true rfl) rfl rfl (by decide) (by decide) d39_339 rfl ?_
  rintro _ _ G - ⟨rfl, rfl⟩
  refine nx_ (v := none) ?_
  show Go _ _ _ _ _ _ _ _ _ _ _ _ _ _ 342 #[.val (.ref y), .val (.int a1), .val (.int p2), .val (.int (Int32.ofNat ((cs ++ [dig m 2]) ++ [dig m 1]).length)), .val (.long (Int64.ofNat m)), .second, .val (.int (3 : Int32))] [.int (dig m 1), .int (Int32.ofNat (cs ++ [dig m 2]).length), .ref y]
  have hn2 : (cs ++ [dig m 2]).length = cs.length + 1 := by simp
  obtain ⟨ky, V⟩ := V
  refine go_castore (i := (cs ++ [dig m 2]).length) (y := (dig m 1)) (q := 343) V ⟨nn_ofNat (by omega), (lt_ofNat (n := 40) (by omega) (by decide)).mpr (by omega)⟩ (cl_ofNat (by omega)) (by simp <;> omega) (by simp) (nar_char (dig_ok m 1).1 (dig_ok m 1).2) d39_342 rfl ?_
  intro hp2 Khp2 zhp2 Vhp2
  rw [push_c (cs := (cs ++ [dig m 2])) (by omega)] at Vhp2
  have V : Ech Z hp2 y ((cs ++ [dig m 2]) ++ [dig m 1]) := ⟨ky, Vhp2⟩
  have K0 := K0.trans Khp2 (fun _ q => Or.inl q)
  refine go_aloadN (v := .ref y) (q := 344) d39_343 rfl rfl rfl ?_
  refine go_iloadN (v := (Int32.ofNat ((cs ++ [dig m 2]) ++ [dig m 1]).length)) (q := 345) d39_344 rfl rfl ?_
  refine go_iinc (x := (Int32.ofNat ((cs ++ [dig m 2]) ++ [dig m 1]).length)) (y := (Int32.ofNat (((cs ++ [dig m 2]) ++ [dig m 1]) ++ [dig m 0]).length)) (L' := #[.val (.ref y), .val (.int a1), .val (.int p2), .val (.int (Int32.ofNat (((cs ++ [dig m 2]) ++ [dig m 1]) ++ [dig m 0]).length)), .val (.long (Int64.ofNat m)), .second, .val (.int (3 : Int32))]) (q := 348) d39_345 rfl inc_push rfl rfl ?_
  refine go_lload (v := (Int64.ofNat m)) (q := 350) d39_348 rfl rfl ?_
  refine go_lconst (x := (1 : Int64)) (q := 351) d39_350 rfl rfl ?_
  refine go_static (c' := 0) (s' := 0) (q := 354) (S := [.int (Int32.ofNat ((cs ++ [dig m 2]) ++ [dig m 1]).length), .ref y]) (argsL := [.long (Int64.ofNat m), .long (1 : Int64)]) H (w_207 H) (w_208 H) (w_204 H) (w_209 H) (by decide) (rm_dg H (e := 0) hm (by decide) (by first | rfl | decide)) rfl rfl (lenOf pd_33 rfl) (fun _ q => nomatch q) rfl (by decide) (Nat.le_of_ble_eq_true rfl) rfl rfl (by decide) (by decide) d39_351 rfl ?_
  rintro _ _ G - ⟨rfl, rfl⟩
  refine nx_ (v := none) ?_
  show Go _ _ _ _ _ _ _ _ _ _ _ _ _ _ 354 #[.val (.ref y), .val (.int a1), .val (.int p2), .val (.int (Int32.ofNat (((cs ++ [dig m 2]) ++ [dig m 1]) ++ [dig m 0]).length)), .val (.long (Int64.ofNat m)), .second, .val (.int (3 : Int32))] [.int (dig m 0), .int (Int32.ofNat ((cs ++ [dig m 2]) ++ [dig m 1]).length), .ref y]
  have hn3 : ((cs ++ [dig m 2]) ++ [dig m 1]).length = cs.length + 2 := by simp
  obtain ⟨ky, V⟩ := V
  refine go_castore (i := ((cs ++ [dig m 2]) ++ [dig m 1]).length) (y := (dig m 0)) (q := 355) V ⟨nn_ofNat (by omega), (lt_ofNat (n := 40) (by omega) (by decide)).mpr (by omega)⟩ (cl_ofNat (by omega)) (by simp <;> omega) (by simp) (nar_char (dig_ok m 0).1 (dig_ok m 0).2) d39_354 rfl ?_
  intro hp3 Khp3 zhp3 Vhp3
  rw [push_c (cs := ((cs ++ [dig m 2]) ++ [dig m 1])) (by omega)] at Vhp3
  have V : Ech Z hp3 y (((cs ++ [dig m 2]) ++ [dig m 1]) ++ [dig m 0]) := ⟨ky, Vhp3⟩
  have K0 := K0.trans Khp3 (fun _ q => Or.inl q)
  refine go_aloadN (v := .ref y) (q := 356) d39_355 rfl rfl rfl ?_
  refine go_iloadN (v := (Int32.ofNat (((cs ++ [dig m 2]) ++ [dig m 1]) ++ [dig m 0]).length)) (q := 357) d39_356 rfl rfl ?_
  refine go_iinc (x := (Int32.ofNat (((cs ++ [dig m 2]) ++ [dig m 1]) ++ [dig m 0]).length)) (y := (Int32.ofNat ((((cs ++ [dig m 2]) ++ [dig m 1]) ++ [dig m 0]) ++ [47]).length)) (L' := #[.val (.ref y), .val (.int a1), .val (.int p2), .val (.int (Int32.ofNat ((((cs ++ [dig m 2]) ++ [dig m 1]) ++ [dig m 0]) ++ [47]).length)), .val (.long (Int64.ofNat m)), .second, .val (.int (3 : Int32))]) (q := 360) d39_357 rfl inc_push rfl rfl ?_
  refine go_bipush (x := (47 : Int32)) (q := 362) d39_360 rfl rfl ?_
  have hn4 : (((cs ++ [dig m 2]) ++ [dig m 1]) ++ [dig m 0]).length = cs.length + 3 := by simp
  obtain ⟨ky, V⟩ := V
  refine go_castore (i := (((cs ++ [dig m 2]) ++ [dig m 1]) ++ [dig m 0]).length) (y := 47) (q := 363) V ⟨nn_ofNat (by omega), (lt_ofNat (n := 40) (by omega) (by decide)).mpr (by omega)⟩ (cl_ofNat (by omega)) (by simp <;> omega) (by simp) (nar_char ((by decide : ¬ (47 : Int32) < 0 ∧ ¬ 255 < (47 : Int32))).1 ((by decide : ¬ (47 : Int32) < 0 ∧ ¬ 255 < (47 : Int32))).2) d39_362 rfl ?_
  intro hp4 Khp4 zhp4 Vhp4
  rw [push_c (cs := (((cs ++ [dig m 2]) ++ [dig m 1]) ++ [dig m 0])) (by omega)] at Vhp4
  have V : Ech Z hp4 y ((((cs ++ [dig m 2]) ++ [dig m 1]) ++ [dig m 0]) ++ [47]) := ⟨ky, Vhp4⟩
  have K0 := K0.trans Khp4 (fun _ q => Or.inl q)
  refine go_iloadN (v := (Int32.ofNat ((((cs ++ [dig m 2]) ++ [dig m 1]) ++ [dig m 0]) ++ [47]).length)) (q := 364) d39_363 rfl rfl ?_
  have e : ((((cs ++ [dig m 2]) ++ [dig m 1]) ++ [dig m 0]) ++ [47]) = c1 ++ pnl p1 := by rw [hQ]; simp [dgs]
  rw [e] at V
  rw [e]
  show Go _ _ _ _ _ _ _ _ _ _ _ _ _ _ 364 #[.val (.ref y), .val (.int a1), .val (.int p2), .val (.int (Int32.ofNat (c1 ++ pnl p1).length)), .val (.long (Int64.ofNat m)), .second, .val (.int (3 : Int32))] [.int (Int32.ofNat (c1 ++ pnl p1).length)]
  exact go_ireturn H (G := []) (t := .int) rfl (by decide) rfl d39_364 (by decide) (by decide) (fun _ q => nomatch q) ⟨rfl, K0, V⟩
set_option maxRecDepth 65536 in
set_option maxHeartbeats 8000000 in
theorem jp158_4 {l : Launch} {Z : State} {a0 : Array Value} (H : Wd Z a0) {K : Cx} {h h1 : Heap} {y : Addr} {c1 cs : List Int32} {p1 p2 a1 : Int32} {m : Nat} (hm : m ≤ 2147483648) (V : Ech Z h y cs) (K0 : Keep h1 h [y]) (hl : cs.length ≤ 24) (hQ : c1 ++ pnl p1 = cs ++ (dgs m 4 ++ [47])) : GP l Z K h1 y c1 p1 h [y] 0 0 158 #[.val (.ref y), .val (.int a1), .val (.int p2), .val (.int (Int32.ofNat cs.length)), .val (.long (Int64.ofNat m)), .second, .val (.int (4 : Int32))] [] := by
  refine go_iload (v := (4 : Int32)) (q := 160) d39_158 rfl rfl ?_
  refine go_bipush (x := (10 : Int32)) (q := 162) d39_160 rfl rfl ?_
  refine go_icY (q := 179) d39_162 (by decide) (by decide) (by decide) ?_
  refine go_iload (v := (4 : Int32)) (q := 181) d39_179 rfl rfl ?_
  refine go_bipush (x := (9 : Int32)) (q := 183) d39_181 rfl rfl ?_
  refine go_icY (q := 200) d39_183 (by decide) (by decide) (by decide) ?_
  refine go_iload (v := (4 : Int32)) (q := 202) d39_200 rfl rfl ?_
  refine go_bipush (x := (8 : Int32)) (q := 204) d39_202 rfl rfl ?_
  refine go_icY (q := 221) d39_204 (by decide) (by decide) (by decide) ?_
  refine go_iload (v := (4 : Int32)) (q := 223) d39_221 rfl rfl ?_
  refine go_bipush (x := (7 : Int32)) (q := 225) d39_223 rfl rfl ?_
  refine go_icY (q := 242) d39_225 (by decide) (by decide) (by decide) ?_
  refine go_iload (v := (4 : Int32)) (q := 244) d39_242 rfl rfl ?_
  refine go_bipush (x := (6 : Int32)) (q := 246) d39_244 rfl rfl ?_
  refine go_icY (q := 263) d39_246 (by decide) (by decide) (by decide) ?_
  refine go_iload (v := (4 : Int32)) (q := 265) d39_263 rfl rfl ?_
  refine go_iconst (x := (5 : Int32)) (q := 266) d39_265 rfl rfl ?_
  refine go_icY (q := 283) d39_266 (by decide) (by decide) (by decide) ?_
  refine go_iload (v := (4 : Int32)) (q := 285) d39_283 rfl rfl ?_
  refine go_iconst (x := (4 : Int32)) (q := 286) d39_285 rfl rfl ?_
  refine go_icN (q := 289) d39_286 (by decide) rfl ?_
  refine go_aloadN (v := .ref y) (q := 290) d39_289 rfl rfl rfl ?_
  refine go_iloadN (v := (Int32.ofNat cs.length)) (q := 291) d39_290 rfl rfl ?_
  refine go_iinc (x := (Int32.ofNat cs.length)) (y := (Int32.ofNat (cs ++ [dig m 3]).length)) (L' := #[.val (.ref y), .val (.int a1), .val (.int p2), .val (.int (Int32.ofNat (cs ++ [dig m 3]).length)), .val (.long (Int64.ofNat m)), .second, .val (.int (4 : Int32))]) (q := 294) d39_291 rfl inc_push rfl rfl ?_
  refine go_lload (v := (Int64.ofNat m)) (q := 296) d39_294 rfl rfl ?_
  refine go_ldc2 (v := (1000 : Int64)) (q := 299) (w_247 H) d39_296 rfl ?_
  refine go_static (c' := 0) (s' := 0) (q := 302) (S := [.int (Int32.ofNat cs.length), .ref y]) (argsL := [.long (Int64.ofNat m), .long (1000 : Int64)]) H (w_207 H) (w_208 H) (w_204 H) (w_209 H) (by decide) (rm_dg H (e := 3) hm (by decide) (by first | rfl | decide)) rfl rfl (lenOf pd_33 rfl) (fun _ q => nomatch q) rfl (by decide) (Nat.le_of_ble_eq_true rfl) rfl rfl (by decide) (by decide) d39_299 rfl ?_
  rintro _ _ G - ⟨rfl, rfl⟩
  refine nx_ (v := none) ?_
  show Go _ _ _ _ _ _ _ _ _ _ _ _ _ _ 302 #[.val (.ref y), .val (.int a1), .val (.int p2), .val (.int (Int32.ofNat (cs ++ [dig m 3]).length)), .val (.long (Int64.ofNat m)), .second, .val (.int (4 : Int32))] [.int (dig m 3), .int (Int32.ofNat cs.length), .ref y]
  have hn1 := hl
  obtain ⟨ky, V⟩ := V
  refine go_castore (i := cs.length) (y := (dig m 3)) (q := 303) V ⟨nn_ofNat (by omega), (lt_ofNat (n := 40) (by omega) (by decide)).mpr (by omega)⟩ (cl_ofNat (by omega)) (by simp <;> omega) (by simp) (nar_char (dig_ok m 3).1 (dig_ok m 3).2) d39_302 rfl ?_
  intro hp1 Khp1 zhp1 Vhp1
  rw [push_c (cs := cs) (by omega)] at Vhp1
  have V : Ech Z hp1 y (cs ++ [dig m 3]) := ⟨ky, Vhp1⟩
  have K0 := K0.trans Khp1 (fun _ q => Or.inl q)
  refine go_iload (v := (4 : Int32)) (q := 305) d39_303 rfl rfl ?_
  refine go_iconst (x := (3 : Int32)) (q := 306) d39_305 rfl rfl ?_
  refine go_icN (q := 309) d39_306 (by decide) rfl ?_
  refine go_aloadN (v := .ref y) (q := 310) d39_309 rfl rfl rfl ?_
  refine go_iloadN (v := (Int32.ofNat (cs ++ [dig m 3]).length)) (q := 311) d39_310 rfl rfl ?_
  refine go_iinc (x := (Int32.ofNat (cs ++ [dig m 3]).length)) (y := (Int32.ofNat ((cs ++ [dig m 3]) ++ [dig m 2]).length)) (L' := #[.val (.ref y), .val (.int a1), .val (.int p2), .val (.int (Int32.ofNat ((cs ++ [dig m 3]) ++ [dig m 2]).length)), .val (.long (Int64.ofNat m)), .second, .val (.int (4 : Int32))]) (q := 314) d39_311 rfl inc_push rfl rfl ?_
  refine go_lload (v := (Int64.ofNat m)) (q := 316) d39_314 rfl rfl ?_
  refine go_ldc2 (v := (100 : Int64)) (q := 319) (w_246 H) d39_316 rfl ?_
  refine go_static (c' := 0) (s' := 0) (q := 322) (S := [.int (Int32.ofNat (cs ++ [dig m 3]).length), .ref y]) (argsL := [.long (Int64.ofNat m), .long (100 : Int64)]) H (w_207 H) (w_208 H) (w_204 H) (w_209 H) (by decide) (rm_dg H (e := 2) hm (by decide) (by first | rfl | decide)) rfl rfl (lenOf pd_33 rfl) (fun _ q => nomatch q) rfl (by decide) (Nat.le_of_ble_eq_true rfl) rfl rfl (by decide) (by decide) d39_319 rfl ?_
  rintro _ _ G - ⟨rfl, rfl⟩
  refine nx_ (v := none) ?_
  show Go _ _ _ _ _ _ _ _ _ _ _ _ _ _ 322 #[.val (.ref y), .val (.int a1), .val (.int p2), .val (.int (Int32.ofNat ((cs ++ [dig m 3]) ++ [dig m 2]).length)), .val (.long (Int64.ofNat m)), .second, .val (.int (4 : Int32))] [.int (dig m 2), .int (Int32.ofNat (cs ++ [dig m 3]).length), .ref y]
  have hn2 : (cs ++ [dig m 3]).length = cs.length + 1 := by simp
  obtain ⟨ky, V⟩ := V
  refine go_castore (i := (cs ++ [dig m 3]).length) (y := (dig m 2)) (q := 323) V ⟨nn_ofNat (by omega), (lt_ofNat (n := 40) (by omega) (by decide)).mpr (by omega)⟩ (cl_ofNat (by omega)) (by simp <;> omega) (by simp) (nar_char (dig_ok m 2).1 (dig_ok m 2).2) d39_322 rfl ?_
  intro hp2 Khp2 zhp2 Vhp2
  rw [push_c (cs := (cs ++ [dig m 3])) (by omega)] at Vhp2
  have V : Ech Z hp2 y ((cs ++ [dig m 3]) ++ [dig m 2]) := ⟨ky, Vhp2⟩
  have K0 := K0.trans Khp2 (fun _ q => Or.inl q)
  refine go_iload (v := (4 : Int32)) (q := 325) d39_323 rfl rfl ?_
  refine go_iconst (x := (2 : Int32)) (q := 326) d39_325 rfl rfl ?_
  refine go_icN (q := 329) d39_326 (by decide) rfl ?_
  refine go_aloadN (v := .ref y) (q := 330) d39_329 rfl rfl rfl ?_
  refine go_iloadN (v := (Int32.ofNat ((cs ++ [dig m 3]) ++ [dig m 2]).length)) (q := 331) d39_330 rfl rfl ?_
  refine go_iinc (x := (Int32.ofNat ((cs ++ [dig m 3]) ++ [dig m 2]).length)) (y := (Int32.ofNat (((cs ++ [dig m 3]) ++ [dig m 2]) ++ [dig m 1]).length)) (L' := #[.val (.ref y), .val (.int a1), .val (.int p2), .val (.int (Int32.ofNat (((cs ++ [dig m 3]) ++ [dig m 2]) ++ [dig m 1]).length)), .val (.long (Int64.ofNat m)), .second, .val (.int (4 : Int32))]) (q := 334) d39_331 rfl inc_push rfl rfl ?_
  refine go_lload (v := (Int64.ofNat m)) (q := 336) d39_334 rfl rfl ?_
  refine go_ldc2 (v := (10 : Int64)) (q := 339) (w_206 H) d39_336 rfl ?_
  refine go_static (c' := 0) (s' := 0) (q := 342) (S := [.int (Int32.ofNat ((cs ++ [dig m 3]) ++ [dig m 2]).length), .ref y]) (argsL := [.long (Int64.ofNat m), .long (10 : Int64)]) H (w_207 H) (w_208 H) (w_204 H) (w_209 H) (by decide) (rm_dg H (e := 1) hm (by decide) (by first | rfl | decide)) rfl rfl (lenOf pd_33 rfl) (fun _ q => nomatch q) rfl (by decide) (Nat.le_of_ble_eq_true rfl) rfl rfl (by decide) (by decide) d39_339 rfl ?_
  rintro _ _ G - ⟨rfl, rfl⟩
  refine nx_ (v := none) ?_
  show Go _ _ _ _ _ _ _ _ _ _ _ _ _ _ 342 #[.val (.ref y), .val (.int a1), .val (.int p2), .val (.int (Int32.ofNat (((cs ++ [dig m 3]) ++ [dig m 2]) ++ [dig m 1]).length)), .val (.long (Int64.ofNat m)), .second, .val (.int (4 : Int32))] [.int (dig m 1), .int (Int32.ofNat ((cs ++ [dig m 3]) ++ [dig m 2]).length), .ref y]
  have hn3 : ((cs ++ [dig m 3]) ++ [dig m 2]).length = cs.length + 2 := by simp
  obtain ⟨ky, V⟩ := V
  refine go_castore (i := ((cs ++ [dig m 3]) ++ [dig m 2]).length) (y := (dig m 1)) (q := 343) V ⟨nn_ofNat (by omega), (lt_ofNat (n := 40) (by omega) (by decide)).mpr (by omega)⟩ (cl_ofNat (by omega)) (by simp <;> omega) (by simp) (nar_char (dig_ok m 1).1 (dig_ok m 1).2) d39_342 rfl ?_
  intro hp3 Khp3 zhp3 Vhp3
  rw [push_c (cs := ((cs ++ [dig m 3]) ++ [dig m 2])) (by omega)] at Vhp3
  have V : Ech Z hp3 y (((cs ++ [dig m 3]) ++ [dig m 2]) ++ [dig m 1]) := ⟨ky, Vhp3⟩
  have K0 := K0.trans Khp3 (fun _ q => Or.inl q)
  refine go_aloadN (v := .ref y) (q := 344) d39_343 rfl rfl rfl ?_
  refine go_iloadN (v := (Int32.ofNat (((cs ++ [dig m 3]) ++ [dig m 2]) ++ [dig m 1]).length)) (q := 345) d39_344 rfl rfl ?_
  refine go_iinc (x := (Int32.ofNat (((cs ++ [dig m 3]) ++ [dig m 2]) ++ [dig m 1]).length)) (y := (Int32.ofNat ((((cs ++ [dig m 3]) ++ [dig m 2]) ++ [dig m 1]) ++ [dig m 0]).length)) (L' := #[.val (.ref y), .val (.int a1), .val (.int p2), .val (.int (Int32.ofNat ((((cs ++ [dig m 3]) ++ [dig m 2]) ++ [dig m 1]) ++ [dig m 0]).length)), .val (.long (Int64.ofNat m)), .second, .val (.int (4 : Int32))]) (q := 348) d39_345 rfl inc_push rfl rfl ?_
  refine go_lload (v := (Int64.ofNat m)) (q := 350) d39_348 rfl rfl ?_
  refine go_lconst (x := (1 : Int64)) (q := 351) d39_350 rfl rfl ?_
  refine go_static (c' := 0) (s' := 0) (q := 354) (S := [.int (Int32.ofNat (((cs ++ [dig m 3]) ++ [dig m 2]) ++ [dig m 1]).length), .ref y]) (argsL := [.long (Int64.ofNat m), .long (1 : Int64)]) H (w_207 H) (w_208 H) (w_204 H) (w_209 H) (by decide) (rm_dg H (e := 0) hm (by decide) (by first | rfl | decide)) rfl rfl (lenOf pd_33 rfl) (fun _ q => nomatch q) rfl (by decide) (Nat.le_of_ble_eq_true rfl) rfl rfl (by decide) (by decide) d39_351 rfl ?_
  rintro _ _ G - ⟨rfl, rfl⟩
  refine nx_ (v := none) ?_
  show Go _ _ _ _ _ _ _ _ _ _ _ _ _ _ 354 #[.val (.ref y), .val (.int a1), .val (.int p2), .val (.int (Int32.ofNat ((((cs ++ [dig m 3]) ++ [dig m 2]) ++ [dig m 1]) ++ [dig m 0]).length)), .val (.long (Int64.ofNat m)), .second, .val (.int (4 : Int32))] [.int (dig m 0), .int (Int32.ofNat (((cs ++ [dig m 3]) ++ [dig m 2]) ++ [dig m 1]).length), .ref y]
  have hn4 : (((cs ++ [dig m 3]) ++ [dig m 2]) ++ [dig m 1]).length = cs.length + 3 := by simp
  obtain ⟨ky, V⟩ := V
  refine go_castore (i := (((cs ++ [dig m 3]) ++ [dig m 2]) ++ [dig m 1]).length) (y := (dig m 0)) (q := 355) V ⟨nn_ofNat (by omega), (lt_ofNat (n := 40) (by omega) (by decide)).mpr (by omega)⟩ (cl_ofNat (by omega)) (by simp <;> omega) (by simp) (nar_char (dig_ok m 0).1 (dig_ok m 0).2) d39_354 rfl ?_
  intro hp4 Khp4 zhp4 Vhp4
  rw [push_c (cs := (((cs ++ [dig m 3]) ++ [dig m 2]) ++ [dig m 1])) (by omega)] at Vhp4
  have V : Ech Z hp4 y ((((cs ++ [dig m 3]) ++ [dig m 2]) ++ [dig m 1]) ++ [dig m 0]) := ⟨ky, Vhp4⟩
  have K0 := K0.trans Khp4 (fun _ q => Or.inl q)
  refine go_aloadN (v := .ref y) (q := 356) d39_355 rfl rfl rfl ?_
  refine go_iloadN (v := (Int32.ofNat ((((cs ++ [dig m 3]) ++ [dig m 2]) ++ [dig m 1]) ++ [dig m 0]).length)) (q := 357) d39_356 rfl rfl ?_
  refine go_iinc (x := (Int32.ofNat ((((cs ++ [dig m 3]) ++ [dig m 2]) ++ [dig m 1]) ++ [dig m 0]).length)) (y := (Int32.ofNat (((((cs ++ [dig m 3]) ++ [dig m 2]) ++ [dig m 1]) ++ [dig m 0]) ++ [47]).length)) (L' := #[.val (.ref y), .val (.int a1), .val (.int p2), .val (.int (Int32.ofNat (((((cs ++ [dig m 3]) ++ [dig m 2]) ++ [dig m 1]) ++ [dig m 0]) ++ [47]).length)), .val (.long (Int64.ofNat m)), .second, .val (.int (4 : Int32))]) (q := 360) d39_357 rfl inc_push rfl rfl ?_
  refine go_bipush (x := (47 : Int32)) (q := 362) d39_360 rfl rfl ?_
  have hn5 : ((((cs ++ [dig m 3]) ++ [dig m 2]) ++ [dig m 1]) ++ [dig m 0]).length = cs.length + 4 := by simp
  obtain ⟨ky, V⟩ := V
  refine go_castore (i := ((((cs ++ [dig m 3]) ++ [dig m 2]) ++ [dig m 1]) ++ [dig m 0]).length) (y := 47) (q := 363) V ⟨nn_ofNat (by omega), (lt_ofNat (n := 40) (by omega) (by decide)).mpr (by omega)⟩ (cl_ofNat (by omega)) (by simp <;> omega) (by simp) (nar_char ((by decide : ¬ (47 : Int32) < 0 ∧ ¬ 255 < (47 : Int32))).1 ((by decide : ¬ (47 : Int32) < 0 ∧ ¬ 255 < (47 : Int32))).2) d39_362 rfl ?_
  intro hp5 Khp5 zhp5 Vhp5
  rw [push_c (cs := ((((cs ++ [dig m 3]) ++ [dig m 2]) ++ [dig m 1]) ++ [dig m 0])) (by omega)] at Vhp5
  have V : Ech Z hp5 y (((((cs ++ [dig m 3]) ++ [dig m 2]) ++ [dig m 1]) ++ [dig m 0]) ++ [47]) := ⟨ky, Vhp5⟩
  have K0 := K0.trans Khp5 (fun _ q => Or.inl q)
  refine go_iloadN (v := (Int32.ofNat (((((cs ++ [dig m 3]) ++ [dig m 2]) ++ [dig m 1]) ++ [dig m 0]) ++ [47]).length)) (q := 364) d39_363 rfl rfl ?_
  have e : (((((cs ++ [dig m 3]) ++ [dig m 2]) ++ [dig m 1]) ++ [dig m 0]) ++ [47]) = c1 ++ pnl p1 := by rw [hQ]; simp [dgs]
  rw [e] at V
  rw [e]
  show Go _ _ _ _ _ _ _ _ _ _ _ _ _ _ 364 #[.val (.ref y), .val (.int a1), .val (.int p2), .val (.int (Int32.ofNat (c1 ++ pnl p1).length)), .val (.long (Int64.ofNat m)), .second, .val (.int (4 : Int32))] [.int (Int32.ofNat (c1 ++ pnl p1).length)]
  exact go_ireturn H (G := []) (t := .int) rfl (by decide) rfl d39_364 (by decide) (by decide) (fun _ q => nomatch q) ⟨rfl, K0, V⟩
set_option maxRecDepth 65536 in
set_option maxHeartbeats 8000000 in
theorem jp158_5 {l : Launch} {Z : State} {a0 : Array Value} (H : Wd Z a0) {K : Cx} {h h1 : Heap} {y : Addr} {c1 cs : List Int32} {p1 p2 a1 : Int32} {m : Nat} (hm : m ≤ 2147483648) (V : Ech Z h y cs) (K0 : Keep h1 h [y]) (hl : cs.length ≤ 24) (hQ : c1 ++ pnl p1 = cs ++ (dgs m 5 ++ [47])) : GP l Z K h1 y c1 p1 h [y] 0 0 158 #[.val (.ref y), .val (.int a1), .val (.int p2), .val (.int (Int32.ofNat cs.length)), .val (.long (Int64.ofNat m)), .second, .val (.int (5 : Int32))] [] := by
  refine go_iload (v := (5 : Int32)) (q := 160) d39_158 rfl rfl ?_
  refine go_bipush (x := (10 : Int32)) (q := 162) d39_160 rfl rfl ?_
  refine go_icY (q := 179) d39_162 (by decide) (by decide) (by decide) ?_
  refine go_iload (v := (5 : Int32)) (q := 181) d39_179 rfl rfl ?_
  refine go_bipush (x := (9 : Int32)) (q := 183) d39_181 rfl rfl ?_
  refine go_icY (q := 200) d39_183 (by decide) (by decide) (by decide) ?_
  refine go_iload (v := (5 : Int32)) (q := 202) d39_200 rfl rfl ?_
  refine go_bipush (x := (8 : Int32)) (q := 204) d39_202 rfl rfl ?_
  refine go_icY (q := 221) d39_204 (by decide) (by decide) (by decide) ?_
  refine go_iload (v := (5 : Int32)) (q := 223) d39_221 rfl rfl ?_
  refine go_bipush (x := (7 : Int32)) (q := 225) d39_223 rfl rfl ?_
  refine go_icY (q := 242) d39_225 (by decide) (by decide) (by decide) ?_
  refine go_iload (v := (5 : Int32)) (q := 244) d39_242 rfl rfl ?_
  refine go_bipush (x := (6 : Int32)) (q := 246) d39_244 rfl rfl ?_
  refine go_icY (q := 263) d39_246 (by decide) (by decide) (by decide) ?_
  refine go_iload (v := (5 : Int32)) (q := 265) d39_263 rfl rfl ?_
  refine go_iconst (x := (5 : Int32)) (q := 266) d39_265 rfl rfl ?_
  refine go_icN (q := 269) d39_266 (by decide) rfl ?_
  refine go_aloadN (v := .ref y) (q := 270) d39_269 rfl rfl rfl ?_
  refine go_iloadN (v := (Int32.ofNat cs.length)) (q := 271) d39_270 rfl rfl ?_
  refine go_iinc (x := (Int32.ofNat cs.length)) (y := (Int32.ofNat (cs ++ [dig m 4]).length)) (L' := #[.val (.ref y), .val (.int a1), .val (.int p2), .val (.int (Int32.ofNat (cs ++ [dig m 4]).length)), .val (.long (Int64.ofNat m)), .second, .val (.int (5 : Int32))]) (q := 274) d39_271 rfl inc_push rfl rfl ?_
  refine go_lload (v := (Int64.ofNat m)) (q := 276) d39_274 rfl rfl ?_
  refine go_ldc2 (v := (10000 : Int64)) (q := 279) (w_248 H) d39_276 rfl ?_
  refine go_static (c' := 0) (s' := 0) (q := 282) (S := [.int (Int32.ofNat cs.length), .ref y]) (argsL := [.long (Int64.ofNat m), .long (10000 : Int64)]) H (w_207 H) (w_208 H) (w_204 H) (w_209 H) (by decide) (rm_dg H (e := 4) hm (by decide) (by first | rfl | decide)) rfl rfl (lenOf pd_33 rfl) (fun _ q => nomatch q) rfl (by decide) (Nat.le_of_ble_eq_true rfl) rfl rfl (by decide) (by decide) d39_279 rfl ?_
  rintro _ _ G - ⟨rfl, rfl⟩
  refine nx_ (v := none) ?_
  show Go _ _ _ _ _ _ _ _ _ _ _ _ _ _ 282 #[.val (.ref y), .val (.int a1), .val (.int p2), .val (.int (Int32.ofNat (cs ++ [dig m 4]).length)), .val (.long (Int64.ofNat m)), .second, .val (.int (5 : Int32))] [.int (dig m 4), .int (Int32.ofNat cs.length), .ref y]
  have hn1 := hl
  obtain ⟨ky, V⟩ := V
  refine go_castore (i := cs.length) (y := (dig m 4)) (q := 283) V ⟨nn_ofNat (by omega), (lt_ofNat (n := 40) (by omega) (by decide)).mpr (by omega)⟩ (cl_ofNat (by omega)) (by simp <;> omega) (by simp) (nar_char (dig_ok m 4).1 (dig_ok m 4).2) d39_282 rfl ?_
  intro hp1 Khp1 zhp1 Vhp1
  rw [push_c (cs := cs) (by omega)] at Vhp1
  have V : Ech Z hp1 y (cs ++ [dig m 4]) := ⟨ky, Vhp1⟩
  have K0 := K0.trans Khp1 (fun _ q => Or.inl q)
  refine go_iload (v := (5 : Int32)) (q := 285) d39_283 rfl rfl ?_
  refine go_iconst (x := (4 : Int32)) (q := 286) d39_285 rfl rfl ?_
  refine go_icN (q := 289) d39_286 (by decide) rfl ?_
  refine go_aloadN (v := .ref y) (q := 290) d39_289 rfl rfl rfl ?_
  refine go_iloadN (v := (Int32.ofNat (cs ++ [dig m 4]).length)) (q := 291) d39_290 rfl rfl ?_
  refine go_iinc (x := (Int32.ofNat (cs ++ [dig m 4]).length)) (y := (Int32.ofNat ((cs ++ [dig m 4]) ++ [dig m 3]).length)) (L' := #[.val (.ref y), .val (.int a1), .val (.int p2), .val (.int (Int32.ofNat ((cs ++ [dig m 4]) ++ [dig m 3]).length)), .val (.long (Int64.ofNat m)), .second, .val (.int (5 : Int32))]) (q := 294) d39_291 rfl inc_push rfl rfl ?_
  refine go_lload (v := (Int64.ofNat m)) (q := 296) d39_294 rfl rfl ?_
  refine go_ldc2 (v := (1000 : Int64)) (q := 299) (w_247 H) d39_296 rfl ?_
  refine go_static (c' := 0) (s' := 0) (q := 302) (S := [.int (Int32.ofNat (cs ++ [dig m 4]).length), .ref y]) (argsL := [.long (Int64.ofNat m), .long (1000 : Int64)]) H (w_207 H) (w_208 H) (w_204 H) (w_209 H) (by decide) (rm_dg H (e := 3) hm (by decide) (by first | rfl | decide)) rfl rfl (lenOf pd_33 rfl) (fun _ q => nomatch q) rfl (by decide) (Nat.le_of_ble_eq_true rfl) rfl rfl (by decide) (by decide) d39_299 rfl ?_
  rintro _ _ G - ⟨rfl, rfl⟩
  refine nx_ (v := none) ?_
  show Go _ _ _ _ _ _ _ _ _ _ _ _ _ _ 302 #[.val (.ref y), .val (.int a1), .val (.int p2), .val (.int (Int32.ofNat ((cs ++ [dig m 4]) ++ [dig m 3]).length)), .val (.long (Int64.ofNat m)), .second, .val (.int (5 : Int32))] [.int (dig m 3), .int (Int32.ofNat (cs ++ [dig m 4]).length), .ref y]
  have hn2 : (cs ++ [dig m 4]).length = cs.length + 1 := by simp
  obtain ⟨ky, V⟩ := V
  refine go_castore (i := (cs ++ [dig m 4]).length) (y := (dig m 3)) (q := 303) V ⟨nn_ofNat (by omega), (lt_ofNat (n := 40) (by omega) (by decide)).mpr (by omega)⟩ (cl_ofNat (by omega)) (by simp <;> omega) (by simp) (nar_char (dig_ok m 3).1 (dig_ok m 3).2) d39_302 rfl ?_
  intro hp2 Khp2 zhp2 Vhp2
  rw [push_c (cs := (cs ++ [dig m 4])) (by omega)] at Vhp2
  have V : Ech Z hp2 y ((cs ++ [dig m 4]) ++ [dig m 3]) := ⟨ky, Vhp2⟩
  have K0 := K0.trans Khp2 (fun _ q => Or.inl q)
  refine go_iload (v := (5 : Int32)) (q := 305) d39_303 rfl rfl ?_
  refine go_iconst (x := (3 : Int32)) (q := 306) d39_305 rfl rfl ?_
  refine go_icN (q := 309) d39_306 (by decide) rfl ?_
  refine go_aloadN (v := .ref y) (q := 310) d39_309 rfl rfl rfl ?_
  refine go_iloadN (v := (Int32.ofNat ((cs ++ [dig m 4]) ++ [dig m 3]).length)) (q := 311) d39_310 rfl rfl ?_
  refine go_iinc (x := (Int32.ofNat ((cs ++ [dig m 4]) ++ [dig m 3]).length)) (y := (Int32.ofNat (((cs ++ [dig m 4]) ++ [dig m 3]) ++ [dig m 2]).length)) (L' := #[.val (.ref y), .val (.int a1), .val (.int p2), .val (.int (Int32.ofNat (((cs ++ [dig m 4]) ++ [dig m 3]) ++ [dig m 2]).length)), .val (.long (Int64.ofNat m)), .second, .val (.int (5 : Int32))]) (q := 314) d39_311 rfl inc_push rfl rfl ?_
  refine go_lload (v := (Int64.ofNat m)) (q := 316) d39_314 rfl rfl ?_
  refine go_ldc2 (v := (100 : Int64)) (q := 319) (w_246 H) d39_316 rfl ?_
  refine go_static (c' := 0) (s' := 0) (q := 322) (S := [.int (Int32.ofNat ((cs ++ [dig m 4]) ++ [dig m 3]).length), .ref y]) (argsL := [.long (Int64.ofNat m), .long (100 : Int64)]) H (w_207 H) (w_208 H) (w_204 H) (w_209 H) (by decide) (rm_dg H (e := 2) hm (by decide) (by first | rfl | decide)) rfl rfl (lenOf pd_33 rfl) (fun _ q => nomatch q) rfl (by decide) (Nat.le_of_ble_eq_true rfl) rfl rfl (by decide) (by decide) d39_319 rfl ?_
  rintro _ _ G - ⟨rfl, rfl⟩
  refine nx_ (v := none) ?_
  show Go _ _ _ _ _ _ _ _ _ _ _ _ _ _ 322 #[.val (.ref y), .val (.int a1), .val (.int p2), .val (.int (Int32.ofNat (((cs ++ [dig m 4]) ++ [dig m 3]) ++ [dig m 2]).length)), .val (.long (Int64.ofNat m)), .second, .val (.int (5 : Int32))] [.int (dig m 2), .int (Int32.ofNat ((cs ++ [dig m 4]) ++ [dig m 3]).length), .ref y]
  have hn3 : ((cs ++ [dig m 4]) ++ [dig m 3]).length = cs.length + 2 := by simp
  obtain ⟨ky, V⟩ := V
  refine go_castore (i := ((cs ++ [dig m 4]) ++ [dig m 3]).length) (y := (dig m 2)) (q := 323) V ⟨nn_ofNat (by omega), (lt_ofNat (n := 40) (by omega) (by decide)).mpr (by omega)⟩ (cl_ofNat (by omega)) (by simp <;> omega) (by simp) (nar_char (dig_ok m 2).1 (dig_ok m 2).2) d39_322 rfl ?_
  intro hp3 Khp3 zhp3 Vhp3
  rw [push_c (cs := ((cs ++ [dig m 4]) ++ [dig m 3])) (by omega)] at Vhp3
  have V : Ech Z hp3 y (((cs ++ [dig m 4]) ++ [dig m 3]) ++ [dig m 2]) := ⟨ky, Vhp3⟩
  have K0 := K0.trans Khp3 (fun _ q => Or.inl q)
  refine go_iload (v := (5 : Int32)) (q := 325) d39_323 rfl rfl ?_
  refine go_iconst (x := (2 : Int32)) (q := 326) d39_325 rfl rfl ?_
  refine go_icN (q := 329) d39_326 (by decide) rfl ?_
  refine go_aloadN (v := .ref y) (q := 330) d39_329 rfl rfl rfl ?_
  refine go_iloadN (v := (Int32.ofNat (((cs ++ [dig m 4]) ++ [dig m 3]) ++ [dig m 2]).length)) (q := 331) d39_330 rfl rfl ?_
  refine go_iinc (x := (Int32.ofNat (((cs ++ [dig m 4]) ++ [dig m 3]) ++ [dig m 2]).length)) (y := (Int32.ofNat ((((cs ++ [dig m 4]) ++ [dig m 3]) ++ [dig m 2]) ++ [dig m 1]).length)) (L' := #[.val (.ref y), .val (.int a1), .val (.int p2), .val (.int (Int32.ofNat ((((cs ++ [dig m 4]) ++ [dig m 3]) ++ [dig m 2]) ++ [dig m 1]).length)), .val (.long (Int64.ofNat m)), .second, .val (.int (5 : Int32))]) (q := 334) d39_331 rfl inc_push rfl rfl ?_
  refine go_lload (v := (Int64.ofNat m)) (q := 336) d39_334 rfl rfl ?_
  refine go_ldc2 (v := (10 : Int64)) (q := 339) (w_206 H) d39_336 rfl ?_
  refine go_static (c' := 0) (s' := 0) (q := 342) (S := [.int (Int32.ofNat (((cs ++ [dig m 4]) ++ [dig m 3]) ++ [dig m 2]).length), .ref y]) (argsL := [.long (Int64.ofNat m), .long (10 : Int64)]) H (w_207 H) (w_208 H) (w_204 H) (w_209 H) (by decide) (rm_dg H (e := 1) hm (by decide) (by first | rfl | decide)) rfl rfl (lenOf pd_33 rfl) (fun _ q => nomatch q) rfl (by decide) (Nat.le_of_ble_eq_true rfl) rfl rfl (by decide) (by decide) d39_339 rfl ?_
  rintro _ _ G - ⟨rfl, rfl⟩
  refine nx_ (v := none) ?_
  show Go _ _ _ _ _ _ _ _ _ _ _ _ _ _ 342 #[.val (.ref y), .val (.int a1), .val (.int p2), .val (.int (Int32.ofNat ((((cs ++ [dig m 4]) ++ [dig m 3]) ++ [dig m 2]) ++ [dig m 1]).length)), .val (.long (Int64.ofNat m)), .second, .val (.int (5 : Int32))] [.int (dig m 1), .int (Int32.ofNat (((cs ++ [dig m 4]) ++ [dig m 3]) ++ [dig m 2]).length), .ref y]
  have hn4 : (((cs ++ [dig m 4]) ++ [dig m 3]) ++ [dig m 2]).length = cs.length + 3 := by simp
  obtain ⟨ky, V⟩ := V
  refine go_castore (i := (((cs ++ [dig m 4]) ++ [dig m 3]) ++ [dig m 2]).length) (y := (dig m 1)) (q := 343) V ⟨nn_ofNat (by omega), (lt_ofNat (n := 40) (by omega) (by decide)).mpr (by omega)⟩ (cl_ofNat (by omega)) (by simp <;> omega) (by simp) (nar_char (dig_ok m 1).1 (dig_ok m 1).2) d39_342 rfl ?_
  intro hp4 Khp4 zhp4 Vhp4
  rw [push_c (cs := (((cs ++ [dig m 4]) ++ [dig m 3]) ++ [dig m 2])) (by omega)] at Vhp4
  have V : Ech Z hp4 y ((((cs ++ [dig m 4]) ++ [dig m 3]) ++ [dig m 2]) ++ [dig m 1]) := ⟨ky, Vhp4⟩
  have K0 := K0.trans Khp4 (fun _ q => Or.inl q)
  refine go_aloadN (v := .ref y) (q := 344) d39_343 rfl rfl rfl ?_
  refine go_iloadN (v := (Int32.ofNat ((((cs ++ [dig m 4]) ++ [dig m 3]) ++ [dig m 2]) ++ [dig m 1]).length)) (q := 345) d39_344 rfl rfl ?_
  refine go_iinc (x := (Int32.ofNat ((((cs ++ [dig m 4]) ++ [dig m 3]) ++ [dig m 2]) ++ [dig m 1]).length)) (y := (Int32.ofNat (((((cs ++ [dig m 4]) ++ [dig m 3]) ++ [dig m 2]) ++ [dig m 1]) ++ [dig m 0]).length)) (L' := #[.val (.ref y), .val (.int a1), .val (.int p2), .val (.int (Int32.ofNat (((((cs ++ [dig m 4]) ++ [dig m 3]) ++ [dig m 2]) ++ [dig m 1]) ++ [dig m 0]).length)), .val (.long (Int64.ofNat m)), .second, .val (.int (5 : Int32))]) (q := 348) d39_345 rfl inc_push rfl rfl ?_
  refine go_lload (v := (Int64.ofNat m)) (q := 350) d39_348 rfl rfl ?_
  refine go_lconst (x := (1 : Int64)) (q := 351) d39_350 rfl rfl ?_
  refine go_static (c' := 0) (s' := 0) (q := 354) (S := [.int (Int32.ofNat ((((cs ++ [dig m 4]) ++ [dig m 3]) ++ [dig m 2]) ++ [dig m 1]).length), .ref y]) (argsL := [.long (Int64.ofNat m), .long (1 : Int64)]) H (w_207 H) (w_208 H) (w_204 H) (w_209 H) (by decide) (rm_dg H (e := 0) hm (by decide) (by first | rfl | decide)) rfl rfl (lenOf pd_33 rfl) (fun _ q => nomatch q) rfl (by decide) (Nat.le_of_ble_eq_true rfl) rfl rfl (by decide) (by decide) d39_351 rfl ?_
  rintro _ _ G - ⟨rfl, rfl⟩
  refine nx_ (v := none) ?_
  show Go _ _ _ _ _ _ _ _ _ _ _ _ _ _ 354 #[.val (.ref y), .val (.int a1), .val (.int p2), .val (.int (Int32.ofNat (((((cs ++ [dig m 4]) ++ [dig m 3]) ++ [dig m 2]) ++ [dig m 1]) ++ [dig m 0]).length)), .val (.long (Int64.ofNat m)), .second, .val (.int (5 : Int32))] [.int (dig m 0), .int (Int32.ofNat ((((cs ++ [dig m 4]) ++ [dig m 3]) ++ [dig m 2]) ++ [dig m 1]).length), .ref y]
  have hn5 : ((((cs ++ [dig m 4]) ++ [dig m 3]) ++ [dig m 2]) ++ [dig m 1]).length = cs.length + 4 := by simp
  obtain ⟨ky, V⟩ := V
  refine go_castore (i := ((((cs ++ [dig m 4]) ++ [dig m 3]) ++ [dig m 2]) ++ [dig m 1]).length) (y := (dig m 0)) (q := 355) V ⟨nn_ofNat (by omega), (lt_ofNat (n := 40) (by omega) (by decide)).mpr (by omega)⟩ (cl_ofNat (by omega)) (by simp <;> omega) (by simp) (nar_char (dig_ok m 0).1 (dig_ok m 0).2) d39_354 rfl ?_
  intro hp5 Khp5 zhp5 Vhp5
  rw [push_c (cs := ((((cs ++ [dig m 4]) ++ [dig m 3]) ++ [dig m 2]) ++ [dig m 1])) (by omega)] at Vhp5
  have V : Ech Z hp5 y (((((cs ++ [dig m 4]) ++ [dig m 3]) ++ [dig m 2]) ++ [dig m 1]) ++ [dig m 0]) := ⟨ky, Vhp5⟩
  have K0 := K0.trans Khp5 (fun _ q => Or.inl q)
  refine go_aloadN (v := .ref y) (q := 356) d39_355 rfl rfl rfl ?_
  refine go_iloadN (v := (Int32.ofNat (((((cs ++ [dig m 4]) ++ [dig m 3]) ++ [dig m 2]) ++ [dig m 1]) ++ [dig m 0]).length)) (q := 357) d39_356 rfl rfl ?_
  refine go_iinc (x := (Int32.ofNat (((((cs ++ [dig m 4]) ++ [dig m 3]) ++ [dig m 2]) ++ [dig m 1]) ++ [dig m 0]).length)) (y := (Int32.ofNat ((((((cs ++ [dig m 4]) ++ [dig m 3]) ++ [dig m 2]) ++ [dig m 1]) ++ [dig m 0]) ++ [47]).length)) (L' := #[.val (.ref y), .val (.int a1), .val (.int p2), .val (.int (Int32.ofNat ((((((cs ++ [dig m 4]) ++ [dig m 3]) ++ [dig m 2]) ++ [dig m 1]) ++ [dig m 0]) ++ [47]).length)), .val (.long (Int64.ofNat m)), .second, .val (.int (5 : Int32))]) (q := 360) d39_357 rfl inc_push rfl rfl ?_
  refine go_bipush (x := (47 : Int32)) (q := 362) d39_360 rfl rfl ?_
  have hn6 : (((((cs ++ [dig m 4]) ++ [dig m 3]) ++ [dig m 2]) ++ [dig m 1]) ++ [dig m 0]).length = cs.length + 5 := by simp
  obtain ⟨ky, V⟩ := V
  refine go_castore (i := (((((cs ++ [dig m 4]) ++ [dig m 3]) ++ [dig m 2]) ++ [dig m 1]) ++ [dig m 0]).length) (y := 47) (q := 363) V ⟨nn_ofNat (by omega), (lt_ofNat (n := 40) (by omega) (by decide)).mpr (by omega)⟩ (cl_ofNat (by omega)) (by simp <;> omega) (by simp) (nar_char ((by decide : ¬ (47 : Int32) < 0 ∧ ¬ 255 < (47 : Int32))).1 ((by decide : ¬ (47 : Int32) < 0 ∧ ¬ 255 < (47 : Int32))).2) d39_362 rfl ?_
  intro hp6 Khp6 zhp6 Vhp6
  rw [push_c (cs := (((((cs ++ [dig m 4]) ++ [dig m 3]) ++ [dig m 2]) ++ [dig m 1]) ++ [dig m 0])) (by omega)] at Vhp6
  have V : Ech Z hp6 y ((((((cs ++ [dig m 4]) ++ [dig m 3]) ++ [dig m 2]) ++ [dig m 1]) ++ [dig m 0]) ++ [47]) := ⟨ky, Vhp6⟩
  have K0 := K0.trans Khp6 (fun _ q => Or.inl q)
  refine go_iloadN (v := (Int32.ofNat ((((((cs ++ [dig m 4]) ++ [dig m 3]) ++ [dig m 2]) ++ [dig m 1]) ++ [dig m 0]) ++ [47]).length)) (q := 364) d39_363 rfl rfl ?_
  have e : ((((((cs ++ [dig m 4]) ++ [dig m 3]) ++ [dig m 2]) ++ [dig m 1]) ++ [dig m 0]) ++ [47]) = c1 ++ pnl p1 := by rw [hQ]; simp [dgs]
  rw [e] at V
  rw [e]
  show Go _ _ _ _ _ _ _ _ _ _ _ _ _ _ 364 #[.val (.ref y), .val (.int a1), .val (.int p2), .val (.int (Int32.ofNat (c1 ++ pnl p1).length)), .val (.long (Int64.ofNat m)), .second, .val (.int (5 : Int32))] [.int (Int32.ofNat (c1 ++ pnl p1).length)]
  exact go_ireturn H (G := []) (t := .int) rfl (by decide) rfl d39_364 (by decide) (by decide) (fun _ q => nomatch q) ⟨rfl, K0, V⟩
set_option maxRecDepth 65536 in
set_option maxHeartbeats 8000000 in
theorem jp158_6 {l : Launch} {Z : State} {a0 : Array Value} (H : Wd Z a0) {K : Cx} {h h1 : Heap} {y : Addr} {c1 cs : List Int32} {p1 p2 a1 : Int32} {m : Nat} (hm : m ≤ 2147483648) (V : Ech Z h y cs) (K0 : Keep h1 h [y]) (hl : cs.length ≤ 24) (hQ : c1 ++ pnl p1 = cs ++ (dgs m 6 ++ [47])) : GP l Z K h1 y c1 p1 h [y] 0 0 158 #[.val (.ref y), .val (.int a1), .val (.int p2), .val (.int (Int32.ofNat cs.length)), .val (.long (Int64.ofNat m)), .second, .val (.int (6 : Int32))] [] := by
  refine go_iload (v := (6 : Int32)) (q := 160) d39_158 rfl rfl ?_
  refine go_bipush (x := (10 : Int32)) (q := 162) d39_160 rfl rfl ?_
  refine go_icY (q := 179) d39_162 (by decide) (by decide) (by decide) ?_
  refine go_iload (v := (6 : Int32)) (q := 181) d39_179 rfl rfl ?_
  refine go_bipush (x := (9 : Int32)) (q := 183) d39_181 rfl rfl ?_
  refine go_icY (q := 200) d39_183 (by decide) (by decide) (by decide) ?_
  refine go_iload (v := (6 : Int32)) (q := 202) d39_200 rfl rfl ?_
  refine go_bipush (x := (8 : Int32)) (q := 204) d39_202 rfl rfl ?_
  refine go_icY (q := 221) d39_204 (by decide) (by decide) (by decide) ?_
  refine go_iload (v := (6 : Int32)) (q := 223) d39_221 rfl rfl ?_
  refine go_bipush (x := (7 : Int32)) (q := 225) d39_223 rfl rfl ?_
  refine go_icY (q := 242) d39_225 (by decide) (by decide) (by decide) ?_
  refine go_iload (v := (6 : Int32)) (q := 244) d39_242 rfl rfl ?_
  refine go_bipush (x := (6 : Int32)) (q := 246) d39_244 rfl rfl ?_
  refine go_icN (q := 249) d39_246 (by decide) rfl ?_
  refine go_aloadN (v := .ref y) (q := 250) d39_249 rfl rfl rfl ?_
  refine go_iloadN (v := (Int32.ofNat cs.length)) (q := 251) d39_250 rfl rfl ?_
  refine go_iinc (x := (Int32.ofNat cs.length)) (y := (Int32.ofNat (cs ++ [dig m 5]).length)) (L' := #[.val (.ref y), .val (.int a1), .val (.int p2), .val (.int (Int32.ofNat (cs ++ [dig m 5]).length)), .val (.long (Int64.ofNat m)), .second, .val (.int (6 : Int32))]) (q := 254) d39_251 rfl inc_push rfl rfl ?_
  refine go_lload (v := (Int64.ofNat m)) (q := 256) d39_254 rfl rfl ?_
  refine go_ldc2 (v := (100000 : Int64)) (q := 259) (w_249 H) d39_256 rfl ?_
  refine go_static (c' := 0) (s' := 0) (q := 262) (S := [.int (Int32.ofNat cs.length), .ref y]) (argsL := [.long (Int64.ofNat m), .long (100000 : Int64)]) H (w_207 H) (w_208 H) (w_204 H) (w_209 H) (by decide) (rm_dg H (e := 5) hm (by decide) (by first | rfl | decide)) rfl rfl (lenOf pd_33 rfl) (fun _ q => nomatch q) rfl (by decide) (Nat.le_of_ble_eq_true rfl) rfl rfl (by decide) (by decide) d39_259 rfl ?_
  rintro _ _ G - ⟨rfl, rfl⟩
  refine nx_ (v := none) ?_
  show Go _ _ _ _ _ _ _ _ _ _ _ _ _ _ 262 #[.val (.ref y), .val (.int a1), .val (.int p2), .val (.int (Int32.ofNat (cs ++ [dig m 5]).length)), .val (.long (Int64.ofNat m)), .second, .val (.int (6 : Int32))] [.int (dig m 5), .int (Int32.ofNat cs.length), .ref y]
  have hn1 := hl
  obtain ⟨ky, V⟩ := V
  refine go_castore (i := cs.length) (y := (dig m 5)) (q := 263) V ⟨nn_ofNat (by omega), (lt_ofNat (n := 40) (by omega) (by decide)).mpr (by omega)⟩ (cl_ofNat (by omega)) (by simp <;> omega) (by simp) (nar_char (dig_ok m 5).1 (dig_ok m 5).2) d39_262 rfl ?_
  intro hp1 Khp1 zhp1 Vhp1
  rw [push_c (cs := cs) (by omega)] at Vhp1
  have V : Ech Z hp1 y (cs ++ [dig m 5]) := ⟨ky, Vhp1⟩
  have K0 := K0.trans Khp1 (fun _ q => Or.inl q)
  refine go_iload (v := (6 : Int32)) (q := 265) d39_263 rfl rfl ?_
  refine go_iconst (x := (5 : Int32)) (q := 266) d39_265 rfl rfl ?_
  refine go_icN (q := 269) d39_266 (by decide) rfl ?_
  refine go_aloadN (v := .ref y) (q := 270) d39_269 rfl rfl rfl ?_
  refine go_iloadN (v := (Int32.ofNat (cs ++ [dig m 5]).length)) (q := 271) d39_270 rfl rfl ?_
  refine go_iinc (x := (Int32.ofNat (cs ++ [dig m 5]).length)) (y := (Int32.ofNat ((cs ++ [dig m 5]) ++ [dig m 4]).length)) (L' := #[.val (.ref y), .val (.int a1), .val (.int p2), .val (.int (Int32.ofNat ((cs ++ [dig m 5]) ++ [dig m 4]).length)), .val (.long (Int64.ofNat m)), .second, .val (.int (6 : Int32))]) (q := 274) d39_271 rfl inc_push rfl rfl ?_
  refine go_lload (v := (Int64.ofNat m)) (q := 276) d39_274 rfl rfl ?_
  refine go_ldc2 (v := (10000 : Int64)) (q := 279) (w_248 H) d39_276 rfl ?_
  refine go_static (c' := 0) (s' := 0) (q := 282) (S := [.int (Int32.ofNat (cs ++ [dig m 5]).length), .ref y]) (argsL := [.long (Int64.ofNat m), .long (10000 : Int64)]) H (w_207 H) (w_208 H) (w_204 H) (w_209 H) (by decide) (rm_dg H (e := 4) hm (by decide) (by first | rfl | decide)) rfl rfl (lenOf pd_33 rfl) (fun _ q => nomatch q) rfl (by decide) (Nat.le_of_ble_eq_true rfl) rfl rfl (by decide) (by decide) d39_279 rfl ?_
  rintro _ _ G - ⟨rfl, rfl⟩
  refine nx_ (v := none) ?_
  show Go _ _ _ _ _ _ _ _ _ _ _ _ _ _ 282 #[.val (.ref y), .val (.int a1), .val (.int p2), .val (.int (Int32.ofNat ((cs ++ [dig m 5]) ++ [dig m 4]).length)), .val (.long (Int64.ofNat m)), .second, .val (.int (6 : Int32))] [.int (dig m 4), .int (Int32.ofNat (cs ++ [dig m 5]).length), .ref y]
  have hn2 : (cs ++ [dig m 5]).length = cs.length + 1 := by simp
  obtain ⟨ky, V⟩ := V
  refine go_castore (i := (cs ++ [dig m 5]).length) (y := (dig m 4)) (q := 283) V ⟨nn_ofNat (by omega), (lt_ofNat (n := 40) (by omega) (by decide)).mpr (by omega)⟩ (cl_ofNat (by omega)) (by simp <;> omega) (by simp) (nar_char (dig_ok m 4).1 (dig_ok m 4).2) d39_282 rfl ?_
  intro hp2 Khp2 zhp2 Vhp2
  rw [push_c (cs := (cs ++ [dig m 5])) (by omega)] at Vhp2
  have V : Ech Z hp2 y ((cs ++ [dig m 5]) ++ [dig m 4]) := ⟨ky, Vhp2⟩
  have K0 := K0.trans Khp2 (fun _ q => Or.inl q)
  refine go_iload (v := (6 : Int32)) (q := 285) d39_283 rfl rfl ?_
  refine go_iconst (x := (4 : Int32)) (q := 286) d39_285 rfl rfl ?_
  refine go_icN (q := 289) d39_286 (by decide) rfl ?_
  refine go_aloadN (v := .ref y) (q := 290) d39_289 rfl rfl rfl ?_
  refine go_iloadN (v := (Int32.ofNat ((cs ++ [dig m 5]) ++ [dig m 4]).length)) (q := 291) d39_290 rfl rfl ?_
  refine go_iinc (x := (Int32.ofNat ((cs ++ [dig m 5]) ++ [dig m 4]).length)) (y := (Int32.ofNat (((cs ++ [dig m 5]) ++ [dig m 4]) ++ [dig m 3]).length)) (L' := #[.val (.ref y), .val (.int a1), .val (.int p2), .val (.int (Int32.ofNat (((cs ++ [dig m 5]) ++ [dig m 4]) ++ [dig m 3]).length)), .val (.long (Int64.ofNat m)), .second, .val (.int (6 : Int32))]) (q := 294) d39_291 rfl inc_push rfl rfl ?_
  refine go_lload (v := (Int64.ofNat m)) (q := 296) d39_294 rfl rfl ?_
  refine go_ldc2 (v := (1000 : Int64)) (q := 299) (w_247 H) d39_296 rfl ?_
  refine go_static (c' := 0) (s' := 0) (q := 302) (S := [.int (Int32.ofNat ((cs ++ [dig m 5]) ++ [dig m 4]).length), .ref y]) (argsL := [.long (Int64.ofNat m), .long (1000 : Int64)]) H (w_207 H) (w_208 H) (w_204 H) (w_209 H) (by decide) (rm_dg H (e := 3) hm (by decide) (by first | rfl | decide)) rfl rfl (lenOf pd_33 rfl) (fun _ q => nomatch q) rfl (by decide) (Nat.le_of_ble_eq_true rfl) rfl rfl (by decide) (by decide) d39_299 rfl ?_
  rintro _ _ G - ⟨rfl, rfl⟩
  refine nx_ (v := none) ?_
  show Go _ _ _ _ _ _ _ _ _ _ _ _ _ _ 302 #[.val (.ref y), .val (.int a1), .val (.int p2), .val (.int (Int32.ofNat (((cs ++ [dig m 5]) ++ [dig m 4]) ++ [dig m 3]).length)), .val (.long (Int64.ofNat m)), .second, .val (.int (6 : Int32))] [.int (dig m 3), .int (Int32.ofNat ((cs ++ [dig m 5]) ++ [dig m 4]).length), .ref y]
  have hn3 : ((cs ++ [dig m 5]) ++ [dig m 4]).length = cs.length + 2 := by simp
  obtain ⟨ky, V⟩ := V
  refine go_castore (i := ((cs ++ [dig m 5]) ++ [dig m 4]).length) (y := (dig m 3)) (q := 303) V ⟨nn_ofNat (by omega), (lt_ofNat (n := 40) (by omega) (by decide)).mpr (by omega)⟩ (cl_ofNat (by omega)) (by simp <;> omega) (by simp) (nar_char (dig_ok m 3).1 (dig_ok m 3).2) d39_302 rfl ?_
  intro hp3 Khp3 zhp3 Vhp3
  rw [push_c (cs := ((cs ++ [dig m 5]) ++ [dig m 4])) (by omega)] at Vhp3
  have V : Ech Z hp3 y (((cs ++ [dig m 5]) ++ [dig m 4]) ++ [dig m 3]) := ⟨ky, Vhp3⟩
  have K0 := K0.trans Khp3 (fun _ q => Or.inl q)
  refine go_iload (v := (6 : Int32)) (q := 305) d39_303 rfl rfl ?_
  refine go_iconst (x := (3 : Int32)) (q := 306) d39_305 rfl rfl ?_
  refine go_icN (q := 309) d39_306 (by decide) rfl ?_
  refine go_aloadN (v := .ref y) (q := 310) d39_309 rfl rfl rfl ?_
  refine go_iloadN (v := (Int32.ofNat (((cs ++ [dig m 5]) ++ [dig m 4]) ++ [dig m 3]).length)) (q := 311) d39_310 rfl rfl ?_
  refine go_iinc (x := (Int32.ofNat (((cs ++ [dig m 5]) ++ [dig m 4]) ++ [dig m 3]).length)) (y := (Int32.ofNat ((((cs ++ [dig m 5]) ++ [dig m 4]) ++ [dig m 3]) ++ [dig m 2]).length)) (L' := #[.val (.ref y), .val (.int a1), .val (.int p2), .val (.int (Int32.ofNat ((((cs ++ [dig m 5]) ++ [dig m 4]) ++ [dig m 3]) ++ [dig m 2]).length)), .val (.long (Int64.ofNat m)), .second, .val (.int (6 : Int32))]) (q := 314) d39_311 rfl inc_push rfl rfl ?_
  refine go_lload (v := (Int64.ofNat m)) (q := 316) d39_314 rfl rfl ?_
  refine go_ldc2 (v := (100 : Int64)) (q := 319) (w_246 H) d39_316 rfl ?_
  refine go_static (c' := 0) (s' := 0) (q := 322) (S := [.int (Int32.ofNat (((cs ++ [dig m 5]) ++ [dig m 4]) ++ [dig m 3]).length), .ref y]) (argsL := [.long (Int64.ofNat m), .long (100 : Int64)]) H (w_207 H) (w_208 H) (w_204 H) (w_209 H) (by decide) (rm_dg H (e := 2) hm (by decide) (by first | rfl | decide)) rfl rfl (lenOf pd_33 rfl) (fun _ q => nomatch q) rfl (by decide) (Nat.le_of_ble_eq_true rfl) rfl rfl (by decide) (by decide) d39_319 rfl ?_
  rintro _ _ G - ⟨rfl, rfl⟩
  refine nx_ (v := none) ?_
  show Go _ _ _ _ _ _ _ _ _ _ _ _ _ _ 322 #[.val (.ref y), .val (.int a1), .val (.int p2), .val (.int (Int32.ofNat ((((cs ++ [dig m 5]) ++ [dig m 4]) ++ [dig m 3]) ++ [dig m 2]).length)), .val (.long (Int64.ofNat m)), .second, .val (.int (6 : Int32))] [.int (dig m 2), .int (Int32.ofNat (((cs ++ [dig m 5]) ++ [dig m 4]) ++ [dig m 3]).length), .ref y]
  have hn4 : (((cs ++ [dig m 5]) ++ [dig m 4]) ++ [dig m 3]).length = cs.length + 3 := by simp
  obtain ⟨ky, V⟩ := V
  refine go_castore (i := (((cs ++ [dig m 5]) ++ [dig m 4]) ++ [dig m 3]).length) (y := (dig m 2)) (q := 323) V ⟨nn_ofNat (by omega), (lt_ofNat (n := 40) (by omega) (by decide)).mpr (by omega)⟩ (cl_ofNat (by omega)) (by simp <;> omega) (by simp) (nar_char (dig_ok m 2).1 (dig_ok m 2).2) d39_322 rfl ?_
  intro hp4 Khp4 zhp4 Vhp4
  rw [push_c (cs := (((cs ++ [dig m 5]) ++ [dig m 4]) ++ [dig m 3])) (by omega)] at Vhp4
  have V : Ech Z hp4 y ((((cs ++ [dig m 5]) ++ [dig m 4]) ++ [dig m 3]) ++ [dig m 2]) := ⟨ky, Vhp4⟩
  have K0 := K0.trans Khp4 (fun _ q => Or.inl q)
  refine go_iload (v := (6 : Int32)) (q := 325) d39_323 rfl rfl ?_
  refine go_iconst (x := (2 : Int32)) (q := 326) d39_325 rfl rfl ?_
  refine go_icN (q := 329) d39_326 (by decide) rfl ?_
  refine go_aloadN (v := .ref y) (q := 330) d39_329 rfl rfl rfl ?_
  refine go_iloadN (v := (Int32.ofNat ((((cs ++ [dig m 5]) ++ [dig m 4]) ++ [dig m 3]) ++ [dig m 2]).length)) (q := 331) d39_330 rfl rfl ?_
  refine go_iinc (x := (Int32.ofNat ((((cs ++ [dig m 5]) ++ [dig m 4]) ++ [dig m 3]) ++ [dig m 2]).length)) (y := (Int32.ofNat (((((cs ++ [dig m 5]) ++ [dig m 4]) ++ [dig m 3]) ++ [dig m 2]) ++ [dig m 1]).length)) (L' := #[.val (.ref y), .val (.int a1), .val (.int p2), .val (.int (Int32.ofNat (((((cs ++ [dig m 5]) ++ [dig m 4]) ++ [dig m 3]) ++ [dig m 2]) ++ [dig m 1]).length)), .val (.long (Int64.ofNat m)), .second, .val (.int (6 : Int32))]) (q := 334) d39_331 rfl inc_push rfl rfl ?_
  refine go_lload (v := (Int64.ofNat m)) (q := 336) d39_334 rfl rfl ?_
  refine go_ldc2 (v := (10 : Int64)) (q := 339) (w_206 H) d39_336 rfl ?_
  refine go_static (c' := 0) (s' := 0) (q := 342) (S := [.int (Int32.ofNat ((((cs ++ [dig m 5]) ++ [dig m 4]) ++ [dig m 3]) ++ [dig m 2]).length), .ref y]) (argsL := [.long (Int64.ofNat m), .long (10 : Int64)]) H (w_207 H) (w_208 H) (w_204 H) (w_209 H) (by decide) (rm_dg H (e := 1) hm (by decide) (by first | rfl | decide)) rfl rfl (lenOf pd_33 rfl) (fun _ q => nomatch q) rfl (by decide) (Nat.le_of_ble_eq_true rfl) rfl rfl (by decide) (by decide) d39_339 rfl ?_
  rintro _ _ G - ⟨rfl, rfl⟩
  refine nx_ (v := none) ?_
  show Go _ _ _ _ _ _ _ _ _ _ _ _ _ _ 342 #[.val (.ref y), .val (.int a1), .val (.int p2), .val (.int (Int32.ofNat (((((cs ++ [dig m 5]) ++ [dig m 4]) ++ [dig m 3]) ++ [dig m 2]) ++ [dig m 1]).length)), .val (.long (Int64.ofNat m)), .second, .val (.int (6 : Int32))] [.int (dig m 1), .int (Int32.ofNat ((((cs ++ [dig m 5]) ++ [dig m 4]) ++ [dig m 3]) ++ [dig m 2]).length), .ref y]
  have hn5 : ((((cs ++ [dig m 5]) ++ [dig m 4]) ++ [dig m 3]) ++ [dig m 2]).length = cs.length + 4 := by simp
  obtain ⟨ky, V⟩ := V
  refine go_castore (i := ((((cs ++ [dig m 5]) ++ [dig m 4]) ++ [dig m 3]) ++ [dig m 2]).length) (y := (dig m 1)) (q := 343) V ⟨nn_ofNat (by omega), (lt_ofNat (n := 40) (by omega) (by decide)).mpr (by omega)⟩ (cl_ofNat (by omega)) (by simp <;> omega) (by simp) (nar_char (dig_ok m 1).1 (dig_ok m 1).2) d39_342 rfl ?_
  intro hp5 Khp5 zhp5 Vhp5
  rw [push_c (cs := ((((cs ++ [dig m 5]) ++ [dig m 4]) ++ [dig m 3]) ++ [dig m 2])) (by omega)] at Vhp5
  have V : Ech Z hp5 y (((((cs ++ [dig m 5]) ++ [dig m 4]) ++ [dig m 3]) ++ [dig m 2]) ++ [dig m 1]) := ⟨ky, Vhp5⟩
  have K0 := K0.trans Khp5 (fun _ q => Or.inl q)
  refine go_aloadN (v := .ref y) (q := 344) d39_343 rfl rfl rfl ?_
  refine go_iloadN (v := (Int32.ofNat (((((cs ++ [dig m 5]) ++ [dig m 4]) ++ [dig m 3]) ++ [dig m 2]) ++ [dig m 1]).length)) (q := 345) d39_344 rfl rfl ?_
  refine go_iinc (x := (Int32.ofNat (((((cs ++ [dig m 5]) ++ [dig m 4]) ++ [dig m 3]) ++ [dig m 2]) ++ [dig m 1]).length)) (y := (Int32.ofNat ((((((cs ++ [dig m 5]) ++ [dig m 4]) ++ [dig m 3]) ++ [dig m 2]) ++ [dig m 1]) ++ [dig m 0]).length)) (L' := #[.val (.ref y), .val (.int a1), .val (.int p2), .val (.int (Int32.ofNat ((((((cs ++ [dig m 5]) ++ [dig m 4]) ++ [dig m 3]) ++ [dig m 2]) ++ [dig m 1]) ++ [dig m 0]).length)), .val (.long (Int64.ofNat m)), .second, .val (.int (6 : Int32))]) (q := 348) d39_345 rfl inc_push rfl rfl ?_
  refine go_lload (v := (Int64.ofNat m)) (q := 350) d39_348 rfl rfl ?_
  refine go_lconst (x := (1 : Int64)) (q := 351) d39_350 rfl rfl ?_
  refine go_static (c' := 0) (s' := 0) (q := 354) (S := [.int (Int32.ofNat (((((cs ++ [dig m 5]) ++ [dig m 4]) ++ [dig m 3]) ++ [dig m 2]) ++ [dig m 1]).length), .ref y]) (argsL := [.long (Int64.ofNat m), .long (1 : Int64)]) H (w_207 H) (w_208 H) (w_204 H) (w_209 H) (by decide) (rm_dg H (e := 0) hm (by decide) (by first | rfl | decide)) rfl rfl (lenOf pd_33 rfl) (fun _ q => nomatch q) rfl (by decide) (Nat.le_of_ble_eq_true rfl) rfl rfl (by decide) (by decide) d39_351 rfl ?_
  rintro _ _ G - ⟨rfl, rfl⟩
  refine nx_ (v := none) ?_
  show Go _ _ _ _ _ _ _ _ _ _ _ _ _ _ 354 #[.val (.ref y), .val (.int a1), .val (.int p2), .val (.int (Int32.ofNat ((((((cs ++ [dig m 5]) ++ [dig m 4]) ++ [dig m 3]) ++ [dig m 2]) ++ [dig m 1]) ++ [dig m 0]).length)), .val (.long (Int64.ofNat m)), .second, .val (.int (6 : Int32))] [.int (dig m 0), .int (Int32.ofNat (((((cs ++ [dig m 5]) ++ [dig m 4]) ++ [dig m 3]) ++ [dig m 2]) ++ [dig m 1]).length), .ref y]
  have hn6 : (((((cs ++ [dig m 5]) ++ [dig m 4]) ++ [dig m 3]) ++ [dig m 2]) ++ [dig m 1]).length = cs.length + 5 := by simp
  obtain ⟨ky, V⟩ := V
  refine go_castore (i := (((((cs ++ [dig m 5]) ++ [dig m 4]) ++ [dig m 3]) ++ [dig m 2]) ++ [dig m 1]).length) (y := (dig m 0)) (q := 355) V ⟨nn_ofNat (by omega), (lt_ofNat (n := 40) (by omega) (by decide)).mpr (by omega)⟩ (cl_ofNat (by omega)) (by simp <;> omega) (by simp) (nar_char (dig_ok m 0).1 (dig_ok m 0).2) d39_354 rfl ?_
  intro hp6 Khp6 zhp6 Vhp6
  rw [push_c (cs := (((((cs ++ [dig m 5]) ++ [dig m 4]) ++ [dig m 3]) ++ [dig m 2]) ++ [dig m 1])) (by omega)] at Vhp6
  have V : Ech Z hp6 y ((((((cs ++ [dig m 5]) ++ [dig m 4]) ++ [dig m 3]) ++ [dig m 2]) ++ [dig m 1]) ++ [dig m 0]) := ⟨ky, Vhp6⟩
  have K0 := K0.trans Khp6 (fun _ q => Or.inl q)
  refine go_aloadN (v := .ref y) (q := 356) d39_355 rfl rfl rfl ?_
  refine go_iloadN (v := (Int32.ofNat ((((((cs ++ [dig m 5]) ++ [dig m 4]) ++ [dig m 3]) ++ [dig m 2]) ++ [dig m 1]) ++ [dig m 0]).length)) (q := 357) d39_356 rfl rfl ?_
  refine go_iinc (x := (Int32.ofNat ((((((cs ++ [dig m 5]) ++ [dig m 4]) ++ [dig m 3]) ++ [dig m 2]) ++ [dig m 1]) ++ [dig m 0]).length)) (y := (Int32.ofNat (((((((cs ++ [dig m 5]) ++ [dig m 4]) ++ [dig m 3]) ++ [dig m 2]) ++ [dig m 1]) ++ [dig m 0]) ++ [47]).length)) (L' := #[.val (.ref y), .val (.int a1), .val (.int p2), .val (.int (Int32.ofNat (((((((cs ++ [dig m 5]) ++ [dig m 4]) ++ [dig m 3]) ++ [dig m 2]) ++ [dig m 1]) ++ [dig m 0]) ++ [47]).length)), .val (.long (Int64.ofNat m)), .second, .val (.int (6 : Int32))]) (q := 360) d39_357 rfl inc_push rfl rfl ?_
  refine go_bipush (x := (47 : Int32)) (q := 362) d39_360 rfl rfl ?_
  have hn7 : ((((((cs ++ [dig m 5]) ++ [dig m 4]) ++ [dig m 3]) ++ [dig m 2]) ++ [dig m 1]) ++ [dig m 0]).length = cs.length + 6 := by simp
  obtain ⟨ky, V⟩ := V
  refine go_castore (i := ((((((cs ++ [dig m 5]) ++ [dig m 4]) ++ [dig m 3]) ++ [dig m 2]) ++ [dig m 1]) ++ [dig m 0]).length) (y := 47) (q := 363) V ⟨nn_ofNat (by omega), (lt_ofNat (n := 40) (by omega) (by decide)).mpr (by omega)⟩ (cl_ofNat (by omega)) (by simp <;> omega) (by simp) (nar_char ((by decide : ¬ (47 : Int32) < 0 ∧ ¬ 255 < (47 : Int32))).1 ((by decide : ¬ (47 : Int32) < 0 ∧ ¬ 255 < (47 : Int32))).2) d39_362 rfl ?_
  intro hp7 Khp7 zhp7 Vhp7
  rw [push_c (cs := ((((((cs ++ [dig m 5]) ++ [dig m 4]) ++ [dig m 3]) ++ [dig m 2]) ++ [dig m 1]) ++ [dig m 0])) (by omega)] at Vhp7
  have V : Ech Z hp7 y (((((((cs ++ [dig m 5]) ++ [dig m 4]) ++ [dig m 3]) ++ [dig m 2]) ++ [dig m 1]) ++ [dig m 0]) ++ [47]) := ⟨ky, Vhp7⟩
  have K0 := K0.trans Khp7 (fun _ q => Or.inl q)
  refine go_iloadN (v := (Int32.ofNat (((((((cs ++ [dig m 5]) ++ [dig m 4]) ++ [dig m 3]) ++ [dig m 2]) ++ [dig m 1]) ++ [dig m 0]) ++ [47]).length)) (q := 364) d39_363 rfl rfl ?_
  have e : (((((((cs ++ [dig m 5]) ++ [dig m 4]) ++ [dig m 3]) ++ [dig m 2]) ++ [dig m 1]) ++ [dig m 0]) ++ [47]) = c1 ++ pnl p1 := by rw [hQ]; simp [dgs]
  rw [e] at V
  rw [e]
  show Go _ _ _ _ _ _ _ _ _ _ _ _ _ _ 364 #[.val (.ref y), .val (.int a1), .val (.int p2), .val (.int (Int32.ofNat (c1 ++ pnl p1).length)), .val (.long (Int64.ofNat m)), .second, .val (.int (6 : Int32))] [.int (Int32.ofNat (c1 ++ pnl p1).length)]
  exact go_ireturn H (G := []) (t := .int) rfl (by decide) rfl d39_364 (by decide) (by decide) (fun _ q => nomatch q) ⟨rfl, K0, V⟩
set_option maxRecDepth 65536 in
set_option maxHeartbeats 8000000 in
theorem jp158_7 {l : Launch} {Z : State} {a0 : Array Value} (H : Wd Z a0) {K : Cx} {h h1 : Heap} {y : Addr} {c1 cs : List Int32} {p1 p2 a1 : Int32} {m : Nat} (hm : m ≤ 2147483648) (V : Ech Z h y cs) (K0 : Keep h1 h [y]) (hl : cs.length ≤ 24) (hQ : c1 ++ pnl p1 = cs ++ (dgs m 7 ++ [47])) : GP l Z K h1 y c1 p1 h [y] 0 0 158 #[.val (.ref y), .val (.int a1), .val (.int p2), .val (.int (Int32.ofNat cs.length)), .val (.long (Int64.ofNat m)), .second, .val (.int (7 : Int32))] [] := by
  refine go_iload (v := (7 : Int32)) (q := 160) d39_158 rfl rfl ?_
  refine go_bipush (x := (10 : Int32)) (q := 162) d39_160 rfl rfl ?_
  refine go_icY (q := 179) d39_162 (by decide) (by decide) (by decide) ?_
  refine go_iload (v := (7 : Int32)) (q := 181) d39_179 rfl rfl ?_
  refine go_bipush (x := (9 : Int32)) (q := 183) d39_181 rfl rfl ?_
  refine go_icY (q := 200) d39_183 (by decide) (by decide) (by decide) ?_
  refine go_iload (v := (7 : Int32)) (q := 202) d39_200 rfl rfl ?_
  refine go_bipush (x := (8 : Int32)) (q := 204) d39_202 rfl rfl ?_
  refine go_icY (q := 221) d39_204 (by decide) (by decide) (by decide) ?_
  refine go_iload (v := (7 : Int32)) (q := 223) d39_221 rfl rfl ?_
  refine go_bipush (x := (7 : Int32)) (q := 225) d39_223 rfl rfl ?_
  refine go_icN (q := 228) d39_225 (by decide) rfl ?_
  refine go_aloadN (v := .ref y) (q := 229) d39_228 rfl rfl rfl ?_
  refine go_iloadN (v := (Int32.ofNat cs.length)) (q := 230) d39_229 rfl rfl ?_
  refine go_iinc (x := (Int32.ofNat cs.length)) (y := (Int32.ofNat (cs ++ [dig m 6]).length)) (L' := #[.val (.ref y), .val (.int a1), .val (.int p2), .val (.int (Int32.ofNat (cs ++ [dig m 6]).length)), .val (.long (Int64.ofNat m)), .second, .val (.int (7 : Int32))]) (q := 233) d39_230 rfl inc_push rfl rfl ?_
  refine go_lload (v := (Int64.ofNat m)) (q := 235) d39_233 rfl rfl ?_
  refine go_ldc2 (v := (1000000 : Int64)) (q := 238) (w_250 H) d39_235 rfl ?_
  refine go_static (c' := 0) (s' := 0) (q := 241) (S := [.int (Int32.ofNat cs.length), .ref y]) (argsL := [.long (Int64.ofNat m), .long (1000000 : Int64)]) H (w_207 H) (w_208 H) (w_204 H) (w_209 H) (by decide) (rm_dg H (e := 6) hm (by decide) (by first | rfl | decide)) rfl rfl (lenOf pd_33 rfl) (fun _ q => nomatch q) rfl (by decide) (Nat.le_of_ble_eq_true rfl) rfl rfl (by decide) (by decide) d39_238 rfl ?_
  rintro _ _ G - ⟨rfl, rfl⟩
  refine nx_ (v := none) ?_
  show Go _ _ _ _ _ _ _ _ _ _ _ _ _ _ 241 #[.val (.ref y), .val (.int a1), .val (.int p2), .val (.int (Int32.ofNat (cs ++ [dig m 6]).length)), .val (.long (Int64.ofNat m)), .second, .val (.int (7 : Int32))] [.int (dig m 6), .int (Int32.ofNat cs.length), .ref y]
  have hn1 := hl
  obtain ⟨ky, V⟩ := V
  refine go_castore (i := cs.length) (y := (dig m 6)) (q := 242) V ⟨nn_ofNat (by omega), (lt_ofNat (n := 40) (by omega) (by decide)).mpr (by omega)⟩ (cl_ofNat (by omega)) (by simp <;> omega) (by simp) (nar_char (dig_ok m 6).1 (dig_ok m 6).2) d39_241 rfl ?_
  intro hp1 Khp1 zhp1 Vhp1
  rw [push_c (cs := cs) (by omega)] at Vhp1
  have V : Ech Z hp1 y (cs ++ [dig m 6]) := ⟨ky, Vhp1⟩
  have K0 := K0.trans Khp1 (fun _ q => Or.inl q)
  refine go_iload (v := (7 : Int32)) (q := 244) d39_242 rfl rfl ?_
  refine go_bipush (x := (6 : Int32)) (q := 246) d39_244 rfl rfl ?_
  refine go_icN (q := 249) d39_246 (by decide) rfl ?_
  refine go_aloadN (v := .ref y) (q := 250) d39_249 rfl rfl rfl ?_
  refine go_iloadN (v := (Int32.ofNat (cs ++ [dig m 6]).length)) (q := 251) d39_250 rfl rfl ?_
  refine go_iinc (x := (Int32.ofNat (cs ++ [dig m 6]).length)) (y := (Int32.ofNat ((cs ++ [dig m 6]) ++ [dig m 5]).length)) (L' := #[.val (.ref y), .val (.int a1), .val (.int p2), .val (.int (Int32.ofNat ((cs ++ [dig m 6]) ++ [dig m 5]).length)), .val (.long (Int64.ofNat m)), .second, .val (.int (7 : Int32))]) (q := 254) d39_251 rfl inc_push rfl rfl ?_
  refine go_lload (v := (Int64.ofNat m)) (q := 256) d39_254 rfl rfl ?_
  refine go_ldc2 (v := (100000 : Int64)) (q := 259) (w_249 H) d39_256 rfl ?_
  refine go_static (c' := 0) (s' := 0) (q := 262) (S := [.int (Int32.ofNat (cs ++ [dig m 6]).length), .ref y]) (argsL := [.long (Int64.ofNat m), .long (100000 : Int64)]) H (w_207 H) (w_208 H) (w_204 H) (w_209 H) (by decide) (rm_dg H (e := 5) hm (by decide) (by first | rfl | decide)) rfl rfl (lenOf pd_33 rfl) (fun _ q => nomatch q) rfl (by decide) (Nat.le_of_ble_eq_true rfl) rfl rfl (by decide) (by decide) d39_259 rfl ?_
  rintro _ _ G - ⟨rfl, rfl⟩
  refine nx_ (v := none) ?_
  show Go _ _ _ _ _ _ _ _ _ _ _ _ _ _ 262 #[.val (.ref y), .val (.int a1), .val (.int p2), .val (.int (Int32.ofNat ((cs ++ [dig m 6]) ++ [dig m 5]).length)), .val (.long (Int64.ofNat m)), .second, .val (.int (7 : Int32))] [.int (dig m 5), .int (Int32.ofNat (cs ++ [dig m 6]).length), .ref y]
  have hn2 : (cs ++ [dig m 6]).length = cs.length + 1 := by simp
  obtain ⟨ky, V⟩ := V
  refine go_castore (i := (cs ++ [dig m 6]).length) (y := (dig m 5)) (q := 263) V ⟨nn_ofNat (by omega), (lt_ofNat (n := 40) (by omega) (by decide)).mpr (by omega)⟩ (cl_ofNat (by omega)) (by simp <;> omega) (by simp) (nar_char (dig_ok m 5).1 (dig_ok m 5).2) d39_262 rfl ?_
  intro hp2 Khp2 zhp2 Vhp2
  rw [push_c (cs := (cs ++ [dig m 6])) (by omega)] at Vhp2
  have V : Ech Z hp2 y ((cs ++ [dig m 6]) ++ [dig m 5]) := ⟨ky, Vhp2⟩
  have K0 := K0.trans Khp2 (fun _ q => Or.inl q)
  refine go_iload (v := (7 : Int32)) (q := 265) d39_263 rfl rfl ?_
  refine go_iconst (x := (5 : Int32)) (q := 266) d39_265 rfl rfl ?_
  refine go_icN (q := 269) d39_266 (by decide) rfl ?_
  refine go_aloadN (v := .ref y) (q := 270) d39_269 rfl rfl rfl ?_
  refine go_iloadN (v := (Int32.ofNat ((cs ++ [dig m 6]) ++ [dig m 5]).length)) (q := 271) d39_270 rfl rfl ?_
  refine go_iinc (x := (Int32.ofNat ((cs ++ [dig m 6]) ++ [dig m 5]).length)) (y := (Int32.ofNat (((cs ++ [dig m 6]) ++ [dig m 5]) ++ [dig m 4]).length)) (L' := #[.val (.ref y), .val (.int a1), .val (.int p2), .val (.int (Int32.ofNat (((cs ++ [dig m 6]) ++ [dig m 5]) ++ [dig m 4]).length)), .val (.long (Int64.ofNat m)), .second, .val (.int (7 : Int32))]) (q := 274) d39_271 rfl inc_push rfl rfl ?_
  refine go_lload (v := (Int64.ofNat m)) (q := 276) d39_274 rfl rfl ?_
  refine go_ldc2 (v := (10000 : Int64)) (q := 279) (w_248 H) d39_276 rfl ?_
  refine go_static (c' := 0) (s' := 0) (q := 282) (S := [.int (Int32.ofNat ((cs ++ [dig m 6]) ++ [dig m 5]).length), .ref y]) (argsL := [.long (Int64.ofNat m), .long (10000 : Int64)]) H (w_207 H) (w_208 H) (w_204 H) (w_209 H) (by decide) (rm_dg H (e := 4) hm (by decide) (by first | rfl | decide)) rfl rfl (lenOf pd_33 rfl) (fun _ q => nomatch q) rfl (by decide) (Nat.le_of_ble_eq_true rfl) rfl rfl (by decide) (by decide) d39_279 rfl ?_
  rintro _ _ G - ⟨rfl, rfl⟩
  refine nx_ (v := none) ?_
  show Go _ _ _ _ _ _ _ _ _ _ _ _ _ _ 282 #[.val (.ref y), .val (.int a1), .val (.int p2), .val (.int (Int32.ofNat (((cs ++ [dig m 6]) ++ [dig m 5]) ++ [dig m 4]).length)), .val (.long (Int64.ofNat m)), .second, .val (.int (7 : Int32))] [.int (dig m 4), .int (Int32.ofNat ((cs ++ [dig m 6]) ++ [dig m 5]).length), .ref y]
  have hn3 : ((cs ++ [dig m 6]) ++ [dig m 5]).length = cs.length + 2 := by simp
  obtain ⟨ky, V⟩ := V
  refine go_castore (i := ((cs ++ [dig m 6]) ++ [dig m 5]).length) (y := (dig m 4)) (q := 283) V ⟨nn_ofNat (by omega), (lt_ofNat (n := 40) (by omega) (by decide)).mpr (by omega)⟩ (cl_ofNat (by omega)) (by simp <;> omega) (by simp) (nar_char (dig_ok m 4).1 (dig_ok m 4).2) d39_282 rfl ?_
  intro hp3 Khp3 zhp3 Vhp3
  rw [push_c (cs := ((cs ++ [dig m 6]) ++ [dig m 5])) (by omega)] at Vhp3
  have V : Ech Z hp3 y (((cs ++ [dig m 6]) ++ [dig m 5]) ++ [dig m 4]) := ⟨ky, Vhp3⟩
  have K0 := K0.trans Khp3 (fun _ q => Or.inl q)
  refine go_iload (v := (7 : Int32)) (q := 285) d39_283 rfl rfl ?_
  refine go_iconst (x := (4 : Int32)) (q := 286) d39_285 rfl rfl ?_
  refine go_icN (q := 289) d39_286 (by decide) rfl ?_
  refine go_aloadN (v := .ref y) (q := 290) d39_289 rfl rfl rfl ?_
  refine go_iloadN (v := (Int32.ofNat (((cs ++ [dig m 6]) ++ [dig m 5]) ++ [dig m 4]).length)) (q := 291) d39_290 rfl rfl ?_
  refine go_iinc (x := (Int32.ofNat (((cs ++ [dig m 6]) ++ [dig m 5]) ++ [dig m 4]).length)) (y := (Int32.ofNat ((((cs ++ [dig m 6]) ++ [dig m 5]) ++ [dig m 4]) ++ [dig m 3]).length)) (L' := #[.val (.ref y), .val (.int a1), .val (.int p2), .val (.int (Int32.ofNat ((((cs ++ [dig m 6]) ++ [dig m 5]) ++ [dig m 4]) ++ [dig m 3]).length)), .val (.long (Int64.ofNat m)), .second, .val (.int (7 : Int32))]) (q := 294) d39_291 rfl inc_push rfl rfl ?_
  refine go_lload (v := (Int64.ofNat m)) (q := 296) d39_294 rfl rfl ?_
  refine go_ldc2 (v := (1000 : Int64)) (q := 299) (w_247 H) d39_296 rfl ?_
  refine go_static (c' := 0) (s' := 0) (q := 302) (S := [.int (Int32.ofNat (((cs ++ [dig m 6]) ++ [dig m 5]) ++ [dig m 4]).length), .ref y]) (argsL := [.long (Int64.ofNat m), .long (1000 : Int64)]) H (w_207 H) (w_208 H) (w_204 H) (w_209 H) (by decide) (rm_dg H (e := 3) hm (by decide) (by first | rfl | decide)) rfl rfl (lenOf pd_33 rfl) (fun _ q => nomatch q) rfl (by decide) (Nat.le_of_ble_eq_true rfl) rfl rfl (by decide) (by decide) d39_299 rfl ?_
  rintro _ _ G - ⟨rfl, rfl⟩
  refine nx_ (v := none) ?_
  show Go _ _ _ _ _ _ _ _ _ _ _ _ _ _ 302 #[.val (.ref y), .val (.int a1), .val (.int p2), .val (.int (Int32.ofNat ((((cs ++ [dig m 6]) ++ [dig m 5]) ++ [dig m 4]) ++ [dig m 3]).length)), .val (.long (Int64.ofNat m)), .second, .val (.int (7 : Int32))] [.int (dig m 3), .int (Int32.ofNat (((cs ++ [dig m 6]) ++ [dig m 5]) ++ [dig m 4]).length), .ref y]
  have hn4 : (((cs ++ [dig m 6]) ++ [dig m 5]) ++ [dig m 4]).length = cs.length + 3 := by simp
  obtain ⟨ky, V⟩ := V
  refine go_castore (i := (((cs ++ [dig m 6]) ++ [dig m 5]) ++ [dig m 4]).length) (y := (dig m 3)) (q := 303) V ⟨nn_ofNat (by omega), (lt_ofNat (n := 40) (by omega) (by decide)).mpr (by omega)⟩ (cl_ofNat (by omega)) (by simp <;> omega) (by simp) (nar_char (dig_ok m 3).1 (dig_ok m 3).2) d39_302 rfl ?_
  intro hp4 Khp4 zhp4 Vhp4
  rw [push_c (cs := (((cs ++ [dig m 6]) ++ [dig m 5]) ++ [dig m 4])) (by omega)] at Vhp4
  have V : Ech Z hp4 y ((((cs ++ [dig m 6]) ++ [dig m 5]) ++ [dig m 4]) ++ [dig m 3]) := ⟨ky, Vhp4⟩
  have K0 := K0.trans Khp4 (fun _ q => Or.inl q)
  refine go_iload (v := (7 : Int32)) (q := 305) d39_303 rfl rfl ?_
  refine go_iconst (x := (3 : Int32)) (q := 306) d39_305 rfl rfl ?_
  refine go_icN (q := 309) d39_306 (by decide) rfl ?_
  refine go_aloadN (v := .ref y) (q := 310) d39_309 rfl rfl rfl ?_
  refine go_iloadN (v := (Int32.ofNat ((((cs ++ [dig m 6]) ++ [dig m 5]) ++ [dig m 4]) ++ [dig m 3]).length)) (q := 311) d39_310 rfl rfl ?_
  refine go_iinc (x := (Int32.ofNat ((((cs ++ [dig m 6]) ++ [dig m 5]) ++ [dig m 4]) ++ [dig m 3]).length)) (y := (Int32.ofNat (((((cs ++ [dig m 6]) ++ [dig m 5]) ++ [dig m 4]) ++ [dig m 3]) ++ [dig m 2]).length)) (L' := #[.val (.ref y), .val (.int a1), .val (.int p2), .val (.int (Int32.ofNat (((((cs ++ [dig m 6]) ++ [dig m 5]) ++ [dig m 4]) ++ [dig m 3]) ++ [dig m 2]).length)), .val (.long (Int64.ofNat m)), .second, .val (.int (7 : Int32))]) (q := 314) d39_311 rfl inc_push rfl rfl ?_
  refine go_lload (v := (Int64.ofNat m)) (q := 316) d39_314 rfl rfl ?_
  refine go_ldc2 (v := (100 : Int64)) (q := 319) (w_246 H) d39_316 rfl ?_
  refine go_static (c' := 0) (s' := 0) (q := 322) (S := [.int (Int32.ofNat ((((cs ++ [dig m 6]) ++ [dig m 5]) ++ [dig m 4]) ++ [dig m 3]).length), .ref y]) (argsL := [.long (Int64.ofNat m), .long (100 : Int64)]) H (w_207 H) (w_208 H) (w_204 H) (w_209 H) (by decide) (rm_dg H (e := 2) hm (by decide) (by first | rfl | decide)) rfl rfl (lenOf pd_33 rfl) (fun _ q => nomatch q) rfl (by decide) (Nat.le_of_ble_eq_true rfl) rfl rfl (by decide) (by decide) d39_319 rfl ?_
  rintro _ _ G - ⟨rfl, rfl⟩
  refine nx_ (v := none) ?_
  show Go _ _ _ _ _ _ _ _ _ _ _ _ _ _ 322 #[.val (.ref y), .val (.int a1), .val (.int p2), .val (.int (Int32.ofNat (((((cs ++ [dig m 6]) ++ [dig m 5]) ++ [dig m 4]) ++ [dig m 3]) ++ [dig m 2]).length)), .val (.long (Int64.ofNat m)), .second, .val (.int (7 : Int32))] [.int (dig m 2), .int (Int32.ofNat ((((cs ++ [dig m 6]) ++ [dig m 5]) ++ [dig m 4]) ++ [dig m 3]).length), .ref y]
  have hn5 : ((((cs ++ [dig m 6]) ++ [dig m 5]) ++ [dig m 4]) ++ [dig m 3]).length = cs.length + 4 := by simp
  obtain ⟨ky, V⟩ := V
  refine go_castore (i := ((((cs ++ [dig m 6]) ++ [dig m 5]) ++ [dig m 4]) ++ [dig m 3]).length) (y := (dig m 2)) (q := 323) V ⟨nn_ofNat (by omega), (lt_ofNat (n := 40) (by omega) (by decide)).mpr (by omega)⟩ (cl_ofNat (by omega)) (by simp <;> omega) (by simp) (nar_char (dig_ok m 2).1 (dig_ok m 2).2) d39_322 rfl ?_
  intro hp5 Khp5 zhp5 Vhp5
  rw [push_c (cs := ((((cs ++ [dig m 6]) ++ [dig m 5]) ++ [dig m 4]) ++ [dig m 3])) (by omega)] at Vhp5
  have V : Ech Z hp5 y (((((cs ++ [dig m 6]) ++ [dig m 5]) ++ [dig m 4]) ++ [dig m 3]) ++ [dig m 2]) := ⟨ky, Vhp5⟩
  have K0 := K0.trans Khp5 (fun _ q => Or.inl q)
  refine go_iload (v := (7 : Int32)) (q := 325) d39_323 rfl rfl ?_
  refine go_iconst (x := (2 : Int32)) (q := 326) d39_325 rfl rfl ?_
  refine go_icN (q := 329) d39_326 (by decide) rfl ?_
  refine go_aloadN (v := .ref y) (q := 330) d39_329 rfl rfl rfl ?_
  refine go_iloadN (v := (Int32.ofNat (((((cs ++ [dig m 6]) ++ [dig m 5]) ++ [dig m 4]) ++ [dig m 3]) ++ [dig m 2]).length)) (q := 331) d39_330 rfl rfl ?_
  refine go_iinc (x := (Int32.ofNat (((((cs ++ [dig m 6]) ++ [dig m 5]) ++ [dig m 4]) ++ [dig m 3]) ++ [dig m 2]).length)) (y := (Int32.ofNat ((((((cs ++ [dig m 6]) ++ [dig m 5]) ++ [dig m 4]) ++ [dig m 3]) ++ [dig m 2]) ++ [dig m 1]).length)) (L' := #[.val (.ref y), .val (.int a1), .val (.int p2), .val (.int (Int32.ofNat ((((((cs ++ [dig m 6]) ++ [dig m 5]) ++ [dig m 4]) ++ [dig m 3]) ++ [dig m 2]) ++ [dig m 1]).length)), .val (.long (Int64.ofNat m)), .second, .val (.int (7 : Int32))]) (q := 334) d39_331 rfl inc_push rfl rfl ?_
  refine go_lload (v := (Int64.ofNat m)) (q := 336) d39_334 rfl rfl ?_
  refine go_ldc2 (v := (10 : Int64)) (q := 339) (w_206 H) d39_336 rfl ?_
  refine go_static (c' := 0) (s' := 0) (q := 342) (S := [.int (Int32.ofNat (((((cs ++ [dig m 6]) ++ [dig m 5]) ++ [dig m 4]) ++ [dig m 3]) ++ [dig m 2]).length), .ref y]) (argsL := [.long (Int64.ofNat m), .long (10 : Int64)]) H (w_207 H) (w_208 H) (w_204 H) (w_209 H) (by decide) (rm_dg H (e := 1) hm (by decide) (by first | rfl | decide)) rfl rfl (lenOf pd_33 rfl) (fun _ q => nomatch q) rfl (by decide) (Nat.le_of_ble_eq_true rfl) rfl rfl (by decide) (by decide) d39_339 rfl ?_
  rintro _ _ G - ⟨rfl, rfl⟩
  refine nx_ (v := none) ?_
  show Go _ _ _ _ _ _ _ _ _ _ _ _ _ _ 342 #[.val (.ref y), .val (.int a1), .val (.int p2), .val (.int (Int32.ofNat ((((((cs ++ [dig m 6]) ++ [dig m 5]) ++ [dig m 4]) ++ [dig m 3]) ++ [dig m 2]) ++ [dig m 1]).length)), .val (.long (Int64.ofNat m)), .second, .val (.int (7 : Int32))] [.int (dig m 1), .int (Int32.ofNat (((((cs ++ [dig m 6]) ++ [dig m 5]) ++ [dig m 4]) ++ [dig m 3]) ++ [dig m 2]).length), .ref y]
  have hn6 : (((((cs ++ [dig m 6]) ++ [dig m 5]) ++ [dig m 4]) ++ [dig m 3]) ++ [dig m 2]).length = cs.length + 5 := by simp
  obtain ⟨ky, V⟩ := V
  refine go_castore (i := (((((cs ++ [dig m 6]) ++ [dig m 5]) ++ [dig m 4]) ++ [dig m 3]) ++ [dig m 2]).length) (y := (dig m 1)) (q := 343) V ⟨nn_ofNat (by omega), (lt_ofNat (n := 40) (by omega) (by decide)).mpr (by omega)⟩ (cl_ofNat (by omega)) (by simp <;> omega) (by simp) (nar_char (dig_ok m 1).1 (dig_ok m 1).2) d39_342 rfl ?_
  intro hp6 Khp6 zhp6 Vhp6
  rw [push_c (cs := (((((cs ++ [dig m 6]) ++ [dig m 5]) ++ [dig m 4]) ++ [dig m 3]) ++ [dig m 2])) (by omega)] at Vhp6
  have V : Ech Z hp6 y ((((((cs ++ [dig m 6]) ++ [dig m 5]) ++ [dig m 4]) ++ [dig m 3]) ++ [dig m 2]) ++ [dig m 1]) := ⟨ky, Vhp6⟩
  have K0 := K0.trans Khp6 (fun _ q => Or.inl q)
  refine go_aloadN (v := .ref y) (q := 344) d39_343 rfl rfl rfl ?_
  refine go_iloadN (v := (Int32.ofNat ((((((cs ++ [dig m 6]) ++ [dig m 5]) ++ [dig m 4]) ++ [dig m 3]) ++ [dig m 2]) ++ [dig m 1]).length)) (q := 345) d39_344 rfl rfl ?_
  refine go_iinc (x := (Int32.ofNat ((((((cs ++ [dig m 6]) ++ [dig m 5]) ++ [dig m 4]) ++ [dig m 3]) ++ [dig m 2]) ++ [dig m 1]).length)) (y := (Int32.ofNat (((((((cs ++ [dig m 6]) ++ [dig m 5]) ++ [dig m 4]) ++ [dig m 3]) ++ [dig m 2]) ++ [dig m 1]) ++ [dig m 0]).length)) (L' := #[.val (.ref y), .val (.int a1), .val (.int p2), .val (.int (Int32.ofNat (((((((cs ++ [dig m 6]) ++ [dig m 5]) ++ [dig m 4]) ++ [dig m 3]) ++ [dig m 2]) ++ [dig m 1]) ++ [dig m 0]).length)), .val (.long (Int64.ofNat m)), .second, .val (.int (7 : Int32))]) (q := 348) d39_345 rfl inc_push rfl rfl ?_
  refine go_lload (v := (Int64.ofNat m)) (q := 350) d39_348 rfl rfl ?_
  refine go_lconst (x := (1 : Int64)) (q := 351) d39_350 rfl rfl ?_
  refine go_static (c' := 0) (s' := 0) (q := 354) (S := [.int (Int32.ofNat ((((((cs ++ [dig m 6]) ++ [dig m 5]) ++ [dig m 4]) ++ [dig m 3]) ++ [dig m 2]) ++ [dig m 1]).length), .ref y]) (argsL := [.long (Int64.ofNat m), .long (1 : Int64)]) H (w_207 H) (w_208 H) (w_204 H) (w_209 H) (by decide) (rm_dg H (e := 0) hm (by decide) (by first | rfl | decide)) rfl rfl (lenOf pd_33 rfl) (fun _ q => nomatch q) rfl (by decide) (Nat.le_of_ble_eq_true rfl) rfl rfl (by decide) (by decide) d39_351 rfl ?_
  rintro _ _ G - ⟨rfl, rfl⟩
  refine nx_ (v := none) ?_
  show Go _ _ _ _ _ _ _ _ _ _ _ _ _ _ 354 #[.val (.ref y), .val (.int a1), .val (.int p2), .val (.int (Int32.ofNat (((((((cs ++ [dig m 6]) ++ [dig m 5]) ++ [dig m 4]) ++ [dig m 3]) ++ [dig m 2]) ++ [dig m 1]) ++ [dig m 0]).length)), .val (.long (Int64.ofNat m)), .second, .val (.int (7 : Int32))] [.int (dig m 0), .int (Int32.ofNat ((((((cs ++ [dig m 6]) ++ [dig m 5]) ++ [dig m 4]) ++ [dig m 3]) ++ [dig m 2]) ++ [dig m 1]).length), .ref y]
  have hn7 : ((((((cs ++ [dig m 6]) ++ [dig m 5]) ++ [dig m 4]) ++ [dig m 3]) ++ [dig m 2]) ++ [dig m 1]).length = cs.length + 6 := by simp
  obtain ⟨ky, V⟩ := V
  refine go_castore (i := ((((((cs ++ [dig m 6]) ++ [dig m 5]) ++ [dig m 4]) ++ [dig m 3]) ++ [dig m 2]) ++ [dig m 1]).length) (y := (dig m 0)) (q := 355) V ⟨nn_ofNat (by omega), (lt_ofNat (n := 40) (by omega) (by decide)).mpr (by omega)⟩ (cl_ofNat (by omega)) (by simp <;> omega) (by simp) (nar_char (dig_ok m 0).1 (dig_ok m 0).2) d39_354 rfl ?_
  intro hp7 Khp7 zhp7 Vhp7
  rw [push_c (cs := ((((((cs ++ [dig m 6]) ++ [dig m 5]) ++ [dig m 4]) ++ [dig m 3]) ++ [dig m 2]) ++ [dig m 1])) (by omega)] at Vhp7
  have V : Ech Z hp7 y (((((((cs ++ [dig m 6]) ++ [dig m 5]) ++ [dig m 4]) ++ [dig m 3]) ++ [dig m 2]) ++ [dig m 1]) ++ [dig m 0]) := ⟨ky, Vhp7⟩
  have K0 := K0.trans Khp7 (fun _ q => Or.inl q)
  refine go_aloadN (v := .ref y) (q := 356) d39_355 rfl rfl rfl ?_
  refine go_iloadN (v := (Int32.ofNat (((((((cs ++ [dig m 6]) ++ [dig m 5]) ++ [dig m 4]) ++ [dig m 3]) ++ [dig m 2]) ++ [dig m 1]) ++ [dig m 0]).length)) (q := 357) d39_356 rfl rfl ?_
  refine go_iinc (x := (Int32.ofNat (((((((cs ++ [dig m 6]) ++ [dig m 5]) ++ [dig m 4]) ++ [dig m 3]) ++ [dig m 2]) ++ [dig m 1]) ++ [dig m 0]).length)) (y := (Int32.ofNat ((((((((cs ++ [dig m 6]) ++ [dig m 5]) ++ [dig m 4]) ++ [dig m 3]) ++ [dig m 2]) ++ [dig m 1]) ++ [dig m 0]) ++ [47]).length)) (L' := #[.val (.ref y), .val (.int a1), .val (.int p2), .val (.int (Int32.ofNat ((((((((cs ++ [dig m 6]) ++ [dig m 5]) ++ [dig m 4]) ++ [dig m 3]) ++ [dig m 2]) ++ [dig m 1]) ++ [dig m 0]) ++ [47]).length)), .val (.long (Int64.ofNat m)), .second, .val (.int (7 : Int32))]) (q := 360) d39_357 rfl inc_push rfl rfl ?_
  refine go_bipush (x := (47 : Int32)) (q := 362) d39_360 rfl rfl ?_
  have hn8 : (((((((cs ++ [dig m 6]) ++ [dig m 5]) ++ [dig m 4]) ++ [dig m 3]) ++ [dig m 2]) ++ [dig m 1]) ++ [dig m 0]).length = cs.length + 7 := by simp
  obtain ⟨ky, V⟩ := V
  refine go_castore (i := (((((((cs ++ [dig m 6]) ++ [dig m 5]) ++ [dig m 4]) ++ [dig m 3]) ++ [dig m 2]) ++ [dig m 1]) ++ [dig m 0]).length) (y := 47) (q := 363) V ⟨nn_ofNat (by omega), (lt_ofNat (n := 40) (by omega) (by decide)).mpr (by omega)⟩ (cl_ofNat (by omega)) (by simp <;> omega) (by simp) (nar_char ((by decide : ¬ (47 : Int32) < 0 ∧ ¬ 255 < (47 : Int32))).1 ((by decide : ¬ (47 : Int32) < 0 ∧ ¬ 255 < (47 : Int32))).2) d39_362 rfl ?_
  intro hp8 Khp8 zhp8 Vhp8
  rw [push_c (cs := (((((((cs ++ [dig m 6]) ++ [dig m 5]) ++ [dig m 4]) ++ [dig m 3]) ++ [dig m 2]) ++ [dig m 1]) ++ [dig m 0])) (by omega)] at Vhp8
  have V : Ech Z hp8 y ((((((((cs ++ [dig m 6]) ++ [dig m 5]) ++ [dig m 4]) ++ [dig m 3]) ++ [dig m 2]) ++ [dig m 1]) ++ [dig m 0]) ++ [47]) := ⟨ky, Vhp8⟩
  have K0 := K0.trans Khp8 (fun _ q => Or.inl q)
  refine go_iloadN (v := (Int32.ofNat ((((((((cs ++ [dig m 6]) ++ [dig m 5]) ++ [dig m 4]) ++ [dig m 3]) ++ [dig m 2]) ++ [dig m 1]) ++ [dig m 0]) ++ [47]).length)) (q := 364) d39_363 rfl rfl ?_
  have e : ((((((((cs ++ [dig m 6]) ++ [dig m 5]) ++ [dig m 4]) ++ [dig m 3]) ++ [dig m 2]) ++ [dig m 1]) ++ [dig m 0]) ++ [47]) = c1 ++ pnl p1 := by rw [hQ]; simp [dgs]
  rw [e] at V
  rw [e]
  show Go _ _ _ _ _ _ _ _ _ _ _ _ _ _ 364 #[.val (.ref y), .val (.int a1), .val (.int p2), .val (.int (Int32.ofNat (c1 ++ pnl p1).length)), .val (.long (Int64.ofNat m)), .second, .val (.int (7 : Int32))] [.int (Int32.ofNat (c1 ++ pnl p1).length)]
  exact go_ireturn H (G := []) (t := .int) rfl (by decide) rfl d39_364 (by decide) (by decide) (fun _ q => nomatch q) ⟨rfl, K0, V⟩
set_option maxRecDepth 65536 in
set_option maxHeartbeats 8000000 in
theorem jp158_8 {l : Launch} {Z : State} {a0 : Array Value} (H : Wd Z a0) {K : Cx} {h h1 : Heap} {y : Addr} {c1 cs : List Int32} {p1 p2 a1 : Int32} {m : Nat} (hm : m ≤ 2147483648) (V : Ech Z h y cs) (K0 : Keep h1 h [y]) (hl : cs.length ≤ 24) (hQ : c1 ++ pnl p1 = cs ++ (dgs m 8 ++ [47])) : GP l Z K h1 y c1 p1 h [y] 0 0 158 #[.val (.ref y), .val (.int a1), .val (.int p2), .val (.int (Int32.ofNat cs.length)), .val (.long (Int64.ofNat m)), .second, .val (.int (8 : Int32))] [] := by
  refine go_iload (v := (8 : Int32)) (q := 160) d39_158 rfl rfl ?_
  refine go_bipush (x := (10 : Int32)) (q := 162) d39_160 rfl rfl ?_
  refine go_icY (q := 179) d39_162 (by decide) (by decide) (by decide) ?_
  refine go_iload (v := (8 : Int32)) (q := 181) d39_179 rfl rfl ?_
  refine go_bipush (x := (9 : Int32)) (q := 183) d39_181 rfl rfl ?_
  refine go_icY (q := 200) d39_183 (by decide) (by decide) (by decide) ?_
  refine go_iload (v := (8 : Int32)) (q := 202) d39_200 rfl rfl ?_
  refine go_bipush (x := (8 : Int32)) (q := 204) d39_202 rfl rfl ?_
  refine go_icN (q := 207) d39_204 (by decide) rfl ?_
  refine go_aloadN (v := .ref y) (q := 208) d39_207 rfl rfl rfl ?_
  refine go_iloadN (v := (Int32.ofNat cs.length)) (q := 209) d39_208 rfl rfl ?_
  refine go_iinc (x := (Int32.ofNat cs.length)) (y := (Int32.ofNat (cs ++ [dig m 7]).length)) (L' := #[.val (.ref y), .val (.int a1), .val (.int p2), .val (.int (Int32.ofNat (cs ++ [dig m 7]).length)), .val (.long (Int64.ofNat m)), .second, .val (.int (8 : Int32))]) (q := 212) d39_209 rfl inc_push rfl rfl ?_
  refine go_lload (v := (Int64.ofNat m)) (q := 214) d39_212 rfl rfl ?_
  refine go_ldc2 (v := (10000000 : Int64)) (q := 217) (w_251 H) d39_214 rfl ?_
  refine go_static (c' := 0) (s' := 0) (q := 220) (S := [.int (Int32.ofNat cs.length), .ref y]) (argsL := [.long (Int64.ofNat m), .long (10000000 : Int64)]) H (w_207 H) (w_208 H) (w_204 H) (w_209 H) (by decide) (rm_dg H (e := 7) hm (by decide) (by first | rfl | decide)) rfl rfl (lenOf pd_33 rfl) (fun _ q => nomatch q) rfl (by decide) (Nat.le_of_ble_eq_true rfl) rfl rfl (by decide) (by decide) d39_217 rfl ?_
  rintro _ _ G - ⟨rfl, rfl⟩
  refine nx_ (v := none) ?_
  show Go _ _ _ _ _ _ _ _ _ _ _ _ _ _ 220 #[.val (.ref y), .val (.int a1), .val (.int p2), .val (.int (Int32.ofNat (cs ++ [dig m 7]).length)), .val (.long (Int64.ofNat m)), .second, .val (.int (8 : Int32))] [.int (dig m 7), .int (Int32.ofNat cs.length), .ref y]
  have hn1 := hl
  obtain ⟨ky, V⟩ := V
  refine go_castore (i := cs.length) (y := (dig m 7)) (q := 221) V ⟨nn_ofNat (by omega), (lt_ofNat (n := 40) (by omega) (by decide)).mpr (by omega)⟩ (cl_ofNat (by omega)) (by simp <;> omega) (by simp) (nar_char (dig_ok m 7).1 (dig_ok m 7).2) d39_220 rfl ?_
  intro hp1 Khp1 zhp1 Vhp1
  rw [push_c (cs := cs) (by omega)] at Vhp1
  have V : Ech Z hp1 y (cs ++ [dig m 7]) := ⟨ky, Vhp1⟩
  have K0 := K0.trans Khp1 (fun _ q => Or.inl q)
  refine go_iload (v := (8 : Int32)) (q := 223) d39_221 rfl rfl ?_
  refine go_bipush (x := (7 : Int32)) (q := 225) d39_223 rfl rfl ?_
  refine go_icN (q := 228) d39_225 (by decide) rfl ?_
  refine go_aloadN (v := .ref y) (q := 229) d39_228 rfl rfl rfl ?_
  refine go_iloadN (v := (Int32.ofNat (cs ++ [dig m 7]).length)) (q := 230) d39_229 rfl rfl ?_
  refine go_iinc (x := (Int32.ofNat (cs ++ [dig m 7]).length)) (y := (Int32.ofNat ((cs ++ [dig m 7]) ++ [dig m 6]).length)) (L' := #[.val (.ref y), .val (.int a1), .val (.int p2), .val (.int (Int32.ofNat ((cs ++ [dig m 7]) ++ [dig m 6]).length)), .val (.long (Int64.ofNat m)), .second, .val (.int (8 : Int32))]) (q := 233) d39_230 rfl inc_push rfl rfl ?_
  refine go_lload (v := (Int64.ofNat m)) (q := 235) d39_233 rfl rfl ?_
  refine go_ldc2 (v := (1000000 : Int64)) (q := 238) (w_250 H) d39_235 rfl ?_
  refine go_static (c' := 0) (s' := 0) (q := 241) (S := [.int (Int32.ofNat (cs ++ [dig m 7]).length), .ref y]) (argsL := [.long (Int64.ofNat m), .long (1000000 : Int64)]) H (w_207 H) (w_208 H) (w_204 H) (w_209 H) (by decide) (rm_dg H (e := 6) hm (by decide) (by first | rfl | decide)) rfl rfl (lenOf pd_33 rfl) (fun _ q => nomatch q) rfl (by decide) (Nat.le_of_ble_eq_true rfl) rfl rfl (by decide) (by decide) d39_238 rfl ?_
  rintro _ _ G - ⟨rfl, rfl⟩
  refine nx_ (v := none) ?_
  show Go _ _ _ _ _ _ _ _ _ _ _ _ _ _ 241 #[.val (.ref y), .val (.int a1), .val (.int p2), .val (.int (Int32.ofNat ((cs ++ [dig m 7]) ++ [dig m 6]).length)), .val (.long (Int64.ofNat m)), .second, .val (.int (8 : Int32))] [.int (dig m 6), .int (Int32.ofNat (cs ++ [dig m 7]).length), .ref y]
  have hn2 : (cs ++ [dig m 7]).length = cs.length + 1 := by simp
  obtain ⟨ky, V⟩ := V
  refine go_castore (i := (cs ++ [dig m 7]).length) (y := (dig m 6)) (q := 242) V ⟨nn_ofNat (by omega), (lt_ofNat (n := 40) (by omega) (by decide)).mpr (by omega)⟩ (cl_ofNat (by omega)) (by simp <;> omega) (by simp) (nar_char (dig_ok m 6).1 (dig_ok m 6).2) d39_241 rfl ?_
  intro hp2 Khp2 zhp2 Vhp2
  rw [push_c (cs := (cs ++ [dig m 7])) (by omega)] at Vhp2
  have V : Ech Z hp2 y ((cs ++ [dig m 7]) ++ [dig m 6]) := ⟨ky, Vhp2⟩
  have K0 := K0.trans Khp2 (fun _ q => Or.inl q)
  refine go_iload (v := (8 : Int32)) (q := 244) d39_242 rfl rfl ?_
  refine go_bipush (x := (6 : Int32)) (q := 246) d39_244 rfl rfl ?_
  refine go_icN (q := 249) d39_246 (by decide) rfl ?_
  refine go_aloadN (v := .ref y) (q := 250) d39_249 rfl rfl rfl ?_
  refine go_iloadN (v := (Int32.ofNat ((cs ++ [dig m 7]) ++ [dig m 6]).length)) (q := 251) d39_250 rfl rfl ?_
  refine go_iinc (x := (Int32.ofNat ((cs ++ [dig m 7]) ++ [dig m 6]).length)) (y := (Int32.ofNat (((cs ++ [dig m 7]) ++ [dig m 6]) ++ [dig m 5]).length)) (L' := #[.val (.ref y), .val (.int a1), .val (.int p2), .val (.int (Int32.ofNat (((cs ++ [dig m 7]) ++ [dig m 6]) ++ [dig m 5]).length)), .val (.long (Int64.ofNat m)), .second, .val (.int (8 : Int32))]) (q := 254) d39_251 rfl inc_push rfl rfl ?_
  refine go_lload (v := (Int64.ofNat m)) (q := 256) d39_254 rfl rfl ?_
  refine go_ldc2 (v := (100000 : Int64)) (q := 259) (w_249 H) d39_256 rfl ?_
  refine go_static (c' := 0) (s' := 0) (q := 262) (S := [.int (Int32.ofNat ((cs ++ [dig m 7]) ++ [dig m 6]).length), .ref y]) (argsL := [.long (Int64.ofNat m), .long (100000 : Int64)]) H (w_207 H) (w_208 H) (w_204 H) (w_209 H) (by decide) (rm_dg H (e := 5) hm (by decide) (by first | rfl | decide)) rfl rfl (lenOf pd_33 rfl) (fun _ q => nomatch q) rfl (by decide) (Nat.le_of_ble_eq_true rfl) rfl rfl (by decide) (by decide) d39_259 rfl ?_
  rintro _ _ G - ⟨rfl, rfl⟩
  refine nx_ (v := none) ?_
  show Go _ _ _ _ _ _ _ _ _ _ _ _ _ _ 262 #[.val (.ref y), .val (.int a1), .val (.int p2), .val (.int (Int32.ofNat (((cs ++ [dig m 7]) ++ [dig m 6]) ++ [dig m 5]).length)), .val (.long (Int64.ofNat m)), .second, .val (.int (8 : Int32))] [.int (dig m 5), .int (Int32.ofNat ((cs ++ [dig m 7]) ++ [dig m 6]).length), .ref y]
  have hn3 : ((cs ++ [dig m 7]) ++ [dig m 6]).length = cs.length + 2 := by simp
  obtain ⟨ky, V⟩ := V
  refine go_castore (i := ((cs ++ [dig m 7]) ++ [dig m 6]).length) (y := (dig m 5)) (q := 263) V ⟨nn_ofNat (by omega), (lt_ofNat (n := 40) (by omega) (by decide)).mpr (by omega)⟩ (cl_ofNat (by omega)) (by simp <;> omega) (by simp) (nar_char (dig_ok m 5).1 (dig_ok m 5).2) d39_262 rfl ?_
  intro hp3 Khp3 zhp3 Vhp3
  rw [push_c (cs := ((cs ++ [dig m 7]) ++ [dig m 6])) (by omega)] at Vhp3
  have V : Ech Z hp3 y (((cs ++ [dig m 7]) ++ [dig m 6]) ++ [dig m 5]) := ⟨ky, Vhp3⟩
  have K0 := K0.trans Khp3 (fun _ q => Or.inl q)
  refine go_iload (v := (8 : Int32)) (q := 265) d39_263 rfl rfl ?_
  refine go_iconst (x := (5 : Int32)) (q := 266) d39_265 rfl rfl ?_
  refine go_icN (q := 269) d39_266 (by decide) rfl ?_
  refine go_aloadN (v := .ref y) (q := 270) d39_269 rfl rfl rfl ?_
  refine go_iloadN (v := (Int32.ofNat (((cs ++ [dig m 7]) ++ [dig m 6]) ++ [dig m 5]).length)) (q := 271) d39_270 rfl rfl ?_
  refine go_iinc (x := (Int32.ofNat (((cs ++ [dig m 7]) ++ [dig m 6]) ++ [dig m 5]).length)) (y := (Int32.ofNat ((((cs ++ [dig m 7]) ++ [dig m 6]) ++ [dig m 5]) ++ [dig m 4]).length)) (L' := #[.val (.ref y), .val (.int a1), .val (.int p2), .val (.int (Int32.ofNat ((((cs ++ [dig m 7]) ++ [dig m 6]) ++ [dig m 5]) ++ [dig m 4]).length)), .val (.long (Int64.ofNat m)), .second, .val (.int (8 : Int32))]) (q := 274) d39_271 rfl inc_push rfl rfl ?_
  refine go_lload (v := (Int64.ofNat m)) (q := 276) d39_274 rfl rfl ?_
  refine go_ldc2 (v := (10000 : Int64)) (q := 279) (w_248 H) d39_276 rfl ?_
  refine go_static (c' := 0) (s' := 0) (q := 282) (S := [.int (Int32.ofNat (((cs ++ [dig m 7]) ++ [dig m 6]) ++ [dig m 5]).length), .ref y]) (argsL := [.long (Int64.ofNat m), .long (10000 : Int64)]) H (w_207 H) (w_208 H) (w_204 H) (w_209 H) (by decide) (rm_dg H (e := 4) hm (by decide) (by first | rfl | decide)) rfl rfl (lenOf pd_33 rfl) (fun _ q => nomatch q) rfl (by decide) (Nat.le_of_ble_eq_true rfl) rfl rfl (by decide) (by decide) d39_279 rfl ?_
  rintro _ _ G - ⟨rfl, rfl⟩
  refine nx_ (v := none) ?_
  show Go _ _ _ _ _ _ _ _ _ _ _ _ _ _ 282 #[.val (.ref y), .val (.int a1), .val (.int p2), .val (.int (Int32.ofNat ((((cs ++ [dig m 7]) ++ [dig m 6]) ++ [dig m 5]) ++ [dig m 4]).length)), .val (.long (Int64.ofNat m)), .second, .val (.int (8 : Int32))] [.int (dig m 4), .int (Int32.ofNat (((cs ++ [dig m 7]) ++ [dig m 6]) ++ [dig m 5]).length), .ref y]
  have hn4 : (((cs ++ [dig m 7]) ++ [dig m 6]) ++ [dig m 5]).length = cs.length + 3 := by simp
  obtain ⟨ky, V⟩ := V
  refine go_castore (i := (((cs ++ [dig m 7]) ++ [dig m 6]) ++ [dig m 5]).length) (y := (dig m 4)) (q := 283) V ⟨nn_ofNat (by omega), (lt_ofNat (n := 40) (by omega) (by decide)).mpr (by omega)⟩ (cl_ofNat (by omega)) (by simp <;> omega) (by simp) (nar_char (dig_ok m 4).1 (dig_ok m 4).2) d39_282 rfl ?_
  intro hp4 Khp4 zhp4 Vhp4
  rw [push_c (cs := (((cs ++ [dig m 7]) ++ [dig m 6]) ++ [dig m 5])) (by omega)] at Vhp4
  have V : Ech Z hp4 y ((((cs ++ [dig m 7]) ++ [dig m 6]) ++ [dig m 5]) ++ [dig m 4]) := ⟨ky, Vhp4⟩
  have K0 := K0.trans Khp4 (fun _ q => Or.inl q)
  refine go_iload (v := (8 : Int32)) (q := 285) d39_283 rfl rfl ?_
  refine go_iconst (x := (4 : Int32)) (q := 286) d39_285 rfl rfl ?_
  refine go_icN (q := 289) d39_286 (by decide) rfl ?_
  refine go_aloadN (v := .ref y) (q := 290) d39_289 rfl rfl rfl ?_
  refine go_iloadN (v := (Int32.ofNat ((((cs ++ [dig m 7]) ++ [dig m 6]) ++ [dig m 5]) ++ [dig m 4]).length)) (q := 291) d39_290 rfl rfl ?_
  refine go_iinc (x := (Int32.ofNat ((((cs ++ [dig m 7]) ++ [dig m 6]) ++ [dig m 5]) ++ [dig m 4]).length)) (y := (Int32.ofNat (((((cs ++ [dig m 7]) ++ [dig m 6]) ++ [dig m 5]) ++ [dig m 4]) ++ [dig m 3]).length)) (L' := #[.val (.ref y), .val (.int a1), .val (.int p2), .val (.int (Int32.ofNat (((((cs ++ [dig m 7]) ++ [dig m 6]) ++ [dig m 5]) ++ [dig m 4]) ++ [dig m 3]).length)), .val (.long (Int64.ofNat m)), .second, .val (.int (8 : Int32))]) (q := 294) d39_291 rfl inc_push rfl rfl ?_
  refine go_lload (v := (Int64.ofNat m)) (q := 296) d39_294 rfl rfl ?_
  refine go_ldc2 (v := (1000 : Int64)) (q := 299) (w_247 H) d39_296 rfl ?_
  refine go_static (c' := 0) (s' := 0) (q := 302) (S := [.int (Int32.ofNat ((((cs ++ [dig m 7]) ++ [dig m 6]) ++ [dig m 5]) ++ [dig m 4]).length), .ref y]) (argsL := [.long (Int64.ofNat m), .long (1000 : Int64)]) H (w_207 H) (w_208 H) (w_204 H) (w_209 H) (by decide) (rm_dg H (e := 3) hm (by decide) (by first | rfl | decide)) rfl rfl (lenOf pd_33 rfl) (fun _ q => nomatch q) rfl (by decide) (Nat.le_of_ble_eq_true rfl) rfl rfl (by decide) (by decide) d39_299 rfl ?_
  rintro _ _ G - ⟨rfl, rfl⟩
  refine nx_ (v := none) ?_
  show Go _ _ _ _ _ _ _ _ _ _ _ _ _ _ 302 #[.val (.ref y), .val (.int a1), .val (.int p2), .val (.int (Int32.ofNat (((((cs ++ [dig m 7]) ++ [dig m 6]) ++ [dig m 5]) ++ [dig m 4]) ++ [dig m 3]).length)), .val (.long (Int64.ofNat m)), .second, .val (.int (8 : Int32))] [.int (dig m 3), .int (Int32.ofNat ((((cs ++ [dig m 7]) ++ [dig m 6]) ++ [dig m 5]) ++ [dig m 4]).length), .ref y]
  have hn5 : ((((cs ++ [dig m 7]) ++ [dig m 6]) ++ [dig m 5]) ++ [dig m 4]).length = cs.length + 4 := by simp
  obtain ⟨ky, V⟩ := V
  refine go_castore (i := ((((cs ++ [dig m 7]) ++ [dig m 6]) ++ [dig m 5]) ++ [dig m 4]).length) (y := (dig m 3)) (q := 303) V ⟨nn_ofNat (by omega), (lt_ofNat (n := 40) (by omega) (by decide)).mpr (by omega)⟩ (cl_ofNat (by omega)) (by simp <;> omega) (by simp) (nar_char (dig_ok m 3).1 (dig_ok m 3).2) d39_302 rfl ?_
  intro hp5 Khp5 zhp5 Vhp5
  rw [push_c (cs := ((((cs ++ [dig m 7]) ++ [dig m 6]) ++ [dig m 5]) ++ [dig m 4])) (by omega)] at Vhp5
  have V : Ech Z hp5 y (((((cs ++ [dig m 7]) ++ [dig m 6]) ++ [dig m 5]) ++ [dig m 4]) ++ [dig m 3]) := ⟨ky, Vhp5⟩
  have K0 := K0.trans Khp5 (fun _ q => Or.inl q)
  refine go_iload (v := (8 : Int32)) (q := 305) d39_303 rfl rfl ?_
  refine go_iconst (x := (3 : Int32)) (q := 306) d39_305 rfl rfl ?_
  refine go_icN (q := 309) d39_306 (by decide) rfl ?_
  refine go_aloadN (v := .ref y) (q := 310) d39_309 rfl rfl rfl ?_
  refine go_iloadN (v := (Int32.ofNat (((((cs ++ [dig m 7]) ++ [dig m 6]) ++ [dig m 5]) ++ [dig m 4]) ++ [dig m 3]).length)) (q := 311) d39_310 rfl rfl ?_
  refine go_iinc (x := (Int32.ofNat (((((cs ++ [dig m 7]) ++ [dig m 6]) ++ [dig m 5]) ++ [dig m 4]) ++ [dig m 3]).length)) (y := (Int32.ofNat ((((((cs ++ [dig m 7]) ++ [dig m 6]) ++ [dig m 5]) ++ [dig m 4]) ++ [dig m 3]) ++ [dig m 2]).length)) (L' := #[.val (.ref y), .val (.int a1), .val (.int p2), .val (.int (Int32.ofNat ((((((cs ++ [dig m 7]) ++ [dig m 6]) ++ [dig m 5]) ++ [dig m 4]) ++ [dig m 3]) ++ [dig m 2]).length)), .val (.long (Int64.ofNat m)), .second, .val (.int (8 : Int32))]) (q := 314) d39_311 rfl inc_push rfl rfl ?_
  refine go_lload (v := (Int64.ofNat m)) (q := 316) d39_314 rfl rfl ?_
  refine go_ldc2 (v := (100 : Int64)) (q := 319) (w_246 H) d39_316 rfl ?_
  refine go_static (c' := 0) (s' := 0) (q := 322) (S := [.int (Int32.ofNat (((((cs ++ [dig m 7]) ++ [dig m 6]) ++ [dig m 5]) ++ [dig m 4]) ++ [dig m 3]).length), .ref y]) (argsL := [.long (Int64.ofNat m), .long (100 : Int64)]) H (w_207 H) (w_208 H) (w_204 H) (w_209 H) (by decide) (rm_dg H (e := 2) hm (by decide) (by first | rfl | decide)) rfl rfl (lenOf pd_33 rfl) (fun _ q => nomatch q) rfl (by decide) (Nat.le_of_ble_eq_true rfl) rfl rfl (by decide) (by decide) d39_319 rfl ?_
  rintro _ _ G - ⟨rfl, rfl⟩
  refine nx_ (v := none) ?_
  show Go _ _ _ _ _ _ _ _ _ _ _ _ _ _ 322 #[.val (.ref y), .val (.int a1), .val (.int p2), .val (.int (Int32.ofNat ((((((cs ++ [dig m 7]) ++ [dig m 6]) ++ [dig m 5]) ++ [dig m 4]) ++ [dig m 3]) ++ [dig m 2]).length)), .val (.long (Int64.ofNat m)), .second, .val (.int (8 : Int32))] [.int (dig m 2), .int (Int32.ofNat (((((cs ++ [dig m 7]) ++ [dig m 6]) ++ [dig m 5]) ++ [dig m 4]) ++ [dig m 3]).length), .ref y]
  have hn6 : (((((cs ++ [dig m 7]) ++ [dig m 6]) ++ [dig m 5]) ++ [dig m 4]) ++ [dig m 3]).length = cs.length + 5 := by simp
  obtain ⟨ky, V⟩ := V
  refine go_castore (i := (((((cs ++ [dig m 7]) ++ [dig m 6]) ++ [dig m 5]) ++ [dig m 4]) ++ [dig m 3]).length) (y := (dig m 2)) (q := 323) V ⟨nn_ofNat (by omega), (lt_ofNat (n := 40) (by omega) (by decide)).mpr (by omega)⟩ (cl_ofNat (by omega)) (by simp <;> omega) (by simp) (nar_char (dig_ok m 2).1 (dig_ok m 2).2) d39_322 rfl ?_
  intro hp6 Khp6 zhp6 Vhp6
  rw [push_c (cs := (((((cs ++ [dig m 7]) ++ [dig m 6]) ++ [dig m 5]) ++ [dig m 4]) ++ [dig m 3])) (by omega)] at Vhp6
  have V : Ech Z hp6 y ((((((cs ++ [dig m 7]) ++ [dig m 6]) ++ [dig m 5]) ++ [dig m 4]) ++ [dig m 3]) ++ [dig m 2]) := ⟨ky, Vhp6⟩
  have K0 := K0.trans Khp6 (fun _ q => Or.inl q)
  refine go_iload (v := (8 : Int32)) (q := 325) d39_323 rfl rfl ?_
  refine go_iconst (x := (2 : Int32)) (q := 326) d39_325 rfl rfl ?_
  refine go_icN (q := 329) d39_326 (by decide) rfl ?_
  refine go_aloadN (v := .ref y) (q := 330) d39_329 rfl rfl rfl ?_
  refine go_iloadN (v := (Int32.ofNat ((((((cs ++ [dig m 7]) ++ [dig m 6]) ++ [dig m 5]) ++ [dig m 4]) ++ [dig m 3]) ++ [dig m 2]).length)) (q := 331) d39_330 rfl rfl ?_
  refine go_iinc (x := (Int32.ofNat ((((((cs ++ [dig m 7]) ++ [dig m 6]) ++ [dig m 5]) ++ [dig m 4]) ++ [dig m 3]) ++ [dig m 2]).length)) (y := (Int32.ofNat (((((((cs ++ [dig m 7]) ++ [dig m 6]) ++ [dig m 5]) ++ [dig m 4]) ++ [dig m 3]) ++ [dig m 2]) ++ [dig m 1]).length)) (L' := #[.val (.ref y), .val (.int a1), .val (.int p2), .val (.int (Int32.ofNat (((((((cs ++ [dig m 7]) ++ [dig m 6]) ++ [dig m 5]) ++ [dig m 4]) ++ [dig m 3]) ++ [dig m 2]) ++ [dig m 1]).length)), .val (.long (Int64.ofNat m)), .second, .val (.int (8 : Int32))]) (q := 334) d39_331 rfl inc_push rfl rfl ?_
  refine go_lload (v := (Int64.ofNat m)) (q := 336) d39_334 rfl rfl ?_
  refine go_ldc2 (v := (10 : Int64)) (q := 339) (w_206 H) d39_336 rfl ?_
  refine go_static (c' := 0) (s' := 0) (q := 342) (S := [.int (Int32.ofNat ((((((cs ++ [dig m 7]) ++ [dig m 6]) ++ [dig m 5]) ++ [dig m 4]) ++ [dig m 3]) ++ [dig m 2]).length), .ref y]) (argsL := [.long (Int64.ofNat m), .long (10 : Int64)]) H (w_207 H) (w_208 H) (w_204 H) (w_209 H) (by decide) (rm_dg H (e := 1) hm (by decide) (by first | rfl | decide)) rfl rfl (lenOf pd_33 rfl) (fun _ q => nomatch q) rfl (by decide) (Nat.le_of_ble_eq_true rfl) rfl rfl (by decide) (by decide) d39_339 rfl ?_
  rintro _ _ G - ⟨rfl, rfl⟩
  refine nx_ (v := none) ?_
  show Go _ _ _ _ _ _ _ _ _ _ _ _ _ _ 342 #[.val (.ref y), .val (.int a1), .val (.int p2), .val (.int (Int32.ofNat (((((((cs ++ [dig m 7]) ++ [dig m 6]) ++ [dig m 5]) ++ [dig m 4]) ++ [dig m 3]) ++ [dig m 2]) ++ [dig m 1]).length)), .val (.long (Int64.ofNat m)), .second, .val (.int (8 : Int32))] [.int (dig m 1), .int (Int32.ofNat ((((((cs ++ [dig m 7]) ++ [dig m 6]) ++ [dig m 5]) ++ [dig m 4]) ++ [dig m 3]) ++ [dig m 2]).length), .ref y]
  have hn7 : ((((((cs ++ [dig m 7]) ++ [dig m 6]) ++ [dig m 5]) ++ [dig m 4]) ++ [dig m 3]) ++ [dig m 2]).length = cs.length + 6 := by simp
  obtain ⟨ky, V⟩ := V
  refine go_castore (i := ((((((cs ++ [dig m 7]) ++ [dig m 6]) ++ [dig m 5]) ++ [dig m 4]) ++ [dig m 3]) ++ [dig m 2]).length) (y := (dig m 1)) (q := 343) V ⟨nn_ofNat (by omega), (lt_ofNat (n := 40) (by omega) (by decide)).mpr (by omega)⟩ (cl_ofNat (by omega)) (by simp <;> omega) (by simp) (nar_char (dig_ok m 1).1 (dig_ok m 1).2) d39_342 rfl ?_
  intro hp7 Khp7 zhp7 Vhp7
  rw [push_c (cs := ((((((cs ++ [dig m 7]) ++ [dig m 6]) ++ [dig m 5]) ++ [dig m 4]) ++ [dig m 3]) ++ [dig m 2])) (by omega)] at Vhp7
  have V : Ech Z hp7 y (((((((cs ++ [dig m 7]) ++ [dig m 6]) ++ [dig m 5]) ++ [dig m 4]) ++ [dig m 3]) ++ [dig m 2]) ++ [dig m 1]) := ⟨ky, Vhp7⟩
  have K0 := K0.trans Khp7 (fun _ q => Or.inl q)
  refine go_aloadN (v := .ref y) (q := 344) d39_343 rfl rfl rfl ?_
  refine go_iloadN (v := (Int32.ofNat (((((((cs ++ [dig m 7]) ++ [dig m 6]) ++ [dig m 5]) ++ [dig m 4]) ++ [dig m 3]) ++ [dig m 2]) ++ [dig m 1]).length)) (q := 345) d39_344 rfl rfl ?_
  refine go_iinc (x := (Int32.ofNat (((((((cs ++ [dig m 7]) ++ [dig m 6]) ++ [dig m 5]) ++ [dig m 4]) ++ [dig m 3]) ++ [dig m 2]) ++ [dig m 1]).length)) (y := (Int32.ofNat ((((((((cs ++ [dig m 7]) ++ [dig m 6]) ++ [dig m 5]) ++ [dig m 4]) ++ [dig m 3]) ++ [dig m 2]) ++ [dig m 1]) ++ [dig m 0]).length)) (L' := #[.val (.ref y), .val (.int a1), .val (.int p2), .val (.int (Int32.ofNat ((((((((cs ++ [dig m 7]) ++ [dig m 6]) ++ [dig m 5]) ++ [dig m 4]) ++ [dig m 3]) ++ [dig m 2]) ++ [dig m 1]) ++ [dig m 0]).length)), .val (.long (Int64.ofNat m)), .second, .val (.int (8 : Int32))]) (q := 348) d39_345 rfl inc_push rfl rfl ?_
  refine go_lload (v := (Int64.ofNat m)) (q := 350) d39_348 rfl rfl ?_
  refine go_lconst (x := (1 : Int64)) (q := 351) d39_350 rfl rfl ?_
  refine go_static (c' := 0) (s' := 0) (q := 354) (S := [.int (Int32.ofNat (((((((cs ++ [dig m 7]) ++ [dig m 6]) ++ [dig m 5]) ++ [dig m 4]) ++ [dig m 3]) ++ [dig m 2]) ++ [dig m 1]).length), .ref y]) (argsL := [.long (Int64.ofNat m), .long (1 : Int64)]) H (w_207 H) (w_208 H) (w_204 H) (w_209 H) (by decide) (rm_dg H (e := 0) hm (by decide) (by first | rfl | decide)) rfl rfl (lenOf pd_33 rfl) (fun _ q => nomatch q) rfl (by decide) (Nat.le_of_ble_eq_true rfl) rfl rfl (by decide) (by decide) d39_351 rfl ?_
  rintro _ _ G - ⟨rfl, rfl⟩
  refine nx_ (v := none) ?_
  show Go _ _ _ _ _ _ _ _ _ _ _ _ _ _ 354 #[.val (.ref y), .val (.int a1), .val (.int p2), .val (.int (Int32.ofNat ((((((((cs ++ [dig m 7]) ++ [dig m 6]) ++ [dig m 5]) ++ [dig m 4]) ++ [dig m 3]) ++ [dig m 2]) ++ [dig m 1]) ++ [dig m 0]).length)), .val (.long (Int64.ofNat m)), .second, .val (.int (8 : Int32))] [.int (dig m 0), .int (Int32.ofNat (((((((cs ++ [dig m 7]) ++ [dig m 6]) ++ [dig m 5]) ++ [dig m 4]) ++ [dig m 3]) ++ [dig m 2]) ++ [dig m 1]).length), .ref y]
  have hn8 : (((((((cs ++ [dig m 7]) ++ [dig m 6]) ++ [dig m 5]) ++ [dig m 4]) ++ [dig m 3]) ++ [dig m 2]) ++ [dig m 1]).length = cs.length + 7 := by simp
  obtain ⟨ky, V⟩ := V
  refine go_castore (i := (((((((cs ++ [dig m 7]) ++ [dig m 6]) ++ [dig m 5]) ++ [dig m 4]) ++ [dig m 3]) ++ [dig m 2]) ++ [dig m 1]).length) (y := (dig m 0)) (q := 355) V ⟨nn_ofNat (by omega), (lt_ofNat (n := 40) (by omega) (by decide)).mpr (by omega)⟩ (cl_ofNat (by omega)) (by simp <;> omega) (by simp) (nar_char (dig_ok m 0).1 (dig_ok m 0).2) d39_354 rfl ?_
  intro hp8 Khp8 zhp8 Vhp8
  rw [push_c (cs := (((((((cs ++ [dig m 7]) ++ [dig m 6]) ++ [dig m 5]) ++ [dig m 4]) ++ [dig m 3]) ++ [dig m 2]) ++ [dig m 1])) (by omega)] at Vhp8
  have V : Ech Z hp8 y ((((((((cs ++ [dig m 7]) ++ [dig m 6]) ++ [dig m 5]) ++ [dig m 4]) ++ [dig m 3]) ++ [dig m 2]) ++ [dig m 1]) ++ [dig m 0]) := ⟨ky, Vhp8⟩
  have K0 := K0.trans Khp8 (fun _ q => Or.inl q)
  refine go_aloadN (v := .ref y) (q := 356) d39_355 rfl rfl rfl ?_
  refine go_iloadN (v := (Int32.ofNat ((((((((cs ++ [dig m 7]) ++ [dig m 6]) ++ [dig m 5]) ++ [dig m 4]) ++ [dig m 3]) ++ [dig m 2]) ++ [dig m 1]) ++ [dig m 0]).length)) (q := 357) d39_356 rfl rfl ?_
  refine go_iinc (x := (Int32.ofNat ((((((((cs ++ [dig m 7]) ++ [dig m 6]) ++ [dig m 5]) ++ [dig m 4]) ++ [dig m 3]) ++ [dig m 2]) ++ [dig m 1]) ++ [dig m 0]).length)) (y := (Int32.ofNat (((((((((cs ++ [dig m 7]) ++ [dig m 6]) ++ [dig m 5]) ++ [dig m 4]) ++ [dig m 3]) ++ [dig m 2]) ++ [dig m 1]) ++ [dig m 0]) ++ [47]).length)) (L' := #[.val (.ref y), .val (.int a1), .val (.int p2), .val (.int (Int32.ofNat (((((((((cs ++ [dig m 7]) ++ [dig m 6]) ++ [dig m 5]) ++ [dig m 4]) ++ [dig m 3]) ++ [dig m 2]) ++ [dig m 1]) ++ [dig m 0]) ++ [47]).length)), .val (.long (Int64.ofNat m)), .second, .val (.int (8 : Int32))]) (q := 360) d39_357 rfl inc_push rfl rfl ?_
  refine go_bipush (x := (47 : Int32)) (q := 362) d39_360 rfl rfl ?_
  have hn9 : ((((((((cs ++ [dig m 7]) ++ [dig m 6]) ++ [dig m 5]) ++ [dig m 4]) ++ [dig m 3]) ++ [dig m 2]) ++ [dig m 1]) ++ [dig m 0]).length = cs.length + 8 := by simp
  obtain ⟨ky, V⟩ := V
  refine go_castore (i := ((((((((cs ++ [dig m 7]) ++ [dig m 6]) ++ [dig m 5]) ++ [dig m 4]) ++ [dig m 3]) ++ [dig m 2]) ++ [dig m 1]) ++ [dig m 0]).length) (y := 47) (q := 363) V ⟨nn_ofNat (by omega), (lt_ofNat (n := 40) (by omega) (by decide)).mpr (by omega)⟩ (cl_ofNat (by omega)) (by simp <;> omega) (by simp) (nar_char ((by decide : ¬ (47 : Int32) < 0 ∧ ¬ 255 < (47 : Int32))).1 ((by decide : ¬ (47 : Int32) < 0 ∧ ¬ 255 < (47 : Int32))).2) d39_362 rfl ?_
  intro hp9 Khp9 zhp9 Vhp9
  rw [push_c (cs := ((((((((cs ++ [dig m 7]) ++ [dig m 6]) ++ [dig m 5]) ++ [dig m 4]) ++ [dig m 3]) ++ [dig m 2]) ++ [dig m 1]) ++ [dig m 0])) (by omega)] at Vhp9
  have V : Ech Z hp9 y (((((((((cs ++ [dig m 7]) ++ [dig m 6]) ++ [dig m 5]) ++ [dig m 4]) ++ [dig m 3]) ++ [dig m 2]) ++ [dig m 1]) ++ [dig m 0]) ++ [47]) := ⟨ky, Vhp9⟩
  have K0 := K0.trans Khp9 (fun _ q => Or.inl q)
  refine go_iloadN (v := (Int32.ofNat (((((((((cs ++ [dig m 7]) ++ [dig m 6]) ++ [dig m 5]) ++ [dig m 4]) ++ [dig m 3]) ++ [dig m 2]) ++ [dig m 1]) ++ [dig m 0]) ++ [47]).length)) (q := 364) d39_363 rfl rfl ?_
  have e : (((((((((cs ++ [dig m 7]) ++ [dig m 6]) ++ [dig m 5]) ++ [dig m 4]) ++ [dig m 3]) ++ [dig m 2]) ++ [dig m 1]) ++ [dig m 0]) ++ [47]) = c1 ++ pnl p1 := by rw [hQ]; simp [dgs]
  rw [e] at V
  rw [e]
  show Go _ _ _ _ _ _ _ _ _ _ _ _ _ _ 364 #[.val (.ref y), .val (.int a1), .val (.int p2), .val (.int (Int32.ofNat (c1 ++ pnl p1).length)), .val (.long (Int64.ofNat m)), .second, .val (.int (8 : Int32))] [.int (Int32.ofNat (c1 ++ pnl p1).length)]
  exact go_ireturn H (G := []) (t := .int) rfl (by decide) rfl d39_364 (by decide) (by decide) (fun _ q => nomatch q) ⟨rfl, K0, V⟩
set_option maxRecDepth 65536 in
set_option maxHeartbeats 8000000 in
theorem jp158_9 {l : Launch} {Z : State} {a0 : Array Value} (H : Wd Z a0) {K : Cx} {h h1 : Heap} {y : Addr} {c1 cs : List Int32} {p1 p2 a1 : Int32} {m : Nat} (hm : m ≤ 2147483648) (V : Ech Z h y cs) (K0 : Keep h1 h [y]) (hl : cs.length ≤ 24) (hQ : c1 ++ pnl p1 = cs ++ (dgs m 9 ++ [47])) : GP l Z K h1 y c1 p1 h [y] 0 0 158 #[.val (.ref y), .val (.int a1), .val (.int p2), .val (.int (Int32.ofNat cs.length)), .val (.long (Int64.ofNat m)), .second, .val (.int (9 : Int32))] [] := by
  refine go_iload (v := (9 : Int32)) (q := 160) d39_158 rfl rfl ?_
  refine go_bipush (x := (10 : Int32)) (q := 162) d39_160 rfl rfl ?_
  refine go_icY (q := 179) d39_162 (by decide) (by decide) (by decide) ?_
  refine go_iload (v := (9 : Int32)) (q := 181) d39_179 rfl rfl ?_
  refine go_bipush (x := (9 : Int32)) (q := 183) d39_181 rfl rfl ?_
  refine go_icN (q := 186) d39_183 (by decide) rfl ?_
  refine go_aloadN (v := .ref y) (q := 187) d39_186 rfl rfl rfl ?_
  refine go_iloadN (v := (Int32.ofNat cs.length)) (q := 188) d39_187 rfl rfl ?_
  refine go_iinc (x := (Int32.ofNat cs.length)) (y := (Int32.ofNat (cs ++ [dig m 8]).length)) (L' := #[.val (.ref y), .val (.int a1), .val (.int p2), .val (.int (Int32.ofNat (cs ++ [dig m 8]).length)), .val (.long (Int64.ofNat m)), .second, .val (.int (9 : Int32))]) (q := 191) d39_188 rfl inc_push rfl rfl ?_
  refine go_lload (v := (Int64.ofNat m)) (q := 193) d39_191 rfl rfl ?_
  refine go_ldc2 (v := (100000000 : Int64)) (q := 196) (w_252 H) d39_193 rfl ?_
  refine go_static (c' := 0) (s' := 0) (q := 199) (S := [.int (Int32.ofNat cs.length), .ref y]) (argsL := [.long (Int64.ofNat m), .long (100000000 : Int64)]) H (w_207 H) (w_208 H) (w_204 H) (w_209 H) (by decide) (rm_dg H (e := 8) hm (by decide) (by first | rfl | decide)) rfl rfl (lenOf pd_33 rfl) (fun _ q => nomatch q) rfl (by decide) (Nat.le_of_ble_eq_true rfl) rfl rfl (by decide) (by decide) d39_196 rfl ?_
  rintro _ _ G - ⟨rfl, rfl⟩
  refine nx_ (v := none) ?_
  show Go _ _ _ _ _ _ _ _ _ _ _ _ _ _ 199 #[.val (.ref y), .val (.int a1), .val (.int p2), .val (.int (Int32.ofNat (cs ++ [dig m 8]).length)), .val (.long (Int64.ofNat m)), .second, .val (.int (9 : Int32))] [.int (dig m 8), .int (Int32.ofNat cs.length), .ref y]
  have hn1 := hl
  obtain ⟨ky, V⟩ := V
  refine go_castore (i := cs.length) (y := (dig m 8)) (q := 200) V ⟨nn_ofNat (by omega), (lt_ofNat (n := 40) (by omega) (by decide)).mpr (by omega)⟩ (cl_ofNat (by omega)) (by simp <;> omega) (by simp) (nar_char (dig_ok m 8).1 (dig_ok m 8).2) d39_199 rfl ?_
  intro hp1 Khp1 zhp1 Vhp1
  rw [push_c (cs := cs) (by omega)] at Vhp1
  have V : Ech Z hp1 y (cs ++ [dig m 8]) := ⟨ky, Vhp1⟩
  have K0 := K0.trans Khp1 (fun _ q => Or.inl q)
  refine go_iload (v := (9 : Int32)) (q := 202) d39_200 rfl rfl ?_
  refine go_bipush (x := (8 : Int32)) (q := 204) d39_202 rfl rfl ?_
  refine go_icN (q := 207) d39_204 (by decide) rfl ?_
  refine go_aloadN (v := .ref y) (q := 208) d39_207 rfl rfl rfl ?_
  refine go_iloadN (v := (Int32.ofNat (cs ++ [dig m 8]).length)) (q := 209) d39_208 rfl rfl ?_
  refine go_iinc (x := (Int32.ofNat (cs ++ [dig m 8]).length)) (y := (Int32.ofNat ((cs ++ [dig m 8]) ++ [dig m 7]).length)) (L' := #[.val (.ref y), .val (.int a1), .val (.int p2), .val (.int (Int32.ofNat ((cs ++ [dig m 8]) ++ [dig m 7]).length)), .val (.long (Int64.ofNat m)), .second, .val (.int (9 : Int32))]) (q := 212) d39_209 rfl inc_push rfl rfl ?_
  refine go_lload (v := (Int64.ofNat m)) (q := 214) d39_212 rfl rfl ?_
  refine go_ldc2 (v := (10000000 : Int64)) (q := 217) (w_251 H) d39_214 rfl ?_
  refine go_static (c' := 0) (s' := 0) (q := 220) (S := [.int (Int32.ofNat (cs ++ [dig m 8]).length), .ref y]) (argsL := [.long (Int64.ofNat m), .long (10000000 : Int64)]) H (w_207 H) (w_208 H) (w_204 H) (w_209 H) (by decide) (rm_dg H (e := 7) hm (by decide) (by first | rfl | decide)) rfl rfl (lenOf pd_33 rfl) (fun _ q => nomatch q) rfl (by decide) (Nat.le_of_ble_eq_true rfl) rfl rfl (by decide) (by decide) d39_217 rfl ?_
  rintro _ _ G - ⟨rfl, rfl⟩
  refine nx_ (v := none) ?_
  show Go _ _ _ _ _ _ _ _ _ _ _ _ _ _ 220 #[.val (.ref y), .val (.int a1), .val (.int p2), .val (.int (Int32.ofNat ((cs ++ [dig m 8]) ++ [dig m 7]).length)), .val (.long (Int64.ofNat m)), .second, .val (.int (9 : Int32))] [.int (dig m 7), .int (Int32.ofNat (cs ++ [dig m 8]).length), .ref y]
  have hn2 : (cs ++ [dig m 8]).length = cs.length + 1 := by simp
  obtain ⟨ky, V⟩ := V
  refine go_castore (i := (cs ++ [dig m 8]).length) (y := (dig m 7)) (q := 221) V ⟨nn_ofNat (by omega), (lt_ofNat (n := 40) (by omega) (by decide)).mpr (by omega)⟩ (cl_ofNat (by omega)) (by simp <;> omega) (by simp) (nar_char (dig_ok m 7).1 (dig_ok m 7).2) d39_220 rfl ?_
  intro hp2 Khp2 zhp2 Vhp2
  rw [push_c (cs := (cs ++ [dig m 8])) (by omega)] at Vhp2
  have V : Ech Z hp2 y ((cs ++ [dig m 8]) ++ [dig m 7]) := ⟨ky, Vhp2⟩
  have K0 := K0.trans Khp2 (fun _ q => Or.inl q)
  refine go_iload (v := (9 : Int32)) (q := 223) d39_221 rfl rfl ?_
  refine go_bipush (x := (7 : Int32)) (q := 225) d39_223 rfl rfl ?_
  refine go_icN (q := 228) d39_225 (by decide) rfl ?_
  refine go_aloadN (v := .ref y) (q := 229) d39_228 rfl rfl rfl ?_
  refine go_iloadN (v := (Int32.ofNat ((cs ++ [dig m 8]) ++ [dig m 7]).length)) (q := 230) d39_229 rfl rfl ?_
  refine go_iinc (x := (Int32.ofNat ((cs ++ [dig m 8]) ++ [dig m 7]).length)) (y := (Int32.ofNat (((cs ++ [dig m 8]) ++ [dig m 7]) ++ [dig m 6]).length)) (L' := #[.val (.ref y), .val (.int a1), .val (.int p2), .val (.int (Int32.ofNat (((cs ++ [dig m 8]) ++ [dig m 7]) ++ [dig m 6]).length)), .val (.long (Int64.ofNat m)), .second, .val (.int (9 : Int32))]) (q := 233) d39_230 rfl inc_push rfl rfl ?_
  refine go_lload (v := (Int64.ofNat m)) (q := 235) d39_233 rfl rfl ?_
  refine go_ldc2 (v := (1000000 : Int64)) (q := 238) (w_250 H) d39_235 rfl ?_
  refine go_static (c' := 0) (s' := 0) (q := 241) (S := [.int (Int32.ofNat ((cs ++ [dig m 8]) ++ [dig m 7]).length), .ref y]) (argsL := [.long (Int64.ofNat m), .long (1000000 : Int64)]) H (w_207 H) (w_208 H) (w_204 H) (w_209 H) (by decide) (rm_dg H (e := 6) hm (by decide) (by first | rfl | decide)) rfl rfl (lenOf pd_33 rfl) (fun _ q => nomatch q) rfl (by decide) (Nat.le_of_ble_eq_true rfl) rfl rfl (by decide) (by decide) d39_238 rfl ?_
  rintro _ _ G - ⟨rfl, rfl⟩
  refine nx_ (v := none) ?_
  show Go _ _ _ _ _ _ _ _ _ _ _ _ _ _ 241 #[.val (.ref y), .val (.int a1), .val (.int p2), .val (.int (Int32.ofNat (((cs ++ [dig m 8]) ++ [dig m 7]) ++ [dig m 6]).length)), .val (.long (Int64.ofNat m)), .second, .val (.int (9 : Int32))] [.int (dig m 6), .int (Int32.ofNat ((cs ++ [dig m 8]) ++ [dig m 7]).length), .ref y]
  have hn3 : ((cs ++ [dig m 8]) ++ [dig m 7]).length = cs.length + 2 := by simp
  obtain ⟨ky, V⟩ := V
  refine go_castore (i := ((cs ++ [dig m 8]) ++ [dig m 7]).length) (y := (dig m 6)) (q := 242) V ⟨nn_ofNat (by omega), (lt_ofNat (n := 40) (by omega) (by decide)).mpr (by omega)⟩ (cl_ofNat (by omega)) (by simp <;> omega) (by simp) (nar_char (dig_ok m 6).1 (dig_ok m 6).2) d39_241 rfl ?_
  intro hp3 Khp3 zhp3 Vhp3
  rw [push_c (cs := ((cs ++ [dig m 8]) ++ [dig m 7])) (by omega)] at Vhp3
  have V : Ech Z hp3 y (((cs ++ [dig m 8]) ++ [dig m 7]) ++ [dig m 6]) := ⟨ky, Vhp3⟩
  have K0 := K0.trans Khp3 (fun _ q => Or.inl q)
  refine go_iload (v := (9 : Int32)) (q := 244) d39_242 rfl rfl ?_
  refine go_bipush (x := (6 : Int32)) (q := 246) d39_244 rfl rfl ?_
  refine go_icN (q := 249) d39_246 (by decide) rfl ?_
  refine go_aloadN (v := .ref y) (q := 250) d39_249 rfl rfl rfl ?_
  refine go_iloadN (v := (Int32.ofNat (((cs ++ [dig m 8]) ++ [dig m 7]) ++ [dig m 6]).length)) (q := 251) d39_250 rfl rfl ?_
  refine go_iinc (x := (Int32.ofNat (((cs ++ [dig m 8]) ++ [dig m 7]) ++ [dig m 6]).length)) (y := (Int32.ofNat ((((cs ++ [dig m 8]) ++ [dig m 7]) ++ [dig m 6]) ++ [dig m 5]).length)) (L' := #[.val (.ref y), .val (.int a1), .val (.int p2), .val (.int (Int32.ofNat ((((cs ++ [dig m 8]) ++ [dig m 7]) ++ [dig m 6]) ++ [dig m 5]).length)), .val (.long (Int64.ofNat m)), .second, .val (.int (9 : Int32))]) (q := 254) d39_251 rfl inc_push rfl rfl ?_
  refine go_lload (v := (Int64.ofNat m)) (q := 256) d39_254 rfl rfl ?_
  refine go_ldc2 (v := (100000 : Int64)) (q := 259) (w_249 H) d39_256 rfl ?_
  refine go_static (c' := 0) (s' := 0) (q := 262) (S := [.int (Int32.ofNat (((cs ++ [dig m 8]) ++ [dig m 7]) ++ [dig m 6]).length), .ref y]) (argsL := [.long (Int64.ofNat m), .long (100000 : Int64)]) H (w_207 H) (w_208 H) (w_204 H) (w_209 H) (by decide) (rm_dg H (e := 5) hm (by decide) (by first | rfl | decide)) rfl rfl (lenOf pd_33 rfl) (fun _ q => nomatch q) rfl (by decide) (Nat.le_of_ble_eq_true rfl) rfl rfl (by decide) (by decide) d39_259 rfl ?_
  rintro _ _ G - ⟨rfl, rfl⟩
  refine nx_ (v := none) ?_
  show Go _ _ _ _ _ _ _ _ _ _ _ _ _ _ 262 #[.val (.ref y), .val (.int a1), .val (.int p2), .val (.int (Int32.ofNat ((((cs ++ [dig m 8]) ++ [dig m 7]) ++ [dig m 6]) ++ [dig m 5]).length)), .val (.long (Int64.ofNat m)), .second, .val (.int (9 : Int32))] [.int (dig m 5), .int (Int32.ofNat (((cs ++ [dig m 8]) ++ [dig m 7]) ++ [dig m 6]).length), .ref y]
  have hn4 : (((cs ++ [dig m 8]) ++ [dig m 7]) ++ [dig m 6]).length = cs.length + 3 := by simp
  obtain ⟨ky, V⟩ := V
  refine go_castore (i := (((cs ++ [dig m 8]) ++ [dig m 7]) ++ [dig m 6]).length) (y := (dig m 5)) (q := 263) V ⟨nn_ofNat (by omega), (lt_ofNat (n := 40) (by omega) (by decide)).mpr (by omega)⟩ (cl_ofNat (by omega)) (by simp <;> omega) (by simp) (nar_char (dig_ok m 5).1 (dig_ok m 5).2) d39_262 rfl ?_
  intro hp4 Khp4 zhp4 Vhp4
  rw [push_c (cs := (((cs ++ [dig m 8]) ++ [dig m 7]) ++ [dig m 6])) (by omega)] at Vhp4
  have V : Ech Z hp4 y ((((cs ++ [dig m 8]) ++ [dig m 7]) ++ [dig m 6]) ++ [dig m 5]) := ⟨ky, Vhp4⟩
  have K0 := K0.trans Khp4 (fun _ q => Or.inl q)
  refine go_iload (v := (9 : Int32)) (q := 265) d39_263 rfl rfl ?_
  refine go_iconst (x := (5 : Int32)) (q := 266) d39_265 rfl rfl ?_
  refine go_icN (q := 269) d39_266 (by decide) rfl ?_
  refine go_aloadN (v := .ref y) (q := 270) d39_269 rfl rfl rfl ?_
  refine go_iloadN (v := (Int32.ofNat ((((cs ++ [dig m 8]) ++ [dig m 7]) ++ [dig m 6]) ++ [dig m 5]).length)) (q := 271) d39_270 rfl rfl ?_
  refine go_iinc (x := (Int32.ofNat ((((cs ++ [dig m 8]) ++ [dig m 7]) ++ [dig m 6]) ++ [dig m 5]).length)) (y := (Int32.ofNat (((((cs ++ [dig m 8]) ++ [dig m 7]) ++ [dig m 6]) ++ [dig m 5]) ++ [dig m 4]).length)) (L' := #[.val (.ref y), .val (.int a1), .val (.int p2), .val (.int (Int32.ofNat (((((cs ++ [dig m 8]) ++ [dig m 7]) ++ [dig m 6]) ++ [dig m 5]) ++ [dig m 4]).length)), .val (.long (Int64.ofNat m)), .second, .val (.int (9 : Int32))]) (q := 274) d39_271 rfl inc_push rfl rfl ?_
  refine go_lload (v := (Int64.ofNat m)) (q := 276) d39_274 rfl rfl ?_
  refine go_ldc2 (v := (10000 : Int64)) (q := 279) (w_248 H) d39_276 rfl ?_
  refine go_static (c' := 0) (s' := 0) (q := 282) (S := [.int (Int32.ofNat ((((cs ++ [dig m 8]) ++ [dig m 7]) ++ [dig m 6]) ++ [dig m 5]).length), .ref y]) (argsL := [.long (Int64.ofNat m), .long (10000 : Int64)]) H (w_207 H) (w_208 H) (w_204 H) (w_209 H) (by decide) (rm_dg H (e := 4) hm (by decide) (by first | rfl | decide)) rfl rfl (lenOf pd_33 rfl) (fun _ q => nomatch q) rfl (by decide) (Nat.le_of_ble_eq_true rfl) rfl rfl (by decide) (by decide) d39_279 rfl ?_
  rintro _ _ G - ⟨rfl, rfl⟩
  refine nx_ (v := none) ?_
  show Go _ _ _ _ _ _ _ _ _ _ _ _ _ _ 282 #[.val (.ref y), .val (.int a1), .val (.int p2), .val (.int (Int32.ofNat (((((cs ++ [dig m 8]) ++ [dig m 7]) ++ [dig m 6]) ++ [dig m 5]) ++ [dig m 4]).length)), .val (.long (Int64.ofNat m)), .second, .val (.int (9 : Int32))] [.int (dig m 4), .int (Int32.ofNat ((((cs ++ [dig m 8]) ++ [dig m 7]) ++ [dig m 6]) ++ [dig m 5]).length), .ref y]
  have hn5 : ((((cs ++ [dig m 8]) ++ [dig m 7]) ++ [dig m 6]) ++ [dig m 5]).length = cs.length + 4 := by simp
  obtain ⟨ky, V⟩ := V
  refine go_castore (i := ((((cs ++ [dig m 8]) ++ [dig m 7]) ++ [dig m 6]) ++ [dig m 5]).length) (y := (dig m 4)) (q := 283) V ⟨nn_ofNat (by omega), (lt_ofNat (n := 40) (by omega) (by decide)).mpr (by omega)⟩ (cl_ofNat (by omega)) (by simp <;> omega) (by simp) (nar_char (dig_ok m 4).1 (dig_ok m 4).2) d39_282 rfl ?_
  intro hp5 Khp5 zhp5 Vhp5
  rw [push_c (cs := ((((cs ++ [dig m 8]) ++ [dig m 7]) ++ [dig m 6]) ++ [dig m 5])) (by omega)] at Vhp5
  have V : Ech Z hp5 y (((((cs ++ [dig m 8]) ++ [dig m 7]) ++ [dig m 6]) ++ [dig m 5]) ++ [dig m 4]) := ⟨ky, Vhp5⟩
  have K0 := K0.trans Khp5 (fun _ q => Or.inl q)
  refine go_iload (v := (9 : Int32)) (q := 285) d39_283 rfl rfl ?_
  refine go_iconst (x := (4 : Int32)) (q := 286) d39_285 rfl rfl ?_
  refine go_icN (q := 289) d39_286 (by decide) rfl ?_
  refine go_aloadN (v := .ref y) (q := 290) d39_289 rfl rfl rfl ?_
  refine go_iloadN (v := (Int32.ofNat (((((cs ++ [dig m 8]) ++ [dig m 7]) ++ [dig m 6]) ++ [dig m 5]) ++ [dig m 4]).length)) (q := 291) d39_290 rfl rfl ?_
  refine go_iinc (x := (Int32.ofNat (((((cs ++ [dig m 8]) ++ [dig m 7]) ++ [dig m 6]) ++ [dig m 5]) ++ [dig m 4]).length)) (y := (Int32.ofNat ((((((cs ++ [dig m 8]) ++ [dig m 7]) ++ [dig m 6]) ++ [dig m 5]) ++ [dig m 4]) ++ [dig m 3]).length)) (L' := #[.val (.ref y), .val (.int a1), .val (.int p2), .val (.int (Int32.ofNat ((((((cs ++ [dig m 8]) ++ [dig m 7]) ++ [dig m 6]) ++ [dig m 5]) ++ [dig m 4]) ++ [dig m 3]).length)), .val (.long (Int64.ofNat m)), .second, .val (.int (9 : Int32))]) (q := 294) d39_291 rfl inc_push rfl rfl ?_
  refine go_lload (v := (Int64.ofNat m)) (q := 296) d39_294 rfl rfl ?_
  refine go_ldc2 (v := (1000 : Int64)) (q := 299) (w_247 H) d39_296 rfl ?_
  refine go_static (c' := 0) (s' := 0) (q := 302) (S := [.int (Int32.ofNat (((((cs ++ [dig m 8]) ++ [dig m 7]) ++ [dig m 6]) ++ [dig m 5]) ++ [dig m 4]).length), .ref y]) (argsL := [.long (Int64.ofNat m), .long (1000 : Int64)]) H (w_207 H) (w_208 H) (w_204 H) (w_209 H) (by decide) (rm_dg H (e := 3) hm (by decide) (by first | rfl | decide)) rfl rfl (lenOf pd_33 rfl) (fun _ q => nomatch q) rfl (by decide) (Nat.le_of_ble_eq_true rfl) rfl rfl (by decide) (by decide) d39_299 rfl ?_
  rintro _ _ G - ⟨rfl, rfl⟩
  refine nx_ (v := none) ?_
  show Go _ _ _ _ _ _ _ _ _ _ _ _ _ _ 302 #[.val (.ref y), .val (.int a1), .val (.int p2), .val (.int (Int32.ofNat ((((((cs ++ [dig m 8]) ++ [dig m 7]) ++ [dig m 6]) ++ [dig m 5]) ++ [dig m 4]) ++ [dig m 3]).length)), .val (.long (Int64.ofNat m)), .second, .val (.int (9 : Int32))] [.int (dig m 3), .int (Int32.ofNat (((((cs ++ [dig m 8]) ++ [dig m 7]) ++ [dig m 6]) ++ [dig m 5]) ++ [dig m 4]).length), .ref y]
  have hn6 : (((((cs ++ [dig m 8]) ++ [dig m 7]) ++ [dig m 6]) ++ [dig m 5]) ++ [dig m 4]).length = cs.length + 5 := by simp
  obtain ⟨ky, V⟩ := V
  refine go_castore (i := (((((cs ++ [dig m 8]) ++ [dig m 7]) ++ [dig m 6]) ++ [dig m 5]) ++ [dig m 4]).length) (y := (dig m 3)) (q := 303) V ⟨nn_ofNat (by omega), (lt_ofNat (n := 40) (by omega) (by decide)).mpr (by omega)⟩ (cl_ofNat (by omega)) (by simp <;> omega) (by simp) (nar_char (dig_ok m 3).1 (dig_ok m 3).2) d39_302 rfl ?_
  intro hp6 Khp6 zhp6 Vhp6
  rw [push_c (cs := (((((cs ++ [dig m 8]) ++ [dig m 7]) ++ [dig m 6]) ++ [dig m 5]) ++ [dig m 4])) (by omega)] at Vhp6
  have V : Ech Z hp6 y ((((((cs ++ [dig m 8]) ++ [dig m 7]) ++ [dig m 6]) ++ [dig m 5]) ++ [dig m 4]) ++ [dig m 3]) := ⟨ky, Vhp6⟩
  have K0 := K0.trans Khp6 (fun _ q => Or.inl q)
  refine go_iload (v := (9 : Int32)) (q := 305) d39_303 rfl rfl ?_
  refine go_iconst (x := (3 : Int32)) (q := 306) d39_305 rfl rfl ?_
  refine go_icN (q := 309) d39_306 (by decide) rfl ?_
  refine go_aloadN (v := .ref y) (q := 310) d39_309 rfl rfl rfl ?_
  refine go_iloadN (v := (Int32.ofNat ((((((cs ++ [dig m 8]) ++ [dig m 7]) ++ [dig m 6]) ++ [dig m 5]) ++ [dig m 4]) ++ [dig m 3]).length)) (q := 311) d39_310 rfl rfl ?_
  refine go_iinc (x := (Int32.ofNat ((((((cs ++ [dig m 8]) ++ [dig m 7]) ++ [dig m 6]) ++ [dig m 5]) ++ [dig m 4]) ++ [dig m 3]).length)) (y := (Int32.ofNat (((((((cs ++ [dig m 8]) ++ [dig m 7]) ++ [dig m 6]) ++ [dig m 5]) ++ [dig m 4]) ++ [dig m 3]) ++ [dig m 2]).length)) (L' := #[.val (.ref y), .val (.int a1), .val (.int p2), .val (.int (Int32.ofNat (((((((cs ++ [dig m 8]) ++ [dig m 7]) ++ [dig m 6]) ++ [dig m 5]) ++ [dig m 4]) ++ [dig m 3]) ++ [dig m 2]).length)), .val (.long (Int64.ofNat m)), .second, .val (.int (9 : Int32))]) (q := 314) d39_311 rfl inc_push rfl rfl ?_
  refine go_lload (v := (Int64.ofNat m)) (q := 316) d39_314 rfl rfl ?_
  refine go_ldc2 (v := (100 : Int64)) (q := 319) (w_246 H) d39_316 rfl ?_
  refine go_static (c' := 0) (s' := 0) (q := 322) (S := [.int (Int32.ofNat ((((((cs ++ [dig m 8]) ++ [dig m 7]) ++ [dig m 6]) ++ [dig m 5]) ++ [dig m 4]) ++ [dig m 3]).length), .ref y]) (argsL := [.long (Int64.ofNat m), .long (100 : Int64)]) H (w_207 H) (w_208 H) (w_204 H) (w_209 H) (by decide) (rm_dg H (e := 2) hm (by decide) (by first | rfl | decide)) rfl rfl (lenOf pd_33 rfl) (fun _ q => nomatch q) rfl (by decide) (Nat.le_of_ble_eq_true rfl) rfl rfl (by decide) (by decide) d39_319 rfl ?_
  rintro _ _ G - ⟨rfl, rfl⟩
  refine nx_ (v := none) ?_
  show Go _ _ _ _ _ _ _ _ _ _ _ _ _ _ 322 #[.val (.ref y), .val (.int a1), .val (.int p2), .val (.int (Int32.ofNat (((((((cs ++ [dig m 8]) ++ [dig m 7]) ++ [dig m 6]) ++ [dig m 5]) ++ [dig m 4]) ++ [dig m 3]) ++ [dig m 2]).length)), .val (.long (Int64.ofNat m)), .second, .val (.int (9 : Int32))] [.int (dig m 2), .int (Int32.ofNat ((((((cs ++ [dig m 8]) ++ [dig m 7]) ++ [dig m 6]) ++ [dig m 5]) ++ [dig m 4]) ++ [dig m 3]).length), .ref y]
  have hn7 : ((((((cs ++ [dig m 8]) ++ [dig m 7]) ++ [dig m 6]) ++ [dig m 5]) ++ [dig m 4]) ++ [dig m 3]).length = cs.length + 6 := by simp
  obtain ⟨ky, V⟩ := V
  refine go_castore (i := ((((((cs ++ [dig m 8]) ++ [dig m 7]) ++ [dig m 6]) ++ [dig m 5]) ++ [dig m 4]) ++ [dig m 3]).length) (y := (dig m 2)) (q := 323) V ⟨nn_ofNat (by omega), (lt_ofNat (n := 40) (by omega) (by decide)).mpr (by omega)⟩ (cl_ofNat (by omega)) (by simp <;> omega) (by simp) (nar_char (dig_ok m 2).1 (dig_ok m 2).2) d39_322 rfl ?_
  intro hp7 Khp7 zhp7 Vhp7
  rw [push_c (cs := ((((((cs ++ [dig m 8]) ++ [dig m 7]) ++ [dig m 6]) ++ [dig m 5]) ++ [dig m 4]) ++ [dig m 3])) (by omega)] at Vhp7
  have V : Ech Z hp7 y (((((((cs ++ [dig m 8]) ++ [dig m 7]) ++ [dig m 6]) ++ [dig m 5]) ++ [dig m 4]) ++ [dig m 3]) ++ [dig m 2]) := ⟨ky, Vhp7⟩
  have K0 := K0.trans Khp7 (fun _ q => Or.inl q)
  refine go_iload (v := (9 : Int32)) (q := 325) d39_323 rfl rfl ?_
  refine go_iconst (x := (2 : Int32)) (q := 326) d39_325 rfl rfl ?_
  refine go_icN (q := 329) d39_326 (by decide) rfl ?_
  refine go_aloadN (v := .ref y) (q := 330) d39_329 rfl rfl rfl ?_
  refine go_iloadN (v := (Int32.ofNat (((((((cs ++ [dig m 8]) ++ [dig m 7]) ++ [dig m 6]) ++ [dig m 5]) ++ [dig m 4]) ++ [dig m 3]) ++ [dig m 2]).length)) (q := 331) d39_330 rfl rfl ?_
  refine go_iinc (x := (Int32.ofNat (((((((cs ++ [dig m 8]) ++ [dig m 7]) ++ [dig m 6]) ++ [dig m 5]) ++ [dig m 4]) ++ [dig m 3]) ++ [dig m 2]).length)) (y := (Int32.ofNat ((((((((cs ++ [dig m 8]) ++ [dig m 7]) ++ [dig m 6]) ++ [dig m 5]) ++ [dig m 4]) ++ [dig m 3]) ++ [dig m 2]) ++ [dig m 1]).length)) (L' := #[.val (.ref y), .val (.int a1), .val (.int p2), .val (.int (Int32.ofNat ((((((((cs ++ [dig m 8]) ++ [dig m 7]) ++ [dig m 6]) ++ [dig m 5]) ++ [dig m 4]) ++ [dig m 3]) ++ [dig m 2]) ++ [dig m 1]).length)), .val (.long (Int64.ofNat m)), .second, .val (.int (9 : Int32))]) (q := 334) d39_331 rfl inc_push rfl rfl ?_
  refine go_lload (v := (Int64.ofNat m)) (q := 336) d39_334 rfl rfl ?_
  refine go_ldc2 (v := (10 : Int64)) (q := 339) (w_206 H) d39_336 rfl ?_
  refine go_static (c' := 0) (s' := 0) (q := 342) (S := [.int (Int32.ofNat (((((((cs ++ [dig m 8]) ++ [dig m 7]) ++ [dig m 6]) ++ [dig m 5]) ++ [dig m 4]) ++ [dig m 3]) ++ [dig m 2]).length), .ref y]) (argsL := [.long (Int64.ofNat m), .long (10 : Int64)]) H (w_207 H) (w_208 H) (w_204 H) (w_209 H) (by decide) (rm_dg H (e := 1) hm (by decide) (by first | rfl | decide)) rfl rfl (lenOf pd_33 rfl) (fun _ q => nomatch q) rfl (by decide) (Nat.le_of_ble_eq_true rfl) rfl rfl (by decide) (by decide) d39_339 rfl ?_
  rintro _ _ G - ⟨rfl, rfl⟩
  refine nx_ (v := none) ?_
  show Go _ _ _ _ _ _ _ _ _ _ _ _ _ _ 342 #[.val (.ref y), .val (.int a1), .val (.int p2), .val (.int (Int32.ofNat ((((((((cs ++ [dig m 8]) ++ [dig m 7]) ++ [dig m 6]) ++ [dig m 5]) ++ [dig m 4]) ++ [dig m 3]) ++ [dig m 2]) ++ [dig m 1]).length)), .val (.long (Int64.ofNat m)), .second, .val (.int (9 : Int32))] [.int (dig m 1), .int (Int32.ofNat (((((((cs ++ [dig m 8]) ++ [dig m 7]) ++ [dig m 6]) ++ [dig m 5]) ++ [dig m 4]) ++ [dig m 3]) ++ [dig m 2]).length), .ref y]
  have hn8 : (((((((cs ++ [dig m 8]) ++ [dig m 7]) ++ [dig m 6]) ++ [dig m 5]) ++ [dig m 4]) ++ [dig m 3]) ++ [dig m 2]).length = cs.length + 7 := by simp
  obtain ⟨ky, V⟩ := V
  refine go_castore (i := (((((((cs ++ [dig m 8]) ++ [dig m 7]) ++ [dig m 6]) ++ [dig m 5]) ++ [dig m 4]) ++ [dig m 3]) ++ [dig m 2]).length) (y := (dig m 1)) (q := 343) V ⟨nn_ofNat (by omega), (lt_ofNat (n := 40) (by omega) (by decide)).mpr (by omega)⟩ (cl_ofNat (by omega)) (by simp <;> omega) (by simp) (nar_char (dig_ok m 1).1 (dig_ok m 1).2) d39_342 rfl ?_
  intro hp8 Khp8 zhp8 Vhp8
  rw [push_c (cs := (((((((cs ++ [dig m 8]) ++ [dig m 7]) ++ [dig m 6]) ++ [dig m 5]) ++ [dig m 4]) ++ [dig m 3]) ++ [dig m 2])) (by omega)] at Vhp8
  have V : Ech Z hp8 y ((((((((cs ++ [dig m 8]) ++ [dig m 7]) ++ [dig m 6]) ++ [dig m 5]) ++ [dig m 4]) ++ [dig m 3]) ++ [dig m 2]) ++ [dig m 1]) := ⟨ky, Vhp8⟩
  have K0 := K0.trans Khp8 (fun _ q => Or.inl q)
  refine go_aloadN (v := .ref y) (q := 344) d39_343 rfl rfl rfl ?_
  refine go_iloadN (v := (Int32.ofNat ((((((((cs ++ [dig m 8]) ++ [dig m 7]) ++ [dig m 6]) ++ [dig m 5]) ++ [dig m 4]) ++ [dig m 3]) ++ [dig m 2]) ++ [dig m 1]).length)) (q := 345) d39_344 rfl rfl ?_
  refine go_iinc (x := (Int32.ofNat ((((((((cs ++ [dig m 8]) ++ [dig m 7]) ++ [dig m 6]) ++ [dig m 5]) ++ [dig m 4]) ++ [dig m 3]) ++ [dig m 2]) ++ [dig m 1]).length)) (y := (Int32.ofNat (((((((((cs ++ [dig m 8]) ++ [dig m 7]) ++ [dig m 6]) ++ [dig m 5]) ++ [dig m 4]) ++ [dig m 3]) ++ [dig m 2]) ++ [dig m 1]) ++ [dig m 0]).length)) (L' := #[.val (.ref y), .val (.int a1), .val (.int p2), .val (.int (Int32.ofNat (((((((((cs ++ [dig m 8]) ++ [dig m 7]) ++ [dig m 6]) ++ [dig m 5]) ++ [dig m 4]) ++ [dig m 3]) ++ [dig m 2]) ++ [dig m 1]) ++ [dig m 0]).length)), .val (.long (Int64.ofNat m)), .second, .val (.int (9 : Int32))]) (q := 348) d39_345 rfl inc_push rfl rfl ?_
  refine go_lload (v := (Int64.ofNat m)) (q := 350) d39_348 rfl rfl ?_
  refine go_lconst (x := (1 : Int64)) (q := 351) d39_350 rfl rfl ?_
  refine go_static (c' := 0) (s' := 0) (q := 354) (S := [.int (Int32.ofNat ((((((((cs ++ [dig m 8]) ++ [dig m 7]) ++ [dig m 6]) ++ [dig m 5]) ++ [dig m 4]) ++ [dig m 3]) ++ [dig m 2]) ++ [dig m 1]).length), .ref y]) (argsL := [.long (Int64.ofNat m), .long (1 : Int64)]) H (w_207 H) (w_208 H) (w_204 H) (w_209 H) (by decide) (rm_dg H (e := 0) hm (by decide) (by first | rfl | decide)) rfl rfl (lenOf pd_33 rfl) (fun _ q => nomatch q) rfl (by decide) (Nat.le_of_ble_eq_true rfl) rfl rfl (by decide) (by decide) d39_351 rfl ?_
  rintro _ _ G - ⟨rfl, rfl⟩
  refine nx_ (v := none) ?_
  show Go _ _ _ _ _ _ _ _ _ _ _ _ _ _ 354 #[.val (.ref y), .val (.int a1), .val (.int p2), .val (.int (Int32.ofNat (((((((((cs ++ [dig m 8]) ++ [dig m 7]) ++ [dig m 6]) ++ [dig m 5]) ++ [dig m 4]) ++ [dig m 3]) ++ [dig m 2]) ++ [dig m 1]) ++ [dig m 0]).length)), .val (.long (Int64.ofNat m)), .second, .val (.int (9 : Int32))] [.int (dig m 0), .int (Int32.ofNat ((((((((cs ++ [dig m 8]) ++ [dig m 7]) ++ [dig m 6]) ++ [dig m 5]) ++ [dig m 4]) ++ [dig m 3]) ++ [dig m 2]) ++ [dig m 1]).length), .ref y]
  have hn9 : ((((((((cs ++ [dig m 8]) ++ [dig m 7]) ++ [dig m 6]) ++ [dig m 5]) ++ [dig m 4]) ++ [dig m 3]) ++ [dig m 2]) ++ [dig m 1]).length = cs.length + 8 := by simp
  obtain ⟨ky, V⟩ := V
  refine go_castore (i := ((((((((cs ++ [dig m 8]) ++ [dig m 7]) ++ [dig m 6]) ++ [dig m 5]) ++ [dig m 4]) ++ [dig m 3]) ++ [dig m 2]) ++ [dig m 1]).length) (y := (dig m 0)) (q := 355) V ⟨nn_ofNat (by omega), (lt_ofNat (n := 40) (by omega) (by decide)).mpr (by omega)⟩ (cl_ofNat (by omega)) (by simp <;> omega) (by simp) (nar_char (dig_ok m 0).1 (dig_ok m 0).2) d39_354 rfl ?_
  intro hp9 Khp9 zhp9 Vhp9
  rw [push_c (cs := ((((((((cs ++ [dig m 8]) ++ [dig m 7]) ++ [dig m 6]) ++ [dig m 5]) ++ [dig m 4]) ++ [dig m 3]) ++ [dig m 2]) ++ [dig m 1])) (by omega)] at Vhp9
  have V : Ech Z hp9 y (((((((((cs ++ [dig m 8]) ++ [dig m 7]) ++ [dig m 6]) ++ [dig m 5]) ++ [dig m 4]) ++ [dig m 3]) ++ [dig m 2]) ++ [dig m 1]) ++ [dig m 0]) := ⟨ky, Vhp9⟩
  have K0 := K0.trans Khp9 (fun _ q => Or.inl q)
  refine go_aloadN (v := .ref y) (q := 356) d39_355 rfl rfl rfl ?_
  refine go_iloadN (v := (Int32.ofNat (((((((((cs ++ [dig m 8]) ++ [dig m 7]) ++ [dig m 6]) ++ [dig m 5]) ++ [dig m 4]) ++ [dig m 3]) ++ [dig m 2]) ++ [dig m 1]) ++ [dig m 0]).length)) (q := 357) d39_356 rfl rfl ?_
  refine go_iinc (x := (Int32.ofNat (((((((((cs ++ [dig m 8]) ++ [dig m 7]) ++ [dig m 6]) ++ [dig m 5]) ++ [dig m 4]) ++ [dig m 3]) ++ [dig m 2]) ++ [dig m 1]) ++ [dig m 0]).length)) (y := (Int32.ofNat ((((((((((cs ++ [dig m 8]) ++ [dig m 7]) ++ [dig m 6]) ++ [dig m 5]) ++ [dig m 4]) ++ [dig m 3]) ++ [dig m 2]) ++ [dig m 1]) ++ [dig m 0]) ++ [47]).length)) (L' := #[.val (.ref y), .val (.int a1), .val (.int p2), .val (.int (Int32.ofNat ((((((((((cs ++ [dig m 8]) ++ [dig m 7]) ++ [dig m 6]) ++ [dig m 5]) ++ [dig m 4]) ++ [dig m 3]) ++ [dig m 2]) ++ [dig m 1]) ++ [dig m 0]) ++ [47]).length)), .val (.long (Int64.ofNat m)), .second, .val (.int (9 : Int32))]) (q := 360) d39_357 rfl inc_push rfl rfl ?_
  refine go_bipush (x := (47 : Int32)) (q := 362) d39_360 rfl rfl ?_
  have hn10 : (((((((((cs ++ [dig m 8]) ++ [dig m 7]) ++ [dig m 6]) ++ [dig m 5]) ++ [dig m 4]) ++ [dig m 3]) ++ [dig m 2]) ++ [dig m 1]) ++ [dig m 0]).length = cs.length + 9 := by simp
  obtain ⟨ky, V⟩ := V
  refine go_castore (i := (((((((((cs ++ [dig m 8]) ++ [dig m 7]) ++ [dig m 6]) ++ [dig m 5]) ++ [dig m 4]) ++ [dig m 3]) ++ [dig m 2]) ++ [dig m 1]) ++ [dig m 0]).length) (y := 47) (q := 363) V ⟨nn_ofNat (by omega), (lt_ofNat (n := 40) (by omega) (by decide)).mpr (by omega)⟩ (cl_ofNat (by omega)) (by simp <;> omega) (by simp) (nar_char ((by decide : ¬ (47 : Int32) < 0 ∧ ¬ 255 < (47 : Int32))).1 ((by decide : ¬ (47 : Int32) < 0 ∧ ¬ 255 < (47 : Int32))).2) d39_362 rfl ?_
  intro hp10 Khp10 zhp10 Vhp10
  rw [push_c (cs := (((((((((cs ++ [dig m 8]) ++ [dig m 7]) ++ [dig m 6]) ++ [dig m 5]) ++ [dig m 4]) ++ [dig m 3]) ++ [dig m 2]) ++ [dig m 1]) ++ [dig m 0])) (by omega)] at Vhp10
  have V : Ech Z hp10 y ((((((((((cs ++ [dig m 8]) ++ [dig m 7]) ++ [dig m 6]) ++ [dig m 5]) ++ [dig m 4]) ++ [dig m 3]) ++ [dig m 2]) ++ [dig m 1]) ++ [dig m 0]) ++ [47]) := ⟨ky, Vhp10⟩
  have K0 := K0.trans Khp10 (fun _ q => Or.inl q)
  refine go_iloadN (v := (Int32.ofNat ((((((((((cs ++ [dig m 8]) ++ [dig m 7]) ++ [dig m 6]) ++ [dig m 5]) ++ [dig m 4]) ++ [dig m 3]) ++ [dig m 2]) ++ [dig m 1]) ++ [dig m 0]) ++ [47]).length)) (q := 364) d39_363 rfl rfl ?_
  have e : ((((((((((cs ++ [dig m 8]) ++ [dig m 7]) ++ [dig m 6]) ++ [dig m 5]) ++ [dig m 4]) ++ [dig m 3]) ++ [dig m 2]) ++ [dig m 1]) ++ [dig m 0]) ++ [47]) = c1 ++ pnl p1 := by rw [hQ]; simp [dgs]
  rw [e] at V
  rw [e]
  show Go _ _ _ _ _ _ _ _ _ _ _ _ _ _ 364 #[.val (.ref y), .val (.int a1), .val (.int p2), .val (.int (Int32.ofNat (c1 ++ pnl p1).length)), .val (.long (Int64.ofNat m)), .second, .val (.int (9 : Int32))] [.int (Int32.ofNat (c1 ++ pnl p1).length)]
  exact go_ireturn H (G := []) (t := .int) rfl (by decide) rfl d39_364 (by decide) (by decide) (fun _ q => nomatch q) ⟨rfl, K0, V⟩
set_option maxRecDepth 65536 in
set_option maxHeartbeats 8000000 in
theorem jp158_10 {l : Launch} {Z : State} {a0 : Array Value} (H : Wd Z a0) {K : Cx} {h h1 : Heap} {y : Addr} {c1 cs : List Int32} {p1 p2 a1 : Int32} {m : Nat} (hm : m ≤ 2147483648) (V : Ech Z h y cs) (K0 : Keep h1 h [y]) (hl : cs.length ≤ 24) (hQ : c1 ++ pnl p1 = cs ++ (dgs m 10 ++ [47])) : GP l Z K h1 y c1 p1 h [y] 0 0 158 #[.val (.ref y), .val (.int a1), .val (.int p2), .val (.int (Int32.ofNat cs.length)), .val (.long (Int64.ofNat m)), .second, .val (.int (10 : Int32))] [] := by
  refine go_iload (v := (10 : Int32)) (q := 160) d39_158 rfl rfl ?_
  refine go_bipush (x := (10 : Int32)) (q := 162) d39_160 rfl rfl ?_
  refine go_icN (q := 165) d39_162 (by decide) rfl ?_
  refine go_aloadN (v := .ref y) (q := 166) d39_165 rfl rfl rfl ?_
  refine go_iloadN (v := (Int32.ofNat cs.length)) (q := 167) d39_166 rfl rfl ?_
  refine go_iinc (x := (Int32.ofNat cs.length)) (y := (Int32.ofNat (cs ++ [dig m 9]).length)) (L' := #[.val (.ref y), .val (.int a1), .val (.int p2), .val (.int (Int32.ofNat (cs ++ [dig m 9]).length)), .val (.long (Int64.ofNat m)), .second, .val (.int (10 : Int32))]) (q := 170) d39_167 rfl inc_push rfl rfl ?_
  refine go_lload (v := (Int64.ofNat m)) (q := 172) d39_170 rfl rfl ?_
  refine go_ldc2 (v := (1000000000 : Int64)) (q := 175) (w_253 H) d39_172 rfl ?_
  refine go_static (c' := 0) (s' := 0) (q := 178) (S := [.int (Int32.ofNat cs.length), .ref y]) (argsL := [.long (Int64.ofNat m), .long (1000000000 : Int64)]) H (w_207 H) (w_208 H) (w_204 H) (w_209 H) (by decide) (rm_dg H (e := 9) hm (by decide) (by first | rfl | decide)) rfl rfl (lenOf pd_33 rfl) (fun _ q => nomatch q) rfl (by decide) (Nat.le_of_ble_eq_true rfl) rfl rfl (by decide) (by decide) d39_175 rfl ?_
  rintro _ _ G - ⟨rfl, rfl⟩
  refine nx_ (v := none) ?_
  show Go _ _ _ _ _ _ _ _ _ _ _ _ _ _ 178 #[.val (.ref y), .val (.int a1), .val (.int p2), .val (.int (Int32.ofNat (cs ++ [dig m 9]).length)), .val (.long (Int64.ofNat m)), .second, .val (.int (10 : Int32))] [.int (dig m 9), .int (Int32.ofNat cs.length), .ref y]
  have hn1 := hl
  obtain ⟨ky, V⟩ := V
  refine go_castore (i := cs.length) (y := (dig m 9)) (q := 179) V ⟨nn_ofNat (by omega), (lt_ofNat (n := 40) (by omega) (by decide)).mpr (by omega)⟩ (cl_ofNat (by omega)) (by simp <;> omega) (by simp) (nar_char (dig_ok m 9).1 (dig_ok m 9).2) d39_178 rfl ?_
  intro hp1 Khp1 zhp1 Vhp1
  rw [push_c (cs := cs) (by omega)] at Vhp1
  have V : Ech Z hp1 y (cs ++ [dig m 9]) := ⟨ky, Vhp1⟩
  have K0 := K0.trans Khp1 (fun _ q => Or.inl q)
  refine go_iload (v := (10 : Int32)) (q := 181) d39_179 rfl rfl ?_
  refine go_bipush (x := (9 : Int32)) (q := 183) d39_181 rfl rfl ?_
  refine go_icN (q := 186) d39_183 (by decide) rfl ?_
  refine go_aloadN (v := .ref y) (q := 187) d39_186 rfl rfl rfl ?_
  refine go_iloadN (v := (Int32.ofNat (cs ++ [dig m 9]).length)) (q := 188) d39_187 rfl rfl ?_
  refine go_iinc (x := (Int32.ofNat (cs ++ [dig m 9]).length)) (y := (Int32.ofNat ((cs ++ [dig m 9]) ++ [dig m 8]).length)) (L' := #[.val (.ref y), .val (.int a1), .val (.int p2), .val (.int (Int32.ofNat ((cs ++ [dig m 9]) ++ [dig m 8]).length)), .val (.long (Int64.ofNat m)), .second, .val (.int (10 : Int32))]) (q := 191) d39_188 rfl inc_push rfl rfl ?_
  refine go_lload (v := (Int64.ofNat m)) (q := 193) d39_191 rfl rfl ?_
  refine go_ldc2 (v := (100000000 : Int64)) (q := 196) (w_252 H) d39_193 rfl ?_
  refine go_static (c' := 0) (s' := 0) (q := 199) (S := [.int (Int32.ofNat (cs ++ [dig m 9]).length), .ref y]) (argsL := [.long (Int64.ofNat m), .long (100000000 : Int64)]) H (w_207 H) (w_208 H) (w_204 H) (w_209 H) (by decide) (rm_dg H (e := 8) hm (by decide) (by first | rfl | decide)) rfl rfl (lenOf pd_33 rfl) (fun _ q => nomatch q) rfl (by decide) (Nat.le_of_ble_eq_true rfl) rfl rfl (by decide) (by decide) d39_196 rfl ?_
  rintro _ _ G - ⟨rfl, rfl⟩
  refine nx_ (v := none) ?_
  show Go _ _ _ _ _ _ _ _ _ _ _ _ _ _ 199 #[.val (.ref y), .val (.int a1), .val (.int p2), .val (.int (Int32.ofNat ((cs ++ [dig m 9]) ++ [dig m 8]).length)), .val (.long (Int64.ofNat m)), .second, .val (.int (10 : Int32))] [.int (dig m 8), .int (Int32.ofNat (cs ++ [dig m 9]).length), .ref y]
  have hn2 : (cs ++ [dig m 9]).length = cs.length + 1 := by simp
  obtain ⟨ky, V⟩ := V
  refine go_castore (i := (cs ++ [dig m 9]).length) (y := (dig m 8)) (q := 200) V ⟨nn_ofNat (by omega), (lt_ofNat (n := 40) (by omega) (by decide)).mpr (by omega)⟩ (cl_ofNat (by omega)) (by simp <;> omega) (by simp) (nar_char (dig_ok m 8).1 (dig_ok m 8).2) d39_199 rfl ?_
  intro hp2 Khp2 zhp2 Vhp2
  rw [push_c (cs := (cs ++ [dig m 9])) (by omega)] at Vhp2
  have V : Ech Z hp2 y ((cs ++ [dig m 9]) ++ [dig m 8]) := ⟨ky, Vhp2⟩
  have K0 := K0.trans Khp2 (fun _ q => Or.inl q)
  refine go_iload (v := (10 : Int32)) (q := 202) d39_200 rfl rfl ?_
  refine go_bipush (x := (8 : Int32)) (q := 204) d39_202 rfl rfl ?_
  refine go_icN (q := 207) d39_204 (by decide) rfl ?_
  refine go_aloadN (v := .ref y) (q := 208) d39_207 rfl rfl rfl ?_
  refine go_iloadN (v := (Int32.ofNat ((cs ++ [dig m 9]) ++ [dig m 8]).length)) (q := 209) d39_208 rfl rfl ?_
  refine go_iinc (x := (Int32.ofNat ((cs ++ [dig m 9]) ++ [dig m 8]).length)) (y := (Int32.ofNat (((cs ++ [dig m 9]) ++ [dig m 8]) ++ [dig m 7]).length)) (L' := #[.val (.ref y), .val (.int a1), .val (.int p2), .val (.int (Int32.ofNat (((cs ++ [dig m 9]) ++ [dig m 8]) ++ [dig m 7]).length)), .val (.long (Int64.ofNat m)), .second, .val (.int (10 : Int32))]) (q := 212) d39_209 rfl inc_push rfl rfl ?_
  refine go_lload (v := (Int64.ofNat m)) (q := 214) d39_212 rfl rfl ?_
  refine go_ldc2 (v := (10000000 : Int64)) (q := 217) (w_251 H) d39_214 rfl ?_
  refine go_static (c' := 0) (s' := 0) (q := 220) (S := [.int (Int32.ofNat ((cs ++ [dig m 9]) ++ [dig m 8]).length), .ref y]) (argsL := [.long (Int64.ofNat m), .long (10000000 : Int64)]) H (w_207 H) (w_208 H) (w_204 H) (w_209 H) (by decide) (rm_dg H (e := 7) hm (by decide) (by first | rfl | decide)) rfl rfl (lenOf pd_33 rfl) (fun _ q => nomatch q) rfl (by decide) (Nat.le_of_ble_eq_true rfl) rfl rfl (by decide) (by decide) d39_217 rfl ?_
  rintro _ _ G - ⟨rfl, rfl⟩
  refine nx_ (v := none) ?_
  show Go _ _ _ _ _ _ _ _ _ _ _ _ _ _ 220 #[.val (.ref y), .val (.int a1), .val (.int p2), .val (.int (Int32.ofNat (((cs ++ [dig m 9]) ++ [dig m 8]) ++ [dig m 7]).length)), .val (.long (Int64.ofNat m)), .second, .val (.int (10 : Int32))] [.int (dig m 7), .int (Int32.ofNat ((cs ++ [dig m 9]) ++ [dig m 8]).length), .ref y]
  have hn3 : ((cs ++ [dig m 9]) ++ [dig m 8]).length = cs.length + 2 := by simp
  obtain ⟨ky, V⟩ := V
  refine go_castore (i := ((cs ++ [dig m 9]) ++ [dig m 8]).length) (y := (dig m 7)) (q := 221) V ⟨nn_ofNat (by omega), (lt_ofNat (n := 40) (by omega) (by decide)).mpr (by omega)⟩ (cl_ofNat (by omega)) (by simp <;> omega) (by simp) (nar_char (dig_ok m 7).1 (dig_ok m 7).2) d39_220 rfl ?_
  intro hp3 Khp3 zhp3 Vhp3
  rw [push_c (cs := ((cs ++ [dig m 9]) ++ [dig m 8])) (by omega)] at Vhp3
  have V : Ech Z hp3 y (((cs ++ [dig m 9]) ++ [dig m 8]) ++ [dig m 7]) := ⟨ky, Vhp3⟩
  have K0 := K0.trans Khp3 (fun _ q => Or.inl q)
  refine go_iload (v := (10 : Int32)) (q := 223) d39_221 rfl rfl ?_
  refine go_bipush (x := (7 : Int32)) (q := 225) d39_223 rfl rfl ?_
  refine go_icN (q := 228) d39_225 (by decide) rfl ?_
  refine go_aloadN (v := .ref y) (q := 229) d39_228 rfl rfl rfl ?_
  refine go_iloadN (v := (Int32.ofNat (((cs ++ [dig m 9]) ++ [dig m 8]) ++ [dig m 7]).length)) (q := 230) d39_229 rfl rfl ?_
  refine go_iinc (x := (Int32.ofNat (((cs ++ [dig m 9]) ++ [dig m 8]) ++ [dig m 7]).length)) (y := (Int32.ofNat ((((cs ++ [dig m 9]) ++ [dig m 8]) ++ [dig m 7]) ++ [dig m 6]).length)) (L' := #[.val (.ref y), .val (.int a1), .val (.int p2), .val (.int (Int32.ofNat ((((cs ++ [dig m 9]) ++ [dig m 8]) ++ [dig m 7]) ++ [dig m 6]).length)), .val (.long (Int64.ofNat m)), .second, .val (.int (10 : Int32))]) (q := 233) d39_230 rfl inc_push rfl rfl ?_
  refine go_lload (v := (Int64.ofNat m)) (q := 235) d39_233 rfl rfl ?_
  refine go_ldc2 (v := (1000000 : Int64)) (q := 238) (w_250 H) d39_235 rfl ?_
  refine go_static (c' := 0) (s' := 0) (q := 241) (S := [.int (Int32.ofNat (((cs ++ [dig m 9]) ++ [dig m 8]) ++ [dig m 7]).length), .ref y]) (argsL := [.long (Int64.ofNat m), .long (1000000 : Int64)]) H (w_207 H) (w_208 H) (w_204 H) (w_209 H) (by decide) (rm_dg H (e := 6) hm (by decide) (by first | rfl | decide)) rfl rfl (lenOf pd_33 rfl) (fun _ q => nomatch q) rfl (by decide) (Nat.le_of_ble_eq_true rfl) rfl rfl (by decide) (by decide) d39_238 rfl ?_
  rintro _ _ G - ⟨rfl, rfl⟩
  refine nx_ (v := none) ?_
  show Go _ _ _ _ _ _ _ _ _ _ _ _ _ _ 241 #[.val (.ref y), .val (.int a1), .val (.int p2), .val (.int (Int32.ofNat ((((cs ++ [dig m 9]) ++ [dig m 8]) ++ [dig m 7]) ++ [dig m 6]).length)), .val (.long (Int64.ofNat m)), .second, .val (.int (10 : Int32))] [.int (dig m 6), .int (Int32.ofNat (((cs ++ [dig m 9]) ++ [dig m 8]) ++ [dig m 7]).length), .ref y]
  have hn4 : (((cs ++ [dig m 9]) ++ [dig m 8]) ++ [dig m 7]).length = cs.length + 3 := by simp
  obtain ⟨ky, V⟩ := V
  refine go_castore (i := (((cs ++ [dig m 9]) ++ [dig m 8]) ++ [dig m 7]).length) (y := (dig m 6)) (q := 242) V ⟨nn_ofNat (by omega), (lt_ofNat (n := 40) (by omega) (by decide)).mpr (by omega)⟩ (cl_ofNat (by omega)) (by simp <;> omega) (by simp) (nar_char (dig_ok m 6).1 (dig_ok m 6).2) d39_241 rfl ?_
  intro hp4 Khp4 zhp4 Vhp4
  rw [push_c (cs := (((cs ++ [dig m 9]) ++ [dig m 8]) ++ [dig m 7])) (by omega)] at Vhp4
  have V : Ech Z hp4 y ((((cs ++ [dig m 9]) ++ [dig m 8]) ++ [dig m 7]) ++ [dig m 6]) := ⟨ky, Vhp4⟩
  have K0 := K0.trans Khp4 (fun _ q => Or.inl q)
  refine go_iload (v := (10 : Int32)) (q := 244) d39_242 rfl rfl ?_
  refine go_bipush (x := (6 : Int32)) (q := 246) d39_244 rfl rfl ?_
  refine go_icN (q := 249) d39_246 (by decide) rfl ?_
  refine go_aloadN (v := .ref y) (q := 250) d39_249 rfl rfl rfl ?_
  refine go_iloadN (v := (Int32.ofNat ((((cs ++ [dig m 9]) ++ [dig m 8]) ++ [dig m 7]) ++ [dig m 6]).length)) (q := 251) d39_250 rfl rfl ?_
  refine go_iinc (x := (Int32.ofNat ((((cs ++ [dig m 9]) ++ [dig m 8]) ++ [dig m 7]) ++ [dig m 6]).length)) (y := (Int32.ofNat (((((cs ++ [dig m 9]) ++ [dig m 8]) ++ [dig m 7]) ++ [dig m 6]) ++ [dig m 5]).length)) (L' := #[.val (.ref y), .val (.int a1), .val (.int p2), .val (.int (Int32.ofNat (((((cs ++ [dig m 9]) ++ [dig m 8]) ++ [dig m 7]) ++ [dig m 6]) ++ [dig m 5]).length)), .val (.long (Int64.ofNat m)), .second, .val (.int (10 : Int32))]) (q := 254) d39_251 rfl inc_push rfl rfl ?_
  refine go_lload (v := (Int64.ofNat m)) (q := 256) d39_254 rfl rfl ?_
  refine go_ldc2 (v := (100000 : Int64)) (q := 259) (w_249 H) d39_256 rfl ?_
  refine go_static (c' := 0) (s' := 0) (q := 262) (S := [.int (Int32.ofNat ((((cs ++ [dig m 9]) ++ [dig m 8]) ++ [dig m 7]) ++ [dig m 6]).length), .ref y]) (argsL := [.long (Int64.ofNat m), .long (100000 : Int64)]) H (w_207 H) (w_208 H) (w_204 H) (w_209 H) (by decide) (rm_dg H (e := 5) hm (by decide) (by first | rfl | decide)) rfl rfl (lenOf pd_33 rfl) (fun _ q => nomatch q) rfl (by decide) (Nat.le_of_ble_eq_true rfl) rfl rfl (by decide) (by decide) d39_259 rfl ?_
  rintro _ _ G - ⟨rfl, rfl⟩
  refine nx_ (v := none) ?_
  show Go _ _ _ _ _ _ _ _ _ _ _ _ _ _ 262 #[.val (.ref y), .val (.int a1), .val (.int p2), .val (.int (Int32.ofNat (((((cs ++ [dig m 9]) ++ [dig m 8]) ++ [dig m 7]) ++ [dig m 6]) ++ [dig m 5]).length)), .val (.long (Int64.ofNat m)), .second, .val (.int (10 : Int32))] [.int (dig m 5), .int (Int32.ofNat ((((cs ++ [dig m 9]) ++ [dig m 8]) ++ [dig m 7]) ++ [dig m 6]).length), .ref y]
  have hn5 : ((((cs ++ [dig m 9]) ++ [dig m 8]) ++ [dig m 7]) ++ [dig m 6]).length = cs.length + 4 := by simp
  obtain ⟨ky, V⟩ := V
  refine go_castore (i := ((((cs ++ [dig m 9]) ++ [dig m 8]) ++ [dig m 7]) ++ [dig m 6]).length) (y := (dig m 5)) (q := 263) V ⟨nn_ofNat (by omega), (lt_ofNat (n := 40) (by omega) (by decide)).mpr (by omega)⟩ (cl_ofNat (by omega)) (by simp <;> omega) (by simp) (nar_char (dig_ok m 5).1 (dig_ok m 5).2) d39_262 rfl ?_
  intro hp5 Khp5 zhp5 Vhp5
  rw [push_c (cs := ((((cs ++ [dig m 9]) ++ [dig m 8]) ++ [dig m 7]) ++ [dig m 6])) (by omega)] at Vhp5
  have V : Ech Z hp5 y (((((cs ++ [dig m 9]) ++ [dig m 8]) ++ [dig m 7]) ++ [dig m 6]) ++ [dig m 5]) := ⟨ky, Vhp5⟩
  have K0 := K0.trans Khp5 (fun _ q => Or.inl q)
  refine go_iload (v := (10 : Int32)) (q := 265) d39_263 rfl rfl ?_
  refine go_iconst (x := (5 : Int32)) (q := 266) d39_265 rfl rfl ?_
  refine go_icN (q := 269) d39_266 (by decide) rfl ?_
  refine go_aloadN (v := .ref y) (q := 270) d39_269 rfl rfl rfl ?_
  refine go_iloadN (v := (Int32.ofNat (((((cs ++ [dig m 9]) ++ [dig m 8]) ++ [dig m 7]) ++ [dig m 6]) ++ [dig m 5]).length)) (q := 271) d39_270 rfl rfl ?_
  refine go_iinc (x := (Int32.ofNat (((((cs ++ [dig m 9]) ++ [dig m 8]) ++ [dig m 7]) ++ [dig m 6]) ++ [dig m 5]).length)) (y := (Int32.ofNat ((((((cs ++ [dig m 9]) ++ [dig m 8]) ++ [dig m 7]) ++ [dig m 6]) ++ [dig m 5]) ++ [dig m 4]).length)) (L' := #[.val (.ref y), .val (.int a1), .val (.int p2), .val (.int (Int32.ofNat ((((((cs ++ [dig m 9]) ++ [dig m 8]) ++ [dig m 7]) ++ [dig m 6]) ++ [dig m 5]) ++ [dig m 4]).length)), .val (.long (Int64.ofNat m)), .second, .val (.int (10 : Int32))]) (q := 274) d39_271 rfl inc_push rfl rfl ?_
  refine go_lload (v := (Int64.ofNat m)) (q := 276) d39_274 rfl rfl ?_
  refine go_ldc2 (v := (10000 : Int64)) (q := 279) (w_248 H) d39_276 rfl ?_
  refine go_static (c' := 0) (s' := 0) (q := 282) (S := [.int (Int32.ofNat (((((cs ++ [dig m 9]) ++ [dig m 8]) ++ [dig m 7]) ++ [dig m 6]) ++ [dig m 5]).length), .ref y]) (argsL := [.long (Int64.ofNat m), .long (10000 : Int64)]) H (w_207 H) (w_208 H) (w_204 H) (w_209 H) (by decide) (rm_dg H (e := 4) hm (by decide) (by first | rfl | decide)) rfl rfl (lenOf pd_33 rfl) (fun _ q => nomatch q) rfl (by decide) (Nat.le_of_ble_eq_true rfl) rfl rfl (by decide) (by decide) d39_279 rfl ?_
  rintro _ _ G - ⟨rfl, rfl⟩
  refine nx_ (v := none) ?_
  show Go _ _ _ _ _ _ _ _ _ _ _ _ _ _ 282 #[.val (.ref y), .val (.int a1), .val (.int p2), .val (.int (Int32.ofNat ((((((cs ++ [dig m 9]) ++ [dig m 8]) ++ [dig m 7]) ++ [dig m 6]) ++ [dig m 5]) ++ [dig m 4]).length)), .val (.long (Int64.ofNat m)), .second, .val (.int (10 : Int32))] [.int (dig m 4), .int (Int32.ofNat (((((cs ++ [dig m 9]) ++ [dig m 8]) ++ [dig m 7]) ++ [dig m 6]) ++ [dig m 5]).length), .ref y]
  have hn6 : (((((cs ++ [dig m 9]) ++ [dig m 8]) ++ [dig m 7]) ++ [dig m 6]) ++ [dig m 5]).length = cs.length + 5 := by simp
  obtain ⟨ky, V⟩ := V
  refine go_castore (i := (((((cs ++ [dig m 9]) ++ [dig m 8]) ++ [dig m 7]) ++ [dig m 6]) ++ [dig m 5]).length) (y := (dig m 4)) (q := 283) V ⟨nn_ofNat (by omega), (lt_ofNat (n := 40) (by omega) (by decide)).mpr (by omega)⟩ (cl_ofNat (by omega)) (by simp <;> omega) (by simp) (nar_char (dig_ok m 4).1 (dig_ok m 4).2) d39_282 rfl ?_
  intro hp6 Khp6 zhp6 Vhp6
  rw [push_c (cs := (((((cs ++ [dig m 9]) ++ [dig m 8]) ++ [dig m 7]) ++ [dig m 6]) ++ [dig m 5])) (by omega)] at Vhp6
  have V : Ech Z hp6 y ((((((cs ++ [dig m 9]) ++ [dig m 8]) ++ [dig m 7]) ++ [dig m 6]) ++ [dig m 5]) ++ [dig m 4]) := ⟨ky, Vhp6⟩
  have K0 := K0.trans Khp6 (fun _ q => Or.inl q)
  refine go_iload (v := (10 : Int32)) (q := 285) d39_283 rfl rfl ?_
  refine go_iconst (x := (4 : Int32)) (q := 286) d39_285 rfl rfl ?_
  refine go_icN (q := 289) d39_286 (by decide) rfl ?_
  refine go_aloadN (v := .ref y) (q := 290) d39_289 rfl rfl rfl ?_
  refine go_iloadN (v := (Int32.ofNat ((((((cs ++ [dig m 9]) ++ [dig m 8]) ++ [dig m 7]) ++ [dig m 6]) ++ [dig m 5]) ++ [dig m 4]).length)) (q := 291) d39_290 rfl rfl ?_
  refine go_iinc (x := (Int32.ofNat ((((((cs ++ [dig m 9]) ++ [dig m 8]) ++ [dig m 7]) ++ [dig m 6]) ++ [dig m 5]) ++ [dig m 4]).length)) (y := (Int32.ofNat (((((((cs ++ [dig m 9]) ++ [dig m 8]) ++ [dig m 7]) ++ [dig m 6]) ++ [dig m 5]) ++ [dig m 4]) ++ [dig m 3]).length)) (L' := #[.val (.ref y), .val (.int a1), .val (.int p2), .val (.int (Int32.ofNat (((((((cs ++ [dig m 9]) ++ [dig m 8]) ++ [dig m 7]) ++ [dig m 6]) ++ [dig m 5]) ++ [dig m 4]) ++ [dig m 3]).length)), .val (.long (Int64.ofNat m)), .second, .val (.int (10 : Int32))]) (q := 294) d39_291 rfl inc_push rfl rfl ?_
  refine go_lload (v := (Int64.ofNat m)) (q := 296) d39_294 rfl rfl ?_
  refine go_ldc2 (v := (1000 : Int64)) (q := 299) (w_247 H) d39_296 rfl ?_
  refine go_static (c' := 0) (s' := 0) (q := 302) (S := [.int (Int32.ofNat ((((((cs ++ [dig m 9]) ++ [dig m 8]) ++ [dig m 7]) ++ [dig m 6]) ++ [dig m 5]) ++ [dig m 4]).length), .ref y]) (argsL := [.long (Int64.ofNat m), .long (1000 : Int64)]) H (w_207 H) (w_208 H) (w_204 H) (w_209 H) (by decide) (rm_dg H (e := 3) hm (by decide) (by first | rfl | decide)) rfl rfl (lenOf pd_33 rfl) (fun _ q => nomatch q) rfl (by decide) (Nat.le_of_ble_eq_true rfl) rfl rfl (by decide) (by decide) d39_299 rfl ?_
  rintro _ _ G - ⟨rfl, rfl⟩
  refine nx_ (v := none) ?_
  show Go _ _ _ _ _ _ _ _ _ _ _ _ _ _ 302 #[.val (.ref y), .val (.int a1), .val (.int p2), .val (.int (Int32.ofNat (((((((cs ++ [dig m 9]) ++ [dig m 8]) ++ [dig m 7]) ++ [dig m 6]) ++ [dig m 5]) ++ [dig m 4]) ++ [dig m 3]).length)), .val (.long (Int64.ofNat m)), .second, .val (.int (10 : Int32))] [.int (dig m 3), .int (Int32.ofNat ((((((cs ++ [dig m 9]) ++ [dig m 8]) ++ [dig m 7]) ++ [dig m 6]) ++ [dig m 5]) ++ [dig m 4]).length), .ref y]
  have hn7 : ((((((cs ++ [dig m 9]) ++ [dig m 8]) ++ [dig m 7]) ++ [dig m 6]) ++ [dig m 5]) ++ [dig m 4]).length = cs.length + 6 := by simp
  obtain ⟨ky, V⟩ := V
  refine go_castore (i := ((((((cs ++ [dig m 9]) ++ [dig m 8]) ++ [dig m 7]) ++ [dig m 6]) ++ [dig m 5]) ++ [dig m 4]).length) (y := (dig m 3)) (q := 303) V ⟨nn_ofNat (by omega), (lt_ofNat (n := 40) (by omega) (by decide)).mpr (by omega)⟩ (cl_ofNat (by omega)) (by simp <;> omega) (by simp) (nar_char (dig_ok m 3).1 (dig_ok m 3).2) d39_302 rfl ?_
  intro hp7 Khp7 zhp7 Vhp7
  rw [push_c (cs := ((((((cs ++ [dig m 9]) ++ [dig m 8]) ++ [dig m 7]) ++ [dig m 6]) ++ [dig m 5]) ++ [dig m 4])) (by omega)] at Vhp7
  have V : Ech Z hp7 y (((((((cs ++ [dig m 9]) ++ [dig m 8]) ++ [dig m 7]) ++ [dig m 6]) ++ [dig m 5]) ++ [dig m 4]) ++ [dig m 3]) := ⟨ky, Vhp7⟩
  have K0 := K0.trans Khp7 (fun _ q => Or.inl q)
  refine go_iload (v := (10 : Int32)) (q := 305) d39_303 rfl rfl ?_
  refine go_iconst (x := (3 : Int32)) (q := 306) d39_305 rfl rfl ?_
  refine go_icN (q := 309) d39_306 (by decide) rfl ?_
  refine go_aloadN (v := .ref y) (q := 310) d39_309 rfl rfl rfl ?_
  refine go_iloadN (v := (Int32.ofNat (((((((cs ++ [dig m 9]) ++ [dig m 8]) ++ [dig m 7]) ++ [dig m 6]) ++ [dig m 5]) ++ [dig m 4]) ++ [dig m 3]).length)) (q := 311) d39_310 rfl rfl ?_
  refine go_iinc (x := (Int32.ofNat (((((((cs ++ [dig m 9]) ++ [dig m 8]) ++ [dig m 7]) ++ [dig m 6]) ++ [dig m 5]) ++ [dig m 4]) ++ [dig m 3]).length)) (y := (Int32.ofNat ((((((((cs ++ [dig m 9]) ++ [dig m 8]) ++ [dig m 7]) ++ [dig m 6]) ++ [dig m 5]) ++ [dig m 4]) ++ [dig m 3]) ++ [dig m 2]).length)) (L' := #[.val (.ref y), .val (.int a1), .val (.int p2), .val (.int (Int32.ofNat ((((((((cs ++ [dig m 9]) ++ [dig m 8]) ++ [dig m 7]) ++ [dig m 6]) ++ [dig m 5]) ++ [dig m 4]) ++ [dig m 3]) ++ [dig m 2]).length)), .val (.long (Int64.ofNat m)), .second, .val (.int (10 : Int32))]) (q := 314) d39_311 rfl inc_push rfl rfl ?_
  refine go_lload (v := (Int64.ofNat m)) (q := 316) d39_314 rfl rfl ?_
  refine go_ldc2 (v := (100 : Int64)) (q := 319) (w_246 H) d39_316 rfl ?_
  refine go_static (c' := 0) (s' := 0) (q := 322) (S := [.int (Int32.ofNat (((((((cs ++ [dig m 9]) ++ [dig m 8]) ++ [dig m 7]) ++ [dig m 6]) ++ [dig m 5]) ++ [dig m 4]) ++ [dig m 3]).length), .ref y]) (argsL := [.long (Int64.ofNat m), .long (100 : Int64)]) H (w_207 H) (w_208 H) (w_204 H) (w_209 H) (by decide) (rm_dg H (e := 2) hm (by decide) (by first | rfl | decide)) rfl rfl (lenOf pd_33 rfl) (fun _ q => nomatch q) rfl (by decide) (Nat.le_of_ble_eq_true rfl) rfl rfl (by decide) (by decide) d39_319 rfl ?_
  rintro _ _ G - ⟨rfl, rfl⟩
  refine nx_ (v := none) ?_
  show Go _ _ _ _ _ _ _ _ _ _ _ _ _ _ 322 #[.val (.ref y), .val (.int a1), .val (.int p2), .val (.int (Int32.ofNat ((((((((cs ++ [dig m 9]) ++ [dig m 8]) ++ [dig m 7]) ++ [dig m 6]) ++ [dig m 5]) ++ [dig m 4]) ++ [dig m 3]) ++ [dig m 2]).length)), .val (.long (Int64.ofNat m)), .second, .val (.int (10 : Int32))] [.int (dig m 2), .int (Int32.ofNat (((((((cs ++ [dig m 9]) ++ [dig m 8]) ++ [dig m 7]) ++ [dig m 6]) ++ [dig m 5]) ++ [dig m 4]) ++ [dig m 3]).length), .ref y]
  have hn8 : (((((((cs ++ [dig m 9]) ++ [dig m 8]) ++ [dig m 7]) ++ [dig m 6]) ++ [dig m 5]) ++ [dig m 4]) ++ [dig m 3]).length = cs.length + 7 := by simp
  obtain ⟨ky, V⟩ := V
  refine go_castore (i := (((((((cs ++ [dig m 9]) ++ [dig m 8]) ++ [dig m 7]) ++ [dig m 6]) ++ [dig m 5]) ++ [dig m 4]) ++ [dig m 3]).length) (y := (dig m 2)) (q := 323) V ⟨nn_ofNat (by omega), (lt_ofNat (n := 40) (by omega) (by decide)).mpr (by omega)⟩ (cl_ofNat (by omega)) (by simp <;> omega) (by simp) (nar_char (dig_ok m 2).1 (dig_ok m 2).2) d39_322 rfl ?_
  intro hp8 Khp8 zhp8 Vhp8
  rw [push_c (cs := (((((((cs ++ [dig m 9]) ++ [dig m 8]) ++ [dig m 7]) ++ [dig m 6]) ++ [dig m 5]) ++ [dig m 4]) ++ [dig m 3])) (by omega)] at Vhp8
  have V : Ech Z hp8 y ((((((((cs ++ [dig m 9]) ++ [dig m 8]) ++ [dig m 7]) ++ [dig m 6]) ++ [dig m 5]) ++ [dig m 4]) ++ [dig m 3]) ++ [dig m 2]) := ⟨ky, Vhp8⟩
  have K0 := K0.trans Khp8 (fun _ q => Or.inl q)
  refine go_iload (v := (10 : Int32)) (q := 325) d39_323 rfl rfl ?_
  refine go_iconst (x := (2 : Int32)) (q := 326) d39_325 rfl rfl ?_
  refine go_icN (q := 329) d39_326 (by decide) rfl ?_
  refine go_aloadN (v := .ref y) (q := 330) d39_329 rfl rfl rfl ?_
  refine go_iloadN (v := (Int32.ofNat ((((((((cs ++ [dig m 9]) ++ [dig m 8]) ++ [dig m 7]) ++ [dig m 6]) ++ [dig m 5]) ++ [dig m 4]) ++ [dig m 3]) ++ [dig m 2]).length)) (q := 331) d39_330 rfl rfl ?_
  refine go_iinc (x := (Int32.ofNat ((((((((cs ++ [dig m 9]) ++ [dig m 8]) ++ [dig m 7]) ++ [dig m 6]) ++ [dig m 5]) ++ [dig m 4]) ++ [dig m 3]) ++ [dig m 2]).length)) (y := (Int32.ofNat (((((((((cs ++ [dig m 9]) ++ [dig m 8]) ++ [dig m 7]) ++ [dig m 6]) ++ [dig m 5]) ++ [dig m 4]) ++ [dig m 3]) ++ [dig m 2]) ++ [dig m 1]).length)) (L' := #[.val (.ref y), .val (.int a1), .val (.int p2), .val (.int (Int32.ofNat (((((((((cs ++ [dig m 9]) ++ [dig m 8]) ++ [dig m 7]) ++ [dig m 6]) ++ [dig m 5]) ++ [dig m 4]) ++ [dig m 3]) ++ [dig m 2]) ++ [dig m 1]).length)), .val (.long (Int64.ofNat m)), .second, .val (.int (10 : Int32))]) (q := 334) d39_331 rfl inc_push rfl rfl ?_
  refine go_lload (v := (Int64.ofNat m)) (q := 336) d39_334 rfl rfl ?_
  refine go_ldc2 (v := (10 : Int64)) (q := 339) (w_206 H) d39_336 rfl ?_
  refine go_static (c' := 0) (s' := 0) (q := 342) (S := [.int (Int32.ofNat ((((((((cs ++ [dig m 9]) ++ [dig m 8]) ++ [dig m 7]) ++ [dig m 6]) ++ [dig m 5]) ++ [dig m 4]) ++ [dig m 3]) ++ [dig m 2]).length), .ref y]) (argsL := [.long (Int64.ofNat m), .long (10 : Int64)]) H (w_207 H) (w_208 H) (w_204 H) (w_209 H) (by decide) (rm_dg H (e := 1) hm (by decide) (by first | rfl | decide)) rfl rfl (lenOf pd_33 rfl) (fun _ q => nomatch q) rfl (by decide) (Nat.le_of_ble_eq_true rfl) rfl rfl (by decide) (by decide) d39_339 rfl ?_
  rintro _ _ G - ⟨rfl, rfl⟩
  refine nx_ (v := none) ?_
  show Go _ _ _ _ _ _ _ _ _ _ _ _ _ _ 342 #[.val (.ref y), .val (.int a1), .val (.int p2), .val (.int (Int32.ofNat (((((((((cs ++ [dig m 9]) ++ [dig m 8]) ++ [dig m 7]) ++ [dig m 6]) ++ [dig m 5]) ++ [dig m 4]) ++ [dig m 3]) ++ [dig m 2]) ++ [dig m 1]).length)), .val (.long (Int64.ofNat m)), .second, .val (.int (10 : Int32))] [.int (dig m 1), .int (Int32.ofNat ((((((((cs ++ [dig m 9]) ++ [dig m 8]) ++ [dig m 7]) ++ [dig m 6]) ++ [dig m 5]) ++ [dig m 4]) ++ [dig m 3]) ++ [dig m 2]).length), .ref y]
  have hn9 : ((((((((cs ++ [dig m 9]) ++ [dig m 8]) ++ [dig m 7]) ++ [dig m 6]) ++ [dig m 5]) ++ [dig m 4]) ++ [dig m 3]) ++ [dig m 2]).length = cs.length + 8 := by simp
  obtain ⟨ky, V⟩ := V
  refine go_castore (i := ((((((((cs ++ [dig m 9]) ++ [dig m 8]) ++ [dig m 7]) ++ [dig m 6]) ++ [dig m 5]) ++ [dig m 4]) ++ [dig m 3]) ++ [dig m 2]).length) (y := (dig m 1)) (q := 343) V ⟨nn_ofNat (by omega), (lt_ofNat (n := 40) (by omega) (by decide)).mpr (by omega)⟩ (cl_ofNat (by omega)) (by simp <;> omega) (by simp) (nar_char (dig_ok m 1).1 (dig_ok m 1).2) d39_342 rfl ?_
  intro hp9 Khp9 zhp9 Vhp9
  rw [push_c (cs := ((((((((cs ++ [dig m 9]) ++ [dig m 8]) ++ [dig m 7]) ++ [dig m 6]) ++ [dig m 5]) ++ [dig m 4]) ++ [dig m 3]) ++ [dig m 2])) (by omega)] at Vhp9
  have V : Ech Z hp9 y (((((((((cs ++ [dig m 9]) ++ [dig m 8]) ++ [dig m 7]) ++ [dig m 6]) ++ [dig m 5]) ++ [dig m 4]) ++ [dig m 3]) ++ [dig m 2]) ++ [dig m 1]) := ⟨ky, Vhp9⟩
  have K0 := K0.trans Khp9 (fun _ q => Or.inl q)
  refine go_aloadN (v := .ref y) (q := 344) d39_343 rfl rfl rfl ?_
  refine go_iloadN (v := (Int32.ofNat (((((((((cs ++ [dig m 9]) ++ [dig m 8]) ++ [dig m 7]) ++ [dig m 6]) ++ [dig m 5]) ++ [dig m 4]) ++ [dig m 3]) ++ [dig m 2]) ++ [dig m 1]).length)) (q := 345) d39_344 rfl rfl ?_
  refine go_iinc (x := (Int32.ofNat (((((((((cs ++ [dig m 9]) ++ [dig m 8]) ++ [dig m 7]) ++ [dig m 6]) ++ [dig m 5]) ++ [dig m 4]) ++ [dig m 3]) ++ [dig m 2]) ++ [dig m 1]).length)) (y := (Int32.ofNat ((((((((((cs ++ [dig m 9]) ++ [dig m 8]) ++ [dig m 7]) ++ [dig m 6]) ++ [dig m 5]) ++ [dig m 4]) ++ [dig m 3]) ++ [dig m 2]) ++ [dig m 1]) ++ [dig m 0]).length)) (L' := #[.val (.ref y), .val (.int a1), .val (.int p2), .val (.int (Int32.ofNat ((((((((((cs ++ [dig m 9]) ++ [dig m 8]) ++ [dig m 7]) ++ [dig m 6]) ++ [dig m 5]) ++ [dig m 4]) ++ [dig m 3]) ++ [dig m 2]) ++ [dig m 1]) ++ [dig m 0]).length)), .val (.long (Int64.ofNat m)), .second, .val (.int (10 : Int32))]) (q := 348) d39_345 rfl inc_push rfl rfl ?_
  refine go_lload (v := (Int64.ofNat m)) (q := 350) d39_348 rfl rfl ?_
  refine go_lconst (x := (1 : Int64)) (q := 351) d39_350 rfl rfl ?_
  refine go_static (c' := 0) (s' := 0) (q := 354) (S := [.int (Int32.ofNat (((((((((cs ++ [dig m 9]) ++ [dig m 8]) ++ [dig m 7]) ++ [dig m 6]) ++ [dig m 5]) ++ [dig m 4]) ++ [dig m 3]) ++ [dig m 2]) ++ [dig m 1]).length), .ref y]) (argsL := [.long (Int64.ofNat m), .long (1 : Int64)]) H (w_207 H) (w_208 H) (w_204 H) (w_209 H) (by decide) (rm_dg H (e := 0) hm (by decide) (by first | rfl | decide)) rfl rfl (lenOf pd_33 rfl) (fun _ q => nomatch q) rfl (by decide) (Nat.le_of_ble_eq_true rfl) rfl rfl (by decide) (by decide) d39_351 rfl ?_
  rintro _ _ G - ⟨rfl, rfl⟩
  refine nx_ (v := none) ?_
  show Go _ _ _ _ _ _ _ _ _ _ _ _ _ _ 354 #[.val (.ref y), .val (.int a1), .val (.int p2), .val (.int (Int32.ofNat ((((((((((cs ++ [dig m 9]) ++ [dig m 8]) ++ [dig m 7]) ++ [dig m 6]) ++ [dig m 5]) ++ [dig m 4]) ++ [dig m 3]) ++ [dig m 2]) ++ [dig m 1]) ++ [dig m 0]).length)), .val (.long (Int64.ofNat m)), .second, .val (.int (10 : Int32))] [.int (dig m 0), .int (Int32.ofNat (((((((((cs ++ [dig m 9]) ++ [dig m 8]) ++ [dig m 7]) ++ [dig m 6]) ++ [dig m 5]) ++ [dig m 4]) ++ [dig m 3]) ++ [dig m 2]) ++ [dig m 1]).length), .ref y]
  have hn10 : (((((((((cs ++ [dig m 9]) ++ [dig m 8]) ++ [dig m 7]) ++ [dig m 6]) ++ [dig m 5]) ++ [dig m 4]) ++ [dig m 3]) ++ [dig m 2]) ++ [dig m 1]).length = cs.length + 9 := by simp
  obtain ⟨ky, V⟩ := V
  refine go_castore (i := (((((((((cs ++ [dig m 9]) ++ [dig m 8]) ++ [dig m 7]) ++ [dig m 6]) ++ [dig m 5]) ++ [dig m 4]) ++ [dig m 3]) ++ [dig m 2]) ++ [dig m 1]).length) (y := (dig m 0)) (q := 355) V ⟨nn_ofNat (by omega), (lt_ofNat (n := 40) (by omega) (by decide)).mpr (by omega)⟩ (cl_ofNat (by omega)) (by simp <;> omega) (by simp) (nar_char (dig_ok m 0).1 (dig_ok m 0).2) d39_354 rfl ?_
  intro hp10 Khp10 zhp10 Vhp10
  rw [push_c (cs := (((((((((cs ++ [dig m 9]) ++ [dig m 8]) ++ [dig m 7]) ++ [dig m 6]) ++ [dig m 5]) ++ [dig m 4]) ++ [dig m 3]) ++ [dig m 2]) ++ [dig m 1])) (by omega)] at Vhp10
  have V : Ech Z hp10 y ((((((((((cs ++ [dig m 9]) ++ [dig m 8]) ++ [dig m 7]) ++ [dig m 6]) ++ [dig m 5]) ++ [dig m 4]) ++ [dig m 3]) ++ [dig m 2]) ++ [dig m 1]) ++ [dig m 0]) := ⟨ky, Vhp10⟩
  have K0 := K0.trans Khp10 (fun _ q => Or.inl q)
  refine go_aloadN (v := .ref y) (q := 356) d39_355 rfl rfl rfl ?_
  refine go_iloadN (v := (Int32.ofNat ((((((((((cs ++ [dig m 9]) ++ [dig m 8]) ++ [dig m 7]) ++ [dig m 6]) ++ [dig m 5]) ++ [dig m 4]) ++ [dig m 3]) ++ [dig m 2]) ++ [dig m 1]) ++ [dig m 0]).length)) (q := 357) d39_356 rfl rfl ?_
  refine go_iinc (x := (Int32.ofNat ((((((((((cs ++ [dig m 9]) ++ [dig m 8]) ++ [dig m 7]) ++ [dig m 6]) ++ [dig m 5]) ++ [dig m 4]) ++ [dig m 3]) ++ [dig m 2]) ++ [dig m 1]) ++ [dig m 0]).length)) (y := (Int32.ofNat (((((((((((cs ++ [dig m 9]) ++ [dig m 8]) ++ [dig m 7]) ++ [dig m 6]) ++ [dig m 5]) ++ [dig m 4]) ++ [dig m 3]) ++ [dig m 2]) ++ [dig m 1]) ++ [dig m 0]) ++ [47]).length)) (L' := #[.val (.ref y), .val (.int a1), .val (.int p2), .val (.int (Int32.ofNat (((((((((((cs ++ [dig m 9]) ++ [dig m 8]) ++ [dig m 7]) ++ [dig m 6]) ++ [dig m 5]) ++ [dig m 4]) ++ [dig m 3]) ++ [dig m 2]) ++ [dig m 1]) ++ [dig m 0]) ++ [47]).length)), .val (.long (Int64.ofNat m)), .second, .val (.int (10 : Int32))]) (q := 360) d39_357 rfl inc_push rfl rfl ?_
  refine go_bipush (x := (47 : Int32)) (q := 362) d39_360 rfl rfl ?_
  have hn11 : ((((((((((cs ++ [dig m 9]) ++ [dig m 8]) ++ [dig m 7]) ++ [dig m 6]) ++ [dig m 5]) ++ [dig m 4]) ++ [dig m 3]) ++ [dig m 2]) ++ [dig m 1]) ++ [dig m 0]).length = cs.length + 10 := by simp
  obtain ⟨ky, V⟩ := V
  refine go_castore (i := ((((((((((cs ++ [dig m 9]) ++ [dig m 8]) ++ [dig m 7]) ++ [dig m 6]) ++ [dig m 5]) ++ [dig m 4]) ++ [dig m 3]) ++ [dig m 2]) ++ [dig m 1]) ++ [dig m 0]).length) (y := 47) (q := 363) V ⟨nn_ofNat (by omega), (lt_ofNat (n := 40) (by omega) (by decide)).mpr (by omega)⟩ (cl_ofNat (by omega)) (by simp <;> omega) (by simp) (nar_char ((by decide : ¬ (47 : Int32) < 0 ∧ ¬ 255 < (47 : Int32))).1 ((by decide : ¬ (47 : Int32) < 0 ∧ ¬ 255 < (47 : Int32))).2) d39_362 rfl ?_
  intro hp11 Khp11 zhp11 Vhp11
  rw [push_c (cs := ((((((((((cs ++ [dig m 9]) ++ [dig m 8]) ++ [dig m 7]) ++ [dig m 6]) ++ [dig m 5]) ++ [dig m 4]) ++ [dig m 3]) ++ [dig m 2]) ++ [dig m 1]) ++ [dig m 0])) (by omega)] at Vhp11
  have V : Ech Z hp11 y (((((((((((cs ++ [dig m 9]) ++ [dig m 8]) ++ [dig m 7]) ++ [dig m 6]) ++ [dig m 5]) ++ [dig m 4]) ++ [dig m 3]) ++ [dig m 2]) ++ [dig m 1]) ++ [dig m 0]) ++ [47]) := ⟨ky, Vhp11⟩
  have K0 := K0.trans Khp11 (fun _ q => Or.inl q)
  refine go_iloadN (v := (Int32.ofNat (((((((((((cs ++ [dig m 9]) ++ [dig m 8]) ++ [dig m 7]) ++ [dig m 6]) ++ [dig m 5]) ++ [dig m 4]) ++ [dig m 3]) ++ [dig m 2]) ++ [dig m 1]) ++ [dig m 0]) ++ [47]).length)) (q := 364) d39_363 rfl rfl ?_
  have e : (((((((((((cs ++ [dig m 9]) ++ [dig m 8]) ++ [dig m 7]) ++ [dig m 6]) ++ [dig m 5]) ++ [dig m 4]) ++ [dig m 3]) ++ [dig m 2]) ++ [dig m 1]) ++ [dig m 0]) ++ [47]) = c1 ++ pnl p1 := by rw [hQ]; simp [dgs]
  rw [e] at V
  rw [e]
  show Go _ _ _ _ _ _ _ _ _ _ _ _ _ _ 364 #[.val (.ref y), .val (.int a1), .val (.int p2), .val (.int (Int32.ofNat (c1 ++ pnl p1).length)), .val (.long (Int64.ofNat m)), .second, .val (.int (10 : Int32))] [.int (Int32.ofNat (c1 ++ pnl p1).length)]
  exact go_ireturn H (G := []) (t := .int) rfl (by decide) rfl d39_364 (by decide) (by decide) (fun _ q => nomatch q) ⟨rfl, K0, V⟩
set_option maxRecDepth 65536 in
set_option maxHeartbeats 8000000 in
theorem jp33 {l : Launch} {Z : State} {a0 : Array Value} (H : Wd Z a0) {K : Cx} {h h1 : Heap} {y : Addr} {c1 cs : List Int32} {p1 p2 a1 : Int32} {m : Nat} (hm : m ≤ 2147483648) (V : Ech Z h y cs) (K0 : Keep h1 h [y]) (hl : cs.length ≤ 24) (hQ : c1 ++ pnl p1 = cs ++ (dgs m (ndg m) ++ [47])) : GP l Z K h1 y c1 p1 h [y] 0 0 33 #[.val (.ref y), .val (.int a1), .val (.int p2), .val (.int (Int32.ofNat cs.length)), .val (.long (Int64.ofNat m)), .second, .unset] [] := by
  refine go_lload (v := (Int64.ofNat m)) (q := 35) d39_33 rfl rfl ?_
  refine go_ldc2 (v := (10 : Int64)) (q := 38) (w_206 H) d39_35 rfl ?_
  refine go_lcmp (r := XT.cmpL (Int64.ofNat m) (10 : Int64)) (q := 39) d39_38 rfl rfl ?_
  by_cases q1 : m < 10
  · refine go_ifN (q := 42) d39_39 ((cmp_lt (b := 10) (by omega) (by decide)).mpr q1) rfl ?_
    refine go_iconst (x := (1 : Int32)) (q := 43) d39_42 rfl rfl ?_
    refine go_goto (q := 156) d39_43 (by decide) (by decide) ?_
    refine go_istore (L' := #[.val (.ref y), .val (.int a1), .val (.int p2), .val (.int (Int32.ofNat cs.length)), .val (.long (Int64.ofNat m)), .second, .val (.int (1 : Int32))]) (q := 158) d39_156 rfl rfl ?_
    rw [ndg, if_pos q1] at hQ
    exact jp158_1 H hm V K0 hl hQ
  refine go_ifY (q := 46) d39_39 (fun z => q1 ((cmp_lt (b := 10) (by omega) (by decide)).mp z)) (by decide) (by decide) ?_
  refine go_lload (v := (Int64.ofNat m)) (q := 48) d39_46 rfl rfl ?_
  refine go_ldc2 (v := (100 : Int64)) (q := 51) (w_246 H) d39_48 rfl ?_
  refine go_lcmp (r := XT.cmpL (Int64.ofNat m) (100 : Int64)) (q := 52) d39_51 rfl rfl ?_
  by_cases q2 : m < 100
  · refine go_ifN (q := 55) d39_52 ((cmp_lt (b := 100) (by omega) (by decide)).mpr q2) rfl ?_
    refine go_iconst (x := (2 : Int32)) (q := 56) d39_55 rfl rfl ?_
    refine go_goto (q := 156) d39_56 (by decide) (by decide) ?_
    refine go_istore (L' := #[.val (.ref y), .val (.int a1), .val (.int p2), .val (.int (Int32.ofNat cs.length)), .val (.long (Int64.ofNat m)), .second, .val (.int (2 : Int32))]) (q := 158) d39_156 rfl rfl ?_
    rw [ndg, if_neg q1, if_pos q2] at hQ
    exact jp158_2 H hm V K0 hl hQ
  refine go_ifY (q := 59) d39_52 (fun z => q2 ((cmp_lt (b := 100) (by omega) (by decide)).mp z)) (by decide) (by decide) ?_
  refine go_lload (v := (Int64.ofNat m)) (q := 61) d39_59 rfl rfl ?_
  refine go_ldc2 (v := (1000 : Int64)) (q := 64) (w_247 H) d39_61 rfl ?_
  refine go_lcmp (r := XT.cmpL (Int64.ofNat m) (1000 : Int64)) (q := 65) d39_64 rfl rfl ?_
  by_cases q3 : m < 1000
  · refine go_ifN (q := 68) d39_65 ((cmp_lt (b := 1000) (by omega) (by decide)).mpr q3) rfl ?_
    refine go_iconst (x := (3 : Int32)) (q := 69) d39_68 rfl rfl ?_
    refine go_goto (q := 156) d39_69 (by decide) (by decide) ?_
    refine go_istore (L' := #[.val (.ref y), .val (.int a1), .val (.int p2), .val (.int (Int32.ofNat cs.length)), .val (.long (Int64.ofNat m)), .second, .val (.int (3 : Int32))]) (q := 158) d39_156 rfl rfl ?_
    rw [ndg, if_neg q1, if_neg q2, if_pos q3] at hQ
    exact jp158_3 H hm V K0 hl hQ
  refine go_ifY (q := 72) d39_65 (fun z => q3 ((cmp_lt (b := 1000) (by omega) (by decide)).mp z)) (by decide) (by decide) ?_
  refine go_lload (v := (Int64.ofNat m)) (q := 74) d39_72 rfl rfl ?_
  refine go_ldc2 (v := (10000 : Int64)) (q := 77) (w_248 H) d39_74 rfl ?_
  refine go_lcmp (r := XT.cmpL (Int64.ofNat m) (10000 : Int64)) (q := 78) d39_77 rfl rfl ?_
  by_cases q4 : m < 10000
  · refine go_ifN (q := 81) d39_78 ((cmp_lt (b := 10000) (by omega) (by decide)).mpr q4) rfl ?_
    refine go_iconst (x := (4 : Int32)) (q := 82) d39_81 rfl rfl ?_
    refine go_goto (q := 156) d39_82 (by decide) (by decide) ?_
    refine go_istore (L' := #[.val (.ref y), .val (.int a1), .val (.int p2), .val (.int (Int32.ofNat cs.length)), .val (.long (Int64.ofNat m)), .second, .val (.int (4 : Int32))]) (q := 158) d39_156 rfl rfl ?_
    rw [ndg, if_neg q1, if_neg q2, if_neg q3, if_pos q4] at hQ
    exact jp158_4 H hm V K0 hl hQ
  refine go_ifY (q := 85) d39_78 (fun z => q4 ((cmp_lt (b := 10000) (by omega) (by decide)).mp z)) (by decide) (by decide) ?_
  refine go_lload (v := (Int64.ofNat m)) (q := 87) d39_85 rfl rfl ?_
  refine go_ldc2 (v := (100000 : Int64)) (q := 90) (w_249 H) d39_87 rfl ?_
  refine go_lcmp (r := XT.cmpL (Int64.ofNat m) (100000 : Int64)) (q := 91) d39_90 rfl rfl ?_
  by_cases q5 : m < 100000
  · refine go_ifN (q := 94) d39_91 ((cmp_lt (b := 100000) (by omega) (by decide)).mpr q5) rfl ?_
    refine go_iconst (x := (5 : Int32)) (q := 95) d39_94 rfl rfl ?_
    refine go_goto (q := 156) d39_95 (by decide) (by decide) ?_
    refine go_istore (L' := #[.val (.ref y), .val (.int a1), .val (.int p2), .val (.int (Int32.ofNat cs.length)), .val (.long (Int64.ofNat m)), .second, .val (.int (5 : Int32))]) (q := 158) d39_156 rfl rfl ?_
    rw [ndg, if_neg q1, if_neg q2, if_neg q3, if_neg q4, if_pos q5] at hQ
    exact jp158_5 H hm V K0 hl hQ
  refine go_ifY (q := 98) d39_91 (fun z => q5 ((cmp_lt (b := 100000) (by omega) (by decide)).mp z)) (by decide) (by decide) ?_
  refine go_lload (v := (Int64.ofNat m)) (q := 100) d39_98 rfl rfl ?_
  refine go_ldc2 (v := (1000000 : Int64)) (q := 103) (w_250 H) d39_100 rfl ?_
  refine go_lcmp (r := XT.cmpL (Int64.ofNat m) (1000000 : Int64)) (q := 104) d39_103 rfl rfl ?_
  by_cases q6 : m < 1000000
  · refine go_ifN (q := 107) d39_104 ((cmp_lt (b := 1000000) (by omega) (by decide)).mpr q6) rfl ?_
    refine go_bipush (x := (6 : Int32)) (q := 109) d39_107 rfl rfl ?_
    refine go_goto (q := 156) d39_109 (by decide) (by decide) ?_
    refine go_istore (L' := #[.val (.ref y), .val (.int a1), .val (.int p2), .val (.int (Int32.ofNat cs.length)), .val (.long (Int64.ofNat m)), .second, .val (.int (6 : Int32))]) (q := 158) d39_156 rfl rfl ?_
    rw [ndg, if_neg q1, if_neg q2, if_neg q3, if_neg q4, if_neg q5, if_pos q6] at hQ
    exact jp158_6 H hm V K0 hl hQ
  refine go_ifY (q := 112) d39_104 (fun z => q6 ((cmp_lt (b := 1000000) (by omega) (by decide)).mp z)) (by decide) (by decide) ?_
  refine go_lload (v := (Int64.ofNat m)) (q := 114) d39_112 rfl rfl ?_
  refine go_ldc2 (v := (10000000 : Int64)) (q := 117) (w_251 H) d39_114 rfl ?_
  refine go_lcmp (r := XT.cmpL (Int64.ofNat m) (10000000 : Int64)) (q := 118) d39_117 rfl rfl ?_
  by_cases q7 : m < 10000000
  · refine go_ifN (q := 121) d39_118 ((cmp_lt (b := 10000000) (by omega) (by decide)).mpr q7) rfl ?_
    refine go_bipush (x := (7 : Int32)) (q := 123) d39_121 rfl rfl ?_
    refine go_goto (q := 156) d39_123 (by decide) (by decide) ?_
    refine go_istore (L' := #[.val (.ref y), .val (.int a1), .val (.int p2), .val (.int (Int32.ofNat cs.length)), .val (.long (Int64.ofNat m)), .second, .val (.int (7 : Int32))]) (q := 158) d39_156 rfl rfl ?_
    rw [ndg, if_neg q1, if_neg q2, if_neg q3, if_neg q4, if_neg q5, if_neg q6, if_pos q7] at hQ
    exact jp158_7 H hm V K0 hl hQ
  refine go_ifY (q := 126) d39_118 (fun z => q7 ((cmp_lt (b := 10000000) (by omega) (by decide)).mp z)) (by decide) (by decide) ?_
  refine go_lload (v := (Int64.ofNat m)) (q := 128) d39_126 rfl rfl ?_
  refine go_ldc2 (v := (100000000 : Int64)) (q := 131) (w_252 H) d39_128 rfl ?_
  refine go_lcmp (r := XT.cmpL (Int64.ofNat m) (100000000 : Int64)) (q := 132) d39_131 rfl rfl ?_
  by_cases q8 : m < 100000000
  · refine go_ifN (q := 135) d39_132 ((cmp_lt (b := 100000000) (by omega) (by decide)).mpr q8) rfl ?_
    refine go_bipush (x := (8 : Int32)) (q := 137) d39_135 rfl rfl ?_
    refine go_goto (q := 156) d39_137 (by decide) (by decide) ?_
    refine go_istore (L' := #[.val (.ref y), .val (.int a1), .val (.int p2), .val (.int (Int32.ofNat cs.length)), .val (.long (Int64.ofNat m)), .second, .val (.int (8 : Int32))]) (q := 158) d39_156 rfl rfl ?_
    rw [ndg, if_neg q1, if_neg q2, if_neg q3, if_neg q4, if_neg q5, if_neg q6, if_neg q7, if_pos q8] at hQ
    exact jp158_8 H hm V K0 hl hQ
  refine go_ifY (q := 140) d39_132 (fun z => q8 ((cmp_lt (b := 100000000) (by omega) (by decide)).mp z)) (by decide) (by decide) ?_
  refine go_lload (v := (Int64.ofNat m)) (q := 142) d39_140 rfl rfl ?_
  refine go_ldc2 (v := (1000000000 : Int64)) (q := 145) (w_253 H) d39_142 rfl ?_
  refine go_lcmp (r := XT.cmpL (Int64.ofNat m) (1000000000 : Int64)) (q := 146) d39_145 rfl rfl ?_
  by_cases q9 : m < 1000000000
  · refine go_ifN (q := 149) d39_146 ((cmp_lt (b := 1000000000) (by omega) (by decide)).mpr q9) rfl ?_
    refine go_bipush (x := (9 : Int32)) (q := 151) d39_149 rfl rfl ?_
    refine go_goto (q := 156) d39_151 (by decide) (by decide) ?_
    refine go_istore (L' := #[.val (.ref y), .val (.int a1), .val (.int p2), .val (.int (Int32.ofNat cs.length)), .val (.long (Int64.ofNat m)), .second, .val (.int (9 : Int32))]) (q := 158) d39_156 rfl rfl ?_
    rw [ndg, if_neg q1, if_neg q2, if_neg q3, if_neg q4, if_neg q5, if_neg q6, if_neg q7, if_neg q8, if_pos q9] at hQ
    exact jp158_9 H hm V K0 hl hQ
  refine go_ifY (q := 154) d39_146 (fun z => q9 ((cmp_lt (b := 1000000000) (by omega) (by decide)).mp z)) (by decide) (by decide) ?_
  refine go_bipush (x := (10 : Int32)) (q := 156) d39_154 rfl rfl ?_
  refine go_istore (L' := #[.val (.ref y), .val (.int a1), .val (.int p2), .val (.int (Int32.ofNat cs.length)), .val (.long (Int64.ofNat m)), .second, .val (.int (10 : Int32))]) (q := 158) d39_156 rfl rfl ?_
  rw [ndg, if_neg q1, if_neg q2, if_neg q3, if_neg q4, if_neg q5, if_neg q6, if_neg q7, if_neg q8, if_neg q9] at hQ
  exact jp158_10 H hm V K0 hl hQ
set_option maxRecDepth 65536 in
set_option maxHeartbeats 4000000 in
theorem rm_pp {l : Launch} {Z : State} {a0 : Array Value} (H : Wd Z a0) {h : Heap} {y : Addr} {cs : List Int32} {p : Int32} (V : Ech Z h y cs) (hl : cs.length ≤ 23) : Met l Z (⟨"com/example/saga/saga/server/SurfaceUrisLinkTimeMapPinLaw", "putPage", "([CII)I"⟩ : MethodName) method_5_code 7 (some .int) ({ frames := 1, cells := 0, slots := 0, locals := 30 } : Room) h [y] #[.ref y, .int (Int32.ofNat cs.length), .int p] (fun u h' G => u = some (.int (Int32.ofNat (cs ++ pnl p).length)) ∧ Keep h h' [y] ∧ Ech Z h' y (cs ++ pnl p)) := by
  refine Met.mk (L := #[.val (.ref y), .val (.int (Int32.ofNat cs.length)), .val (.int p), .unset, .unset, .unset, .unset]) (plainFor_of_name (by first | (simp [plainName, overriddenIn]; done) | decide +kernel)) (fun m => by first | (simp [entryFrame, mkF, argsToLocals, Value.category]; done) | rfl) (fun K => ?_)
  show Go _ _ K "com/example/saga/saga/server/SurfaceUrisLinkTimeMapPinLaw" "putPage" _ _ _ _ _ _ _ _ _ 0 _ _
  refine go_iloadN (v := p) (q := 1) d39_0 rfl rfl ?_
  refine go_iconst (x := (1 : Int32)) (q := 2) d39_1 rfl rfl ?_
  by_cases q1 : p = 1
  · refine go_icN (q := 5) d39_2 q1 rfl ?_
    refine go_iloadN (v := (Int32.ofNat cs.length)) (q := 6) d39_5 rfl rfl ?_
    rw [pnl_1 q1, List.append_nil]
    exact go_ireturn H (G := []) (t := .int) rfl (by decide) rfl d39_6 (by decide) (by decide) (fun _ q => nomatch q) ⟨rfl, Keep.refl _ _, V⟩
  · refine go_icY (q := 7) d39_2 q1 (by decide) (by decide) ?_
    have hm := mag_le p
    refine go_iloadN (v := (Int32.ofNat cs.length)) (q := 8) d39_7 rfl rfl ?_
    refine go_istoreN (L' := #[.val (.ref y), .val (.int (Int32.ofNat cs.length)), .val (.int p), .val (.int (Int32.ofNat cs.length)), .unset, .unset, .unset]) (q := 9) d39_8 rfl rfl ?_
    refine go_iloadN (v := p) (q := 10) d39_9 rfl rfl ?_
    refine go_i2l (r := p.toInt64) (q := 11) d39_10 rfl rfl ?_
    refine go_lstore (L' := #[.val (.ref y), .val (.int (Int32.ofNat cs.length)), .val (.int p), .val (.int (Int32.ofNat cs.length)), .val (.long p.toInt64), .second, .unset]) (q := 13) d39_11 rfl rfl ?_
    refine go_lload (v := p.toInt64) (q := 15) d39_13 rfl rfl ?_
    refine go_lconst (x := (0 : Int64)) (q := 16) d39_15 rfl rfl ?_
    refine go_lcmp (r := XT.cmpL p.toInt64 (0 : Int64)) (q := 17) d39_16 rfl rfl ?_
    by_cases q : p < 0
    · refine go_ifN (q := 20) d39_17 (i2l_lt.mpr q) rfl ?_
      refine go_aloadN (v := .ref y) (q := 21) d39_20 rfl rfl rfl ?_
      refine go_iloadN (v := (Int32.ofNat cs.length)) (q := 22) d39_21 rfl rfl ?_
      refine go_iinc (x := (Int32.ofNat cs.length)) (y := (Int32.ofNat (cs ++ [45]).length)) (L' := #[.val (.ref y), .val (.int (Int32.ofNat cs.length)), .val (.int p), .val (.int (Int32.ofNat (cs ++ [45]).length)), .val (.long p.toInt64), .second, .unset]) (q := 25) d39_22 rfl inc_push rfl rfl ?_
      refine go_bipush (x := (45 : Int32)) (q := 27) d39_25 rfl rfl ?_
      obtain ⟨ky, V⟩ := V
      refine go_castore (i := cs.length) (y := 45) (q := 28) V ⟨nn_ofNat (by omega), (lt_ofNat (n := 40) (by omega) (by decide)).mpr (by omega)⟩ (cl_ofNat (by omega)) (by simp <;> omega) (by simp) (nar_char ((by decide : ¬ (45 : Int32) < 0 ∧ ¬ 255 < (45 : Int32))).1 ((by decide : ¬ (45 : Int32) < 0 ∧ ¬ 255 < (45 : Int32))).2) d39_27 rfl ?_
      intro hp0 Khp0 zhp0 Vhp0
      rw [push_c (cs := cs) (by omega)] at Vhp0
      have V : Ech Z hp0 y (cs ++ [45]) := ⟨ky, Vhp0⟩
      refine go_lload (v := p.toInt64) (q := 30) d39_28 rfl rfl ?_
      refine go_lneg (r := (Int64.ofNat (mag p))) (q := 31) d39_30 (abs_neg q) rfl ?_
      refine go_lstore (L' := #[.val (.ref y), .val (.int (Int32.ofNat cs.length)), .val (.int p), .val (.int (Int32.ofNat (cs ++ [45]).length)), .val (.long (Int64.ofNat (mag p))), .second, .unset]) (q := 33) d39_31 rfl rfl ?_
      exact jp33 H hm V Khp0 (by simp <;> omega) (by rw [pnl_n q1, dec, show sgn p = 1 from if_pos q, decS]; simp)
    · refine go_ifY (q := 33) d39_17 (fun z => q (i2l_lt.mp z)) (by decide) (by decide) ?_
      rw [abs_pos q]
      exact jp33 H hm V (Keep.refl _ _) (by omega) (by rw [pnl_n q1, dec, show sgn p = 0 from if_neg q, decS]; simp)
set_option maxRecDepth 65536 in
set_option maxHeartbeats 4000000 in
theorem rm_sm {l : Launch} {Z : State} {a0 : Array Value} (H : Wd Z a0) {h : Heap} {F : List Addr} {r y : Addr} {cs : List Int32} {i : Nat} (S : Str Z h F r cs) (V : Ech Z h y cs) (hi : i ≤ 36) (hl : cs.length ≤ 37) : Met l Z (⟨"com/example/saga/saga/server/SurfaceUrisLinkTimeMapPinLaw", "same", "(Ljava/lang/String;[CI)Z"⟩ : MethodName) method_3_code 3 (some .boolean) ({ frames := 4, cells := 0, slots := 0, locals := 60 } : Room) h [] #[.ref r, .ref y, .int (Int32.ofNat i)] (fun u h' G => u = some (.int 1) ∧ h = h') := by
  refine Met.mk (L := #[.val (.ref r), .val (.ref y), .val (.int (Int32.ofNat i))]) (plainFor_of_name (by first | (simp [plainName, overriddenIn]; done) | decide +kernel)) (fun m => by first | (simp [entryFrame, mkF, argsToLocals, Value.category]; done) | rfl) (fun K => ?_)
  show Go _ _ K "com/example/saga/saga/server/SurfaceUrisLinkTimeMapPinLaw" "same" _ _ _ _ _ _ _ _ _ 0 _ _
  obtain ⟨k, V⟩ := V
  refine go_iloadN (v := (Int32.ofNat i)) (q := 1) d41_0 rfl rfl ?_
  refine go_aloadN (v := .ref r) (q := 2) d41_1 rfl rfl rfl ?_
  refine go_virtual (c' := 0) (s' := 0) (q := 5) (S := [.int (Int32.ofNat i)]) (argsL := []) H (C := "java/lang/String") (w_210 H) (w_74 H) (nf_self (w_76 H)) (w_76 H) (w_75 H) (w_2 H) (w_77 H) (by decide) S.exa (rm_len H S) rfl rfl (lenOf pd_16 rfl) (fun _ q => nomatch q) rfl (by decide) (Nat.le_of_ble_eq_true rfl) rfl rfl (by decide) (by decide) d41_2 rfl ?_
  rintro _ _ G - ⟨rfl, rfl⟩
  refine nx_ (v := none) ?_
  show Go _ _ _ _ _ _ _ _ _ _ _ _ _ _ 5 #[.val (.ref r), .val (.ref y), .val (.int (Int32.ofNat i))] [.int (Int32.ofNat cs.length), .int (Int32.ofNat i)]
  by_cases q : i < cs.length
  · refine go_icN (q := 8) d41_5 ((lt_ofNat (by omega) (by omega)).mpr q) rfl ?_
    refine go_aloadN (v := .ref r) (q := 9) d41_8 rfl rfl rfl ?_
    refine go_iloadN (v := (Int32.ofNat i)) (q := 10) d41_9 rfl rfl ?_
    refine go_virtual (c' := 0) (s' := 0) (q := 13) (S := []) (argsL := [.int (Int32.ofNat i)]) H (C := "java/lang/String") (w_214 H) (w_215 H) (nf_self (w_217 H)) (w_217 H) (w_216 H) (w_2 H) (w_218 H) (by decide) S.exa (rm_chAt H S q) rfl rfl (lenOf pd_34 rfl) (fun _ q => nomatch q) rfl (by decide) (Nat.le_of_ble_eq_true rfl) rfl rfl (by decide) (by decide) d41_10 rfl ?_
    rintro _ _ G - ⟨rfl, rfl⟩
    refine nx_ (v := none) ?_
    show Go _ _ _ _ _ _ _ _ _ _ _ _ _ _ 13 #[.val (.ref r), .val (.ref y), .val (.int (Int32.ofNat i))] [.int (cs[i])]
    refine go_aloadN (v := .ref y) (q := 14) d41_13 rfl rfl rfl ?_
    refine go_iloadN (v := (Int32.ofNat i)) (q := 15) d41_14 rfl rfl ?_
    refine go_caload (v := .int (cs[i])) (q := 16) V ⟨nn_ofNat (by omega), (lt_ofNat (n := 40) (by omega) (by decide)).mpr (by omega)⟩ (by rw [cl_ofNat (by omega)]; simp [ints, List.getElem?_append, q]) d41_15 rfl ?_
    refine go_icN (q := 19) d41_16 rfl rfl ?_
    refine go_iconst (x := (1 : Int32)) (q := 20) d41_19 rfl rfl ?_
    refine go_goto (q := 24) d41_20 (by decide) (by decide) ?_
    exact go_ireturn H (G := []) (t := .boolean) rfl (by decide) rfl d41_24 (by decide) (by decide) (fun _ q => nomatch q) ⟨rfl, rfl⟩
  · refine go_icY (q := 19) d41_5 (fun z => q ((lt_ofNat (by omega) (by omega)).mp z)) (by decide) (by decide) ?_
    refine go_iconst (x := (1 : Int32)) (q := 20) d41_19 rfl rfl ?_
    refine go_goto (q := 24) d41_20 (by decide) (by decide) ?_
    exact go_ireturn H (G := []) (t := .boolean) rfl (by decide) rfl d41_24 (by decide) (by decide) (fun _ q => nomatch q) ⟨rfl, rfl⟩
abbrev GL (l : Launch) (Z : State) (K : Cx) (h : Heap) (F : List Addr) (c s pc : Nat) (L : Array Slot) (S : List Value) : Prop := Go l Z K "com/example/saga/saga/server/SurfaceUrisLinkTimeMapPinLaw" "law" code 15 ret ({ frames := 11, cells := 64, slots := 5824, locals := 224 } : Room) (fun v h' G => v = some (.int 1)) h F c s pc L S
set_option maxRecDepth 65536 in
set_option maxHeartbeats 8000000 in
theorem j446 {l : Launch} {Z : State} {a0 : Array Value} (H : Wd Z a0) {K : Cx} {h : Heap} {r y : Addr} {cs : List Int32} {i0 i1 i2 i3 la lu a b c d : Int32} {s10 s11 : Slot} (S : Str Z h [] r cs) (V : Ech Z h y cs) (hl : cs.length ≤ 37) : GL l Z K h [] 48 1200 446 #[.val (.int i0), .val (.int i1), .val (.int i2), .val (.int i3), .val (.int la), .val (.int lu), .val (.int a), .val (.int b), .val (.int c), .val (.int d), s10, s11, .val (.ref r), .val (.ref y), .val (.int (Int32.ofNat cs.length))] [] := by
  refine go_aload (v := .ref r) (q := 448) at_446 rfl rfl rfl ?_
  refine go_nullN (q := 451) at_448 rfl ?_
  refine go_aload (v := .ref r) (q := 453) at_451 rfl rfl rfl ?_
  refine go_virtual (c' := 48) (s' := 1200) (q := 456) (S := []) (argsL := []) H (C := "java/lang/String") (w_210 H) (w_74 H) (nf_self (w_76 H)) (w_76 H) (w_75 H) (w_2 H) (w_77 H) (by decide) S.exa (rm_len H S) rfl rfl (lenOf pd_16 rfl) (fun _ q => nomatch q) rfl (by decide) (Nat.le_of_ble_eq_true rfl) rfl rfl (by decide) (by decide) at_453 rfl ?_
  rintro _ _ G - ⟨rfl, rfl⟩
  refine nx_ (v := none) ?_
  show Go _ _ _ _ _ _ _ _ _ _ _ _ _ _ 456 #[.val (.int i0), .val (.int i1), .val (.int i2), .val (.int i3), .val (.int la), .val (.int lu), .val (.int a), .val (.int b), .val (.int c), .val (.int d), s10, s11, .val (.ref r), .val (.ref y), .val (.int (Int32.ofNat cs.length))] [.int (Int32.ofNat cs.length)]
  refine go_iload (v := (Int32.ofNat cs.length)) (q := 458) at_456 rfl rfl ?_
  refine go_icY (q := 463) at_458 rfl (by decide) (by decide) ?_
  refine go_aload (v := .ref r) (q := 465) at_463 rfl rfl rfl ?_
  refine go_aload (v := .ref y) (q := 467) at_465 rfl rfl rfl ?_
  refine go_iconst (x := (0 : Int32)) (q := 468) at_467 rfl rfl ?_
  refine go_static (c' := 48) (s' := 1200) (q := 471) (S := []) (argsL := [.ref r, .ref y, .int (0 : Int32)]) H (w_211 H) (w_212 H) (w_204 H) (w_213 H) (by decide) (rm_sm H (i := 0) S V (by decide) hl) rfl rfl (lenOf pd_35 rfl) (fun _ q => nomatch q) rfl (by decide) (Nat.le_of_ble_eq_true rfl) rfl rfl (by decide) (by decide) at_468 rfl ?_
  rintro _ _ G - ⟨rfl, rfl⟩
  refine nx_ (v := none) ?_
  show Go _ _ _ _ _ _ _ _ _ _ _ _ _ _ 471 #[.val (.int i0), .val (.int i1), .val (.int i2), .val (.int i3), .val (.int la), .val (.int lu), .val (.int a), .val (.int b), .val (.int c), .val (.int d), s10, s11, .val (.ref r), .val (.ref y), .val (.int (Int32.ofNat cs.length))] [.int 1]
  refine go_ifN (q := 474) at_471 (by decide) rfl ?_
  refine go_aload (v := .ref r) (q := 476) at_474 rfl rfl rfl ?_
  refine go_aload (v := .ref y) (q := 478) at_476 rfl rfl rfl ?_
  refine go_iconst (x := (1 : Int32)) (q := 479) at_478 rfl rfl ?_
  refine go_static (c' := 48) (s' := 1200) (q := 482) (S := []) (argsL := [.ref r, .ref y, .int (1 : Int32)]) H (w_211 H) (w_212 H) (w_204 H) (w_213 H) (by decide) (rm_sm H (i := 1) S V (by decide) hl) rfl rfl (lenOf pd_35 rfl) (fun _ q => nomatch q) rfl (by decide) (Nat.le_of_ble_eq_true rfl) rfl rfl (by decide) (by decide) at_479 rfl ?_
  rintro _ _ G - ⟨rfl, rfl⟩
  refine nx_ (v := none) ?_
  show Go _ _ _ _ _ _ _ _ _ _ _ _ _ _ 482 #[.val (.int i0), .val (.int i1), .val (.int i2), .val (.int i3), .val (.int la), .val (.int lu), .val (.int a), .val (.int b), .val (.int c), .val (.int d), s10, s11, .val (.ref r), .val (.ref y), .val (.int (Int32.ofNat cs.length))] [.int 1]
  refine go_ifN (q := 485) at_482 (by decide) rfl ?_
  refine go_aload (v := .ref r) (q := 487) at_485 rfl rfl rfl ?_
  refine go_aload (v := .ref y) (q := 489) at_487 rfl rfl rfl ?_
  refine go_iconst (x := (2 : Int32)) (q := 490) at_489 rfl rfl ?_
  refine go_static (c' := 48) (s' := 1200) (q := 493) (S := []) (argsL := [.ref r, .ref y, .int (2 : Int32)]) H (w_211 H) (w_212 H) (w_204 H) (w_213 H) (by decide) (rm_sm H (i := 2) S V (by decide) hl) rfl rfl (lenOf pd_35 rfl) (fun _ q => nomatch q) rfl (by decide) (Nat.le_of_ble_eq_true rfl) rfl rfl (by decide) (by decide) at_490 rfl ?_
  rintro _ _ G - ⟨rfl, rfl⟩
  refine nx_ (v := none) ?_
  show Go _ _ _ _ _ _ _ _ _ _ _ _ _ _ 493 #[.val (.int i0), .val (.int i1), .val (.int i2), .val (.int i3), .val (.int la), .val (.int lu), .val (.int a), .val (.int b), .val (.int c), .val (.int d), s10, s11, .val (.ref r), .val (.ref y), .val (.int (Int32.ofNat cs.length))] [.int 1]
  refine go_ifN (q := 496) at_493 (by decide) rfl ?_
  refine go_aload (v := .ref r) (q := 498) at_496 rfl rfl rfl ?_
  refine go_aload (v := .ref y) (q := 500) at_498 rfl rfl rfl ?_
  refine go_iconst (x := (3 : Int32)) (q := 501) at_500 rfl rfl ?_
  refine go_static (c' := 48) (s' := 1200) (q := 504) (S := []) (argsL := [.ref r, .ref y, .int (3 : Int32)]) H (w_211 H) (w_212 H) (w_204 H) (w_213 H) (by decide) (rm_sm H (i := 3) S V (by decide) hl) rfl rfl (lenOf pd_35 rfl) (fun _ q => nomatch q) rfl (by decide) (Nat.le_of_ble_eq_true rfl) rfl rfl (by decide) (by decide) at_501 rfl ?_
  rintro _ _ G - ⟨rfl, rfl⟩
  refine nx_ (v := none) ?_
  show Go _ _ _ _ _ _ _ _ _ _ _ _ _ _ 504 #[.val (.int i0), .val (.int i1), .val (.int i2), .val (.int i3), .val (.int la), .val (.int lu), .val (.int a), .val (.int b), .val (.int c), .val (.int d), s10, s11, .val (.ref r), .val (.ref y), .val (.int (Int32.ofNat cs.length))] [.int 1]
  refine go_ifN (q := 507) at_504 (by decide) rfl ?_
  refine go_aload (v := .ref r) (q := 509) at_507 rfl rfl rfl ?_
  refine go_aload (v := .ref y) (q := 511) at_509 rfl rfl rfl ?_
  refine go_iconst (x := (4 : Int32)) (q := 512) at_511 rfl rfl ?_
  refine go_static (c' := 48) (s' := 1200) (q := 515) (S := []) (argsL := [.ref r, .ref y, .int (4 : Int32)]) H (w_211 H) (w_212 H) (w_204 H) (w_213 H) (by decide) (rm_sm H (i := 4) S V (by decide) hl) rfl rfl (lenOf pd_35 rfl) (fun _ q => nomatch q) rfl (by decide) (Nat.le_of_ble_eq_true rfl) rfl rfl (by decide) (by decide) at_512 rfl ?_
  rintro _ _ G - ⟨rfl, rfl⟩
  refine nx_ (v := none) ?_
  show Go _ _ _ _ _ _ _ _ _ _ _ _ _ _ 515 #[.val (.int i0), .val (.int i1), .val (.int i2), .val (.int i3), .val (.int la), .val (.int lu), .val (.int a), .val (.int b), .val (.int c), .val (.int d), s10, s11, .val (.ref r), .val (.ref y), .val (.int (Int32.ofNat cs.length))] [.int 1]
  refine go_ifN (q := 518) at_515 (by decide) rfl ?_
  refine go_aload (v := .ref r) (q := 520) at_518 rfl rfl rfl ?_
  refine go_aload (v := .ref y) (q := 522) at_520 rfl rfl rfl ?_
  refine go_iconst (x := (5 : Int32)) (q := 523) at_522 rfl rfl ?_
  refine go_static (c' := 48) (s' := 1200) (q := 526) (S := []) (argsL := [.ref r, .ref y, .int (5 : Int32)]) H (w_211 H) (w_212 H) (w_204 H) (w_213 H) (by decide) (rm_sm H (i := 5) S V (by decide) hl) rfl rfl (lenOf pd_35 rfl) (fun _ q => nomatch q) rfl (by decide) (Nat.le_of_ble_eq_true rfl) rfl rfl (by decide) (by decide) at_523 rfl ?_
  rintro _ _ G - ⟨rfl, rfl⟩
  refine nx_ (v := none) ?_
  show Go _ _ _ _ _ _ _ _ _ _ _ _ _ _ 526 #[.val (.int i0), .val (.int i1), .val (.int i2), .val (.int i3), .val (.int la), .val (.int lu), .val (.int a), .val (.int b), .val (.int c), .val (.int d), s10, s11, .val (.ref r), .val (.ref y), .val (.int (Int32.ofNat cs.length))] [.int 1]
  refine go_ifN (q := 529) at_526 (by decide) rfl ?_
  refine go_aload (v := .ref r) (q := 531) at_529 rfl rfl rfl ?_
  refine go_aload (v := .ref y) (q := 533) at_531 rfl rfl rfl ?_
  refine go_bipush (x := (6 : Int32)) (q := 535) at_533 rfl rfl ?_
  refine go_static (c' := 48) (s' := 1200) (q := 538) (S := []) (argsL := [.ref r, .ref y, .int (6 : Int32)]) H (w_211 H) (w_212 H) (w_204 H) (w_213 H) (by decide) (rm_sm H (i := 6) S V (by decide) hl) rfl rfl (lenOf pd_35 rfl) (fun _ q => nomatch q) rfl (by decide) (Nat.le_of_ble_eq_true rfl) rfl rfl (by decide) (by decide) at_535 rfl ?_
  rintro _ _ G - ⟨rfl, rfl⟩
  refine nx_ (v := none) ?_
  show Go _ _ _ _ _ _ _ _ _ _ _ _ _ _ 538 #[.val (.int i0), .val (.int i1), .val (.int i2), .val (.int i3), .val (.int la), .val (.int lu), .val (.int a), .val (.int b), .val (.int c), .val (.int d), s10, s11, .val (.ref r), .val (.ref y), .val (.int (Int32.ofNat cs.length))] [.int 1]
  refine go_ifN (q := 541) at_538 (by decide) rfl ?_
  refine go_aload (v := .ref r) (q := 543) at_541 rfl rfl rfl ?_
  refine go_aload (v := .ref y) (q := 545) at_543 rfl rfl rfl ?_
  refine go_bipush (x := (7 : Int32)) (q := 547) at_545 rfl rfl ?_
  refine go_static (c' := 48) (s' := 1200) (q := 550) (S := []) (argsL := [.ref r, .ref y, .int (7 : Int32)]) H (w_211 H) (w_212 H) (w_204 H) (w_213 H) (by decide) (rm_sm H (i := 7) S V (by decide) hl) rfl rfl (lenOf pd_35 rfl) (fun _ q => nomatch q) rfl (by decide) (Nat.le_of_ble_eq_true rfl) rfl rfl (by decide) (by decide) at_547 rfl ?_
  rintro _ _ G - ⟨rfl, rfl⟩
  refine nx_ (v := none) ?_
  show Go _ _ _ _ _ _ _ _ _ _ _ _ _ _ 550 #[.val (.int i0), .val (.int i1), .val (.int i2), .val (.int i3), .val (.int la), .val (.int lu), .val (.int a), .val (.int b), .val (.int c), .val (.int d), s10, s11, .val (.ref r), .val (.ref y), .val (.int (Int32.ofNat cs.length))] [.int 1]
  refine go_ifN (q := 553) at_550 (by decide) rfl ?_
  refine go_aload (v := .ref r) (q := 555) at_553 rfl rfl rfl ?_
  refine go_aload (v := .ref y) (q := 557) at_555 rfl rfl rfl ?_
  refine go_bipush (x := (8 : Int32)) (q := 559) at_557 rfl rfl ?_
  refine go_static (c' := 48) (s' := 1200) (q := 562) (S := []) (argsL := [.ref r, .ref y, .int (8 : Int32)]) H (w_211 H) (w_212 H) (w_204 H) (w_213 H) (by decide) (rm_sm H (i := 8) S V (by decide) hl) rfl rfl (lenOf pd_35 rfl) (fun _ q => nomatch q) rfl (by decide) (Nat.le_of_ble_eq_true rfl) rfl rfl (by decide) (by decide) at_559 rfl ?_
  rintro _ _ G - ⟨rfl, rfl⟩
  refine nx_ (v := none) ?_
  show Go _ _ _ _ _ _ _ _ _ _ _ _ _ _ 562 #[.val (.int i0), .val (.int i1), .val (.int i2), .val (.int i3), .val (.int la), .val (.int lu), .val (.int a), .val (.int b), .val (.int c), .val (.int d), s10, s11, .val (.ref r), .val (.ref y), .val (.int (Int32.ofNat cs.length))] [.int 1]
  refine go_ifN (q := 565) at_562 (by decide) rfl ?_
  refine go_aload (v := .ref r) (q := 567) at_565 rfl rfl rfl ?_
  refine go_aload (v := .ref y) (q := 569) at_567 rfl rfl rfl ?_
  refine go_bipush (x := (9 : Int32)) (q := 571) at_569 rfl rfl ?_
  refine go_static (c' := 48) (s' := 1200) (q := 574) (S := []) (argsL := [.ref r, .ref y, .int (9 : Int32)]) H (w_211 H) (w_212 H) (w_204 H) (w_213 H) (by decide) (rm_sm H (i := 9) S V (by decide) hl) rfl rfl (lenOf pd_35 rfl) (fun _ q => nomatch q) rfl (by decide) (Nat.le_of_ble_eq_true rfl) rfl rfl (by decide) (by decide) at_571 rfl ?_
  rintro _ _ G - ⟨rfl, rfl⟩
  refine nx_ (v := none) ?_
  show Go _ _ _ _ _ _ _ _ _ _ _ _ _ _ 574 #[.val (.int i0), .val (.int i1), .val (.int i2), .val (.int i3), .val (.int la), .val (.int lu), .val (.int a), .val (.int b), .val (.int c), .val (.int d), s10, s11, .val (.ref r), .val (.ref y), .val (.int (Int32.ofNat cs.length))] [.int 1]
  refine go_ifN (q := 577) at_574 (by decide) rfl ?_
  refine go_aload (v := .ref r) (q := 579) at_577 rfl rfl rfl ?_
  refine go_aload (v := .ref y) (q := 581) at_579 rfl rfl rfl ?_
  refine go_bipush (x := (10 : Int32)) (q := 583) at_581 rfl rfl ?_
  refine go_static (c' := 48) (s' := 1200) (q := 586) (S := []) (argsL := [.ref r, .ref y, .int (10 : Int32)]) H (w_211 H) (w_212 H) (w_204 H) (w_213 H) (by decide) (rm_sm H (i := 10) S V (by decide) hl) rfl rfl (lenOf pd_35 rfl) (fun _ q => nomatch q) rfl (by decide) (Nat.le_of_ble_eq_true rfl) rfl rfl (by decide) (by decide) at_583 rfl ?_
  rintro _ _ G - ⟨rfl, rfl⟩
  refine nx_ (v := none) ?_
  show Go _ _ _ _ _ _ _ _ _ _ _ _ _ _ 586 #[.val (.int i0), .val (.int i1), .val (.int i2), .val (.int i3), .val (.int la), .val (.int lu), .val (.int a), .val (.int b), .val (.int c), .val (.int d), s10, s11, .val (.ref r), .val (.ref y), .val (.int (Int32.ofNat cs.length))] [.int 1]
  refine go_ifN (q := 589) at_586 (by decide) rfl ?_
  refine go_aload (v := .ref r) (q := 591) at_589 rfl rfl rfl ?_
  refine go_aload (v := .ref y) (q := 593) at_591 rfl rfl rfl ?_
  refine go_bipush (x := (11 : Int32)) (q := 595) at_593 rfl rfl ?_
  refine go_static (c' := 48) (s' := 1200) (q := 598) (S := []) (argsL := [.ref r, .ref y, .int (11 : Int32)]) H (w_211 H) (w_212 H) (w_204 H) (w_213 H) (by decide) (rm_sm H (i := 11) S V (by decide) hl) rfl rfl (lenOf pd_35 rfl) (fun _ q => nomatch q) rfl (by decide) (Nat.le_of_ble_eq_true rfl) rfl rfl (by decide) (by decide) at_595 rfl ?_
  rintro _ _ G - ⟨rfl, rfl⟩
  refine nx_ (v := none) ?_
  show Go _ _ _ _ _ _ _ _ _ _ _ _ _ _ 598 #[.val (.int i0), .val (.int i1), .val (.int i2), .val (.int i3), .val (.int la), .val (.int lu), .val (.int a), .val (.int b), .val (.int c), .val (.int d), s10, s11, .val (.ref r), .val (.ref y), .val (.int (Int32.ofNat cs.length))] [.int 1]
  refine go_ifN (q := 601) at_598 (by decide) rfl ?_
  refine go_aload (v := .ref r) (q := 603) at_601 rfl rfl rfl ?_
  refine go_aload (v := .ref y) (q := 605) at_603 rfl rfl rfl ?_
  refine go_bipush (x := (12 : Int32)) (q := 607) at_605 rfl rfl ?_
  refine go_static (c' := 48) (s' := 1200) (q := 610) (S := []) (argsL := [.ref r, .ref y, .int (12 : Int32)]) H (w_211 H) (w_212 H) (w_204 H) (w_213 H) (by decide) (rm_sm H (i := 12) S V (by decide) hl) rfl rfl (lenOf pd_35 rfl) (fun _ q => nomatch q) rfl (by decide) (Nat.le_of_ble_eq_true rfl) rfl rfl (by decide) (by decide) at_607 rfl ?_
  rintro _ _ G - ⟨rfl, rfl⟩
  refine nx_ (v := none) ?_
  show Go _ _ _ _ _ _ _ _ _ _ _ _ _ _ 610 #[.val (.int i0), .val (.int i1), .val (.int i2), .val (.int i3), .val (.int la), .val (.int lu), .val (.int a), .val (.int b), .val (.int c), .val (.int d), s10, s11, .val (.ref r), .val (.ref y), .val (.int (Int32.ofNat cs.length))] [.int 1]
  refine go_ifN (q := 613) at_610 (by decide) rfl ?_
  refine go_aload (v := .ref r) (q := 615) at_613 rfl rfl rfl ?_
  refine go_aload (v := .ref y) (q := 617) at_615 rfl rfl rfl ?_
  refine go_bipush (x := (13 : Int32)) (q := 619) at_617 rfl rfl ?_
  refine go_static (c' := 48) (s' := 1200) (q := 622) (S := []) (argsL := [.ref r, .ref y, .int (13 : Int32)]) H (w_211 H) (w_212 H) (w_204 H) (w_213 H) (by decide) (rm_sm H (i := 13) S V (by decide) hl) rfl rfl (lenOf pd_35 rfl) (fun _ q => nomatch q) rfl (by decide) (Nat.le_of_ble_eq_true rfl) rfl rfl (by decide) (by decide) at_619 rfl ?_
  rintro _ _ G - ⟨rfl, rfl⟩
  refine nx_ (v := none) ?_
  show Go _ _ _ _ _ _ _ _ _ _ _ _ _ _ 622 #[.val (.int i0), .val (.int i1), .val (.int i2), .val (.int i3), .val (.int la), .val (.int lu), .val (.int a), .val (.int b), .val (.int c), .val (.int d), s10, s11, .val (.ref r), .val (.ref y), .val (.int (Int32.ofNat cs.length))] [.int 1]
  refine go_ifN (q := 625) at_622 (by decide) rfl ?_
  refine go_aload (v := .ref r) (q := 627) at_625 rfl rfl rfl ?_
  refine go_aload (v := .ref y) (q := 629) at_627 rfl rfl rfl ?_
  refine go_bipush (x := (14 : Int32)) (q := 631) at_629 rfl rfl ?_
  refine go_static (c' := 48) (s' := 1200) (q := 634) (S := []) (argsL := [.ref r, .ref y, .int (14 : Int32)]) H (w_211 H) (w_212 H) (w_204 H) (w_213 H) (by decide) (rm_sm H (i := 14) S V (by decide) hl) rfl rfl (lenOf pd_35 rfl) (fun _ q => nomatch q) rfl (by decide) (Nat.le_of_ble_eq_true rfl) rfl rfl (by decide) (by decide) at_631 rfl ?_
  rintro _ _ G - ⟨rfl, rfl⟩
  refine nx_ (v := none) ?_
  show Go _ _ _ _ _ _ _ _ _ _ _ _ _ _ 634 #[.val (.int i0), .val (.int i1), .val (.int i2), .val (.int i3), .val (.int la), .val (.int lu), .val (.int a), .val (.int b), .val (.int c), .val (.int d), s10, s11, .val (.ref r), .val (.ref y), .val (.int (Int32.ofNat cs.length))] [.int 1]
  refine go_ifN (q := 637) at_634 (by decide) rfl ?_
  refine go_aload (v := .ref r) (q := 639) at_637 rfl rfl rfl ?_
  refine go_aload (v := .ref y) (q := 641) at_639 rfl rfl rfl ?_
  refine go_bipush (x := (15 : Int32)) (q := 643) at_641 rfl rfl ?_
  refine go_static (c' := 48) (s' := 1200) (q := 646) (S := []) (argsL := [.ref r, .ref y, .int (15 : Int32)]) H (w_211 H) (w_212 H) (w_204 H) (w_213 H) (by decide) (rm_sm H (i := 15) S V (by decide) hl) rfl rfl (lenOf pd_35 rfl) (fun _ q => nomatch q) rfl (by decide) (Nat.le_of_ble_eq_true rfl) rfl rfl (by decide) (by decide) at_643 rfl ?_
  rintro _ _ G - ⟨rfl, rfl⟩
  refine nx_ (v := none) ?_
  show Go _ _ _ _ _ _ _ _ _ _ _ _ _ _ 646 #[.val (.int i0), .val (.int i1), .val (.int i2), .val (.int i3), .val (.int la), .val (.int lu), .val (.int a), .val (.int b), .val (.int c), .val (.int d), s10, s11, .val (.ref r), .val (.ref y), .val (.int (Int32.ofNat cs.length))] [.int 1]
  refine go_ifN (q := 649) at_646 (by decide) rfl ?_
  refine go_aload (v := .ref r) (q := 651) at_649 rfl rfl rfl ?_
  refine go_aload (v := .ref y) (q := 653) at_651 rfl rfl rfl ?_
  refine go_bipush (x := (16 : Int32)) (q := 655) at_653 rfl rfl ?_
  refine go_static (c' := 48) (s' := 1200) (q := 658) (S := []) (argsL := [.ref r, .ref y, .int (16 : Int32)]) H (w_211 H) (w_212 H) (w_204 H) (w_213 H) (by decide) (rm_sm H (i := 16) S V (by decide) hl) rfl rfl (lenOf pd_35 rfl) (fun _ q => nomatch q) rfl (by decide) (Nat.le_of_ble_eq_true rfl) rfl rfl (by decide) (by decide) at_655 rfl ?_
  rintro _ _ G - ⟨rfl, rfl⟩
  refine nx_ (v := none) ?_
  show Go _ _ _ _ _ _ _ _ _ _ _ _ _ _ 658 #[.val (.int i0), .val (.int i1), .val (.int i2), .val (.int i3), .val (.int la), .val (.int lu), .val (.int a), .val (.int b), .val (.int c), .val (.int d), s10, s11, .val (.ref r), .val (.ref y), .val (.int (Int32.ofNat cs.length))] [.int 1]
  refine go_ifN (q := 661) at_658 (by decide) rfl ?_
  refine go_aload (v := .ref r) (q := 663) at_661 rfl rfl rfl ?_
  refine go_aload (v := .ref y) (q := 665) at_663 rfl rfl rfl ?_
  refine go_bipush (x := (17 : Int32)) (q := 667) at_665 rfl rfl ?_
  refine go_static (c' := 48) (s' := 1200) (q := 670) (S := []) (argsL := [.ref r, .ref y, .int (17 : Int32)]) H (w_211 H) (w_212 H) (w_204 H) (w_213 H) (by decide) (rm_sm H (i := 17) S V (by decide) hl) rfl rfl (lenOf pd_35 rfl) (fun _ q => nomatch q) rfl (by decide) (Nat.le_of_ble_eq_true rfl) rfl rfl (by decide) (by decide) at_667 rfl ?_
  rintro _ _ G - ⟨rfl, rfl⟩
  refine nx_ (v := none) ?_
  show Go _ _ _ _ _ _ _ _ _ _ _ _ _ _ 670 #[.val (.int i0), .val (.int i1), .val (.int i2), .val (.int i3), .val (.int la), .val (.int lu), .val (.int a), .val (.int b), .val (.int c), .val (.int d), s10, s11, .val (.ref r), .val (.ref y), .val (.int (Int32.ofNat cs.length))] [.int 1]
  refine go_ifN (q := 673) at_670 (by decide) rfl ?_
  refine go_aload (v := .ref r) (q := 675) at_673 rfl rfl rfl ?_
  refine go_aload (v := .ref y) (q := 677) at_675 rfl rfl rfl ?_
  refine go_bipush (x := (18 : Int32)) (q := 679) at_677 rfl rfl ?_
  refine go_static (c' := 48) (s' := 1200) (q := 682) (S := []) (argsL := [.ref r, .ref y, .int (18 : Int32)]) H (w_211 H) (w_212 H) (w_204 H) (w_213 H) (by decide) (rm_sm H (i := 18) S V (by decide) hl) rfl rfl (lenOf pd_35 rfl) (fun _ q => nomatch q) rfl (by decide) (Nat.le_of_ble_eq_true rfl) rfl rfl (by decide) (by decide) at_679 rfl ?_
  rintro _ _ G - ⟨rfl, rfl⟩
  refine nx_ (v := none) ?_
  show Go _ _ _ _ _ _ _ _ _ _ _ _ _ _ 682 #[.val (.int i0), .val (.int i1), .val (.int i2), .val (.int i3), .val (.int la), .val (.int lu), .val (.int a), .val (.int b), .val (.int c), .val (.int d), s10, s11, .val (.ref r), .val (.ref y), .val (.int (Int32.ofNat cs.length))] [.int 1]
  refine go_ifN (q := 685) at_682 (by decide) rfl ?_
  refine go_aload (v := .ref r) (q := 687) at_685 rfl rfl rfl ?_
  refine go_aload (v := .ref y) (q := 689) at_687 rfl rfl rfl ?_
  refine go_bipush (x := (19 : Int32)) (q := 691) at_689 rfl rfl ?_
  refine go_static (c' := 48) (s' := 1200) (q := 694) (S := []) (argsL := [.ref r, .ref y, .int (19 : Int32)]) H (w_211 H) (w_212 H) (w_204 H) (w_213 H) (by decide) (rm_sm H (i := 19) S V (by decide) hl) rfl rfl (lenOf pd_35 rfl) (fun _ q => nomatch q) rfl (by decide) (Nat.le_of_ble_eq_true rfl) rfl rfl (by decide) (by decide) at_691 rfl ?_
  rintro _ _ G - ⟨rfl, rfl⟩
  refine nx_ (v := none) ?_
  show Go _ _ _ _ _ _ _ _ _ _ _ _ _ _ 694 #[.val (.int i0), .val (.int i1), .val (.int i2), .val (.int i3), .val (.int la), .val (.int lu), .val (.int a), .val (.int b), .val (.int c), .val (.int d), s10, s11, .val (.ref r), .val (.ref y), .val (.int (Int32.ofNat cs.length))] [.int 1]
  refine go_ifN (q := 697) at_694 (by decide) rfl ?_
  refine go_aload (v := .ref r) (q := 699) at_697 rfl rfl rfl ?_
  refine go_aload (v := .ref y) (q := 701) at_699 rfl rfl rfl ?_
  refine go_bipush (x := (20 : Int32)) (q := 703) at_701 rfl rfl ?_
  refine go_static (c' := 48) (s' := 1200) (q := 706) (S := []) (argsL := [.ref r, .ref y, .int (20 : Int32)]) H (w_211 H) (w_212 H) (w_204 H) (w_213 H) (by decide) (rm_sm H (i := 20) S V (by decide) hl) rfl rfl (lenOf pd_35 rfl) (fun _ q => nomatch q) rfl (by decide) (Nat.le_of_ble_eq_true rfl) rfl rfl (by decide) (by decide) at_703 rfl ?_
  rintro _ _ G - ⟨rfl, rfl⟩
  refine nx_ (v := none) ?_
  show Go _ _ _ _ _ _ _ _ _ _ _ _ _ _ 706 #[.val (.int i0), .val (.int i1), .val (.int i2), .val (.int i3), .val (.int la), .val (.int lu), .val (.int a), .val (.int b), .val (.int c), .val (.int d), s10, s11, .val (.ref r), .val (.ref y), .val (.int (Int32.ofNat cs.length))] [.int 1]
  refine go_ifN (q := 709) at_706 (by decide) rfl ?_
  refine go_aload (v := .ref r) (q := 711) at_709 rfl rfl rfl ?_
  refine go_aload (v := .ref y) (q := 713) at_711 rfl rfl rfl ?_
  refine go_bipush (x := (21 : Int32)) (q := 715) at_713 rfl rfl ?_
  refine go_static (c' := 48) (s' := 1200) (q := 718) (S := []) (argsL := [.ref r, .ref y, .int (21 : Int32)]) H (w_211 H) (w_212 H) (w_204 H) (w_213 H) (by decide) (rm_sm H (i := 21) S V (by decide) hl) rfl rfl (lenOf pd_35 rfl) (fun _ q => nomatch q) rfl (by decide) (Nat.le_of_ble_eq_true rfl) rfl rfl (by decide) (by decide) at_715 rfl ?_
  rintro _ _ G - ⟨rfl, rfl⟩
  refine nx_ (v := none) ?_
  show Go _ _ _ _ _ _ _ _ _ _ _ _ _ _ 718 #[.val (.int i0), .val (.int i1), .val (.int i2), .val (.int i3), .val (.int la), .val (.int lu), .val (.int a), .val (.int b), .val (.int c), .val (.int d), s10, s11, .val (.ref r), .val (.ref y), .val (.int (Int32.ofNat cs.length))] [.int 1]
  refine go_ifN (q := 721) at_718 (by decide) rfl ?_
  refine go_aload (v := .ref r) (q := 723) at_721 rfl rfl rfl ?_
  refine go_aload (v := .ref y) (q := 725) at_723 rfl rfl rfl ?_
  refine go_bipush (x := (22 : Int32)) (q := 727) at_725 rfl rfl ?_
  refine go_static (c' := 48) (s' := 1200) (q := 730) (S := []) (argsL := [.ref r, .ref y, .int (22 : Int32)]) H (w_211 H) (w_212 H) (w_204 H) (w_213 H) (by decide) (rm_sm H (i := 22) S V (by decide) hl) rfl rfl (lenOf pd_35 rfl) (fun _ q => nomatch q) rfl (by decide) (Nat.le_of_ble_eq_true rfl) rfl rfl (by decide) (by decide) at_727 rfl ?_
  rintro _ _ G - ⟨rfl, rfl⟩
  refine nx_ (v := none) ?_
  show Go _ _ _ _ _ _ _ _ _ _ _ _ _ _ 730 #[.val (.int i0), .val (.int i1), .val (.int i2), .val (.int i3), .val (.int la), .val (.int lu), .val (.int a), .val (.int b), .val (.int c), .val (.int d), s10, s11, .val (.ref r), .val (.ref y), .val (.int (Int32.ofNat cs.length))] [.int 1]
  refine go_ifN (q := 733) at_730 (by decide) rfl ?_
  refine go_aload (v := .ref r) (q := 735) at_733 rfl rfl rfl ?_
  refine go_aload (v := .ref y) (q := 737) at_735 rfl rfl rfl ?_
  refine go_bipush (x := (23 : Int32)) (q := 739) at_737 rfl rfl ?_
  refine go_static (c' := 48) (s' := 1200) (q := 742) (S := []) (argsL := [.ref r, .ref y, .int (23 : Int32)]) H (w_211 H) (w_212 H) (w_204 H) (w_213 H) (by decide) (rm_sm H (i := 23) S V (by decide) hl) rfl rfl (lenOf pd_35 rfl) (fun _ q => nomatch q) rfl (by decide) (Nat.le_of_ble_eq_true rfl) rfl rfl (by decide) (by decide) at_739 rfl ?_
  rintro _ _ G - ⟨rfl, rfl⟩
  refine nx_ (v := none) ?_
  show Go _ _ _ _ _ _ _ _ _ _ _ _ _ _ 742 #[.val (.int i0), .val (.int i1), .val (.int i2), .val (.int i3), .val (.int la), .val (.int lu), .val (.int a), .val (.int b), .val (.int c), .val (.int d), s10, s11, .val (.ref r), .val (.ref y), .val (.int (Int32.ofNat cs.length))] [.int 1]
  refine go_ifN (q := 745) at_742 (by decide) rfl ?_
  refine go_aload (v := .ref r) (q := 747) at_745 rfl rfl rfl ?_
  refine go_aload (v := .ref y) (q := 749) at_747 rfl rfl rfl ?_
  refine go_bipush (x := (24 : Int32)) (q := 751) at_749 rfl rfl ?_
  refine go_static (c' := 48) (s' := 1200) (q := 754) (S := []) (argsL := [.ref r, .ref y, .int (24 : Int32)]) H (w_211 H) (w_212 H) (w_204 H) (w_213 H) (by decide) (rm_sm H (i := 24) S V (by decide) hl) rfl rfl (lenOf pd_35 rfl) (fun _ q => nomatch q) rfl (by decide) (Nat.le_of_ble_eq_true rfl) rfl rfl (by decide) (by decide) at_751 rfl ?_
  rintro _ _ G - ⟨rfl, rfl⟩
  refine nx_ (v := none) ?_
  show Go _ _ _ _ _ _ _ _ _ _ _ _ _ _ 754 #[.val (.int i0), .val (.int i1), .val (.int i2), .val (.int i3), .val (.int la), .val (.int lu), .val (.int a), .val (.int b), .val (.int c), .val (.int d), s10, s11, .val (.ref r), .val (.ref y), .val (.int (Int32.ofNat cs.length))] [.int 1]
  refine go_ifN (q := 757) at_754 (by decide) rfl ?_
  refine go_aload (v := .ref r) (q := 759) at_757 rfl rfl rfl ?_
  refine go_aload (v := .ref y) (q := 761) at_759 rfl rfl rfl ?_
  refine go_bipush (x := (25 : Int32)) (q := 763) at_761 rfl rfl ?_
  refine go_static (c' := 48) (s' := 1200) (q := 766) (S := []) (argsL := [.ref r, .ref y, .int (25 : Int32)]) H (w_211 H) (w_212 H) (w_204 H) (w_213 H) (by decide) (rm_sm H (i := 25) S V (by decide) hl) rfl rfl (lenOf pd_35 rfl) (fun _ q => nomatch q) rfl (by decide) (Nat.le_of_ble_eq_true rfl) rfl rfl (by decide) (by decide) at_763 rfl ?_
  rintro _ _ G - ⟨rfl, rfl⟩
  refine nx_ (v := none) ?_
  show Go _ _ _ _ _ _ _ _ _ _ _ _ _ _ 766 #[.val (.int i0), .val (.int i1), .val (.int i2), .val (.int i3), .val (.int la), .val (.int lu), .val (.int a), .val (.int b), .val (.int c), .val (.int d), s10, s11, .val (.ref r), .val (.ref y), .val (.int (Int32.ofNat cs.length))] [.int 1]
  refine go_ifN (q := 769) at_766 (by decide) rfl ?_
  refine go_aload (v := .ref r) (q := 771) at_769 rfl rfl rfl ?_
  refine go_aload (v := .ref y) (q := 773) at_771 rfl rfl rfl ?_
  refine go_bipush (x := (26 : Int32)) (q := 775) at_773 rfl rfl ?_
  refine go_static (c' := 48) (s' := 1200) (q := 778) (S := []) (argsL := [.ref r, .ref y, .int (26 : Int32)]) H (w_211 H) (w_212 H) (w_204 H) (w_213 H) (by decide) (rm_sm H (i := 26) S V (by decide) hl) rfl rfl (lenOf pd_35 rfl) (fun _ q => nomatch q) rfl (by decide) (Nat.le_of_ble_eq_true rfl) rfl rfl (by decide) (by decide) at_775 rfl ?_
  rintro _ _ G - ⟨rfl, rfl⟩
  refine nx_ (v := none) ?_
  show Go _ _ _ _ _ _ _ _ _ _ _ _ _ _ 778 #[.val (.int i0), .val (.int i1), .val (.int i2), .val (.int i3), .val (.int la), .val (.int lu), .val (.int a), .val (.int b), .val (.int c), .val (.int d), s10, s11, .val (.ref r), .val (.ref y), .val (.int (Int32.ofNat cs.length))] [.int 1]
  refine go_ifN (q := 781) at_778 (by decide) rfl ?_
  refine go_aload (v := .ref r) (q := 783) at_781 rfl rfl rfl ?_
  refine go_aload (v := .ref y) (q := 785) at_783 rfl rfl rfl ?_
  refine go_bipush (x := (27 : Int32)) (q := 787) at_785 rfl rfl ?_
  refine go_static (c' := 48) (s' := 1200) (q := 790) (S := []) (argsL := [.ref r, .ref y, .int (27 : Int32)]) H (w_211 H) (w_212 H) (w_204 H) (w_213 H) (by decide) (rm_sm H (i := 27) S V (by decide) hl) rfl rfl (lenOf pd_35 rfl) (fun _ q => nomatch q) rfl (by decide) (Nat.le_of_ble_eq_true rfl) rfl rfl (by decide) (by decide) at_787 rfl ?_
  rintro _ _ G - ⟨rfl, rfl⟩
  refine nx_ (v := none) ?_
  show Go _ _ _ _ _ _ _ _ _ _ _ _ _ _ 790 #[.val (.int i0), .val (.int i1), .val (.int i2), .val (.int i3), .val (.int la), .val (.int lu), .val (.int a), .val (.int b), .val (.int c), .val (.int d), s10, s11, .val (.ref r), .val (.ref y), .val (.int (Int32.ofNat cs.length))] [.int 1]
  refine go_ifN (q := 793) at_790 (by decide) rfl ?_
  refine go_aload (v := .ref r) (q := 795) at_793 rfl rfl rfl ?_
  refine go_aload (v := .ref y) (q := 797) at_795 rfl rfl rfl ?_
  refine go_bipush (x := (28 : Int32)) (q := 799) at_797 rfl rfl ?_
  refine go_static (c' := 48) (s' := 1200) (q := 802) (S := []) (argsL := [.ref r, .ref y, .int (28 : Int32)]) H (w_211 H) (w_212 H) (w_204 H) (w_213 H) (by decide) (rm_sm H (i := 28) S V (by decide) hl) rfl rfl (lenOf pd_35 rfl) (fun _ q => nomatch q) rfl (by decide) (Nat.le_of_ble_eq_true rfl) rfl rfl (by decide) (by decide) at_799 rfl ?_
  rintro _ _ G - ⟨rfl, rfl⟩
  refine nx_ (v := none) ?_
  show Go _ _ _ _ _ _ _ _ _ _ _ _ _ _ 802 #[.val (.int i0), .val (.int i1), .val (.int i2), .val (.int i3), .val (.int la), .val (.int lu), .val (.int a), .val (.int b), .val (.int c), .val (.int d), s10, s11, .val (.ref r), .val (.ref y), .val (.int (Int32.ofNat cs.length))] [.int 1]
  refine go_ifN (q := 805) at_802 (by decide) rfl ?_
  refine go_aload (v := .ref r) (q := 807) at_805 rfl rfl rfl ?_
  refine go_aload (v := .ref y) (q := 809) at_807 rfl rfl rfl ?_
  refine go_bipush (x := (29 : Int32)) (q := 811) at_809 rfl rfl ?_
  refine go_static (c' := 48) (s' := 1200) (q := 814) (S := []) (argsL := [.ref r, .ref y, .int (29 : Int32)]) H (w_211 H) (w_212 H) (w_204 H) (w_213 H) (by decide) (rm_sm H (i := 29) S V (by decide) hl) rfl rfl (lenOf pd_35 rfl) (fun _ q => nomatch q) rfl (by decide) (Nat.le_of_ble_eq_true rfl) rfl rfl (by decide) (by decide) at_811 rfl ?_
  rintro _ _ G - ⟨rfl, rfl⟩
  refine nx_ (v := none) ?_
  show Go _ _ _ _ _ _ _ _ _ _ _ _ _ _ 814 #[.val (.int i0), .val (.int i1), .val (.int i2), .val (.int i3), .val (.int la), .val (.int lu), .val (.int a), .val (.int b), .val (.int c), .val (.int d), s10, s11, .val (.ref r), .val (.ref y), .val (.int (Int32.ofNat cs.length))] [.int 1]
  refine go_ifN (q := 817) at_814 (by decide) rfl ?_
  refine go_aload (v := .ref r) (q := 819) at_817 rfl rfl rfl ?_
  refine go_aload (v := .ref y) (q := 821) at_819 rfl rfl rfl ?_
  refine go_bipush (x := (30 : Int32)) (q := 823) at_821 rfl rfl ?_
  refine go_static (c' := 48) (s' := 1200) (q := 826) (S := []) (argsL := [.ref r, .ref y, .int (30 : Int32)]) H (w_211 H) (w_212 H) (w_204 H) (w_213 H) (by decide) (rm_sm H (i := 30) S V (by decide) hl) rfl rfl (lenOf pd_35 rfl) (fun _ q => nomatch q) rfl (by decide) (Nat.le_of_ble_eq_true rfl) rfl rfl (by decide) (by decide) at_823 rfl ?_
  rintro _ _ G - ⟨rfl, rfl⟩
  refine nx_ (v := none) ?_
  show Go _ _ _ _ _ _ _ _ _ _ _ _ _ _ 826 #[.val (.int i0), .val (.int i1), .val (.int i2), .val (.int i3), .val (.int la), .val (.int lu), .val (.int a), .val (.int b), .val (.int c), .val (.int d), s10, s11, .val (.ref r), .val (.ref y), .val (.int (Int32.ofNat cs.length))] [.int 1]
  refine go_ifN (q := 829) at_826 (by decide) rfl ?_
  refine go_aload (v := .ref r) (q := 831) at_829 rfl rfl rfl ?_
  refine go_aload (v := .ref y) (q := 833) at_831 rfl rfl rfl ?_
  refine go_bipush (x := (31 : Int32)) (q := 835) at_833 rfl rfl ?_
  refine go_static (c' := 48) (s' := 1200) (q := 838) (S := []) (argsL := [.ref r, .ref y, .int (31 : Int32)]) H (w_211 H) (w_212 H) (w_204 H) (w_213 H) (by decide) (rm_sm H (i := 31) S V (by decide) hl) rfl rfl (lenOf pd_35 rfl) (fun _ q => nomatch q) rfl (by decide) (Nat.le_of_ble_eq_true rfl) rfl rfl (by decide) (by decide) at_835 rfl ?_
  rintro _ _ G - ⟨rfl, rfl⟩
  refine nx_ (v := none) ?_
  show Go _ _ _ _ _ _ _ _ _ _ _ _ _ _ 838 #[.val (.int i0), .val (.int i1), .val (.int i2), .val (.int i3), .val (.int la), .val (.int lu), .val (.int a), .val (.int b), .val (.int c), .val (.int d), s10, s11, .val (.ref r), .val (.ref y), .val (.int (Int32.ofNat cs.length))] [.int 1]
  refine go_ifN (q := 841) at_838 (by decide) rfl ?_
  refine go_aload (v := .ref r) (q := 843) at_841 rfl rfl rfl ?_
  refine go_aload (v := .ref y) (q := 845) at_843 rfl rfl rfl ?_
  refine go_bipush (x := (32 : Int32)) (q := 847) at_845 rfl rfl ?_
  refine go_static (c' := 48) (s' := 1200) (q := 850) (S := []) (argsL := [.ref r, .ref y, .int (32 : Int32)]) H (w_211 H) (w_212 H) (w_204 H) (w_213 H) (by decide) (rm_sm H (i := 32) S V (by decide) hl) rfl rfl (lenOf pd_35 rfl) (fun _ q => nomatch q) rfl (by decide) (Nat.le_of_ble_eq_true rfl) rfl rfl (by decide) (by decide) at_847 rfl ?_
  rintro _ _ G - ⟨rfl, rfl⟩
  refine nx_ (v := none) ?_
  show Go _ _ _ _ _ _ _ _ _ _ _ _ _ _ 850 #[.val (.int i0), .val (.int i1), .val (.int i2), .val (.int i3), .val (.int la), .val (.int lu), .val (.int a), .val (.int b), .val (.int c), .val (.int d), s10, s11, .val (.ref r), .val (.ref y), .val (.int (Int32.ofNat cs.length))] [.int 1]
  refine go_ifN (q := 853) at_850 (by decide) rfl ?_
  refine go_aload (v := .ref r) (q := 855) at_853 rfl rfl rfl ?_
  refine go_aload (v := .ref y) (q := 857) at_855 rfl rfl rfl ?_
  refine go_bipush (x := (33 : Int32)) (q := 859) at_857 rfl rfl ?_
  refine go_static (c' := 48) (s' := 1200) (q := 862) (S := []) (argsL := [.ref r, .ref y, .int (33 : Int32)]) H (w_211 H) (w_212 H) (w_204 H) (w_213 H) (by decide) (rm_sm H (i := 33) S V (by decide) hl) rfl rfl (lenOf pd_35 rfl) (fun _ q => nomatch q) rfl (by decide) (Nat.le_of_ble_eq_true rfl) rfl rfl (by decide) (by decide) at_859 rfl ?_
  rintro _ _ G - ⟨rfl, rfl⟩
  refine nx_ (v := none) ?_
  show Go _ _ _ _ _ _ _ _ _ _ _ _ _ _ 862 #[.val (.int i0), .val (.int i1), .val (.int i2), .val (.int i3), .val (.int la), .val (.int lu), .val (.int a), .val (.int b), .val (.int c), .val (.int d), s10, s11, .val (.ref r), .val (.ref y), .val (.int (Int32.ofNat cs.length))] [.int 1]
  refine go_ifN (q := 865) at_862 (by decide) rfl ?_
  refine go_aload (v := .ref r) (q := 867) at_865 rfl rfl rfl ?_
  refine go_aload (v := .ref y) (q := 869) at_867 rfl rfl rfl ?_
  refine go_bipush (x := (34 : Int32)) (q := 871) at_869 rfl rfl ?_
  refine go_static (c' := 48) (s' := 1200) (q := 874) (S := []) (argsL := [.ref r, .ref y, .int (34 : Int32)]) H (w_211 H) (w_212 H) (w_204 H) (w_213 H) (by decide) (rm_sm H (i := 34) S V (by decide) hl) rfl rfl (lenOf pd_35 rfl) (fun _ q => nomatch q) rfl (by decide) (Nat.le_of_ble_eq_true rfl) rfl rfl (by decide) (by decide) at_871 rfl ?_
  rintro _ _ G - ⟨rfl, rfl⟩
  refine nx_ (v := none) ?_
  show Go _ _ _ _ _ _ _ _ _ _ _ _ _ _ 874 #[.val (.int i0), .val (.int i1), .val (.int i2), .val (.int i3), .val (.int la), .val (.int lu), .val (.int a), .val (.int b), .val (.int c), .val (.int d), s10, s11, .val (.ref r), .val (.ref y), .val (.int (Int32.ofNat cs.length))] [.int 1]
  refine go_ifN (q := 877) at_874 (by decide) rfl ?_
  refine go_aload (v := .ref r) (q := 879) at_877 rfl rfl rfl ?_
  refine go_aload (v := .ref y) (q := 881) at_879 rfl rfl rfl ?_
  refine go_bipush (x := (35 : Int32)) (q := 883) at_881 rfl rfl ?_
  refine go_static (c' := 48) (s' := 1200) (q := 886) (S := []) (argsL := [.ref r, .ref y, .int (35 : Int32)]) H (w_211 H) (w_212 H) (w_204 H) (w_213 H) (by decide) (rm_sm H (i := 35) S V (by decide) hl) rfl rfl (lenOf pd_35 rfl) (fun _ q => nomatch q) rfl (by decide) (Nat.le_of_ble_eq_true rfl) rfl rfl (by decide) (by decide) at_883 rfl ?_
  rintro _ _ G - ⟨rfl, rfl⟩
  refine nx_ (v := none) ?_
  show Go _ _ _ _ _ _ _ _ _ _ _ _ _ _ 886 #[.val (.int i0), .val (.int i1), .val (.int i2), .val (.int i3), .val (.int la), .val (.int lu), .val (.int a), .val (.int b), .val (.int c), .val (.int d), s10, s11, .val (.ref r), .val (.ref y), .val (.int (Int32.ofNat cs.length))] [.int 1]
  refine go_ifN (q := 889) at_886 (by decide) rfl ?_
  refine go_aload (v := .ref r) (q := 891) at_889 rfl rfl rfl ?_
  refine go_aload (v := .ref y) (q := 893) at_891 rfl rfl rfl ?_
  refine go_bipush (x := (36 : Int32)) (q := 895) at_893 rfl rfl ?_
  refine go_static (c' := 48) (s' := 1200) (q := 898) (S := []) (argsL := [.ref r, .ref y, .int (36 : Int32)]) H (w_211 H) (w_212 H) (w_204 H) (w_213 H) (by decide) (rm_sm H (i := 36) S V (by decide) hl) rfl rfl (lenOf pd_35 rfl) (fun _ q => nomatch q) rfl (by decide) (Nat.le_of_ble_eq_true rfl) rfl rfl (by decide) (by decide) at_895 rfl ?_
  rintro _ _ G - ⟨rfl, rfl⟩
  refine nx_ (v := none) ?_
  show Go _ _ _ _ _ _ _ _ _ _ _ _ _ _ 898 #[.val (.int i0), .val (.int i1), .val (.int i2), .val (.int i3), .val (.int la), .val (.int lu), .val (.int a), .val (.int b), .val (.int c), .val (.int d), s10, s11, .val (.ref r), .val (.ref y), .val (.int (Int32.ofNat cs.length))] [.int 1]
  refine go_ifN (q := 901) at_898 (by decide) rfl ?_
  refine go_iconst (x := (1 : Int32)) (q := 902) at_901 rfl rfl ?_
  refine go_goto (q := 906) at_902 (by decide) (by decide) ?_
  exact go_ireturn H (G := []) (t := .boolean) rfl (by decide) rfl at_906 (by decide) (by decide) (fun _ q => nomatch q) rfl
set_option maxRecDepth 65536 in
set_option maxHeartbeats 8000000 in
theorem j264 {l : Launch} {Z : State} {a0 : Array Value} (H : Wd Z a0) {K : Cx} {h : Heap} {r y : Addr} {as us : List Int32} {i0 i1 i2 i3 la lu a b c d : Int32} {s10 s11 : Slot} (pc : ¬ c < 0 ∧ ¬ 255 < c) (pd : ¬ d < 0 ∧ ¬ 255 < d) (D : Dt lu c d us) (ha : as.length ≤ 2) (V : Ech Z h y (P7 ++ as)) (S : Str Z h [y] r (P7 ++ (as ++ (P14 ++ (pnl i2 ++ us))))) : GL l Z K h [y] 48 1200 264 #[.val (.int i0), .val (.int i1), .val (.int i2), .val (.int i3), .val (.int la), .val (.int lu), .val (.int a), .val (.int b), .val (.int c), .val (.int d), s10, s11, .val (.ref r), .val (.ref y), .val (.int (Int32.ofNat (P7 ++ as).length))] [] := by
  obtain ⟨q_0, hq_0⟩ : ∃ c, c = P7 ++ as := ⟨_, rfl⟩
  rw [← hq_0] at V
  rw [← hq_0]
  have hn0 : q_0.length = as.length + 7 := by rw [hq_0]; simp <;> omega
  show Go _ _ _ _ _ _ _ _ _ _ _ _ _ _ 264 #[.val (.int i0), .val (.int i1), .val (.int i2), .val (.int i3), .val (.int la), .val (.int lu), .val (.int a), .val (.int b), .val (.int c), .val (.int d), s10, s11, .val (.ref r), .val (.ref y), .val (.int (Int32.ofNat q_0.length))] []
  refine go_aload (v := .ref y) (q := 266) at_264 rfl rfl rfl ?_
  refine go_iload (v := (Int32.ofNat q_0.length)) (q := 268) at_266 rfl rfl ?_
  refine go_iinc (x := (Int32.ofNat q_0.length)) (y := (Int32.ofNat (q_0 ++ [47]).length)) (L' := #[.val (.int i0), .val (.int i1), .val (.int i2), .val (.int i3), .val (.int la), .val (.int lu), .val (.int a), .val (.int b), .val (.int c), .val (.int d), s10, s11, .val (.ref r), .val (.ref y), .val (.int (Int32.ofNat (q_0 ++ [47]).length))]) (q := 271) at_268 rfl inc_push rfl rfl ?_
  refine go_bipush (x := (47 : Int32)) (q := 273) at_271 rfl rfl ?_
  obtain ⟨ky, V⟩ := V
  refine go_castore (i := q_0.length) (y := 47) (q := 274) V ⟨nn_ofNat (by omega), (lt_ofNat (n := 40) (by omega) (by decide)).mpr (by omega)⟩ (cl_ofNat (by omega)) (by simp <;> omega) (by simp) (nar_char ((by decide : ¬ (47 : Int32) < 0 ∧ ¬ 255 < (47 : Int32))).1 ((by decide : ¬ (47 : Int32) < 0 ∧ ¬ 255 < (47 : Int32))).2) at_273 rfl ?_
  intro hp0 Khp0 zhp0 Vhp0
  rw [push_c (cs := q_0) (by omega)] at Vhp0
  have V : Ech Z hp0 y (q_0 ++ [47]) := ⟨ky, Vhp0⟩
  have S := S.keep Khp0 (by intro z q; exact Or.inl q)
  obtain ⟨q_1, hq_1⟩ : ∃ c, c = q_0 ++ [47] := ⟨_, rfl⟩
  rw [← hq_1] at V
  rw [← hq_1]
  have hn1 : q_1.length = as.length + 8 := by rw [hq_1, List.length_append]; show q_0.length + 1 = _; omega
  show Go _ _ _ _ _ _ _ _ _ _ _ _ _ _ 274 #[.val (.int i0), .val (.int i1), .val (.int i2), .val (.int i3), .val (.int la), .val (.int lu), .val (.int a), .val (.int b), .val (.int c), .val (.int d), s10, s11, .val (.ref r), .val (.ref y), .val (.int (Int32.ofNat q_1.length))] []
  refine go_aload (v := .ref y) (q := 276) at_274 rfl rfl rfl ?_
  refine go_iload (v := (Int32.ofNat q_1.length)) (q := 278) at_276 rfl rfl ?_
  refine go_iinc (x := (Int32.ofNat q_1.length)) (y := (Int32.ofNat (q_1 ++ [116]).length)) (L' := #[.val (.int i0), .val (.int i1), .val (.int i2), .val (.int i3), .val (.int la), .val (.int lu), .val (.int a), .val (.int b), .val (.int c), .val (.int d), s10, s11, .val (.ref r), .val (.ref y), .val (.int (Int32.ofNat (q_1 ++ [116]).length))]) (q := 281) at_278 rfl inc_push rfl rfl ?_
  refine go_bipush (x := (116 : Int32)) (q := 283) at_281 rfl rfl ?_
  obtain ⟨ky, V⟩ := V
  refine go_castore (i := q_1.length) (y := 116) (q := 284) V ⟨nn_ofNat (by omega), (lt_ofNat (n := 40) (by omega) (by decide)).mpr (by omega)⟩ (cl_ofNat (by omega)) (by simp <;> omega) (by simp) (nar_char ((by decide : ¬ (116 : Int32) < 0 ∧ ¬ 255 < (116 : Int32))).1 ((by decide : ¬ (116 : Int32) < 0 ∧ ¬ 255 < (116 : Int32))).2) at_283 rfl ?_
  intro hp1 Khp1 zhp1 Vhp1
  rw [push_c (cs := q_1) (by omega)] at Vhp1
  have V : Ech Z hp1 y (q_1 ++ [116]) := ⟨ky, Vhp1⟩
  have S := S.keep Khp1 (by intro z q; exact Or.inl q)
  obtain ⟨q_2, hq_2⟩ : ∃ c, c = q_1 ++ [116] := ⟨_, rfl⟩
  rw [← hq_2] at V
  rw [← hq_2]
  have hn2 : q_2.length = as.length + 9 := by rw [hq_2, List.length_append]; show q_1.length + 1 = _; omega
  show Go _ _ _ _ _ _ _ _ _ _ _ _ _ _ 284 #[.val (.int i0), .val (.int i1), .val (.int i2), .val (.int i3), .val (.int la), .val (.int lu), .val (.int a), .val (.int b), .val (.int c), .val (.int d), s10, s11, .val (.ref r), .val (.ref y), .val (.int (Int32.ofNat q_2.length))] []
  refine go_aload (v := .ref y) (q := 286) at_284 rfl rfl rfl ?_
  refine go_iload (v := (Int32.ofNat q_2.length)) (q := 288) at_286 rfl rfl ?_
  refine go_iinc (x := (Int32.ofNat q_2.length)) (y := (Int32.ofNat (q_2 ++ [105]).length)) (L' := #[.val (.int i0), .val (.int i1), .val (.int i2), .val (.int i3), .val (.int la), .val (.int lu), .val (.int a), .val (.int b), .val (.int c), .val (.int d), s10, s11, .val (.ref r), .val (.ref y), .val (.int (Int32.ofNat (q_2 ++ [105]).length))]) (q := 291) at_288 rfl inc_push rfl rfl ?_
  refine go_bipush (x := (105 : Int32)) (q := 293) at_291 rfl rfl ?_
  obtain ⟨ky, V⟩ := V
  refine go_castore (i := q_2.length) (y := 105) (q := 294) V ⟨nn_ofNat (by omega), (lt_ofNat (n := 40) (by omega) (by decide)).mpr (by omega)⟩ (cl_ofNat (by omega)) (by simp <;> omega) (by simp) (nar_char ((by decide : ¬ (105 : Int32) < 0 ∧ ¬ 255 < (105 : Int32))).1 ((by decide : ¬ (105 : Int32) < 0 ∧ ¬ 255 < (105 : Int32))).2) at_293 rfl ?_
  intro hp2 Khp2 zhp2 Vhp2
  rw [push_c (cs := q_2) (by omega)] at Vhp2
  have V : Ech Z hp2 y (q_2 ++ [105]) := ⟨ky, Vhp2⟩
  have S := S.keep Khp2 (by intro z q; exact Or.inl q)
  obtain ⟨q_3, hq_3⟩ : ∃ c, c = q_2 ++ [105] := ⟨_, rfl⟩
  rw [← hq_3] at V
  rw [← hq_3]
  have hn3 : q_3.length = as.length + 10 := by rw [hq_3, List.length_append]; show q_2.length + 1 = _; omega
  show Go _ _ _ _ _ _ _ _ _ _ _ _ _ _ 294 #[.val (.int i0), .val (.int i1), .val (.int i2), .val (.int i3), .val (.int la), .val (.int lu), .val (.int a), .val (.int b), .val (.int c), .val (.int d), s10, s11, .val (.ref r), .val (.ref y), .val (.int (Int32.ofNat q_3.length))] []
  refine go_aload (v := .ref y) (q := 296) at_294 rfl rfl rfl ?_
  refine go_iload (v := (Int32.ofNat q_3.length)) (q := 298) at_296 rfl rfl ?_
  refine go_iinc (x := (Int32.ofNat q_3.length)) (y := (Int32.ofNat (q_3 ++ [109]).length)) (L' := #[.val (.int i0), .val (.int i1), .val (.int i2), .val (.int i3), .val (.int la), .val (.int lu), .val (.int a), .val (.int b), .val (.int c), .val (.int d), s10, s11, .val (.ref r), .val (.ref y), .val (.int (Int32.ofNat (q_3 ++ [109]).length))]) (q := 301) at_298 rfl inc_push rfl rfl ?_
  refine go_bipush (x := (109 : Int32)) (q := 303) at_301 rfl rfl ?_
  obtain ⟨ky, V⟩ := V
  refine go_castore (i := q_3.length) (y := 109) (q := 304) V ⟨nn_ofNat (by omega), (lt_ofNat (n := 40) (by omega) (by decide)).mpr (by omega)⟩ (cl_ofNat (by omega)) (by simp <;> omega) (by simp) (nar_char ((by decide : ¬ (109 : Int32) < 0 ∧ ¬ 255 < (109 : Int32))).1 ((by decide : ¬ (109 : Int32) < 0 ∧ ¬ 255 < (109 : Int32))).2) at_303 rfl ?_
  intro hp3 Khp3 zhp3 Vhp3
  rw [push_c (cs := q_3) (by omega)] at Vhp3
  have V : Ech Z hp3 y (q_3 ++ [109]) := ⟨ky, Vhp3⟩
  have S := S.keep Khp3 (by intro z q; exact Or.inl q)
  obtain ⟨q_4, hq_4⟩ : ∃ c, c = q_3 ++ [109] := ⟨_, rfl⟩
  rw [← hq_4] at V
  rw [← hq_4]
  have hn4 : q_4.length = as.length + 11 := by rw [hq_4, List.length_append]; show q_3.length + 1 = _; omega
  show Go _ _ _ _ _ _ _ _ _ _ _ _ _ _ 304 #[.val (.int i0), .val (.int i1), .val (.int i2), .val (.int i3), .val (.int la), .val (.int lu), .val (.int a), .val (.int b), .val (.int c), .val (.int d), s10, s11, .val (.ref r), .val (.ref y), .val (.int (Int32.ofNat q_4.length))] []
  refine go_aload (v := .ref y) (q := 306) at_304 rfl rfl rfl ?_
  refine go_iload (v := (Int32.ofNat q_4.length)) (q := 308) at_306 rfl rfl ?_
  refine go_iinc (x := (Int32.ofNat q_4.length)) (y := (Int32.ofNat (q_4 ++ [101]).length)) (L' := #[.val (.int i0), .val (.int i1), .val (.int i2), .val (.int i3), .val (.int la), .val (.int lu), .val (.int a), .val (.int b), .val (.int c), .val (.int d), s10, s11, .val (.ref r), .val (.ref y), .val (.int (Int32.ofNat (q_4 ++ [101]).length))]) (q := 311) at_308 rfl inc_push rfl rfl ?_
  refine go_bipush (x := (101 : Int32)) (q := 313) at_311 rfl rfl ?_
  obtain ⟨ky, V⟩ := V
  refine go_castore (i := q_4.length) (y := 101) (q := 314) V ⟨nn_ofNat (by omega), (lt_ofNat (n := 40) (by omega) (by decide)).mpr (by omega)⟩ (cl_ofNat (by omega)) (by simp <;> omega) (by simp) (nar_char ((by decide : ¬ (101 : Int32) < 0 ∧ ¬ 255 < (101 : Int32))).1 ((by decide : ¬ (101 : Int32) < 0 ∧ ¬ 255 < (101 : Int32))).2) at_313 rfl ?_
  intro hp4 Khp4 zhp4 Vhp4
  rw [push_c (cs := q_4) (by omega)] at Vhp4
  have V : Ech Z hp4 y (q_4 ++ [101]) := ⟨ky, Vhp4⟩
  have S := S.keep Khp4 (by intro z q; exact Or.inl q)
  obtain ⟨q_5, hq_5⟩ : ∃ c, c = q_4 ++ [101] := ⟨_, rfl⟩
  rw [← hq_5] at V
  rw [← hq_5]
  have hn5 : q_5.length = as.length + 12 := by rw [hq_5, List.length_append]; show q_4.length + 1 = _; omega
  show Go _ _ _ _ _ _ _ _ _ _ _ _ _ _ 314 #[.val (.int i0), .val (.int i1), .val (.int i2), .val (.int i3), .val (.int la), .val (.int lu), .val (.int a), .val (.int b), .val (.int c), .val (.int d), s10, s11, .val (.ref r), .val (.ref y), .val (.int (Int32.ofNat q_5.length))] []
  refine go_aload (v := .ref y) (q := 316) at_314 rfl rfl rfl ?_
  refine go_iload (v := (Int32.ofNat q_5.length)) (q := 318) at_316 rfl rfl ?_
  refine go_iinc (x := (Int32.ofNat q_5.length)) (y := (Int32.ofNat (q_5 ++ [109]).length)) (L' := #[.val (.int i0), .val (.int i1), .val (.int i2), .val (.int i3), .val (.int la), .val (.int lu), .val (.int a), .val (.int b), .val (.int c), .val (.int d), s10, s11, .val (.ref r), .val (.ref y), .val (.int (Int32.ofNat (q_5 ++ [109]).length))]) (q := 321) at_318 rfl inc_push rfl rfl ?_
  refine go_bipush (x := (109 : Int32)) (q := 323) at_321 rfl rfl ?_
  obtain ⟨ky, V⟩ := V
  refine go_castore (i := q_5.length) (y := 109) (q := 324) V ⟨nn_ofNat (by omega), (lt_ofNat (n := 40) (by omega) (by decide)).mpr (by omega)⟩ (cl_ofNat (by omega)) (by simp <;> omega) (by simp) (nar_char ((by decide : ¬ (109 : Int32) < 0 ∧ ¬ 255 < (109 : Int32))).1 ((by decide : ¬ (109 : Int32) < 0 ∧ ¬ 255 < (109 : Int32))).2) at_323 rfl ?_
  intro hp5 Khp5 zhp5 Vhp5
  rw [push_c (cs := q_5) (by omega)] at Vhp5
  have V : Ech Z hp5 y (q_5 ++ [109]) := ⟨ky, Vhp5⟩
  have S := S.keep Khp5 (by intro z q; exact Or.inl q)
  obtain ⟨q_6, hq_6⟩ : ∃ c, c = q_5 ++ [109] := ⟨_, rfl⟩
  rw [← hq_6] at V
  rw [← hq_6]
  have hn6 : q_6.length = as.length + 13 := by rw [hq_6, List.length_append]; show q_5.length + 1 = _; omega
  show Go _ _ _ _ _ _ _ _ _ _ _ _ _ _ 324 #[.val (.int i0), .val (.int i1), .val (.int i2), .val (.int i3), .val (.int la), .val (.int lu), .val (.int a), .val (.int b), .val (.int c), .val (.int d), s10, s11, .val (.ref r), .val (.ref y), .val (.int (Int32.ofNat q_6.length))] []
  refine go_aload (v := .ref y) (q := 326) at_324 rfl rfl rfl ?_
  refine go_iload (v := (Int32.ofNat q_6.length)) (q := 328) at_326 rfl rfl ?_
  refine go_iinc (x := (Int32.ofNat q_6.length)) (y := (Int32.ofNat (q_6 ++ [97]).length)) (L' := #[.val (.int i0), .val (.int i1), .val (.int i2), .val (.int i3), .val (.int la), .val (.int lu), .val (.int a), .val (.int b), .val (.int c), .val (.int d), s10, s11, .val (.ref r), .val (.ref y), .val (.int (Int32.ofNat (q_6 ++ [97]).length))]) (q := 331) at_328 rfl inc_push rfl rfl ?_
  refine go_bipush (x := (97 : Int32)) (q := 333) at_331 rfl rfl ?_
  obtain ⟨ky, V⟩ := V
  refine go_castore (i := q_6.length) (y := 97) (q := 334) V ⟨nn_ofNat (by omega), (lt_ofNat (n := 40) (by omega) (by decide)).mpr (by omega)⟩ (cl_ofNat (by omega)) (by simp <;> omega) (by simp) (nar_char ((by decide : ¬ (97 : Int32) < 0 ∧ ¬ 255 < (97 : Int32))).1 ((by decide : ¬ (97 : Int32) < 0 ∧ ¬ 255 < (97 : Int32))).2) at_333 rfl ?_
  intro hp6 Khp6 zhp6 Vhp6
  rw [push_c (cs := q_6) (by omega)] at Vhp6
  have V : Ech Z hp6 y (q_6 ++ [97]) := ⟨ky, Vhp6⟩
  have S := S.keep Khp6 (by intro z q; exact Or.inl q)
  obtain ⟨q_7, hq_7⟩ : ∃ c, c = q_6 ++ [97] := ⟨_, rfl⟩
  rw [← hq_7] at V
  rw [← hq_7]
  have hn7 : q_7.length = as.length + 14 := by rw [hq_7, List.length_append]; show q_6.length + 1 = _; omega
  show Go _ _ _ _ _ _ _ _ _ _ _ _ _ _ 334 #[.val (.int i0), .val (.int i1), .val (.int i2), .val (.int i3), .val (.int la), .val (.int lu), .val (.int a), .val (.int b), .val (.int c), .val (.int d), s10, s11, .val (.ref r), .val (.ref y), .val (.int (Int32.ofNat q_7.length))] []
  refine go_aload (v := .ref y) (q := 336) at_334 rfl rfl rfl ?_
  refine go_iload (v := (Int32.ofNat q_7.length)) (q := 338) at_336 rfl rfl ?_
  refine go_iinc (x := (Int32.ofNat q_7.length)) (y := (Int32.ofNat (q_7 ++ [112]).length)) (L' := #[.val (.int i0), .val (.int i1), .val (.int i2), .val (.int i3), .val (.int la), .val (.int lu), .val (.int a), .val (.int b), .val (.int c), .val (.int d), s10, s11, .val (.ref r), .val (.ref y), .val (.int (Int32.ofNat (q_7 ++ [112]).length))]) (q := 341) at_338 rfl inc_push rfl rfl ?_
  refine go_bipush (x := (112 : Int32)) (q := 343) at_341 rfl rfl ?_
  obtain ⟨ky, V⟩ := V
  refine go_castore (i := q_7.length) (y := 112) (q := 344) V ⟨nn_ofNat (by omega), (lt_ofNat (n := 40) (by omega) (by decide)).mpr (by omega)⟩ (cl_ofNat (by omega)) (by simp <;> omega) (by simp) (nar_char ((by decide : ¬ (112 : Int32) < 0 ∧ ¬ 255 < (112 : Int32))).1 ((by decide : ¬ (112 : Int32) < 0 ∧ ¬ 255 < (112 : Int32))).2) at_343 rfl ?_
  intro hp7 Khp7 zhp7 Vhp7
  rw [push_c (cs := q_7) (by omega)] at Vhp7
  have V : Ech Z hp7 y (q_7 ++ [112]) := ⟨ky, Vhp7⟩
  have S := S.keep Khp7 (by intro z q; exact Or.inl q)
  obtain ⟨q_8, hq_8⟩ : ∃ c, c = q_7 ++ [112] := ⟨_, rfl⟩
  rw [← hq_8] at V
  rw [← hq_8]
  have hn8 : q_8.length = as.length + 15 := by rw [hq_8, List.length_append]; show q_7.length + 1 = _; omega
  show Go _ _ _ _ _ _ _ _ _ _ _ _ _ _ 344 #[.val (.int i0), .val (.int i1), .val (.int i2), .val (.int i3), .val (.int la), .val (.int lu), .val (.int a), .val (.int b), .val (.int c), .val (.int d), s10, s11, .val (.ref r), .val (.ref y), .val (.int (Int32.ofNat q_8.length))] []
  refine go_aload (v := .ref y) (q := 346) at_344 rfl rfl rfl ?_
  refine go_iload (v := (Int32.ofNat q_8.length)) (q := 348) at_346 rfl rfl ?_
  refine go_iinc (x := (Int32.ofNat q_8.length)) (y := (Int32.ofNat (q_8 ++ [47]).length)) (L' := #[.val (.int i0), .val (.int i1), .val (.int i2), .val (.int i3), .val (.int la), .val (.int lu), .val (.int a), .val (.int b), .val (.int c), .val (.int d), s10, s11, .val (.ref r), .val (.ref y), .val (.int (Int32.ofNat (q_8 ++ [47]).length))]) (q := 351) at_348 rfl inc_push rfl rfl ?_
  refine go_bipush (x := (47 : Int32)) (q := 353) at_351 rfl rfl ?_
  obtain ⟨ky, V⟩ := V
  refine go_castore (i := q_8.length) (y := 47) (q := 354) V ⟨nn_ofNat (by omega), (lt_ofNat (n := 40) (by omega) (by decide)).mpr (by omega)⟩ (cl_ofNat (by omega)) (by simp <;> omega) (by simp) (nar_char ((by decide : ¬ (47 : Int32) < 0 ∧ ¬ 255 < (47 : Int32))).1 ((by decide : ¬ (47 : Int32) < 0 ∧ ¬ 255 < (47 : Int32))).2) at_353 rfl ?_
  intro hp8 Khp8 zhp8 Vhp8
  rw [push_c (cs := q_8) (by omega)] at Vhp8
  have V : Ech Z hp8 y (q_8 ++ [47]) := ⟨ky, Vhp8⟩
  have S := S.keep Khp8 (by intro z q; exact Or.inl q)
  obtain ⟨q_9, hq_9⟩ : ∃ c, c = q_8 ++ [47] := ⟨_, rfl⟩
  rw [← hq_9] at V
  rw [← hq_9]
  have hn9 : q_9.length = as.length + 16 := by rw [hq_9, List.length_append]; show q_8.length + 1 = _; omega
  show Go _ _ _ _ _ _ _ _ _ _ _ _ _ _ 354 #[.val (.int i0), .val (.int i1), .val (.int i2), .val (.int i3), .val (.int la), .val (.int lu), .val (.int a), .val (.int b), .val (.int c), .val (.int d), s10, s11, .val (.ref r), .val (.ref y), .val (.int (Int32.ofNat q_9.length))] []
  refine go_aload (v := .ref y) (q := 356) at_354 rfl rfl rfl ?_
  refine go_iload (v := (Int32.ofNat q_9.length)) (q := 358) at_356 rfl rfl ?_
  refine go_iinc (x := (Int32.ofNat q_9.length)) (y := (Int32.ofNat (q_9 ++ [108]).length)) (L' := #[.val (.int i0), .val (.int i1), .val (.int i2), .val (.int i3), .val (.int la), .val (.int lu), .val (.int a), .val (.int b), .val (.int c), .val (.int d), s10, s11, .val (.ref r), .val (.ref y), .val (.int (Int32.ofNat (q_9 ++ [108]).length))]) (q := 361) at_358 rfl inc_push rfl rfl ?_
  refine go_bipush (x := (108 : Int32)) (q := 363) at_361 rfl rfl ?_
  obtain ⟨ky, V⟩ := V
  refine go_castore (i := q_9.length) (y := 108) (q := 364) V ⟨nn_ofNat (by omega), (lt_ofNat (n := 40) (by omega) (by decide)).mpr (by omega)⟩ (cl_ofNat (by omega)) (by simp <;> omega) (by simp) (nar_char ((by decide : ¬ (108 : Int32) < 0 ∧ ¬ 255 < (108 : Int32))).1 ((by decide : ¬ (108 : Int32) < 0 ∧ ¬ 255 < (108 : Int32))).2) at_363 rfl ?_
  intro hp9 Khp9 zhp9 Vhp9
  rw [push_c (cs := q_9) (by omega)] at Vhp9
  have V : Ech Z hp9 y (q_9 ++ [108]) := ⟨ky, Vhp9⟩
  have S := S.keep Khp9 (by intro z q; exact Or.inl q)
  obtain ⟨q_10, hq_10⟩ : ∃ c, c = q_9 ++ [108] := ⟨_, rfl⟩
  rw [← hq_10] at V
  rw [← hq_10]
  have hn10 : q_10.length = as.length + 17 := by rw [hq_10, List.length_append]; show q_9.length + 1 = _; omega
  show Go _ _ _ _ _ _ _ _ _ _ _ _ _ _ 364 #[.val (.int i0), .val (.int i1), .val (.int i2), .val (.int i3), .val (.int la), .val (.int lu), .val (.int a), .val (.int b), .val (.int c), .val (.int d), s10, s11, .val (.ref r), .val (.ref y), .val (.int (Int32.ofNat q_10.length))] []
  refine go_aload (v := .ref y) (q := 366) at_364 rfl rfl rfl ?_
  refine go_iload (v := (Int32.ofNat q_10.length)) (q := 368) at_366 rfl rfl ?_
  refine go_iinc (x := (Int32.ofNat q_10.length)) (y := (Int32.ofNat (q_10 ++ [105]).length)) (L' := #[.val (.int i0), .val (.int i1), .val (.int i2), .val (.int i3), .val (.int la), .val (.int lu), .val (.int a), .val (.int b), .val (.int c), .val (.int d), s10, s11, .val (.ref r), .val (.ref y), .val (.int (Int32.ofNat (q_10 ++ [105]).length))]) (q := 371) at_368 rfl inc_push rfl rfl ?_
  refine go_bipush (x := (105 : Int32)) (q := 373) at_371 rfl rfl ?_
  obtain ⟨ky, V⟩ := V
  refine go_castore (i := q_10.length) (y := 105) (q := 374) V ⟨nn_ofNat (by omega), (lt_ofNat (n := 40) (by omega) (by decide)).mpr (by omega)⟩ (cl_ofNat (by omega)) (by simp <;> omega) (by simp) (nar_char ((by decide : ¬ (105 : Int32) < 0 ∧ ¬ 255 < (105 : Int32))).1 ((by decide : ¬ (105 : Int32) < 0 ∧ ¬ 255 < (105 : Int32))).2) at_373 rfl ?_
  intro hp10 Khp10 zhp10 Vhp10
  rw [push_c (cs := q_10) (by omega)] at Vhp10
  have V : Ech Z hp10 y (q_10 ++ [105]) := ⟨ky, Vhp10⟩
  have S := S.keep Khp10 (by intro z q; exact Or.inl q)
  obtain ⟨q_11, hq_11⟩ : ∃ c, c = q_10 ++ [105] := ⟨_, rfl⟩
  rw [← hq_11] at V
  rw [← hq_11]
  have hn11 : q_11.length = as.length + 18 := by rw [hq_11, List.length_append]; show q_10.length + 1 = _; omega
  show Go _ _ _ _ _ _ _ _ _ _ _ _ _ _ 374 #[.val (.int i0), .val (.int i1), .val (.int i2), .val (.int i3), .val (.int la), .val (.int lu), .val (.int a), .val (.int b), .val (.int c), .val (.int d), s10, s11, .val (.ref r), .val (.ref y), .val (.int (Int32.ofNat q_11.length))] []
  refine go_aload (v := .ref y) (q := 376) at_374 rfl rfl rfl ?_
  refine go_iload (v := (Int32.ofNat q_11.length)) (q := 378) at_376 rfl rfl ?_
  refine go_iinc (x := (Int32.ofNat q_11.length)) (y := (Int32.ofNat (q_11 ++ [110]).length)) (L' := #[.val (.int i0), .val (.int i1), .val (.int i2), .val (.int i3), .val (.int la), .val (.int lu), .val (.int a), .val (.int b), .val (.int c), .val (.int d), s10, s11, .val (.ref r), .val (.ref y), .val (.int (Int32.ofNat (q_11 ++ [110]).length))]) (q := 381) at_378 rfl inc_push rfl rfl ?_
  refine go_bipush (x := (110 : Int32)) (q := 383) at_381 rfl rfl ?_
  obtain ⟨ky, V⟩ := V
  refine go_castore (i := q_11.length) (y := 110) (q := 384) V ⟨nn_ofNat (by omega), (lt_ofNat (n := 40) (by omega) (by decide)).mpr (by omega)⟩ (cl_ofNat (by omega)) (by simp <;> omega) (by simp) (nar_char ((by decide : ¬ (110 : Int32) < 0 ∧ ¬ 255 < (110 : Int32))).1 ((by decide : ¬ (110 : Int32) < 0 ∧ ¬ 255 < (110 : Int32))).2) at_383 rfl ?_
  intro hp11 Khp11 zhp11 Vhp11
  rw [push_c (cs := q_11) (by omega)] at Vhp11
  have V : Ech Z hp11 y (q_11 ++ [110]) := ⟨ky, Vhp11⟩
  have S := S.keep Khp11 (by intro z q; exact Or.inl q)
  obtain ⟨q_12, hq_12⟩ : ∃ c, c = q_11 ++ [110] := ⟨_, rfl⟩
  rw [← hq_12] at V
  rw [← hq_12]
  have hn12 : q_12.length = as.length + 19 := by rw [hq_12, List.length_append]; show q_11.length + 1 = _; omega
  show Go _ _ _ _ _ _ _ _ _ _ _ _ _ _ 384 #[.val (.int i0), .val (.int i1), .val (.int i2), .val (.int i3), .val (.int la), .val (.int lu), .val (.int a), .val (.int b), .val (.int c), .val (.int d), s10, s11, .val (.ref r), .val (.ref y), .val (.int (Int32.ofNat q_12.length))] []
  refine go_aload (v := .ref y) (q := 386) at_384 rfl rfl rfl ?_
  refine go_iload (v := (Int32.ofNat q_12.length)) (q := 388) at_386 rfl rfl ?_
  refine go_iinc (x := (Int32.ofNat q_12.length)) (y := (Int32.ofNat (q_12 ++ [107]).length)) (L' := #[.val (.int i0), .val (.int i1), .val (.int i2), .val (.int i3), .val (.int la), .val (.int lu), .val (.int a), .val (.int b), .val (.int c), .val (.int d), s10, s11, .val (.ref r), .val (.ref y), .val (.int (Int32.ofNat (q_12 ++ [107]).length))]) (q := 391) at_388 rfl inc_push rfl rfl ?_
  refine go_bipush (x := (107 : Int32)) (q := 393) at_391 rfl rfl ?_
  obtain ⟨ky, V⟩ := V
  refine go_castore (i := q_12.length) (y := 107) (q := 394) V ⟨nn_ofNat (by omega), (lt_ofNat (n := 40) (by omega) (by decide)).mpr (by omega)⟩ (cl_ofNat (by omega)) (by simp <;> omega) (by simp) (nar_char ((by decide : ¬ (107 : Int32) < 0 ∧ ¬ 255 < (107 : Int32))).1 ((by decide : ¬ (107 : Int32) < 0 ∧ ¬ 255 < (107 : Int32))).2) at_393 rfl ?_
  intro hp12 Khp12 zhp12 Vhp12
  rw [push_c (cs := q_12) (by omega)] at Vhp12
  have V : Ech Z hp12 y (q_12 ++ [107]) := ⟨ky, Vhp12⟩
  have S := S.keep Khp12 (by intro z q; exact Or.inl q)
  obtain ⟨q_13, hq_13⟩ : ∃ c, c = q_12 ++ [107] := ⟨_, rfl⟩
  rw [← hq_13] at V
  rw [← hq_13]
  have hn13 : q_13.length = as.length + 20 := by rw [hq_13, List.length_append]; show q_12.length + 1 = _; omega
  show Go _ _ _ _ _ _ _ _ _ _ _ _ _ _ 394 #[.val (.int i0), .val (.int i1), .val (.int i2), .val (.int i3), .val (.int la), .val (.int lu), .val (.int a), .val (.int b), .val (.int c), .val (.int d), s10, s11, .val (.ref r), .val (.ref y), .val (.int (Int32.ofNat q_13.length))] []
  refine go_aload (v := .ref y) (q := 396) at_394 rfl rfl rfl ?_
  refine go_iload (v := (Int32.ofNat q_13.length)) (q := 398) at_396 rfl rfl ?_
  refine go_iinc (x := (Int32.ofNat q_13.length)) (y := (Int32.ofNat (q_13 ++ [47]).length)) (L' := #[.val (.int i0), .val (.int i1), .val (.int i2), .val (.int i3), .val (.int la), .val (.int lu), .val (.int a), .val (.int b), .val (.int c), .val (.int d), s10, s11, .val (.ref r), .val (.ref y), .val (.int (Int32.ofNat (q_13 ++ [47]).length))]) (q := 401) at_398 rfl inc_push rfl rfl ?_
  refine go_bipush (x := (47 : Int32)) (q := 403) at_401 rfl rfl ?_
  obtain ⟨ky, V⟩ := V
  refine go_castore (i := q_13.length) (y := 47) (q := 404) V ⟨nn_ofNat (by omega), (lt_ofNat (n := 40) (by omega) (by decide)).mpr (by omega)⟩ (cl_ofNat (by omega)) (by simp <;> omega) (by simp) (nar_char ((by decide : ¬ (47 : Int32) < 0 ∧ ¬ 255 < (47 : Int32))).1 ((by decide : ¬ (47 : Int32) < 0 ∧ ¬ 255 < (47 : Int32))).2) at_403 rfl ?_
  intro hp13 Khp13 zhp13 Vhp13
  rw [push_c (cs := q_13) (by omega)] at Vhp13
  have V : Ech Z hp13 y (q_13 ++ [47]) := ⟨ky, Vhp13⟩
  have S := S.keep Khp13 (by intro z q; exact Or.inl q)
  obtain ⟨q_14, hq_14⟩ : ∃ c, c = q_13 ++ [47] := ⟨_, rfl⟩
  rw [← hq_14] at V
  rw [← hq_14]
  have hn14 : q_14.length = as.length + 21 := by rw [hq_14, List.length_append]; show q_13.length + 1 = _; omega
  show Go _ _ _ _ _ _ _ _ _ _ _ _ _ _ 404 #[.val (.int i0), .val (.int i1), .val (.int i2), .val (.int i3), .val (.int la), .val (.int lu), .val (.int a), .val (.int b), .val (.int c), .val (.int d), s10, s11, .val (.ref r), .val (.ref y), .val (.int (Int32.ofNat q_14.length))] []
  have hc0 : q_14 = P7 ++ (as ++ P14) := by rw [hq_14, hq_13, hq_12, hq_11, hq_10, hq_9, hq_8, hq_7, hq_6, hq_5, hq_4, hq_3, hq_2, hq_1, hq_0]; simp
  clear hq_14 hq_13 hq_12 hq_11 hq_10 hq_9 hq_8 hq_7 hq_6 hq_5 hq_4 hq_3 hq_2 hq_1 hq_0
  refine go_aload (v := .ref y) (q := 406) at_404 rfl rfl rfl ?_
  refine go_iload (v := (Int32.ofNat q_14.length)) (q := 408) at_406 rfl rfl ?_
  refine go_iloadN (v := i2) (q := 409) at_408 rfl rfl ?_
  refine go_static (c' := 48) (s' := 1200) (q := 412) (S := []) (argsL := [.ref y, .int (Int32.ofNat q_14.length), .int i2]) H (w_202 H) (w_203 H) (w_204 H) (w_205 H) (by decide) (rm_pp H V (p := i2) (by omega)) rfl rfl (lenOf pd_36 rfl) (fun _ q => q) rfl (by decide) (Nat.le_of_ble_eq_true rfl) rfl rfl (by decide) (by decide) at_409 rfl ?_
  rintro _ hq G - ⟨rfl, Kq, Vq⟩
  refine nx_ (v := none) ?_
  show Go _ _ _ _ _ _ _ _ _ _ _ _ _ _ 412 #[.val (.int i0), .val (.int i1), .val (.int i2), .val (.int i3), .val (.int la), .val (.int lu), .val (.int a), .val (.int b), .val (.int c), .val (.int d), s10, s11, .val (.ref r), .val (.ref y), .val (.int (Int32.ofNat q_14.length))] [.int (Int32.ofNat (q_14 ++ pnl i2).length)]
  have S := S.keep Kq (by intro z q; exact Or.inl q)
  have hpl := pnl_le i2
  have e0 : P7 ++ (as ++ (P14 ++ (pnl i2 ++ us))) = (q_14 ++ pnl i2) ++ us := by rw [hc0]; simp
  rw [e0] at S
  have hcq : (q_14 ++ pnl i2).length ≤ 35 := by rw [List.length_append]; omega
  clear e0 hc0 V
  refine go_istore (L' := #[.val (.int i0), .val (.int i1), .val (.int i2), .val (.int i3), .val (.int la), .val (.int lu), .val (.int a), .val (.int b), .val (.int c), .val (.int d), s10, s11, .val (.ref r), .val (.ref y), .val (.int (Int32.ofNat (q_14 ++ pnl i2).length))]) (q := 414) at_412 rfl rfl ?_
  refine go_iload (v := lu) (q := 416) at_414 rfl rfl ?_
  refine go_iconst (x := (1 : Int32)) (q := 417) at_416 rfl rfl ?_
  generalize q_14 ++ pnl i2 = cq at Vq S hcq ⊢
  show Go _ _ _ _ _ _ _ _ _ _ _ _ _ _ 417 #[.val (.int i0), .val (.int i1), .val (.int i2), .val (.int i3), .val (.int la), .val (.int lu), .val (.int a), .val (.int b), .val (.int c), .val (.int d), s10, s11, .val (.ref r), .val (.ref y), .val (.int (Int32.ofNat cq.length))] [.int (1 : Int32), .int lu]
  rcases D with ⟨rfl, rfl⟩ | ⟨rfl, rfl⟩ | ⟨rfl, rfl⟩
  · refine go_icY (q := 430) at_417 (by decide) (by decide) (by decide) ?_
    refine go_iload (v := (0 : Int32)) (q := 432) at_430 rfl rfl ?_
    refine go_iconst (x := (2 : Int32)) (q := 433) at_432 rfl rfl ?_
    refine go_icY (q := 446) at_433 (by decide) (by decide) (by decide) ?_
    refine go_less (F' := []) (fun _ q => nomatch q) (Nat.le_refl _) (Nat.le_refl _) ?_
    exact j446 H (cs := cq) (by have S := S.nil; simpa using S) Vq (by first | omega | (simp <;> omega))
  · refine go_icN (q := 420) at_417 (by decide) rfl ?_
    refine go_aload (v := .ref y) (q := 422) at_420 rfl rfl rfl ?_
    refine go_iload (v := (Int32.ofNat cq.length)) (q := 424) at_422 rfl rfl ?_
    refine go_iinc (x := (Int32.ofNat cq.length)) (y := (Int32.ofNat (cq ++ [c]).length)) (L' := #[.val (.int i0), .val (.int i1), .val (.int i2), .val (.int i3), .val (.int la), .val (.int (1 : Int32)), .val (.int a), .val (.int b), .val (.int c), .val (.int d), s10, s11, .val (.ref r), .val (.ref y), .val (.int (Int32.ofNat (cq ++ [c]).length))]) (q := 427) at_424 rfl inc_push rfl rfl ?_
    refine go_iload (v := c) (q := 429) at_427 rfl rfl ?_
    have hm0 : cq.length = cq.length + 0 := by simp
    obtain ⟨ky, Vq⟩ := Vq
    refine go_castore (i := cq.length) (y := c) (q := 430) Vq ⟨nn_ofNat (by omega), (lt_ofNat (n := 40) (by omega) (by decide)).mpr (by omega)⟩ (cl_ofNat (by omega)) (by simp <;> omega) (by simp) (nar_char (pc).1 (pc).2) at_429 rfl ?_
    intro hm_0 Khm_0 zhm_0 Vhm_0
    rw [push_c (cs := cq) (by omega)] at Vhm_0
    have Vq : Ech Z hm_0 y (cq ++ [c]) := ⟨ky, Vhm_0⟩
    have S := S.keep Khm_0 (by intro z q; exact Or.inl q)
    refine go_iload (v := (1 : Int32)) (q := 432) at_430 rfl rfl ?_
    refine go_iconst (x := (2 : Int32)) (q := 433) at_432 rfl rfl ?_
    refine go_icY (q := 446) at_433 (by decide) (by decide) (by decide) ?_
    refine go_less (F' := []) (fun _ q => nomatch q) (Nat.le_refl _) (Nat.le_refl _) ?_
    exact j446 H (cs := (cq ++ [c])) (by have S := S.nil; simpa using S) Vq (by first | omega | (simp <;> omega))
  · refine go_icN (q := 420) at_417 (by decide) rfl ?_
    refine go_aload (v := .ref y) (q := 422) at_420 rfl rfl rfl ?_
    refine go_iload (v := (Int32.ofNat cq.length)) (q := 424) at_422 rfl rfl ?_
    refine go_iinc (x := (Int32.ofNat cq.length)) (y := (Int32.ofNat (cq ++ [c]).length)) (L' := #[.val (.int i0), .val (.int i1), .val (.int i2), .val (.int i3), .val (.int la), .val (.int (2 : Int32)), .val (.int a), .val (.int b), .val (.int c), .val (.int d), s10, s11, .val (.ref r), .val (.ref y), .val (.int (Int32.ofNat (cq ++ [c]).length))]) (q := 427) at_424 rfl inc_push rfl rfl ?_
    refine go_iload (v := c) (q := 429) at_427 rfl rfl ?_
    have hm0 : cq.length = cq.length + 0 := by simp
    obtain ⟨ky, Vq⟩ := Vq
    refine go_castore (i := cq.length) (y := c) (q := 430) Vq ⟨nn_ofNat (by omega), (lt_ofNat (n := 40) (by omega) (by decide)).mpr (by omega)⟩ (cl_ofNat (by omega)) (by simp <;> omega) (by simp) (nar_char (pc).1 (pc).2) at_429 rfl ?_
    intro hm_0 Khm_0 zhm_0 Vhm_0
    rw [push_c (cs := cq) (by omega)] at Vhm_0
    have Vq : Ech Z hm_0 y (cq ++ [c]) := ⟨ky, Vhm_0⟩
    have S := S.keep Khm_0 (by intro z q; exact Or.inl q)
    refine go_iload (v := (2 : Int32)) (q := 432) at_430 rfl rfl ?_
    refine go_iconst (x := (2 : Int32)) (q := 433) at_432 rfl rfl ?_
    refine go_icN (q := 436) at_433 (by decide) rfl ?_
    refine go_aload (v := .ref y) (q := 438) at_436 rfl rfl rfl ?_
    refine go_iload (v := (Int32.ofNat (cq ++ [c]).length)) (q := 440) at_438 rfl rfl ?_
    refine go_iinc (x := (Int32.ofNat (cq ++ [c]).length)) (y := (Int32.ofNat ((cq ++ [c]) ++ [d]).length)) (L' := #[.val (.int i0), .val (.int i1), .val (.int i2), .val (.int i3), .val (.int la), .val (.int (2 : Int32)), .val (.int a), .val (.int b), .val (.int c), .val (.int d), s10, s11, .val (.ref r), .val (.ref y), .val (.int (Int32.ofNat ((cq ++ [c]) ++ [d]).length))]) (q := 443) at_440 rfl inc_push rfl rfl ?_
    refine go_iload (v := d) (q := 445) at_443 rfl rfl ?_
    have hm1 : (cq ++ [c]).length = cq.length + 1 := by simp
    obtain ⟨ky, Vq⟩ := Vq
    refine go_castore (i := (cq ++ [c]).length) (y := d) (q := 446) Vq ⟨nn_ofNat (by omega), (lt_ofNat (n := 40) (by omega) (by decide)).mpr (by omega)⟩ (cl_ofNat (by omega)) (by simp <;> omega) (by simp) (nar_char (pd).1 (pd).2) at_445 rfl ?_
    intro hm_1 Khm_1 zhm_1 Vhm_1
    rw [push_c (cs := (cq ++ [c])) (by omega)] at Vhm_1
    have Vq : Ech Z hm_1 y ((cq ++ [c]) ++ [d]) := ⟨ky, Vhm_1⟩
    have S := S.keep Khm_1 (by intro z q; exact Or.inl q)
    refine go_less (F' := []) (fun _ q => nomatch q) (Nat.le_refl _) (Nat.le_refl _) ?_
    exact j446 H (cs := ((cq ++ [c]) ++ [d])) (by have S := S.nil; simpa using S) Vq (by first | omega | (simp <;> omega))
set_option maxRecDepth 65536 in
set_option maxHeartbeats 8000000 in
theorem j160 {l : Launch} {Z : State} {a0 : Array Value} (H : Wd Z a0) {K : Cx} {h : Heap} {au ur : Addr} {as us : List Int32} {i0 i1 i2 i3 la lu a b c d : Int32} (TB : Tabs Z) (pa : ¬ a < 0 ∧ ¬ 255 < a) (pb : ¬ b < 0 ∧ ¬ 255 < b) (pc : ¬ c < 0 ∧ ¬ 255 < c) (pd : ¬ d < 0 ∧ ¬ 255 < d) (D1 : Dt la a b as) (D2 : Dt lu c d us) (S1 : Str Z h [] au as) (Su : Str Z h [] ur us) : GL l Z K h [] 12 44 160 #[.val (.int i0), .val (.int i1), .val (.int i2), .val (.int i3), .val (.int la), .val (.int lu), .val (.int a), .val (.int b), .val (.int c), .val (.int d), .val (.ref au), .unset, .unset, .unset, .unset] [.ref ur] := by
  have ha := D1.le
  have hu := D2.le
  refine go_astore (L' := #[.val (.int i0), .val (.int i1), .val (.int i2), .val (.int i3), .val (.int la), .val (.int lu), .val (.int a), .val (.int b), .val (.int c), .val (.int d), .val (.ref au), .val (.ref ur), .unset, .unset, .unset]) (q := 162) at_160 rfl rfl rfl ?_
  have Kq : Keep h h [] := Keep.refl _ _
  refine go_new (c' := 13) (s' := 45) (q := 165) (w_37 H) (w_38 H) (w_39 H) at_162 rfl rfl rfl (by decide) (by decide) ?_
  intro hq1 sq gq Exq Aq Dq
  have f_Kq_sq : h.size ≤ sq := by rw [gq]; exact Kq.1
  have Kq : Keep h hq1 [] := Kq.ext Exq
  have Fb : Fld Z hq1 sq SUN "base" SDs .null := Dq (Or.inr (w_156 H)) (ty := .object "java/lang/String") (by decide)
  have S1 := (S1.grow (F' := [sq]) (by intro y q; simp only [List.mem_cons, List.not_mem_nil, or_false] at q; subst q; exact Or.inr f_Kq_sq)).keep0 Kq
  have Su := (Su.grow (F' := [sq]) (by intro y q; simp only [List.mem_cons, List.not_mem_nil, or_false] at q; subst q; exact Or.inr f_Kq_sq)).keep0 Kq
  refine go_dup (q := 166) at_165 rfl rfl ?_
  refine go_aload (v := .ref au) (q := 168) at_166 rfl rfl rfl ?_
  refine go_special (c' := 19) (s' := 141) (q := 171) (S := [.ref sq]) (argsL := [.ref au]) H rfl (w_40 H) (w_41 H) (w_39 H) (w_42 H) (by decide) (rm_suI H (F := []) Aq Fb S1 ha) rfl rfl (lenOf pd_14 rfl) (fun _ q => by simpa using q) rfl (by decide) (Nat.le_of_ble_eq_true rfl) rfl rfl (by decide) (by decide) at_168 rfl ?_
  rintro _ hq2 G - ⟨rfl, Ks, sb, Fs, Sb⟩
  refine nx_ (v := none) ?_
  have Kq : Keep h hq2 [] := kfresh Kq Ks f_Kq_sq
  show Go _ _ _ _ _ _ _ _ _ _ _ _ _ _ 171 #[.val (.int i0), .val (.int i1), .val (.int i2), .val (.int i3), .val (.int la), .val (.int lu), .val (.int a), .val (.int b), .val (.int c), .val (.int d), .val (.ref au), .val (.ref ur), .unset, .unset, .unset] [.ref sq]
  have Su := Su.keep Ks (by intro y q; exact Or.inl q)
  refine go_aload (v := .ref ur) (q := 173) at_171 rfl rfl rfl ?_
  refine go_iloadN (v := i2) (q := 174) at_173 rfl rfl ?_
  refine go_virtual (c' := 34) (s' := 547) (q := 177) (S := []) (argsL := [.ref ur, .int i2]) H (C := "com/example/saga/saga/server/SurfaceUris") (w_157 H) (w_158 H) (nf_self (w_160 H)) (w_160 H) (w_159 H) (w_39 H) (w_161 H) (by decide) (Aq.keep Ks) (rm_tm H (F := [sq]) TB (Aq.keep Ks) Fs Sb Su (by simp <;> omega) (by simp <;> omega) hu) rfl rfl (lenOf pd_37 rfl) (fun _ q => by simpa using q) rfl (by decide) (Nat.le_of_ble_eq_true rfl) rfl rfl (by decide) (by decide) at_174 rfl ?_
  rintro _ hr G - ⟨r, rfl, Kr, Sr⟩
  refine nx_ (v := none) ?_
  show Go _ _ _ _ _ _ _ _ _ _ _ _ _ _ 177 #[.val (.int i0), .val (.int i1), .val (.int i2), .val (.int i3), .val (.int la), .val (.int lu), .val (.int a), .val (.int b), .val (.int c), .val (.int d), .val (.ref au), .val (.ref ur), .unset, .unset, .unset] [.ref r]
  have Sr : Str Z hr [] r (P7 ++ (as ++ (P14 ++ (pnl i2 ++ us)))) := by have q := Sr.nil; simpa using q
  refine go_astore (L' := #[.val (.int i0), .val (.int i1), .val (.int i2), .val (.int i3), .val (.int la), .val (.int lu), .val (.int a), .val (.int b), .val (.int c), .val (.int d), .val (.ref au), .val (.ref ur), .val (.ref r), .unset, .unset]) (q := 179) at_177 rfl rfl rfl ?_
  refine go_bipush (x := (40 : Int32)) (q := 181) at_179 rfl rfl ?_
  have Kf : Keep hr hr [] := Keep.refl _ _
  refine go_newarray (ty := .char) (dv := .int 0) (n := 40) (cap := 40) (ad := "[C") (c' := 35) (s' := 587) (q := 183) rfl rfl (by decide) (w_27 H) at_181 (by decide) (by decide) (by decide) rfl rfl rfl rfl (by decide) (by decide) ?_
  intro he y ky ge Ee We Xe
  have f_Kf_y : hr.size ≤ y := by rw [ge]; exact Kf.1
  have Kf : Keep hr he [] := Kf.ext Ee
  have V : Ech Z he y [] := ⟨ky, We⟩
  have Sr := (Sr.grow (F' := [y]) (by intro z q; simp only [List.mem_cons, List.not_mem_nil, or_false] at q; subst q; exact Or.inr f_Kf_y)).keep0 Kf
  refine go_less (F' := [y]) (by simp) (Nat.le_refl _) (Nat.le_refl _) ?_
  refine go_astore (L' := #[.val (.int i0), .val (.int i1), .val (.int i2), .val (.int i3), .val (.int la), .val (.int lu), .val (.int a), .val (.int b), .val (.int c), .val (.int d), .val (.ref au), .val (.ref ur), .val (.ref r), .val (.ref y), .unset]) (q := 185) at_183 rfl rfl rfl ?_
  refine go_aload (v := .ref y) (q := 187) at_185 rfl rfl rfl ?_
  refine go_iconst (x := (0 : Int32)) (q := 188) at_187 rfl rfl ?_
  refine go_bipush (x := (104 : Int32)) (q := 190) at_188 rfl rfl ?_
  obtain ⟨ky, V⟩ := V
  refine go_castore (i := 0) (y := (104 : Int32)) (q := 191) V (by decide) rfl (by simp) (by simp) (nar_char ((by decide : ¬ (104 : Int32) < 0 ∧ ¬ 255 < (104 : Int32))).1 ((by decide : ¬ (104 : Int32) < 0 ∧ ¬ 255 < (104 : Int32))).2) at_190 rfl ?_
  intro hs0 Khs0 zhs0 Vhs0
  have V : Ech Z hs0 y ([104] : List Int32) := ⟨ky, Vhs0⟩
  have Sr := Sr.keep Khs0 (by intro z q; exact Or.inl q)
  refine go_aload (v := .ref y) (q := 193) at_191 rfl rfl rfl ?_
  refine go_iconst (x := (1 : Int32)) (q := 194) at_193 rfl rfl ?_
  refine go_bipush (x := (116 : Int32)) (q := 196) at_194 rfl rfl ?_
  obtain ⟨ky, V⟩ := V
  refine go_castore (i := 1) (y := (116 : Int32)) (q := 197) V (by decide) rfl (by simp) (by simp) (nar_char ((by decide : ¬ (116 : Int32) < 0 ∧ ¬ 255 < (116 : Int32))).1 ((by decide : ¬ (116 : Int32) < 0 ∧ ¬ 255 < (116 : Int32))).2) at_196 rfl ?_
  intro hs1 Khs1 zhs1 Vhs1
  have V : Ech Z hs1 y ([104, 116] : List Int32) := ⟨ky, Vhs1⟩
  have Sr := Sr.keep Khs1 (by intro z q; exact Or.inl q)
  refine go_aload (v := .ref y) (q := 199) at_197 rfl rfl rfl ?_
  refine go_iconst (x := (2 : Int32)) (q := 200) at_199 rfl rfl ?_
  refine go_bipush (x := (116 : Int32)) (q := 202) at_200 rfl rfl ?_
  obtain ⟨ky, V⟩ := V
  refine go_castore (i := 2) (y := (116 : Int32)) (q := 203) V (by decide) rfl (by simp) (by simp) (nar_char ((by decide : ¬ (116 : Int32) < 0 ∧ ¬ 255 < (116 : Int32))).1 ((by decide : ¬ (116 : Int32) < 0 ∧ ¬ 255 < (116 : Int32))).2) at_202 rfl ?_
  intro hs2 Khs2 zhs2 Vhs2
  have V : Ech Z hs2 y ([104, 116, 116] : List Int32) := ⟨ky, Vhs2⟩
  have Sr := Sr.keep Khs2 (by intro z q; exact Or.inl q)
  refine go_aload (v := .ref y) (q := 205) at_203 rfl rfl rfl ?_
  refine go_iconst (x := (3 : Int32)) (q := 206) at_205 rfl rfl ?_
  refine go_bipush (x := (112 : Int32)) (q := 208) at_206 rfl rfl ?_
  obtain ⟨ky, V⟩ := V
  refine go_castore (i := 3) (y := (112 : Int32)) (q := 209) V (by decide) rfl (by simp) (by simp) (nar_char ((by decide : ¬ (112 : Int32) < 0 ∧ ¬ 255 < (112 : Int32))).1 ((by decide : ¬ (112 : Int32) < 0 ∧ ¬ 255 < (112 : Int32))).2) at_208 rfl ?_
  intro hs3 Khs3 zhs3 Vhs3
  have V : Ech Z hs3 y ([104, 116, 116, 112] : List Int32) := ⟨ky, Vhs3⟩
  have Sr := Sr.keep Khs3 (by intro z q; exact Or.inl q)
  refine go_aload (v := .ref y) (q := 211) at_209 rfl rfl rfl ?_
  refine go_iconst (x := (4 : Int32)) (q := 212) at_211 rfl rfl ?_
  refine go_bipush (x := (58 : Int32)) (q := 214) at_212 rfl rfl ?_
  obtain ⟨ky, V⟩ := V
  refine go_castore (i := 4) (y := (58 : Int32)) (q := 215) V (by decide) rfl (by simp) (by simp) (nar_char ((by decide : ¬ (58 : Int32) < 0 ∧ ¬ 255 < (58 : Int32))).1 ((by decide : ¬ (58 : Int32) < 0 ∧ ¬ 255 < (58 : Int32))).2) at_214 rfl ?_
  intro hs4 Khs4 zhs4 Vhs4
  have V : Ech Z hs4 y ([104, 116, 116, 112, 58] : List Int32) := ⟨ky, Vhs4⟩
  have Sr := Sr.keep Khs4 (by intro z q; exact Or.inl q)
  refine go_aload (v := .ref y) (q := 217) at_215 rfl rfl rfl ?_
  refine go_iconst (x := (5 : Int32)) (q := 218) at_217 rfl rfl ?_
  refine go_bipush (x := (47 : Int32)) (q := 220) at_218 rfl rfl ?_
  obtain ⟨ky, V⟩ := V
  refine go_castore (i := 5) (y := (47 : Int32)) (q := 221) V (by decide) rfl (by simp) (by simp) (nar_char ((by decide : ¬ (47 : Int32) < 0 ∧ ¬ 255 < (47 : Int32))).1 ((by decide : ¬ (47 : Int32) < 0 ∧ ¬ 255 < (47 : Int32))).2) at_220 rfl ?_
  intro hs5 Khs5 zhs5 Vhs5
  have V : Ech Z hs5 y ([104, 116, 116, 112, 58, 47] : List Int32) := ⟨ky, Vhs5⟩
  have Sr := Sr.keep Khs5 (by intro z q; exact Or.inl q)
  refine go_aload (v := .ref y) (q := 223) at_221 rfl rfl rfl ?_
  refine go_bipush (x := (6 : Int32)) (q := 225) at_223 rfl rfl ?_
  refine go_bipush (x := (47 : Int32)) (q := 227) at_225 rfl rfl ?_
  obtain ⟨ky, V⟩ := V
  refine go_castore (i := 6) (y := (47 : Int32)) (q := 228) V (by decide) rfl (by simp) (by simp) (nar_char ((by decide : ¬ (47 : Int32) < 0 ∧ ¬ 255 < (47 : Int32))).1 ((by decide : ¬ (47 : Int32) < 0 ∧ ¬ 255 < (47 : Int32))).2) at_227 rfl ?_
  intro hs6 Khs6 zhs6 Vhs6
  have V : Ech Z hs6 y ([104, 116, 116, 112, 58, 47, 47] : List Int32) := ⟨ky, Vhs6⟩
  have Sr := Sr.keep Khs6 (by intro z q; exact Or.inl q)
  refine go_bipush (x := (7 : Int32)) (q := 230) at_228 rfl rfl ?_
  refine go_istore (L' := #[.val (.int i0), .val (.int i1), .val (.int i2), .val (.int i3), .val (.int la), .val (.int lu), .val (.int a), .val (.int b), .val (.int c), .val (.int d), .val (.ref au), .val (.ref ur), .val (.ref r), .val (.ref y), .val (.int (7 : Int32))]) (q := 232) at_230 rfl rfl ?_
  refine go_iload (v := la) (q := 234) at_232 rfl rfl ?_
  refine go_iconst (x := (1 : Int32)) (q := 235) at_234 rfl rfl ?_
  rcases D1 with ⟨rfl, rfl⟩ | ⟨rfl, rfl⟩ | ⟨rfl, rfl⟩
  · refine go_icY (q := 248) at_235 (by decide) (by decide) (by decide) ?_
    refine go_iload (v := (0 : Int32)) (q := 250) at_248 rfl rfl ?_
    refine go_iconst (x := (2 : Int32)) (q := 251) at_250 rfl rfl ?_
    refine go_icY (q := 264) at_251 (by decide) (by decide) (by decide) ?_
    refine go_less (F' := [y]) (c' := 48) (s' := 1200) (by simp) (by decide) (by decide) ?_
    exact j264 H (as := []) pc pd D2 (Nat.le_of_ble_eq_true rfl) V Sr
  · refine go_icN (q := 238) at_235 (by decide) rfl ?_
    refine go_aload (v := .ref y) (q := 240) at_238 rfl rfl rfl ?_
    refine go_iload (v := (Int32.ofNat P7.length)) (q := 242) at_240 rfl rfl ?_
    refine go_iinc (x := (Int32.ofNat P7.length)) (y := (Int32.ofNat (P7 ++ [a]).length)) (L' := #[.val (.int i0), .val (.int i1), .val (.int i2), .val (.int i3), .val (.int (1 : Int32)), .val (.int lu), .val (.int a), .val (.int b), .val (.int c), .val (.int d), .val (.ref au), .val (.ref ur), .val (.ref r), .val (.ref y), .val (.int (Int32.ofNat (P7 ++ [a]).length))]) (q := 245) at_242 rfl inc_push rfl rfl ?_
    refine go_iload (v := a) (q := 247) at_245 rfl rfl ?_
    have hm0 : P7.length = 7 := rfl
    obtain ⟨ky, V⟩ := V
    refine go_castore (i := P7.length) (y := a) (q := 248) V ⟨nn_ofNat (by omega), (lt_ofNat (n := 40) (by omega) (by decide)).mpr (by omega)⟩ (cl_ofNat (by omega)) (by simp <;> omega) (by simp) (nar_char (pa).1 (pa).2) at_247 rfl ?_
    intro hm_0 Khm_0 zhm_0 Vhm_0
    rw [push_c (cs := P7) (by omega)] at Vhm_0
    have V : Ech Z hm_0 y (P7 ++ [a]) := ⟨ky, Vhm_0⟩
    have Sr := Sr.keep Khm_0 (by intro z q; exact Or.inl q)
    refine go_iload (v := (1 : Int32)) (q := 250) at_248 rfl rfl ?_
    refine go_iconst (x := (2 : Int32)) (q := 251) at_250 rfl rfl ?_
    refine go_icY (q := 264) at_251 (by decide) (by decide) (by decide) ?_
    refine go_less (F' := [y]) (c' := 48) (s' := 1200) (by simp) (by decide) (by decide) ?_
    exact j264 H (as := [a]) pc pd D2 (Nat.le_of_ble_eq_true rfl) V Sr
  · refine go_icN (q := 238) at_235 (by decide) rfl ?_
    refine go_aload (v := .ref y) (q := 240) at_238 rfl rfl rfl ?_
    refine go_iload (v := (Int32.ofNat P7.length)) (q := 242) at_240 rfl rfl ?_
    refine go_iinc (x := (Int32.ofNat P7.length)) (y := (Int32.ofNat (P7 ++ [a]).length)) (L' := #[.val (.int i0), .val (.int i1), .val (.int i2), .val (.int i3), .val (.int (2 : Int32)), .val (.int lu), .val (.int a), .val (.int b), .val (.int c), .val (.int d), .val (.ref au), .val (.ref ur), .val (.ref r), .val (.ref y), .val (.int (Int32.ofNat (P7 ++ [a]).length))]) (q := 245) at_242 rfl inc_push rfl rfl ?_
    refine go_iload (v := a) (q := 247) at_245 rfl rfl ?_
    have hm0 : P7.length = 7 := rfl
    obtain ⟨ky, V⟩ := V
    refine go_castore (i := P7.length) (y := a) (q := 248) V ⟨nn_ofNat (by omega), (lt_ofNat (n := 40) (by omega) (by decide)).mpr (by omega)⟩ (cl_ofNat (by omega)) (by simp <;> omega) (by simp) (nar_char (pa).1 (pa).2) at_247 rfl ?_
    intro hm_0 Khm_0 zhm_0 Vhm_0
    rw [push_c (cs := P7) (by omega)] at Vhm_0
    have V : Ech Z hm_0 y (P7 ++ [a]) := ⟨ky, Vhm_0⟩
    have Sr := Sr.keep Khm_0 (by intro z q; exact Or.inl q)
    refine go_iload (v := (2 : Int32)) (q := 250) at_248 rfl rfl ?_
    refine go_iconst (x := (2 : Int32)) (q := 251) at_250 rfl rfl ?_
    refine go_icN (q := 254) at_251 (by decide) rfl ?_
    refine go_aload (v := .ref y) (q := 256) at_254 rfl rfl rfl ?_
    refine go_iload (v := (Int32.ofNat (P7 ++ [a]).length)) (q := 258) at_256 rfl rfl ?_
    refine go_iinc (x := (Int32.ofNat (P7 ++ [a]).length)) (y := (Int32.ofNat ((P7 ++ [a]) ++ [b]).length)) (L' := #[.val (.int i0), .val (.int i1), .val (.int i2), .val (.int i3), .val (.int (2 : Int32)), .val (.int lu), .val (.int a), .val (.int b), .val (.int c), .val (.int d), .val (.ref au), .val (.ref ur), .val (.ref r), .val (.ref y), .val (.int (Int32.ofNat ((P7 ++ [a]) ++ [b]).length))]) (q := 261) at_258 rfl inc_push rfl rfl ?_
    refine go_iload (v := b) (q := 263) at_261 rfl rfl ?_
    have hm1 : (P7 ++ [a]).length = 8 := rfl
    obtain ⟨ky, V⟩ := V
    refine go_castore (i := (P7 ++ [a]).length) (y := b) (q := 264) V ⟨nn_ofNat (by omega), (lt_ofNat (n := 40) (by omega) (by decide)).mpr (by omega)⟩ (cl_ofNat (by omega)) (by simp <;> omega) (by simp) (nar_char (pb).1 (pb).2) at_263 rfl ?_
    intro hm_1 Khm_1 zhm_1 Vhm_1
    rw [push_c (cs := (P7 ++ [a])) (by omega)] at Vhm_1
    have V : Ech Z hm_1 y ((P7 ++ [a]) ++ [b]) := ⟨ky, Vhm_1⟩
    have Sr := Sr.keep Khm_1 (by intro z q; exact Or.inl q)
    refine go_less (F' := [y]) (c' := 48) (s' := 1200) (by simp) (by decide) (by decide) ?_
    exact j264 H (as := [a, b]) pc pd D2 (Nat.le_of_ble_eq_true rfl) V Sr
set_option maxRecDepth 65536 in
set_option maxHeartbeats 8000000 in
theorem j106 {l : Launch} {Z : State} {a0 : Array Value} (H : Wd Z a0) {K : Cx} {h : Heap} {au : Addr} {as us : List Int32} {i0 i1 i2 i3 la lu a b c d : Int32} (TB : Tabs Z) (pa : ¬ a < 0 ∧ ¬ 255 < a) (pb : ¬ b < 0 ∧ ¬ 255 < b) (pc : ¬ c < 0 ∧ ¬ 255 < c) (pd : ¬ d < 0 ∧ ¬ 255 < d) (D1 : Dt la a b as) (D2 : Dt lu c d us) (S1 : Str Z h [] au as) : GL l Z K h [] 6 22 106 #[.val (.int i0), .val (.int i1), .val (.int i2), .val (.int i3), .val (.int la), .val (.int lu), .val (.int a), .val (.int b), .val (.int c), .val (.int d), .unset, .unset, .unset, .unset, .unset] [.ref au] := by
  have D20 := D2
  have hFl : ∀ x ∈ ([] : List Addr), x < h.size := fun _ q => nomatch q
  refine go_astore (L' := #[.val (.int i0), .val (.int i1), .val (.int i2), .val (.int i3), .val (.int la), .val (.int lu), .val (.int a), .val (.int b), .val (.int c), .val (.int d), .val (.ref au), .unset, .unset, .unset, .unset]) (q := 108) at_106 rfl rfl rfl ?_
  refine go_iload (v := lu) (q := 110) at_108 rfl rfl ?_
  have Ka : Keep h h [] := Keep.refl _ _
  rcases D2 with ⟨rfl, rfl⟩ | ⟨rfl, rfl⟩ | ⟨rfl, rfl⟩
  · refine go_ifN (q := 113) at_110 (by decide) rfl ?_
    refine go_new (c' := 7) (s' := 26) (q := 116) (w_26 H) (w_10 H) (w_2 H) at_113 rfl rfl rfl (by decide) (by decide) ?_
    intro hu1 xu gu1 Eu1 Au1 Du1
    have f_Ka_xu : h.size ≤ xu := by rw [gu1]; exact Ka.1
    have Ka : Keep h hu1 [] := Ka.ext Eu1
    have Cu1 : Fld Z hu1 xu ST "coder" "B" (.int 0) := Du1 (Or.inr (w_25 H)) (ty := .byte) (by decide)
    have Vu1 : Fld Z hu1 xu ST "value" "[B" .null := Du1 (Or.inr (w_23 H)) (ty := .array .byte) (by decide)
    have Kbu : Keep hu1 hu1 [] := Keep.refl _ _
    refine go_dup (q := 117) at_116 rfl rfl ?_
    refine go_iconst (x := (0 : Int32)) (q := 118) at_117 rfl rfl ?_
    refine go_newarray (ty := .char) (dv := .int 0) (n := 0) (cap := 0) (ad := "[C") (c' := 8) (s' := 26) (q := 120) rfl rfl (by decide) (w_27 H) at_118 (by decide) (by decide) (by decide) rfl rfl rfl rfl (by decide) (by decide) ?_
    intro hu2 yu ku gu2 Eu2 Wu2 Xu2
    have f_Ka_yu : h.size ≤ yu := by rw [gu2]; exact Ka.1
    have f_Kbu_yu : hu1.size ≤ yu := by rw [gu2]; exact Kbu.1
    have Ka : Keep h hu2 [] := Ka.ext Eu2
    have Kbu : Keep hu1 hu2 [] := Kbu.ext Eu2
    have Wu2 : Arv Z hu2 yu ku .char (0 : Int32) [] (.int 0) := Wu2
    have Ltu : Lat [] := ⟨Nat.le_of_ble_eq_true rfl, (by intro c hc; simp only [List.mem_cons, List.not_mem_nil, or_false] at hc)⟩
    refine go_mine fun hMu _ => ?_
    have nFu : xu ∉ [] := fun q => absurd (hFl xu q) (Nat.not_lt.mpr f_Ka_xu)
    refine go_special (c' := 12) (s' := 42) (q := 123) (S := [.ref xu]) (argsL := [.ref yu]) H rfl (w_28 H) (w_29 H) (w_2 H) (w_30 H) (by decide) (rm_new1 H (cs := []) (F := []) (Au1.keep Kbu) (Cu1.keep Kbu nin0) (Vu1.keep Kbu nin0) Wu2 Ltu (Nat.le_of_ble_eq_true rfl) nFu) rfl rfl (lenOf pd_38 rfl) (by intro z hz; simp only [List.mem_cons, List.not_mem_nil, or_false] at hz ⊢; first | exact hz | exact Or.inl hz | (rcases hz with hz | hz <;> simp [hz]; done) | (rcases hz with rfl | rfl <;> simp)) rfl (by decide) (Nat.le_of_ble_eq_true rfl) rfl rfl (by decide) (by decide) at_120 rfl ?_
    rintro _ huz G - ⟨rfl, Kcu, Su⟩
    refine nx_ (v := none) ?_
    have Ka : Keep h huz [] := kfresh Ka Kcu f_Ka_xu
    show Go _ _ _ _ _ _ _ _ _ _ _ _ _ _ 123 #[.val (.int i0), .val (.int i1), .val (.int i2), .val (.int i3), .val (.int la), .val (.int (0 : Int32)), .val (.int a), .val (.int b), .val (.int c), .val (.int d), .val (.ref au), .unset, .unset, .unset, .unset] [.ref xu]
    refine go_less (F' := []) (by intro y hy; simp [hy]) (Nat.le_refl _) (Nat.le_refl _) ?_
    refine go_goto (q := 160) at_123 (by decide) (by decide) ?_
    refine go_less (F' := []) (c' := 12) (s' := 44) (fun _ q => nomatch q) (by decide) (by decide) ?_
    exact j160 H TB pa pb pc pd D1 D20 (S1.keep0 Ka) Su
  · refine go_ifY (q := 126) at_110 (by decide) (by decide) (by decide) ?_
    refine go_iload (v := (1 : Int32)) (q := 128) at_126 rfl rfl ?_
    refine go_iconst (x := (1 : Int32)) (q := 129) at_128 rfl rfl ?_
    refine go_icN (q := 132) at_129 (by decide) rfl ?_
    refine go_iload (v := c) (q := 134) at_132 rfl rfl ?_
    refine go_static (c' := 8) (s' := 27) (q := 137) (S := []) (argsL := [.int c]) H (w_0 H) (w_1 H) (w_2 H) (w_3 H) (by decide) (rm_vofC H (F := []) pc (fun _ q => nomatch q)) rfl rfl (lenOf pd_39 rfl) (fun _ q => nomatch q) rfl (by decide) (Nat.le_of_ble_eq_true rfl) rfl rfl (by decide) (by decide) at_134 rfl ?_
    rintro _ hz G - ⟨xu, rfl, Kz, Su⟩
    refine nx_ (v := none) ?_
    have Ka : Keep h hz [] := Ka.trans Kz (fun _ q => nomatch q)
    show Go _ _ _ _ _ _ _ _ _ _ _ _ _ _ 137 #[.val (.int i0), .val (.int i1), .val (.int i2), .val (.int i3), .val (.int la), .val (.int (1 : Int32)), .val (.int a), .val (.int b), .val (.int c), .val (.int d), .val (.ref au), .unset, .unset, .unset, .unset] [.ref xu]
    refine go_goto (q := 160) at_137 (by decide) (by decide) ?_
    refine go_less (F' := []) (c' := 12) (s' := 44) (fun _ q => nomatch q) (by decide) (by decide) ?_
    exact j160 H TB pa pb pc pd D1 D20 (S1.keep0 Ka) Su
  · refine go_ifY (q := 126) at_110 (by decide) (by decide) (by decide) ?_
    refine go_iload (v := (2 : Int32)) (q := 128) at_126 rfl rfl ?_
    refine go_iconst (x := (1 : Int32)) (q := 129) at_128 rfl rfl ?_
    refine go_icY (q := 140) at_129 (by decide) (by decide) (by decide) ?_
    refine go_new (c' := 7) (s' := 26) (q := 143) (w_26 H) (w_10 H) (w_2 H) at_140 rfl rfl rfl (by decide) (by decide) ?_
    intro hu1 xu gu1 Eu1 Au1 Du1
    have f_Ka_xu : h.size ≤ xu := by rw [gu1]; exact Ka.1
    have Ka : Keep h hu1 [] := Ka.ext Eu1
    have Cu1 : Fld Z hu1 xu ST "coder" "B" (.int 0) := Du1 (Or.inr (w_25 H)) (ty := .byte) (by decide)
    have Vu1 : Fld Z hu1 xu ST "value" "[B" .null := Du1 (Or.inr (w_23 H)) (ty := .array .byte) (by decide)
    have Kbu : Keep hu1 hu1 [] := Keep.refl _ _
    refine go_dup (q := 144) at_143 rfl rfl ?_
    refine go_iconst (x := (2 : Int32)) (q := 145) at_144 rfl rfl ?_
    refine go_newarray (ty := .char) (dv := .int 0) (n := 2) (cap := 2) (ad := "[C") (c' := 8) (s' := 28) (q := 147) rfl rfl (by decide) (w_27 H) at_145 (by decide) (by decide) (by decide) rfl rfl rfl rfl (by decide) (by decide) ?_
    intro hu2 yu ku gu2 Eu2 Wu2 Xu2
    have f_Ka_yu : h.size ≤ yu := by rw [gu2]; exact Ka.1
    have f_Kbu_yu : hu1.size ≤ yu := by rw [gu2]; exact Kbu.1
    have Ka : Keep h hu2 [] := Ka.ext Eu2
    have Kbu : Keep hu1 hu2 [] := Kbu.ext Eu2
    have Wu2 : Arv Z hu2 yu ku .char (2 : Int32) [.int 0, .int 0] (.int 0) := Wu2
    refine go_dup (q := 148) at_147 rfl rfl ?_
    refine go_iconst (x := (0 : Int32)) (q := 149) at_148 rfl rfl ?_
    refine go_iload (v := c) (q := 151) at_149 rfl rfl ?_
    refine go_castore (i := 0) (y := c) (q := 152) Wu2 (by decide) rfl (Nat.le_of_ble_eq_true rfl) (by simp) (nar_char (pc).1 (pc).2) at_151 rfl ?_
    intro hu3 Ku3 zu3 Wu3
    have Ka : Keep h hu3 [] := kfresh Ka Ku3 f_Ka_yu
    have Kbu : Keep hu1 hu3 [] := kfresh Kbu Ku3 f_Kbu_yu
    have Wu3 : Arv Z hu3 yu ku .char (2 : Int32) [.int c, .int 0] (.int 0) := Wu3
    refine go_dup (q := 153) at_152 rfl rfl ?_
    refine go_iconst (x := (1 : Int32)) (q := 154) at_153 rfl rfl ?_
    refine go_iload (v := d) (q := 156) at_154 rfl rfl ?_
    refine go_castore (i := 1) (y := d) (q := 157) Wu3 (by decide) rfl (Nat.le_of_ble_eq_true rfl) (by simp) (nar_char (pd).1 (pd).2) at_156 rfl ?_
    intro hu4 Ku4 zu4 Wu4
    have Ka : Keep h hu4 [] := kfresh Ka Ku4 f_Ka_yu
    have Kbu : Keep hu1 hu4 [] := kfresh Kbu Ku4 f_Kbu_yu
    have Wu4 : Arv Z hu4 yu ku .char (2 : Int32) [.int c, .int d] (.int 0) := Wu4
    have Ltu : Lat [c, d] := ⟨Nat.le_of_ble_eq_true rfl, (by intro c hc; simp only [List.mem_cons, List.not_mem_nil, or_false] at hc; rcases hc with rfl | rfl <;> first | exact pc | exact pd)⟩
    refine go_mine fun hMu _ => ?_
    have nFu : xu ∉ [] := fun q => absurd (hFl xu q) (Nat.not_lt.mpr f_Ka_xu)
    refine go_special (c' := 12) (s' := 44) (q := 160) (S := [.ref xu]) (argsL := [.ref yu]) H rfl (w_28 H) (w_29 H) (w_2 H) (w_30 H) (by decide) (rm_new1 H (cs := [c, d]) (F := []) (Au1.keep Kbu) (Cu1.keep Kbu nin0) (Vu1.keep Kbu nin0) Wu4 Ltu (Nat.le_of_ble_eq_true rfl) nFu) rfl rfl (lenOf pd_38 rfl) (by intro z hz; simp only [List.mem_cons, List.not_mem_nil, or_false] at hz ⊢; first | exact hz | exact Or.inl hz | (rcases hz with hz | hz <;> simp [hz]; done) | (rcases hz with rfl | rfl <;> simp)) rfl (by decide) (Nat.le_of_ble_eq_true rfl) rfl rfl (by decide) (by decide) at_157 rfl ?_
    rintro _ huz G - ⟨rfl, Kcu, Su⟩
    refine nx_ (v := none) ?_
    have Ka : Keep h huz [] := kfresh Ka Kcu f_Ka_xu
    show Go _ _ _ _ _ _ _ _ _ _ _ _ _ _ 160 #[.val (.int i0), .val (.int i1), .val (.int i2), .val (.int i3), .val (.int la), .val (.int (2 : Int32)), .val (.int a), .val (.int b), .val (.int c), .val (.int d), .val (.ref au), .unset, .unset, .unset, .unset] [.ref xu]
    refine go_less (F' := []) (by intro y hy; simp [hy]) (Nat.le_refl _) (Nat.le_refl _) ?_
    refine go_less (F' := []) (c' := 12) (s' := 44) (fun _ q => nomatch q) (by decide) (by decide) ?_
    exact j160 H TB pa pb pc pd D1 D20 (S1.keep0 Ka) Su
set_option maxRecDepth 65536 in
set_option maxHeartbeats 8000000 in
theorem j54 {l : Launch} {Z : State} {a0 : Array Value} (H : Wd Z a0) {K : Cx} {h : Heap} {as us : List Int32} {i0 i1 i2 i3 la lu a b c d : Int32} (TB : Tabs Z) (pa : ¬ a < 0 ∧ ¬ 255 < a) (pb : ¬ b < 0 ∧ ¬ 255 < b) (pc : ¬ c < 0 ∧ ¬ 255 < c) (pd : ¬ d < 0 ∧ ¬ 255 < d) (D1 : Dt la a b as) (D2 : Dt lu c d us) : GL l Z K h [] 0 0 54 #[.val (.int i0), .val (.int i1), .val (.int i2), .val (.int i3), .val (.int la), .val (.int lu), .val (.int a), .val (.int b), .val (.int c), .val (.int d), .unset, .unset, .unset, .unset, .unset] [] := by
  have D10 := D1
  have hFl : ∀ x ∈ ([] : List Addr), x < h.size := fun _ q => nomatch q
  refine go_iload (v := la) (q := 56) at_54 rfl rfl ?_
  have Ka : Keep h h [] := Keep.refl _ _
  rcases D1 with ⟨rfl, rfl⟩ | ⟨rfl, rfl⟩ | ⟨rfl, rfl⟩
  · refine go_ifN (q := 59) at_56 (by decide) rfl ?_
    refine go_new (c' := 1) (s' := 4) (q := 62) (w_26 H) (w_10 H) (w_2 H) at_59 rfl rfl rfl (by decide) (by decide) ?_
    intro ha1 xa ga1 Ea1 Aa1 Da1
    have f_Ka_xa : h.size ≤ xa := by rw [ga1]; exact Ka.1
    have Ka : Keep h ha1 [] := Ka.ext Ea1
    have Ca1 : Fld Z ha1 xa ST "coder" "B" (.int 0) := Da1 (Or.inr (w_25 H)) (ty := .byte) (by decide)
    have Va1 : Fld Z ha1 xa ST "value" "[B" .null := Da1 (Or.inr (w_23 H)) (ty := .array .byte) (by decide)
    have Kba : Keep ha1 ha1 [] := Keep.refl _ _
    refine go_dup (q := 63) at_62 rfl rfl ?_
    refine go_iconst (x := (0 : Int32)) (q := 64) at_63 rfl rfl ?_
    refine go_newarray (ty := .char) (dv := .int 0) (n := 0) (cap := 0) (ad := "[C") (c' := 2) (s' := 4) (q := 66) rfl rfl (by decide) (w_27 H) at_64 (by decide) (by decide) (by decide) rfl rfl rfl rfl (by decide) (by decide) ?_
    intro ha2 ya ka ga2 Ea2 Wa2 Xa2
    have f_Ka_ya : h.size ≤ ya := by rw [ga2]; exact Ka.1
    have f_Kba_ya : ha1.size ≤ ya := by rw [ga2]; exact Kba.1
    have Ka : Keep h ha2 [] := Ka.ext Ea2
    have Kba : Keep ha1 ha2 [] := Kba.ext Ea2
    have Wa2 : Arv Z ha2 ya ka .char (0 : Int32) [] (.int 0) := Wa2
    have Lta : Lat [] := ⟨Nat.le_of_ble_eq_true rfl, (by intro c hc; simp only [List.mem_cons, List.not_mem_nil, or_false] at hc)⟩
    refine go_mine fun hMa _ => ?_
    have nFa : xa ∉ [] := fun q => absurd (hFl xa q) (Nat.not_lt.mpr f_Ka_xa)
    refine go_special (c' := 6) (s' := 20) (q := 69) (S := [.ref xa]) (argsL := [.ref ya]) H rfl (w_28 H) (w_29 H) (w_2 H) (w_30 H) (by decide) (rm_new1 H (cs := []) (F := []) (Aa1.keep Kba) (Ca1.keep Kba nin0) (Va1.keep Kba nin0) Wa2 Lta (Nat.le_of_ble_eq_true rfl) nFa) rfl rfl (lenOf pd_38 rfl) (by intro z hz; simp only [List.mem_cons, List.not_mem_nil, or_false] at hz ⊢; first | exact hz | exact Or.inl hz | (rcases hz with hz | hz <;> simp [hz]; done) | (rcases hz with rfl | rfl <;> simp)) rfl (by decide) (Nat.le_of_ble_eq_true rfl) rfl rfl (by decide) (by decide) at_66 rfl ?_
    rintro _ haz G - ⟨rfl, Kca, Sa⟩
    refine nx_ (v := none) ?_
    have Ka : Keep h haz [] := kfresh Ka Kca f_Ka_xa
    show Go _ _ _ _ _ _ _ _ _ _ _ _ _ _ 69 #[.val (.int i0), .val (.int i1), .val (.int i2), .val (.int i3), .val (.int (0 : Int32)), .val (.int lu), .val (.int a), .val (.int b), .val (.int c), .val (.int d), .unset, .unset, .unset, .unset, .unset] [.ref xa]
    refine go_less (F' := []) (by intro y hy; simp [hy]) (Nat.le_refl _) (Nat.le_refl _) ?_
    refine go_goto (q := 106) at_69 (by decide) (by decide) ?_
    refine go_less (F' := []) (c' := 6) (s' := 22) (fun _ q => nomatch q) (by decide) (by decide) ?_
    exact j106 H TB pa pb pc pd D10 D2 Sa
  · refine go_ifY (q := 72) at_56 (by decide) (by decide) (by decide) ?_
    refine go_iload (v := (1 : Int32)) (q := 74) at_72 rfl rfl ?_
    refine go_iconst (x := (1 : Int32)) (q := 75) at_74 rfl rfl ?_
    refine go_icN (q := 78) at_75 (by decide) rfl ?_
    refine go_iload (v := a) (q := 80) at_78 rfl rfl ?_
    refine go_static (c' := 2) (s' := 5) (q := 83) (S := []) (argsL := [.int a]) H (w_0 H) (w_1 H) (w_2 H) (w_3 H) (by decide) (rm_vofC H (F := []) pa (fun _ q => nomatch q)) rfl rfl (lenOf pd_39 rfl) (fun _ q => nomatch q) rfl (by decide) (Nat.le_of_ble_eq_true rfl) rfl rfl (by decide) (by decide) at_80 rfl ?_
    rintro _ hz G - ⟨xa, rfl, Kz, Sa⟩
    refine nx_ (v := none) ?_
    have Ka : Keep h hz [] := Ka.trans Kz (fun _ q => nomatch q)
    show Go _ _ _ _ _ _ _ _ _ _ _ _ _ _ 83 #[.val (.int i0), .val (.int i1), .val (.int i2), .val (.int i3), .val (.int (1 : Int32)), .val (.int lu), .val (.int a), .val (.int b), .val (.int c), .val (.int d), .unset, .unset, .unset, .unset, .unset] [.ref xa]
    refine go_goto (q := 106) at_83 (by decide) (by decide) ?_
    refine go_less (F' := []) (c' := 6) (s' := 22) (fun _ q => nomatch q) (by decide) (by decide) ?_
    exact j106 H TB pa pb pc pd D10 D2 Sa
  · refine go_ifY (q := 72) at_56 (by decide) (by decide) (by decide) ?_
    refine go_iload (v := (2 : Int32)) (q := 74) at_72 rfl rfl ?_
    refine go_iconst (x := (1 : Int32)) (q := 75) at_74 rfl rfl ?_
    refine go_icY (q := 86) at_75 (by decide) (by decide) (by decide) ?_
    refine go_new (c' := 1) (s' := 4) (q := 89) (w_26 H) (w_10 H) (w_2 H) at_86 rfl rfl rfl (by decide) (by decide) ?_
    intro ha1 xa ga1 Ea1 Aa1 Da1
    have f_Ka_xa : h.size ≤ xa := by rw [ga1]; exact Ka.1
    have Ka : Keep h ha1 [] := Ka.ext Ea1
    have Ca1 : Fld Z ha1 xa ST "coder" "B" (.int 0) := Da1 (Or.inr (w_25 H)) (ty := .byte) (by decide)
    have Va1 : Fld Z ha1 xa ST "value" "[B" .null := Da1 (Or.inr (w_23 H)) (ty := .array .byte) (by decide)
    have Kba : Keep ha1 ha1 [] := Keep.refl _ _
    refine go_dup (q := 90) at_89 rfl rfl ?_
    refine go_iconst (x := (2 : Int32)) (q := 91) at_90 rfl rfl ?_
    refine go_newarray (ty := .char) (dv := .int 0) (n := 2) (cap := 2) (ad := "[C") (c' := 2) (s' := 6) (q := 93) rfl rfl (by decide) (w_27 H) at_91 (by decide) (by decide) (by decide) rfl rfl rfl rfl (by decide) (by decide) ?_
    intro ha2 ya ka ga2 Ea2 Wa2 Xa2
    have f_Ka_ya : h.size ≤ ya := by rw [ga2]; exact Ka.1
    have f_Kba_ya : ha1.size ≤ ya := by rw [ga2]; exact Kba.1
    have Ka : Keep h ha2 [] := Ka.ext Ea2
    have Kba : Keep ha1 ha2 [] := Kba.ext Ea2
    have Wa2 : Arv Z ha2 ya ka .char (2 : Int32) [.int 0, .int 0] (.int 0) := Wa2
    refine go_dup (q := 94) at_93 rfl rfl ?_
    refine go_iconst (x := (0 : Int32)) (q := 95) at_94 rfl rfl ?_
    refine go_iload (v := a) (q := 97) at_95 rfl rfl ?_
    refine go_castore (i := 0) (y := a) (q := 98) Wa2 (by decide) rfl (Nat.le_of_ble_eq_true rfl) (by simp) (nar_char (pa).1 (pa).2) at_97 rfl ?_
    intro ha3 Ka3 za3 Wa3
    have Ka : Keep h ha3 [] := kfresh Ka Ka3 f_Ka_ya
    have Kba : Keep ha1 ha3 [] := kfresh Kba Ka3 f_Kba_ya
    have Wa3 : Arv Z ha3 ya ka .char (2 : Int32) [.int a, .int 0] (.int 0) := Wa3
    refine go_dup (q := 99) at_98 rfl rfl ?_
    refine go_iconst (x := (1 : Int32)) (q := 100) at_99 rfl rfl ?_
    refine go_iload (v := b) (q := 102) at_100 rfl rfl ?_
    refine go_castore (i := 1) (y := b) (q := 103) Wa3 (by decide) rfl (Nat.le_of_ble_eq_true rfl) (by simp) (nar_char (pb).1 (pb).2) at_102 rfl ?_
    intro ha4 Ka4 za4 Wa4
    have Ka : Keep h ha4 [] := kfresh Ka Ka4 f_Ka_ya
    have Kba : Keep ha1 ha4 [] := kfresh Kba Ka4 f_Kba_ya
    have Wa4 : Arv Z ha4 ya ka .char (2 : Int32) [.int a, .int b] (.int 0) := Wa4
    have Lta : Lat [a, b] := ⟨Nat.le_of_ble_eq_true rfl, (by intro c hc; simp only [List.mem_cons, List.not_mem_nil, or_false] at hc; rcases hc with rfl | rfl <;> first | exact pa | exact pb)⟩
    refine go_mine fun hMa _ => ?_
    have nFa : xa ∉ [] := fun q => absurd (hFl xa q) (Nat.not_lt.mpr f_Ka_xa)
    refine go_special (c' := 6) (s' := 22) (q := 106) (S := [.ref xa]) (argsL := [.ref ya]) H rfl (w_28 H) (w_29 H) (w_2 H) (w_30 H) (by decide) (rm_new1 H (cs := [a, b]) (F := []) (Aa1.keep Kba) (Ca1.keep Kba nin0) (Va1.keep Kba nin0) Wa4 Lta (Nat.le_of_ble_eq_true rfl) nFa) rfl rfl (lenOf pd_38 rfl) (by intro z hz; simp only [List.mem_cons, List.not_mem_nil, or_false] at hz ⊢; first | exact hz | exact Or.inl hz | (rcases hz with hz | hz <;> simp [hz]; done) | (rcases hz with rfl | rfl <;> simp)) rfl (by decide) (Nat.le_of_ble_eq_true rfl) rfl rfl (by decide) (by decide) at_103 rfl ?_
    rintro _ haz G - ⟨rfl, Kca, Sa⟩
    refine nx_ (v := none) ?_
    have Ka : Keep h haz [] := kfresh Ka Kca f_Ka_xa
    show Go _ _ _ _ _ _ _ _ _ _ _ _ _ _ 106 #[.val (.int i0), .val (.int i1), .val (.int i2), .val (.int i3), .val (.int (2 : Int32)), .val (.int lu), .val (.int a), .val (.int b), .val (.int c), .val (.int d), .unset, .unset, .unset, .unset, .unset] [.ref xa]
    refine go_less (F' := []) (by intro y hy; simp [hy]) (Nat.le_refl _) (Nat.le_refl _) ?_
    refine go_less (F' := []) (c' := 6) (s' := 22) (fun _ q => nomatch q) (by decide) (by decide) ?_
    exact j106 H TB pa pb pc pd D10 D2 Sa
set_option maxRecDepth 65536 in
set_option maxHeartbeats 8000000 in
theorem rm_law {l : Launch} {Z : State} {a0 : Array Value} (H : Wd Z a0) {i0 i1 i2 i3 : Int32} (TB : Tabs Z) : MetL l Z x code maxLocals ret room_1 Z.heap [] #[.int i0, .int i1, .int i2, .int i3] (fun v h' G => v = some (.int 1)) := by
  refine MetL.mk (L := #[.val (.int i0), .val (.int i1), .val (.int i2), .val (.int i3), .unset, .unset, .unset, .unset, .unset, .unset, .unset, .unset, .unset, .unset, .unset]) (plainFor_of_name (by first | (simp [plainName, overriddenIn, x]; done) | decide +kernel)) (fun m => by first | (simp [entryFrame, mkF, argsToLocals, Value.category, maxLocals]; done) | rfl) (fun K => ?_)
  show Go _ _ K "com/example/saga/saga/server/SurfaceUrisLinkTimeMapPinLaw" "law" _ 15 _ ({ frames := 11, cells := 64, slots := 5824, locals := 224 } : Room) _ _ _ _ _ 0 _ _
  refine go_iloadN (v := i3) (q := 1) at_0 rfl rfl ?_
  refine go_iconst (x := (3 : Int32)) (q := 2) at_1 rfl rfl ?_
  refine go_iand (r := i3 &&& (3 : Int32)) (q := 3) at_2 rfl rfl ?_
  refine go_iconst (x := (3 : Int32)) (q := 4) at_3 rfl rfl ?_
  refine go_irem (r := (i3 &&& (3 : Int32)) % (3 : Int32)) (q := 5) at_4 (by decide) rfl rfl ?_
  refine go_istore (L' := #[.val (.int i0), .val (.int i1), .val (.int i2), .val (.int i3), .val (.int ((i3 &&& (3 : Int32)) % (3 : Int32))), .unset, .unset, .unset, .unset, .unset, .unset, .unset, .unset, .unset, .unset]) (q := 7) at_5 rfl rfl ?_
  refine go_iloadN (v := i3) (q := 8) at_7 rfl rfl ?_
  refine go_iconst (x := (2 : Int32)) (q := 9) at_8 rfl rfl ?_
  refine go_iushr (r := (XT.ushr i3 2)) (q := 10) at_9 rfl rfl ?_
  refine go_iconst (x := (3 : Int32)) (q := 11) at_10 rfl rfl ?_
  refine go_iand (r := (XT.ushr i3 2) &&& (3 : Int32)) (q := 12) at_11 rfl rfl ?_
  refine go_iconst (x := (3 : Int32)) (q := 13) at_12 rfl rfl ?_
  refine go_irem (r := ((XT.ushr i3 2) &&& (3 : Int32)) % (3 : Int32)) (q := 14) at_13 (by decide) rfl rfl ?_
  refine go_istore (L' := #[.val (.int i0), .val (.int i1), .val (.int i2), .val (.int i3), .val (.int ((i3 &&& (3 : Int32)) % (3 : Int32))), .val (.int (((XT.ushr i3 2) &&& (3 : Int32)) % (3 : Int32))), .unset, .unset, .unset, .unset, .unset, .unset, .unset, .unset, .unset]) (q := 16) at_14 rfl rfl ?_
  refine go_iloadN (v := i0) (q := 17) at_16 rfl rfl ?_
  refine go_sipush (x := (255 : Int32)) (q := 20) at_17 rfl rfl ?_
  refine go_iand (r := i0 &&& (255 : Int32)) (q := 21) at_20 rfl rfl ?_
  refine go_i2c (r := (i0 &&& 255)) (q := 22) at_21 (i2c_msk _) rfl ?_
  refine go_istore (L' := #[.val (.int i0), .val (.int i1), .val (.int i2), .val (.int i3), .val (.int ((i3 &&& (3 : Int32)) % (3 : Int32))), .val (.int (((XT.ushr i3 2) &&& (3 : Int32)) % (3 : Int32))), .val (.int (i0 &&& 255)), .unset, .unset, .unset, .unset, .unset, .unset, .unset, .unset]) (q := 24) at_22 rfl rfl ?_
  refine go_iloadN (v := i0) (q := 25) at_24 rfl rfl ?_
  refine go_bipush (x := (8 : Int32)) (q := 27) at_25 rfl rfl ?_
  refine go_iushr (r := (XT.ushr i0 8)) (q := 28) at_27 rfl rfl ?_
  refine go_sipush (x := (255 : Int32)) (q := 31) at_28 rfl rfl ?_
  refine go_iand (r := (XT.ushr i0 8) &&& (255 : Int32)) (q := 32) at_31 rfl rfl ?_
  refine go_i2c (r := ((XT.ushr i0 8) &&& 255)) (q := 33) at_32 (i2c_msk _) rfl ?_
  refine go_istore (L' := #[.val (.int i0), .val (.int i1), .val (.int i2), .val (.int i3), .val (.int ((i3 &&& (3 : Int32)) % (3 : Int32))), .val (.int (((XT.ushr i3 2) &&& (3 : Int32)) % (3 : Int32))), .val (.int (i0 &&& 255)), .val (.int ((XT.ushr i0 8) &&& 255)), .unset, .unset, .unset, .unset, .unset, .unset, .unset]) (q := 35) at_33 rfl rfl ?_
  refine go_iloadN (v := i1) (q := 36) at_35 rfl rfl ?_
  refine go_sipush (x := (255 : Int32)) (q := 39) at_36 rfl rfl ?_
  refine go_iand (r := i1 &&& (255 : Int32)) (q := 40) at_39 rfl rfl ?_
  refine go_i2c (r := (i1 &&& 255)) (q := 41) at_40 (i2c_msk _) rfl ?_
  refine go_istore (L' := #[.val (.int i0), .val (.int i1), .val (.int i2), .val (.int i3), .val (.int ((i3 &&& (3 : Int32)) % (3 : Int32))), .val (.int (((XT.ushr i3 2) &&& (3 : Int32)) % (3 : Int32))), .val (.int (i0 &&& 255)), .val (.int ((XT.ushr i0 8) &&& 255)), .val (.int (i1 &&& 255)), .unset, .unset, .unset, .unset, .unset, .unset]) (q := 43) at_41 rfl rfl ?_
  refine go_iloadN (v := i1) (q := 44) at_43 rfl rfl ?_
  refine go_bipush (x := (8 : Int32)) (q := 46) at_44 rfl rfl ?_
  refine go_iushr (r := (XT.ushr i1 8)) (q := 47) at_46 rfl rfl ?_
  refine go_sipush (x := (255 : Int32)) (q := 50) at_47 rfl rfl ?_
  refine go_iand (r := (XT.ushr i1 8) &&& (255 : Int32)) (q := 51) at_50 rfl rfl ?_
  refine go_i2c (r := ((XT.ushr i1 8) &&& 255)) (q := 52) at_51 (i2c_msk _) rfl ?_
  refine go_istore (L' := #[.val (.int i0), .val (.int i1), .val (.int i2), .val (.int i3), .val (.int ((i3 &&& (3 : Int32)) % (3 : Int32))), .val (.int (((XT.ushr i3 2) &&& (3 : Int32)) % (3 : Int32))), .val (.int (i0 &&& 255)), .val (.int ((XT.ushr i0 8) &&& 255)), .val (.int (i1 &&& 255)), .val (.int ((XT.ushr i1 8) &&& 255)), .unset, .unset, .unset, .unset, .unset]) (q := 54) at_52 rfl rfl ?_
  obtain ⟨as, D1⟩ := Dt.any i3 (i0 &&& 255) (XT.ushr i0 8 &&& 255)
  obtain ⟨us, D2⟩ := Dt.any (XT.ushr i3 2) (i1 &&& 255) (XT.ushr i1 8 &&& 255)
  exact j54 H TB (msk _) (msk _) (msk _) (msk _) D1 D2
set_option maxRecDepth 65536 in
set_option maxHeartbeats 4000000 in
theorem comes_1 {Post : Tables → Env → Array Value → State → Outcome → State → Prop} (hpost : ∀ tb e args s v u, (limb_1_1.after args s (.returned v) u = true ∧ limb_1_2.after args s (.returned v) u = true ∧ True) → Jvm.D.FramedW s (.returned v) u (Jvm.fieldLocs frame_1_writes args s ++ Jvm.arrayLocs frame_1_arrays args s ++ Jvm.staticLocs frame_1_statics s) 64 5824 → Post tb e args s (.returned v) u) :
    Jvm.D.ArmFor flags0 classFile x code maxLocals ret World_1 tables_1 room_1 Calls_1 rest_1 Pre_1 Post := by
  intro l hfl _ _ p e ha hc hk s m args below hf hA hF happ hP
  obtain ⟨hcalls, hrest, hpre⟩ := hP
  obtain ⟨-, -, -, hnamed, -, -, -, hat⟩ := (Spec.applies_iff hf).mp happ
  obtain ⟨hg, hn⟩ := and_e (Cond.before_iff.mp (show (Jvm.Cond.and given_1 narrow_1).before args s = true from hpre))
  obtain ⟨g0, r0⟩ := and_e hg
  obtain ⟨g1, r1⟩ := and_e r0
  obtain ⟨g2, r2⟩ := and_e r1
  obtain ⟨g3, r3⟩ := and_e r2
  obtain ⟨w0, w1, w2, w3, rfl⟩ : ∃ w0 w1 w2 w3 : Value, args = #[w0, w1, w2, w3] := by
    have hs : args.size = 4 := by simpa [Cond.value, given_1] using g0
    obtain ⟨L⟩ := args
    match L, hs with
    | [w0, w1, w2, w3], _ => exact ⟨w0, w1, w2, w3, rfl⟩
  have hw := fun d (hd : d ∈ tables_1) => atoms_spec (ws := Jvm.Cond.code x code maxLocals ret :: tables_1) hat d (List.mem_cons_of_mem _ hd)
  obtain ⟨hsets, hown0⟩ := atoms_of _ (rest_1_c_eq ▸ (show rest_1_c.before _ s = true from hrest))
  have hfit : Fit s := fun {y c} hc i hi => by
    obtain ⟨ha, rfl⟩ := Array.getElem?_eq_some_iff.mp hc
    have q := List.all_eq_true.mp ((Array.all_eq_true_iff_forall_mem.mp hF) _ (Array.getElem_mem ha)) i (List.mem_range.mpr hi)
    simpa [Array.getElem?_eq_getElem hi] using q
  obtain ⟨i0, e0⟩ := is_v g1
  obtain rfl : w0 = (.int i0) := Option.some.inj e0
  obtain ⟨i1, e1⟩ := is_v g2
  obtain rfl : w1 = (.int i1) := Option.some.inj e1
  obtain ⟨i2, e2⟩ := is_v g3
  obtain rfl : w2 = (.int i2) := Option.some.inj e2
  obtain ⟨i3, e3⟩ := is_v r3
  obtain rfl : w3 = (.int i3) := Option.some.inj e3
  obtain ⟨cz, ecz⟩ := is_v (Cond.before_iff.mp (hsets _ (List.mem_of_getElem? (i := 1) rfl)))
  have Scz : Sta s s.heap "java/lang/String" "COMPACT_STRINGS" "Z" (.int cz) := Sta.start ecz (Or.inl (hsets _ (List.mem_of_getElem? (i := 0) rfl)))
  have ncz : ¬ cz = (0 : Int32) := gotF (Cond.eq_ints ecz (Term.int_eval (0))) (not_v (Cond.before_iff.mp (hsets _ (List.mem_of_getElem? (i := 2) rfl))))
  obtain ⟨fm, efm, rfm⟩ := isR_v (Cond.before_iff.mp (hsets _ (List.mem_of_getElem? (i := 8) rfl)))
  have Sfm : Sta s s.heap "jdk/internal/util/Preconditions" "SIOOBE_FORMATTER" "Ljava/util/function/BiFunction;" fm := Sta.start efm (Or.inl (hsets _ (List.mem_of_getElem? (i := 7) rfl)))
  have hS : ∀ d ∈ Bundle.stringAtoms, d.before #[.int i0, .int i1, .int i2, .int i3] s = true := by
    intro d hd
    simp only [Bundle.stringAtoms, List.mem_cons, List.not_mem_nil, or_false] at hd
    rcases hd with rfl | rfl | rfl | rfl | rfl | rfl | rfl
    · exact hw _ (List.mem_of_getElem? (i := 2) rfl)
    · exact hw _ (List.mem_of_getElem? (i := 10) rfl)
    · exact hw _ (List.mem_of_getElem? (i := 14) rfl)
    · exact hw _ (List.mem_of_getElem? (i := 23) rfl)
    · exact hw _ (List.mem_of_getElem? (i := 25) rfl)
    · exact hw _ (List.mem_of_getElem? (i := 35) rfl)
    · exact hw _ (List.mem_of_getElem? (i := 36) rfl)
  have hE : EW s #[.int i0, .int i1, .int i2, .int i3] consts_1 := (EW.cons (hw _ (List.mem_of_getElem? (i := 62) rfl)) (by decide) (EW.cons (hw _ (List.mem_of_getElem? (i := 162) rfl)) (by decide) (EW.cons (hw _ (List.mem_of_getElem? (i := 201) rfl)) (by decide) (EW.cons (hw _ (List.mem_of_getElem? (i := 263) rfl)) (by decide) (EW.cons (hw _ (List.mem_of_getElem? (i := 34) rfl)) (by decide) EW.nil)))))
  have H : Wd s #[.int i0, .int i1, .int i2, .int i3] := ⟨hw, hE, hS, ⟨cz, Scz, ncz⟩, ⟨fm, Sfm, rfm⟩, hsets⟩
  have hC : CHv s consts_1 s.vm s.heap := CHv.start hE (fun q hq => hcalls.1 q hq) (Cond.before_iff.mpr (Cond.before_iff.mp (hsets _ (List.mem_of_getElem? (i := 2) rfl)))) (hw _ (List.mem_of_getElem? (i := 14) rfl)) (hw _ (List.mem_of_getElem? (i := 10) rfl))
  obtain ⟨dd1, dk1, de1, dA1⟩ := tab_start (F := fun r => 48 + r % 10) hfit (fun _ => by simp only [Term.eval]) (hw _ (List.mem_of_getElem? (i := 14) rfl)) (hsets _ (List.mem_of_getElem? (i := 12) rfl)) (Cond.before_iff.mp (hsets _ (List.mem_of_getElem? (i := 13) rfl))) (Cond.before_iff.mp (hsets _ (List.mem_of_getElem? (i := 14) rfl))) (fun r hr => by rw [← Jvm.Free.SBG.ones_num r hr]; rfl)
  have dS1 : Sta s s.heap "java/lang/Integer" "DigitOnes" "[B" (.ref dd1) := Sta.start de1 (Or.inl (hsets _ (List.mem_of_getElem? (i := 11) rfl)))
  obtain ⟨dd2, dk2, de2, dA2⟩ := tab_start (F := fun r => 48 + r / 10) hfit (fun _ => by simp only [Term.eval]) (hw _ (List.mem_of_getElem? (i := 14) rfl)) (hsets _ (List.mem_of_getElem? (i := 17) rfl)) (Cond.before_iff.mp (hsets _ (List.mem_of_getElem? (i := 18) rfl))) (Cond.before_iff.mp (hsets _ (List.mem_of_getElem? (i := 19) rfl))) (fun r hr => by rw [← Jvm.Free.SBG.tens_num r hr]; rfl)
  have dS2 : Sta s s.heap "java/lang/Integer" "DigitTens" "[B" (.ref dd2) := Sta.start de2 (Or.inl (hsets _ (List.mem_of_getElem? (i := 16) rfl)))
  have TB : Tabs s := ⟨⟨dd1, dk1, dS1, dA1⟩, ⟨dd2, dk2, dS2, dA2⟩⟩
  obtain ⟨n, o, h1, h2, h3, v, L, G, rfl, hq, N, -, -, -, hE2⟩ := rm_law (l := l) H TB p e ha hc hk s m _ below hf ((Spec.applies_iff_loose hf).mp happ).1 ⟨rfl, State.Warmed39.refl s, rfl, hC, (fun _ q => nomatch q), Old.start s⟩ trivial
  subst hq
  refine ⟨n, _, h1, h2, h3, hpost _ _ _ _ _ _ ⟨Cond.after_iff.mpr rfl, Cond.after_iff.mpr (eq_i res_at (Term.int_eval (1)) rfl), trivial⟩ ⟨hE2.1, hE2.2.1, hE2.2.2.1, (hE2.2.2.2.sift fun y hy => Or.inr (N y hy)).mono (by decide) (by decide)⟩⟩
end Own
end Jvm.Pilot.@@N@@
namespace Jvm.Pilot.@@N@@
theorem main_1_1 : Claimed_1_1 := Own.comes_1 fun _ _ _ _ _ _ h hF => ⟨h.1, hF⟩
theorem main_1_2 : Claimed_1_2 := Own.comes_1 fun _ _ _ _ _ _ h hF => ⟨h.2.1, hF⟩
end Jvm.Pilot.@@N@@
namespace Jvm.Pilot.@@N@@
open Jvm Jvm.ClassFile Sem Op Lib Jvm.Free Jvm.Stand Jvm.Pilot.@@N@@.Jvm.D
/-! MADE BY PROGRAM (witnessworld.py) out of the Statement's table words and the real class files: 28 classes; the members and pool entries that the words name. The judged class is class 1, her method 1. -/
namespace start1
open Jvm.ClassFile
def u (s : String) : CpInfo := .utf8 (stringToUtf16 s)
/-- a pool by its gaps: so many unusable entries, then the entry; so many at the end -/
def gap : Nat → List CpInfo → List CpInfo
  | 0, r => r
  | n + 1, r => .unusable :: gap n r
def poolList (es : List (Nat × CpInfo)) (last : Nat) : List CpInfo := es.foldr (fun e r => gap e.1 (e.2 :: r)) (gap last [])
def pool (es : List (Nat × CpInfo)) (last : Nat) : Array CpInfo := ⟨poolList es last⟩
def fileOf (pool : Array CpInfo) (this : Nat) (attrs : Array Attribute := #[]) (ms : Array MethodInfo := #[]) (fl : Nat := 33) (sup : Nat := 0) (ifs : Array Nat := #[]) (fds : Array FieldInfo := #[]) : ClassFile where
  minorVersion := 0
  majorVersion := 65
  constantPool := pool
  accessFlags := fl
  thisClass := this
  superClass := sup
  interfaces := ifs
  fields := fds
  methods := ms
  attributes := attrs
def plain (name : String) (sup : Option ClassId) : Class where
  name := name
  kind := .ordinary
  loader := none
  accessFlags := 33
  super := sup
  interfaces := #[]
  cf := none
  fields := #[]
  methods := #[]
  instanceTypes := #[]
  staticTypes := #[]
  resolved := #[]
  callSites := []
  init := .initialized
  statics := none
  mirror := none

def pool0 : Array CpInfo := pool [(5, u "<init>"), (0, u "()V"), (1, .class_ 10), (1, u "java/lang/Object"), (85, u "clone"), (0, u "()Ljava/lang/Object;")] 26

def k0c0 : Code := { maxStack := 0, maxLocals := 1, code := object_method_1_code, exceptionTable := #[], attributes := #[] }
def k0m0 : Method := { name := "<init>", desc := "()V", sig := { parameters := [], returnType := none }, accessFlags := 1, code := some k0c0 }
def k0m1 : Method := { name := "clone", desc := "()Ljava/lang/Object;", sig := { parameters := [], returnType := some (.object "java/lang/Object") }, accessFlags := 260, code := none }
/-- java/lang/Object -/
def k0 : Class := { plain "java/lang/Object" none with
  accessFlags := 33
  interfaces := #[]
  cf := some (fileOf pool0 8 #[] #[{ accessFlags := 1, nameIndex := 5, descriptorIndex := 6, attributes := #[] }, { accessFlags := 260, nameIndex := 96, descriptorIndex := 97, attributes := #[] }] 33 0 #[] #[])
  fields := #[]
  methods := #[k0m0, k0m1]
  instanceTypes := #[]
  staticTypes := #[]
  resolved := Array.replicate 124 none
  statics := none }

def pool1 : Array CpInfo := pool [(2, .class_ 4), (1, u "java/lang/Object"), (0, u "<init>"), (0, u "()V"), (0, .class_ 8), (0, u "java/lang/String"), (0, .methodref 7 10), (0, .nameAndType 5 11), (0, u "([C)V"), (0, .methodref 7 13), (0, .nameAndType 14 15), (0, u "valueOf"), (0, u "(C)Ljava/lang/String;"), (0, .class_ 17), (0, u "com/example/saga/saga/server/SurfaceUris"), (0, .methodref 16 19), (0, .nameAndType 5 20), (0, u "(Ljava/lang/String;)V"), (0, .methodref 16 22), (0, .nameAndType 23 24), (0, u "linkTimeMap"), (0, u "(Ljava/lang/String;I)Ljava/lang/String;"), (0, .methodref 26 27), (0, .class_ 28), (0, .nameAndType 29 30), (0, u "com/example/saga/saga/server/SurfaceUrisLinkTimeMapPinLaw"), (0, u "putPage"), (0, u "([CII)I"), (0, .methodref 7 32), (0, .nameAndType 33 34), (0, u "length"), (0, u "()I"), (0, .methodref 26 36), (0, .nameAndType 37 38), (0, u "same"), (0, u "(Ljava/lang/String;[CI)Z"), (0, .methodref 7 40), (0, .nameAndType 41 42), (0, u "charAt"), (0, u "(I)C"), (0, .long 10), (1, .long 100), (1, .long 1000), (1, .long 10000), (1, .long 100000), (1, .long 1000000), (1, .long 10000000), (1, .long 100000000), (1, .long 1000000000), (1, .methodref 26 62), (0, .nameAndType 63 64), (0, u "dig"), (0, u "(JJ)C"), (2, u "law"), (0, u "(IIII)Z")] 5

def k1m0 : Method := { name := "<init>", desc := "()V", sig := { parameters := [], returnType := none }, accessFlags := 2, code := none }
def k1c1 : Code := { maxStack := 6, maxLocals := 15, code := code, exceptionTable := #[], attributes := #[] }
def k1m1 : Method := { name := "law", desc := "(IIII)Z", sig := { parameters := [.int, .int, .int, .int], returnType := some .boolean }, accessFlags := 9, code := some k1c1 }
def k1c2 : Code := { maxStack := 3, maxLocals := 3, code := method_3_code, exceptionTable := #[], attributes := #[] }
def k1m2 : Method := { name := "same", desc := "(Ljava/lang/String;[CI)Z", sig := { parameters := [(.object "java/lang/String"), (.array .char), .int], returnType := some .boolean }, accessFlags := 10, code := some k1c2 }
def k1c3 : Code := { maxStack := 5, maxLocals := 4, code := method_4_code, exceptionTable := #[], attributes := #[] }
def k1m3 : Method := { name := "dig", desc := "(JJ)C", sig := { parameters := [.long, .long], returnType := some .char }, accessFlags := 10, code := some k1c3 }
def k1c4 : Code := { maxStack := 6, maxLocals := 7, code := method_5_code, exceptionTable := #[], attributes := #[] }
def k1m4 : Method := { name := "putPage", desc := "([CII)I", sig := { parameters := [(.array .char), .int, .int], returnType := some .int }, accessFlags := 10, code := some k1c4 }
/-- com/example/saga/saga/server/SurfaceUrisLinkTimeMapPinLaw -/
def k1 : Class := { plain "com/example/saga/saga/server/SurfaceUrisLinkTimeMapPinLaw" (some 0) with
  accessFlags := 49
  interfaces := #[]
  cf := some (fileOf pool1 26 #[] #[{ accessFlags := 2, nameIndex := 5, descriptorIndex := 6, attributes := #[] }, { accessFlags := 9, nameIndex := 67, descriptorIndex := 68, attributes := #[] }, { accessFlags := 10, nameIndex := 37, descriptorIndex := 38, attributes := #[] }, { accessFlags := 10, nameIndex := 63, descriptorIndex := 64, attributes := #[] }, { accessFlags := 10, nameIndex := 29, descriptorIndex := 30, attributes := #[] }] 49 2 #[] #[])
  fields := #[]
  methods := #[k1m0, k1m1, k1m2, k1m3, k1m4]
  instanceTypes := #[]
  staticTypes := #[]
  resolved := Array.replicate 74 none
  statics := none }

def pool2 : Array CpInfo := pool [(1, .class_ 2), (0, u "java/io/Serializable"), (0, .class_ 4), (0, u "java/lang/Object")] 2

/-- java/io/Serializable -/
def k2 : Class := { plain "java/io/Serializable" (some 0) with
  accessFlags := 1537
  interfaces := #[]
  cf := some (fileOf pool2 1 #[] #[] 1537 3 #[] #[])
  fields := #[]
  methods := #[]
  instanceTypes := #[]
  staticTypes := #[]
  resolved := Array.replicate 7 none
  statics := none }

def pool3 : Array CpInfo := pool [(1, .class_ 2), (0, u "java/lang/Comparable"), (0, .class_ 4), (0, u "java/lang/Object")] 7

/-- java/lang/Comparable -/
def k3 : Class := { plain "java/lang/Comparable" (some 0) with
  accessFlags := 1537
  interfaces := #[]
  cf := some (fileOf pool3 1 #[] #[] 1537 3 #[] #[])
  fields := #[]
  methods := #[]
  instanceTypes := #[]
  staticTypes := #[]
  resolved := Array.replicate 12 none
  statics := none }

def pool4 : Array CpInfo := pool [(2, .class_ 4), (1, u "java/lang/CharSequence"), (42, .class_ 48), (0, u "java/lang/CharSequence$1CodePointIterator"), (10, .class_ 60), (0, u "java/lang/CharSequence$1CharIterator"), (5, .class_ 67), (0, u "java/lang/Object")] 63

/-- java/lang/CharSequence -/
def k4 : Class := { plain "java/lang/CharSequence" (some 0) with
  accessFlags := 1537
  interfaces := #[]
  cf := some (fileOf pool4 2 #[.nestMembers #[47, 59]] #[] 1537 66 #[] #[])
  fields := #[]
  methods := #[]
  instanceTypes := #[]
  staticTypes := #[]
  resolved := Array.replicate 131 none
  statics := none }

def pool5 : Array CpInfo := pool [(1, .class_ 2), (0, u "java/lang/constant/Constable"), (0, .class_ 4), (0, u "java/lang/Object")] 6

/-- java/lang/constant/Constable -/
def k5 : Class := { plain "java/lang/constant/Constable" (some 0) with
  accessFlags := 1537
  interfaces := #[]
  cf := some (fileOf pool5 1 #[] #[] 1537 3 #[] #[])
  fields := #[]
  methods := #[]
  instanceTypes := #[]
  staticTypes := #[]
  resolved := Array.replicate 11 none
  statics := none }

def pool6 : Array CpInfo := pool [(1, .class_ 2), (0, u "java/lang/constant/ConstantDesc"), (0, .class_ 4), (0, u "java/lang/Object")] 32

/-- java/lang/constant/ConstantDesc -/
def k6 : Class := { plain "java/lang/constant/ConstantDesc" (some 0) with
  accessFlags := 1537
  interfaces := #[]
  cf := some (fileOf pool6 1 #[] #[] 1537 3 #[] #[])
  fields := #[]
  methods := #[]
  instanceTypes := #[]
  staticTypes := #[]
  resolved := Array.replicate 37 none
  statics := none }

def pool7 : Array CpInfo := pool [(1, .methodref 2 3), (0, .class_ 4), (0, .nameAndType 5 6), (0, u "java/lang/Object"), (0, u "<init>"), (0, u "()V"), (0, .string 8), (0, u ""), (0, .fieldref 10 11), (0, .class_ 12), (0, .nameAndType 13 14), (0, u "java/lang/String"), (0, u "value"), (0, u "[B"), (0, .fieldref 10 16), (0, .nameAndType 17 18), (0, u "coder"), (0, u "B"), (2, u "hash"), (0, u "I"), (2, u "hashIsZero"), (0, u "Z"), (0, .methodref 10 28), (0, .nameAndType 5 29), (0, u "([CIILjava/lang/Void;)V"), (8, .fieldref 10 39), (0, .nameAndType 40 26), (0, u "COMPACT_STRINGS"), (1, .class_ 44), (1, u "java/lang/StringUTF16"), (0, u "compress"), (1, .methodref 42 48), (0, .nameAndType 49 50), (0, u "coderFromArrayLen"), (0, u "([BI)B"), (2, u "toBytes"), (0, .methodref 55 56), (0, .class_ 57), (0, .nameAndType 58 59), (0, u "java/util/Arrays"), (0, u "copyOfRange"), (0, u "([BII)[B"), (47, .class_ 109), (1, u "java/lang/StringLatin1"), (32, u "()Z"), (34, .methodref 42 178), (0, .nameAndType 45 179), (0, u "([CII)[B"), (13, .class_ 195), (1, u "java/lang/System"), (13, .methodref 10 210), (0, .nameAndType 5 211), (0, u "([BB)V"), (0, .methodref 193 213), (0, .nameAndType 214 215), (0, u "arraycopy"), (0, u "(Ljava/lang/Object;ILjava/lang/Object;II)V"), (118, u "()I"), (0, .methodref 10 336), (0, .nameAndType 17 337), (0, u "()B"), (2, u "()[B"), (22, u "([BI)C"), (5, u "(C)Z"), (21, u "(II)V"), (35, u "(I)C"), (61, .methodref 10 490), (0, .nameAndType 5 491), (0, u "(Ljava/lang/AbstractStringBuilder;Ljava/lang/Void;)V"), (0, .methodref 10 493), (0, .nameAndType 494 142), (0, u "isLatin1"), (0, .methodref 107 496), (0, .nameAndType 497 363), (0, u "charAt"), (3, u "checkIndex"), (4, .nameAndType 507 334), (0, u "length"), (24, u "getBytes"), (16, .methodref 550 506), (0, .class_ 551), (0, u "java/lang/AbstractStringBuilder"), (0, .methodref 550 553), (0, .nameAndType 554 340), (0, u "getValue"), (20, .class_ 576), (0, u "java/lang/CharSequence"), (22, u "CASE_INSENSITIVE_ORDER"), (0, u "Ljava/util/Comparator;"), (181, u "valueOf"), (0, u "(C)Ljava/lang/String;"), (37, u "([BIB)V"), (188, u "([C)V"), (4, .methodref 107 1016), (0, .nameAndType 1017 369), (0, u "canEncode"), (0, .methodref 107 1019), (0, .nameAndType 53 1020), (0, u "(C)[B"), (26, .methodref 550 493), (5, .fieldref 1054 1055), (0, .class_ 1056), (0, .nameAndType 1057 1058), (0, u "jdk/internal/util/Preconditions"), (0, u "SIOOBE_FORMATTER"), (0, u "Ljava/util/function/BiFunction;"), (0, .methodref 1054 1060), (0, .nameAndType 501 1061), (0, u "(IILjava/util/function/BiFunction;)I"), (39, u "serialPersistentFields"), (0, u "[Ljava/io/ObjectStreamField;"), (0, .class_ 1104), (0, u "java/lang/String$CaseInsensitiveComparator"), (1, .class_ 1107), (0, u "java/io/Serializable"), (0, .class_ 1109), (0, u "java/lang/Comparable"), (0, .class_ 1111), (0, u "java/lang/constant/Constable"), (0, .class_ 1113), (0, u "java/lang/constant/ConstantDesc"), (2, u "serialVersionUID"), (0, u "J"), (3, u "REPL"), (0, u "C"), (2, u "LATIN1"), (1, u "UTF16"), (105, u "(Ljava/lang/StringBuilder;)V")] 217

def k7m0 : Method := { name := "<init>", desc := "()V", sig := { parameters := [], returnType := none }, accessFlags := 1, code := none }
def k7c1 : Code := { maxStack := 5, maxLocals := 2, code := jdk_42_method_3_code, exceptionTable := #[], attributes := #[] }
def k7m1 : Method := { name := "<init>", desc := "([C)V", sig := { parameters := [(.array .char)], returnType := none }, accessFlags := 1, code := some k7c1 }
def k7c2 : Code := { maxStack := 3, maxLocals := 2, code := jdk_42_method_53_code, exceptionTable := #[], attributes := #[] }
def k7m2 : Method := { name := "<init>", desc := "(Ljava/lang/StringBuilder;)V", sig := { parameters := [(.object "java/lang/StringBuilder")], returnType := none }, accessFlags := 1, code := some k7c2 }
def k7c3 : Code := { maxStack := 2, maxLocals := 1, code := jdk_42_method_54_code, exceptionTable := #[], attributes := #[] }
def k7m3 : Method := { name := "length", desc := "()I", sig := { parameters := [], returnType := some .int }, accessFlags := 1, code := some k7c3 }
def k7c4 : Code := { maxStack := 2, maxLocals := 2, code := jdk_42_method_56_code, exceptionTable := #[], attributes := #[] }
def k7m4 : Method := { name := "charAt", desc := "(I)C", sig := { parameters := [.int], returnType := some .char }, accessFlags := 1, code := some k7c4 }
def k7c5 : Code := { maxStack := 4, maxLocals := 1, code := jdk_42_method_139_code, exceptionTable := #[], attributes := #[] }
def k7m5 : Method := { name := "valueOf", desc := "(C)Ljava/lang/String;", sig := { parameters := [.char], returnType := some (.object "java/lang/String") }, accessFlags := 9, code := some k7c5 }
def k7c6 : Code := { maxStack := 5, maxLocals := 4, code := jdk_42_method_147_code, exceptionTable := #[], attributes := #[] }
def k7m6 : Method := { name := "getBytes", desc := "([BIB)V", sig := { parameters := [(.array .byte), .int, .byte], returnType := none }, accessFlags := 0, code := some k7c6 }
def k7c7 : Code := { maxStack := 4, maxLocals := 6, code := jdk_42_method_149_code, exceptionTable := #[], attributes := #[] }
def k7m7 : Method := { name := "<init>", desc := "([CIILjava/lang/Void;)V", sig := { parameters := [(.array .char), .int, .int, (.object "java/lang/Void")], returnType := none }, accessFlags := 2, code := some k7c7 }
def k7c8 : Code := { maxStack := 5, maxLocals := 5, code := jdk_42_method_150_code, exceptionTable := #[], attributes := #[] }
def k7m8 : Method := { name := "<init>", desc := "(Ljava/lang/AbstractStringBuilder;Ljava/lang/Void;)V", sig := { parameters := [(.object "java/lang/AbstractStringBuilder"), (.object "java/lang/Void")], returnType := none }, accessFlags := 0, code := some k7c8 }
def k7c9 : Code := { maxStack := 2, maxLocals := 3, code := jdk_42_method_151_code, exceptionTable := #[], attributes := #[] }
def k7m9 : Method := { name := "<init>", desc := "([BB)V", sig := { parameters := [(.array .byte), .byte], returnType := none }, accessFlags := 0, code := some k7c9 }
def k7c10 : Code := { maxStack := 1, maxLocals := 1, code := jdk_42_method_152_code, exceptionTable := #[], attributes := #[] }
def k7m10 : Method := { name := "coder", desc := "()B", sig := { parameters := [], returnType := some .byte }, accessFlags := 0, code := some k7c10 }
def k7c11 : Code := { maxStack := 1, maxLocals := 1, code := jdk_42_method_154_code, exceptionTable := #[], attributes := #[] }
def k7m11 : Method := { name := "isLatin1", desc := "()Z", sig := { parameters := [], returnType := some .boolean }, accessFlags := 0, code := some k7c11 }
def k7c12 : Code := { maxStack := 3, maxLocals := 2, code := jdk_42_method_155_code, exceptionTable := #[], attributes := #[] }
def k7m12 : Method := { name := "checkIndex", desc := "(II)V", sig := { parameters := [.int, .int], returnType := none }, accessFlags := 8, code := some k7c12 }
/-- java/lang/String -/
def k7 : Class := { plain "java/lang/String" (some 0) with
  accessFlags := 49
  interfaces := #[2, 3, 4, 5, 6]
  cf := some (fileOf pool7 10 #[.nestMembers #[1103]] #[{ accessFlags := 1, nameIndex := 5, descriptorIndex := 6, attributes := #[] }, { accessFlags := 1, nameIndex := 5, descriptorIndex := 1010, attributes := #[] }, { accessFlags := 1, nameIndex := 5, descriptorIndex := 1233, attributes := #[] }, { accessFlags := 1, nameIndex := 507, descriptorIndex := 334, attributes := #[] }, { accessFlags := 1, nameIndex := 497, descriptorIndex := 427, attributes := #[] }, { accessFlags := 9, nameIndex := 782, descriptorIndex := 783, attributes := #[] }, { accessFlags := 0, nameIndex := 532, descriptorIndex := 821, attributes := #[] }, { accessFlags := 2, nameIndex := 5, descriptorIndex := 29, attributes := #[] }, { accessFlags := 0, nameIndex := 5, descriptorIndex := 491, attributes := #[] }, { accessFlags := 0, nameIndex := 5, descriptorIndex := 211, attributes := #[] }, { accessFlags := 0, nameIndex := 17, descriptorIndex := 337, attributes := #[] }, { accessFlags := 0, nameIndex := 494, descriptorIndex := 142, attributes := #[] }, { accessFlags := 8, nameIndex := 501, descriptorIndex := 391, attributes := #[] }] 49 2 #[1106, 1108, 575, 1110, 1112] #[{ accessFlags := 18, nameIndex := 13, descriptorIndex := 14, attributes := #[] }, { accessFlags := 18, nameIndex := 17, descriptorIndex := 18, attributes := #[] }, { accessFlags := 2, nameIndex := 21, descriptorIndex := 22, attributes := #[] }, { accessFlags := 2, nameIndex := 25, descriptorIndex := 26, attributes := #[] }, { accessFlags := 26, nameIndex := 1116, descriptorIndex := 1117, attributes := #[] }, { accessFlags := 24, nameIndex := 40, descriptorIndex := 26, attributes := #[] }, { accessFlags := 26, nameIndex := 1101, descriptorIndex := 1102, attributes := #[] }, { accessFlags := 26, nameIndex := 1121, descriptorIndex := 1122, attributes := #[] }, { accessFlags := 25, nameIndex := 599, descriptorIndex := 600, attributes := #[] }, { accessFlags := 24, nameIndex := 1125, descriptorIndex := 18, attributes := #[] }, { accessFlags := 24, nameIndex := 1127, descriptorIndex := 18, attributes := #[] }])
  fields := #[{ name := "value", type := (.array .byte), accessFlags := 18, slot := 0, constantValue := 0 }, { name := "coder", type := .byte, accessFlags := 18, slot := 1, constantValue := 0 }, { name := "hash", type := .int, accessFlags := 2, slot := 2, constantValue := 0 }, { name := "hashIsZero", type := .boolean, accessFlags := 2, slot := 3, constantValue := 0 }, { name := "serialVersionUID", type := .long, accessFlags := 26, slot := 0, constantValue := 0 }, { name := "COMPACT_STRINGS", type := .boolean, accessFlags := 24, slot := 1, constantValue := 0 }, { name := "serialPersistentFields", type := (.array (.object "java/io/ObjectStreamField")), accessFlags := 26, slot := 2, constantValue := 0 }, { name := "REPL", type := .char, accessFlags := 26, slot := 3, constantValue := 0 }, { name := "CASE_INSENSITIVE_ORDER", type := (.object "java/util/Comparator"), accessFlags := 25, slot := 4, constantValue := 0 }, { name := "LATIN1", type := .byte, accessFlags := 24, slot := 5, constantValue := 0 }, { name := "UTF16", type := .byte, accessFlags := 24, slot := 6, constantValue := 0 }]
  methods := #[k7m0, k7m1, k7m2, k7m3, k7m4, k7m5, k7m6, k7m7, k7m8, k7m9, k7m10, k7m11, k7m12]
  instanceTypes := #[(.array .byte), .byte, .int, .boolean]
  staticTypes := #[.long, .boolean, (.array (.object "java/io/ObjectStreamField")), .char, (.object "java/util/Comparator"), .byte, .byte]
  resolved := Array.replicate 1451 none
  statics := some 0 }

def pool8 : Array CpInfo := pool [(1, .class_ 2), (0, u "java/lang/String"), (1, .class_ 6), (1, u "java/lang/Object"), (0, u "<init>"), (0, u "()V"), (0, .methodref 1 10), (0, .nameAndType 11 12), (0, u "checkIndex"), (0, u "(II)V"), (1, .class_ 16), (1, u "java/lang/StringLatin1"), (36, u "([BI)C"), (36, u "canEncode"), (14, u "(C)Z"), (15, u "$assertionsDisabled"), (0, u "Z"), (98, .class_ 223), (1, u "java/lang/StringLatin1$LinesSpliterator"), (28, u "charAt"), (127, u "toBytes"), (1, u "(C)[B"), (7, .class_ 391), (0, u "java/lang/StringLatin1$CharsSpliterator")] 3

def k8m0 : Method := { name := "<init>", desc := "()V", sig := { parameters := [], returnType := none }, accessFlags := 0, code := none }
def k8c1 : Code := { maxStack := 2, maxLocals := 2, code := jdk_43_method_2_code, exceptionTable := #[], attributes := #[] }
def k8m1 : Method := { name := "charAt", desc := "([BI)C", sig := { parameters := [(.array .byte), .int], returnType := some .char }, accessFlags := 9, code := some k8c1 }
def k8c2 : Code := { maxStack := 2, maxLocals := 1, code := jdk_43_method_3_code, exceptionTable := #[], attributes := #[] }
def k8m2 : Method := { name := "canEncode", desc := "(C)Z", sig := { parameters := [.char], returnType := some .boolean }, accessFlags := 9, code := some k8c2 }
def k8c3 : Code := { maxStack := 4, maxLocals := 1, code := jdk_43_method_46_code, exceptionTable := #[], attributes := #[] }
def k8m3 : Method := { name := "toBytes", desc := "(C)[B", sig := { parameters := [.char], returnType := some (.array .byte) }, accessFlags := 9, code := some k8c3 }
/-- java/lang/StringLatin1 -/
def k8 : Class := { plain "java/lang/StringLatin1" (some 0) with
  accessFlags := 48
  interfaces := #[]
  cf := some (fileOf pool8 14 #[.nestMembers #[390, 221]] #[{ accessFlags := 0, nameIndex := 7, descriptorIndex := 8, attributes := #[] }, { accessFlags := 9, nameIndex := 252, descriptorIndex := 53, attributes := #[] }, { accessFlags := 9, nameIndex := 90, descriptorIndex := 105, attributes := #[] }, { accessFlags := 9, nameIndex := 380, descriptorIndex := 382, attributes := #[] }] 48 4 #[] #[{ accessFlags := 4120, nameIndex := 121, descriptorIndex := 122, attributes := #[] }])
  fields := #[{ name := "$assertionsDisabled", type := .boolean, accessFlags := 4120, slot := 0, constantValue := 0 }]
  methods := #[k8m0, k8m1, k8m2, k8m3]
  instanceTypes := #[]
  staticTypes := #[.boolean]
  resolved := Array.replicate 395 none
  statics := none }

def pool9 : Array CpInfo := pool [(1, .methodref 2 3), (0, .class_ 4), (0, .nameAndType 5 6), (0, u "java/lang/Object"), (0, u "<init>"), (0, u "()V"), (0, .class_ 8), (0, u "java/lang/StringBuilder"), (0, .methodref 7 3), (0, .string 11), (0, u "http://"), (0, .methodref 7 13), (0, .nameAndType 14 15), (0, u "append"), (0, u "(Ljava/lang/String;)Ljava/lang/StringBuilder;"), (0, .methodref 7 17), (0, .nameAndType 18 19), (0, u "toString"), (0, u "()Ljava/lang/String;"), (0, .fieldref 21 22), (0, .class_ 23), (0, .nameAndType 24 25), (0, u "com/example/saga/saga/server/SurfaceUris"), (0, u "base"), (0, u "Ljava/lang/String;"), (2, u "linkTimeMap"), (0, u "(Ljava/lang/String;I)Ljava/lang/String;"), (0, .string 31), (0, u "/timemap/link/"), (0, .methodref 21 33), (0, .nameAndType 34 35), (0, u "pageNumber"), (0, u "(I)Ljava/lang/String;"), (21, .string 58), (0, u "/"), (3, .string 63), (0, u ""), (0, .methodref 7 65), (0, .nameAndType 14 66), (0, u "(I)Ljava/lang/StringBuilder;"), (0, u "LINK_TIMEMAP"), (1, u "JSON_TIMEMAP"), (0, u "TIMEGATE"), (0, u "MEMENTO"), (0, u "CAPTURES"), (2, u "(Ljava/lang/String;)V")] 11

def k9c0 : Code := { maxStack := 3, maxLocals := 2, code := prog_12_method_1_code, exceptionTable := #[], attributes := #[] }
def k9m0 : Method := { name := "<init>", desc := "(Ljava/lang/String;)V", sig := { parameters := [(.object "java/lang/String")], returnType := none }, accessFlags := 0, code := some k9c0 }
def k9c1 : Code := { maxStack := 2, maxLocals := 3, code := prog_12_method_3_code, exceptionTable := #[], attributes := #[] }
def k9m1 : Method := { name := "linkTimeMap", desc := "(Ljava/lang/String;I)Ljava/lang/String;", sig := { parameters := [(.object "java/lang/String"), .int], returnType := some (.object "java/lang/String") }, accessFlags := 0, code := some k9c1 }
def k9c2 : Code := { maxStack := 2, maxLocals := 1, code := prog_12_method_8_code, exceptionTable := #[], attributes := #[] }
def k9m2 : Method := { name := "pageNumber", desc := "(I)Ljava/lang/String;", sig := { parameters := [.int], returnType := some (.object "java/lang/String") }, accessFlags := 10, code := some k9c2 }
/-- com/example/saga/saga/server/SurfaceUris -/
def k9 : Class := { plain "com/example/saga/saga/server/SurfaceUris" (some 0) with
  accessFlags := 48
  interfaces := #[]
  cf := some (fileOf pool9 21 #[] #[{ accessFlags := 0, nameIndex := 5, descriptorIndex := 75, attributes := #[] }, { accessFlags := 0, nameIndex := 28, descriptorIndex := 29, attributes := #[] }, { accessFlags := 10, nameIndex := 34, descriptorIndex := 35, attributes := #[] }] 48 2 #[] #[{ accessFlags := 24, nameIndex := 67, descriptorIndex := 25, attributes := #[] }, { accessFlags := 24, nameIndex := 69, descriptorIndex := 25, attributes := #[] }, { accessFlags := 24, nameIndex := 70, descriptorIndex := 25, attributes := #[] }, { accessFlags := 24, nameIndex := 71, descriptorIndex := 25, attributes := #[] }, { accessFlags := 24, nameIndex := 72, descriptorIndex := 25, attributes := #[] }, { accessFlags := 18, nameIndex := 24, descriptorIndex := 25, attributes := #[] }])
  fields := #[{ name := "LINK_TIMEMAP", type := (.object "java/lang/String"), accessFlags := 24, slot := 0, constantValue := 0 }, { name := "JSON_TIMEMAP", type := (.object "java/lang/String"), accessFlags := 24, slot := 1, constantValue := 0 }, { name := "TIMEGATE", type := (.object "java/lang/String"), accessFlags := 24, slot := 2, constantValue := 0 }, { name := "MEMENTO", type := (.object "java/lang/String"), accessFlags := 24, slot := 3, constantValue := 0 }, { name := "CAPTURES", type := (.object "java/lang/String"), accessFlags := 24, slot := 4, constantValue := 0 }, { name := "base", type := (.object "java/lang/String"), accessFlags := 18, slot := 0, constantValue := 0 }]
  methods := #[k9m0, k9m1, k9m2]
  instanceTypes := #[(.object "java/lang/String")]
  staticTypes := #[(.object "java/lang/String"), (.object "java/lang/String"), (.object "java/lang/String"), (.object "java/lang/String"), (.object "java/lang/String")]
  resolved := Array.replicate 87 none
  statics := none }

def pool10 : Array CpInfo := pool [(1, .class_ 2), (0, u "java/lang/Appendable"), (0, .class_ 4), (0, u "java/lang/Object")] 9

/-- java/lang/Appendable -/
def k10 : Class := { plain "java/lang/Appendable" (some 0) with
  accessFlags := 1537
  interfaces := #[]
  cf := some (fileOf pool10 1 #[] #[] 1537 3 #[] #[])
  fields := #[]
  methods := #[]
  instanceTypes := #[]
  staticTypes := #[]
  resolved := Array.replicate 14 none
  statics := none }

def pool11 : Array CpInfo := pool [(1, .class_ 2), (0, u "java/lang/String"), (0, .methodref 4 5), (0, .class_ 6), (0, .nameAndType 7 8), (0, u "java/lang/Object"), (0, u "<init>"), (0, u "()V"), (1, .class_ 12), (1, u "java/lang/AbstractStringBuilder"), (0, u "EMPTYVALUE"), (0, u "[B"), (0, .fieldref 10 16), (0, .nameAndType 17 14), (0, u "value"), (0, .fieldref 1 19), (0, .nameAndType 20 21), (0, u "COMPACT_STRINGS"), (0, u "Z"), (0, .fieldref 10 23), (0, .nameAndType 24 25), (0, u "coder"), (0, u "B"), (6, .methodref 1 33), (0, .nameAndType 34 35), (0, u "length"), (0, u "()I"), (0, .class_ 37), (0, u "java/lang/Integer"), (1, .integer 2147483647), (0, .methodref 1 41), (0, .nameAndType 24 42), (0, u "()B"), (2, u "append"), (0, u "(Ljava/lang/String;)Ljava/lang/AbstractStringBuilder;"), (1, .class_ 49), (0, u "java/lang/CharSequence"), (19, u "(Ljava/lang/String;)V"), (5, u "maybeLatin1"), (3, .fieldref 10 80), (0, .nameAndType 81 82), (0, u "count"), (0, u "I"), (0, .methodref 10 84), (0, .nameAndType 85 86), (0, u "isLatin1"), (0, u "()Z"), (13, .methodref 10 101), (0, .nameAndType 102 103), (0, u "ensureCapacityInternal"), (0, u "(I)V"), (0, .methodref 10 105), (0, .nameAndType 106 107), (0, u "newCapacity"), (0, u "(I)I"), (0, .methodref 109 110), (0, .class_ 111), (0, .nameAndType 112 113), (0, u "java/util/Arrays"), (0, u "copyOf"), (0, u "([BI)[B"), (0, .methodref 115 116), (0, .class_ 117), (0, .nameAndType 118 119), (0, u "jdk/internal/util/ArraysSupport"), (0, u "newLength"), (0, u "(III)I"), (68, u "getChars"), (19, .methodref 10 209), (0, .nameAndType 210 211), (0, u "putStringAt"), (0, u "(ILjava/lang/String;)V"), (5, u "inflateIfNeededFor"), (2, .nameAndType 221 222), (0, u "getBytes"), (0, u "([BIB)V"), (22, .methodref 36 246), (0, .nameAndType 247 107), (0, u "stringSize"), (0, .methodref 36 249), (0, .nameAndType 188 250), (0, u "(II[B)I"), (146, .methodref 10 398), (0, .nameAndType 217 69), (0, .methodref 1 220), (3, u "()[B"), (40, .class_ 445), (0, u "java/lang/Appendable"), (65, u "(I)Ljava/lang/AbstractStringBuilder;"), (40, u "getValue")] 56

def k11m0 : Method := { name := "<init>", desc := "()V", sig := { parameters := [], returnType := none }, accessFlags := 0, code := none }
def k11c1 : Code := { maxStack := 2, maxLocals := 2, code := jdk_68_method_2_code, exceptionTable := #[], attributes := #[] }
def k11m1 : Method := { name := "<init>", desc := "(I)V", sig := { parameters := [.int], returnType := none }, accessFlags := 0, code := some k11c1 }
def k11c2 : Code := { maxStack := 1, maxLocals := 1, code := jdk_68_method_6_code, exceptionTable := #[], attributes := #[] }
def k11m2 : Method := { name := "length", desc := "()I", sig := { parameters := [], returnType := some .int }, accessFlags := 1, code := some k11c2 }
def k11c3 : Code := { maxStack := 4, maxLocals := 3, code := jdk_68_method_9_code, exceptionTable := #[], attributes := #[] }
def k11m3 : Method := { name := "ensureCapacityInternal", desc := "(I)V", sig := { parameters := [.int], returnType := none }, accessFlags := 2, code := some k11c3 }
def k11c4 : Code := { maxStack := 5, maxLocals := 6, code := jdk_68_method_10_code, exceptionTable := #[], attributes := #[] }
def k11m4 : Method := { name := "newCapacity", desc := "(I)I", sig := { parameters := [.int], returnType := some .int }, accessFlags := 2, code := some k11c4 }
def k11c5 : Code := { maxStack := 3, maxLocals := 3, code := jdk_68_method_22_code, exceptionTable := #[], attributes := #[] }
def k11m5 : Method := { name := "append", desc := "(Ljava/lang/String;)Ljava/lang/AbstractStringBuilder;", sig := { parameters := [(.object "java/lang/String")], returnType := some (.object "java/lang/AbstractStringBuilder") }, accessFlags := 1, code := some k11c5 }
def k11c6 : Code := { maxStack := 4, maxLocals := 4, code := jdk_68_method_32_code, exceptionTable := #[], attributes := #[] }
def k11m6 : Method := { name := "append", desc := "(I)Ljava/lang/AbstractStringBuilder;", sig := { parameters := [.int], returnType := some (.object "java/lang/AbstractStringBuilder") }, accessFlags := 1, code := some k11c6 }
def k11c7 : Code := { maxStack := 1, maxLocals := 1, code := jdk_68_method_64_code, exceptionTable := #[], attributes := #[] }
def k11m7 : Method := { name := "getValue", desc := "()[B", sig := { parameters := [], returnType := some (.array .byte) }, accessFlags := 16, code := some k11c7 }
def k11c8 : Code := { maxStack := 1, maxLocals := 1, code := jdk_68_method_68_code, exceptionTable := #[], attributes := #[] }
def k11m8 : Method := { name := "isLatin1", desc := "()Z", sig := { parameters := [], returnType := some .boolean }, accessFlags := 16, code := some k11c8 }
def k11c9 : Code := { maxStack := 2, maxLocals := 2, code := jdk_68_method_71_code, exceptionTable := #[], attributes := #[] }
def k11m9 : Method := { name := "inflateIfNeededFor", desc := "(Ljava/lang/String;)V", sig := { parameters := [(.object "java/lang/String")], returnType := none }, accessFlags := 2, code := some k11c9 }
def k11c10 : Code := { maxStack := 4, maxLocals := 3, code := jdk_68_method_73_code, exceptionTable := #[], attributes := #[] }
def k11m10 : Method := { name := "putStringAt", desc := "(ILjava/lang/String;)V", sig := { parameters := [.int, (.object "java/lang/String")], returnType := none }, accessFlags := 2, code := some k11c10 }
/-- java/lang/AbstractStringBuilder -/
def k11 : Class := { plain "java/lang/AbstractStringBuilder" (some 0) with
  accessFlags := 1056
  interfaces := #[10, 4]
  cf := some (fileOf pool11 10 #[] #[{ accessFlags := 0, nameIndex := 7, descriptorIndex := 8, attributes := #[] }, { accessFlags := 0, nameIndex := 7, descriptorIndex := 103, attributes := #[] }, { accessFlags := 1, nameIndex := 34, descriptorIndex := 35, attributes := #[] }, { accessFlags := 2, nameIndex := 102, descriptorIndex := 103, attributes := #[] }, { accessFlags := 2, nameIndex := 106, descriptorIndex := 107, attributes := #[] }, { accessFlags := 1, nameIndex := 45, descriptorIndex := 46, attributes := #[] }, { accessFlags := 1, nameIndex := 45, descriptorIndex := 511, attributes := #[] }, { accessFlags := 16, nameIndex := 552, descriptorIndex := 403, attributes := #[] }, { accessFlags := 16, nameIndex := 85, descriptorIndex := 86, attributes := #[] }, { accessFlags := 2, nameIndex := 217, descriptorIndex := 69, attributes := #[] }, { accessFlags := 2, nameIndex := 210, descriptorIndex := 211, attributes := #[] }] 1056 4 #[444, 48] #[{ accessFlags := 0, nameIndex := 17, descriptorIndex := 14, attributes := #[] }, { accessFlags := 0, nameIndex := 24, descriptorIndex := 25, attributes := #[] }, { accessFlags := 0, nameIndex := 75, descriptorIndex := 21, attributes := #[] }, { accessFlags := 0, nameIndex := 81, descriptorIndex := 82, attributes := #[] }, { accessFlags := 26, nameIndex := 13, descriptorIndex := 14, attributes := #[] }])
  fields := #[{ name := "value", type := (.array .byte), accessFlags := 0, slot := 0, constantValue := 0 }, { name := "coder", type := .byte, accessFlags := 0, slot := 1, constantValue := 0 }, { name := "maybeLatin1", type := .boolean, accessFlags := 0, slot := 2, constantValue := 0 }, { name := "count", type := .int, accessFlags := 0, slot := 3, constantValue := 0 }, { name := "EMPTYVALUE", type := (.array .byte), accessFlags := 26, slot := 0, constantValue := 0 }]
  methods := #[k11m0, k11m1, k11m2, k11m3, k11m4, k11m5, k11m6, k11m7, k11m8, k11m9, k11m10]
  instanceTypes := #[(.array .byte), .byte, .boolean, .int]
  staticTypes := #[(.array .byte)]
  resolved := Array.replicate 609 none
  statics := none }

def pool12 : Array CpInfo := pool [(1, .methodref 2 3), (0, .class_ 4), (0, .nameAndType 5 6), (0, u "java/lang/AbstractStringBuilder"), (0, u "<init>"), (0, u "(I)V"), (11, .class_ 20), (1, u "java/lang/String"), (3, .class_ 26), (1, u "java/lang/StringBuilder"), (0, u "append"), (0, u "(Ljava/lang/String;)Ljava/lang/StringBuilder;"), (0, .methodref 2 30), (0, .nameAndType 27 31), (0, u "(Ljava/lang/String;)Ljava/lang/AbstractStringBuilder;"), (21, .methodref 2 54), (0, .nameAndType 27 55), (0, u "(I)Ljava/lang/AbstractStringBuilder;"), (81, .methodref 18 138), (0, .nameAndType 5 139), (0, u "(Ljava/lang/StringBuilder;)V"), (5, u "()V"), (10, u "()I"), (111, u "(I)Ljava/lang/StringBuilder;"), (74, .methodref 2 344), (0, .nameAndType 345 156), (0, u "length"), (3, .class_ 350), (0, u "java/lang/Appendable"), (0, .class_ 352), (0, u "java/io/Serializable"), (0, .class_ 354), (0, u "java/lang/Comparable"), (0, .class_ 356), (0, u "java/lang/CharSequence"), (0, u "serialVersionUID"), (0, u "J"), (40, u "toString"), (0, u "()Ljava/lang/String;")] 21

def k12c0 : Code := { maxStack := 2, maxLocals := 1, code := jdk_67_method_1_code, exceptionTable := #[], attributes := #[] }
def k12m0 : Method := { name := "<init>", desc := "()V", sig := { parameters := [], returnType := none }, accessFlags := 1, code := some k12c0 }
def k12c1 : Code := { maxStack := 2, maxLocals := 2, code := jdk_67_method_7_code, exceptionTable := #[], attributes := #[] }
def k12m1 : Method := { name := "append", desc := "(Ljava/lang/String;)Ljava/lang/StringBuilder;", sig := { parameters := [(.object "java/lang/String")], returnType := some (.object "java/lang/StringBuilder") }, accessFlags := 1, code := some k12c1 }
def k12c2 : Code := { maxStack := 2, maxLocals := 2, code := jdk_67_method_15_code, exceptionTable := #[], attributes := #[] }
def k12m2 : Method := { name := "append", desc := "(I)Ljava/lang/StringBuilder;", sig := { parameters := [.int], returnType := some (.object "java/lang/StringBuilder") }, accessFlags := 1, code := some k12c2 }
def k12c3 : Code := { maxStack := 3, maxLocals := 1, code := jdk_67_method_42_code, exceptionTable := #[], attributes := #[] }
def k12m3 : Method := { name := "toString", desc := "()Ljava/lang/String;", sig := { parameters := [], returnType := some (.object "java/lang/String") }, accessFlags := 1, code := some k12c3 }
def k12c4 : Code := { maxStack := 1, maxLocals := 1, code := jdk_67_method_93_code, exceptionTable := #[], attributes := #[] }
def k12m4 : Method := { name := "length", desc := "()I", sig := { parameters := [], returnType := some .int }, accessFlags := 4161, code := some k12c4 }
/-- java/lang/StringBuilder -/
def k12 : Class := { plain "java/lang/StringBuilder" (some 11) with
  accessFlags := 49
  interfaces := #[10, 2, 3, 4]
  cf := some (fileOf pool12 24 #[] #[{ accessFlags := 1, nameIndex := 5, descriptorIndex := 145, attributes := #[] }, { accessFlags := 1, nameIndex := 27, descriptorIndex := 28, attributes := #[] }, { accessFlags := 1, nameIndex := 27, descriptorIndex := 268, attributes := #[] }, { accessFlags := 1, nameIndex := 399, descriptorIndex := 400, attributes := #[] }, { accessFlags := 4161, nameIndex := 345, descriptorIndex := 156, attributes := #[] }] 49 2 #[349, 351, 353, 355] #[{ accessFlags := 24, nameIndex := 357, descriptorIndex := 358, attributes := #[] }])
  fields := #[{ name := "serialVersionUID", type := .long, accessFlags := 24, slot := 0, constantValue := 0 }]
  methods := #[k12m0, k12m1, k12m2, k12m3, k12m4]
  instanceTypes := #[(.array .byte), .byte, .boolean, .int]
  staticTypes := #[.long]
  resolved := Array.replicate 422 none
  statics := none }

def pool13 : Array CpInfo := pool [(2, .class_ 4), (1, u "java/lang/Object"), (0, u "<init>"), (0, u "()V"), (1, .class_ 10), (1, u "java/lang/System"), (0, u "allowSecurityManager"), (0, u "I"), (16, u "cons"), (0, u "Ljava/io/Console;"), (77, .class_ 110), (1, u "java/lang/System$CallersHolder"), (43, u "initialErrStream"), (0, u "Ljava/io/PrintStream;"), (19, u "security"), (0, u "Ljava/lang/SecurityManager;"), (31, .class_ 209), (0, u "java/lang/System$1"), (7, u "props"), (0, u "Ljava/util/Properties;"), (2, u "lineSeparator"), (0, u "Ljava/lang/String;"), (96, .class_ 321), (1, u "java/lang/System$LoggerFinder"), (5, .class_ 328), (0, u "java/lang/System$Logger"), (67, u "err"), (2, u "out"), (91, u "notSupportedJnuEncoding"), (15, u "in"), (17, u "initialIn"), (0, u "Ljava/io/InputStream;"), (35, u "bootLayer"), (0, u "Ljava/lang/ModuleLayer;"), (99, .class_ 664), (0, u "java/lang/System$2"), (9, u "NEVER"), (2, u "MAYBE"), (49, u "arraycopy"), (0, u "(Ljava/lang/Object;ILjava/lang/Object;II)V"), (72, .class_ 802), (0, u "java/lang/System$Logger$Level")] 31

def k13m0 : Method := { name := "<init>", desc := "()V", sig := { parameters := [], returnType := none }, accessFlags := 2, code := none }
def k13m1 : Method := { name := "arraycopy", desc := "(Ljava/lang/Object;ILjava/lang/Object;II)V", sig := { parameters := [(.object "java/lang/Object"), .int, (.object "java/lang/Object"), .int, .int], returnType := none }, accessFlags := 265, code := none }
/-- java/lang/System -/
def k13 : Class := { plain "java/lang/System" (some 0) with
  accessFlags := 49
  interfaces := #[]
  cf := some (fileOf pool13 8 #[.nestMembers #[319, 327, 801, 108, 663, 208]] #[{ accessFlags := 2, nameIndex := 5, descriptorIndex := 6, attributes := #[] }, { accessFlags := 265, nameIndex := 727, descriptorIndex := 728, attributes := #[] }] 49 2 #[] #[{ accessFlags := 25, nameIndex := 507, descriptorIndex := 526, attributes := #[] }, { accessFlags := 25, nameIndex := 399, descriptorIndex := 155, attributes := #[] }, { accessFlags := 25, nameIndex := 396, descriptorIndex := 155, attributes := #[] }, { accessFlags := 10, nameIndex := 525, descriptorIndex := 526, attributes := #[] }, { accessFlags := 26, nameIndex := 674, descriptorIndex := 12, attributes := #[] }, { accessFlags := 26, nameIndex := 677, descriptorIndex := 12, attributes := #[] }, { accessFlags := 10, nameIndex := 11, descriptorIndex := 12, attributes := #[] }, { accessFlags := 74, nameIndex := 175, descriptorIndex := 176, attributes := #[] }, { accessFlags := 10, nameIndex := 491, descriptorIndex := 222, attributes := #[] }, { accessFlags := 74, nameIndex := 29, descriptorIndex := 30, attributes := #[] }, { accessFlags := 74, nameIndex := 154, descriptorIndex := 155, attributes := #[] }, { accessFlags := 10, nameIndex := 217, descriptorIndex := 218, attributes := #[] }, { accessFlags := 10, nameIndex := 221, descriptorIndex := 222, attributes := #[] }, { accessFlags := 8, nameIndex := 562, descriptorIndex := 563, attributes := #[] }])
  fields := #[{ name := "in", type := (.object "java/io/InputStream"), accessFlags := 25, slot := 0, constantValue := 0 }, { name := "out", type := (.object "java/io/PrintStream"), accessFlags := 25, slot := 1, constantValue := 0 }, { name := "err", type := (.object "java/io/PrintStream"), accessFlags := 25, slot := 2, constantValue := 0 }, { name := "initialIn", type := (.object "java/io/InputStream"), accessFlags := 10, slot := 3, constantValue := 0 }, { name := "NEVER", type := .int, accessFlags := 26, slot := 4, constantValue := 0 }, { name := "MAYBE", type := .int, accessFlags := 26, slot := 5, constantValue := 0 }, { name := "allowSecurityManager", type := .int, accessFlags := 10, slot := 6, constantValue := 0 }, { name := "security", type := (.object "java/lang/SecurityManager"), accessFlags := 74, slot := 7, constantValue := 0 }, { name := "notSupportedJnuEncoding", type := (.object "java/lang/String"), accessFlags := 10, slot := 8, constantValue := 0 }, { name := "cons", type := (.object "java/io/Console"), accessFlags := 74, slot := 9, constantValue := 0 }, { name := "initialErrStream", type := (.object "java/io/PrintStream"), accessFlags := 74, slot := 10, constantValue := 0 }, { name := "props", type := (.object "java/util/Properties"), accessFlags := 10, slot := 11, constantValue := 0 }, { name := "lineSeparator", type := (.object "java/lang/String"), accessFlags := 10, slot := 12, constantValue := 0 }, { name := "bootLayer", type := (.object "java/lang/ModuleLayer"), accessFlags := 8, slot := 13, constantValue := 0 }]
  methods := #[k13m0, k13m1]
  instanceTypes := #[]
  staticTypes := #[(.object "java/io/InputStream"), (.object "java/io/PrintStream"), (.object "java/io/PrintStream"), (.object "java/io/InputStream"), .int, .int, .int, (.object "java/lang/SecurityManager"), (.object "java/lang/String"), (.object "java/io/Console"), (.object "java/io/PrintStream"), (.object "java/util/Properties"), (.object "java/lang/String"), (.object "java/lang/ModuleLayer")]
  resolved := Array.replicate 834 none
  statics := none }

def pool14 : Array CpInfo := pool [(2, .class_ 4), (1, u "java/lang/Object"), (0, u "<init>"), (0, u "()V"), (7, .class_ 16), (1, u "java/util/Arrays"), (57, .class_ 76), (1, u "java/util/Arrays$NaturalOrder"), (32, u "()Ljava/lang/Object;"), (3, .class_ 115), (1, u "java/util/Arrays$LegacyMergeSort"), (1, u "Z"), (10, .nameAndType 129 109), (0, u "clone"), (9, u "copyOfRange"), (10, .methodref 151 152), (0, .class_ 153), (0, .nameAndType 154 155), (0, u "java/lang/System"), (0, u "arraycopy"), (0, u "(Ljava/lang/Object;ILjava/lang/Object;II)V"), (146, u "copyOf"), (1, .methodref 305 306), (0, .class_ 307), (0, .nameAndType 308 309), (0, u "java/lang/Math"), (0, u "min"), (0, u "(II)I"), (0, .methodref 311 128), (0, .class_ 312), (0, u "[B"), (26, .methodref 14 340), (0, .nameAndType 341 342), (0, u "copyOfRangeByte"), (0, u "([BII)[B"), (0, .methodref 14 344), (0, .nameAndType 345 346), (0, u "checkLength"), (0, u "(II)V"), (28, .class_ 376), (0, u "java/util/Arrays$ArrayList"), (68, u "$assertionsDisabled"), (269, u "MIN_ARRAY_SORT_GRAN"), (0, u "I"), (2, u "INSERTIONSORT_THRESHOLD"), (149, u "([BI)[B"), (105, .class_ 976), (0, u "java/util/Arrays$ArrayItr")] 52

def k14m0 : Method := { name := "<init>", desc := "()V", sig := { parameters := [], returnType := none }, accessFlags := 2, code := none }
def k14c1 : Code := { maxStack := 6, maxLocals := 3, code := jdk_65_method_121_code, exceptionTable := #[], attributes := #[] }
def k14m1 : Method := { name := "copyOf", desc := "([BI)[B", sig := { parameters := [(.array .byte), .int], returnType := some (.array .byte) }, accessFlags := 9, code := some k14c1 }
def k14c2 : Code := { maxStack := 4, maxLocals := 2, code := jdk_65_method_131_code, exceptionTable := #[], attributes := #[] }
def k14m2 : Method := { name := "checkLength", desc := "(II)V", sig := { parameters := [.int, .int], returnType := none }, accessFlags := 10, code := some k14c2 }
def k14c3 : Code := { maxStack := 3, maxLocals := 3, code := jdk_65_method_132_code, exceptionTable := #[], attributes := #[] }
def k14m3 : Method := { name := "copyOfRange", desc := "([BII)[B", sig := { parameters := [(.array .byte), .int, .int], returnType := some (.array .byte) }, accessFlags := 9, code := some k14c3 }
def k14c4 : Code := { maxStack := 6, maxLocals := 5, code := jdk_65_method_133_code, exceptionTable := #[], attributes := #[] }
def k14m4 : Method := { name := "copyOfRangeByte", desc := "([BII)[B", sig := { parameters := [(.array .byte), .int, .int], returnType := some (.array .byte) }, accessFlags := 10, code := some k14c4 }
/-- java/util/Arrays -/
def k14 : Class := { plain "java/util/Arrays" (some 0) with
  accessFlags := 49
  interfaces := #[]
  cf := some (fileOf pool14 14 #[.nestMembers #[975, 375, 113, 74]] #[{ accessFlags := 2, nameIndex := 5, descriptorIndex := 6, attributes := #[] }, { accessFlags := 9, nameIndex := 302, descriptorIndex := 869, attributes := #[] }, { accessFlags := 10, nameIndex := 345, descriptorIndex := 346, attributes := #[] }, { accessFlags := 9, nameIndex := 139, descriptorIndex := 342, attributes := #[] }, { accessFlags := 10, nameIndex := 341, descriptorIndex := 342, attributes := #[] }] 49 2 #[] #[{ accessFlags := 26, nameIndex := 715, descriptorIndex := 716, attributes := #[] }, { accessFlags := 26, nameIndex := 719, descriptorIndex := 716, attributes := #[] }, { accessFlags := 4120, nameIndex := 445, descriptorIndex := 117, attributes := #[] }])
  fields := #[{ name := "MIN_ARRAY_SORT_GRAN", type := .int, accessFlags := 26, slot := 0, constantValue := 0 }, { name := "INSERTIONSORT_THRESHOLD", type := .int, accessFlags := 26, slot := 1, constantValue := 0 }, { name := "$assertionsDisabled", type := .boolean, accessFlags := 4120, slot := 2, constantValue := 0 }]
  methods := #[k14m0, k14m1, k14m2, k14m3, k14m4]
  instanceTypes := #[]
  staticTypes := #[.int, .int, .boolean]
  resolved := Array.replicate 1029 none
  statics := none }

def pool15 : Array CpInfo := pool [(1, .class_ 2), (0, u "java/lang/Math"), (1, .class_ 6), (1, u "java/lang/Object"), (0, u "<init>"), (0, u "()V"), (89, .class_ 100), (1, u "java/lang/Math$RandomNumberGeneratorHolder"), (71, u "negativeZeroFloatBits"), (0, u "J"), (2, u "negativeZeroDoubleBits"), (21, u "max"), (2, u "min"), (43, u "$assertionsDisabled"), (0, u "Z"), (88, u "(II)I"), (2, u "twoToTheDoubleScaleDown"), (0, u "D"), (4, u "twoToTheDoubleScaleUp"), (9, u "E"), (3, u "PI"), (2, u "TAU"), (2, u "DEGREES_TO_RADIANS"), (0, u "RADIANS_TO_DEGREES")] 94

def k15m0 : Method := { name := "<init>", desc := "()V", sig := { parameters := [], returnType := none }, accessFlags := 2, code := none }
def k15c1 : Code := { maxStack := 2, maxLocals := 2, code := jdk_29_method_65_code, exceptionTable := #[], attributes := #[] }
def k15m1 : Method := { name := "max", desc := "(II)I", sig := { parameters := [.int, .int], returnType := some .int }, accessFlags := 9, code := some k15c1 }
def k15c2 : Code := { maxStack := 2, maxLocals := 2, code := jdk_29_method_69_code, exceptionTable := #[], attributes := #[] }
def k15m2 : Method := { name := "min", desc := "(II)I", sig := { parameters := [.int, .int], returnType := some .int }, accessFlags := 9, code := some k15c2 }
/-- java/lang/Math -/
def k15 : Class := { plain "java/lang/Math" (some 0) with
  accessFlags := 49
  interfaces := #[]
  cf := some (fileOf pool15 1 #[.nestMembers #[98]] #[{ accessFlags := 2, nameIndex := 7, descriptorIndex := 8, attributes := #[] }, { accessFlags := 9, nameIndex := 198, descriptorIndex := 335, attributes := #[] }, { accessFlags := 9, nameIndex := 201, descriptorIndex := 335, attributes := #[] }] 49 4 #[] #[{ accessFlags := 25, nameIndex := 354, descriptorIndex := 339, attributes := #[] }, { accessFlags := 25, nameIndex := 358, descriptorIndex := 339, attributes := #[] }, { accessFlags := 25, nameIndex := 361, descriptorIndex := 339, attributes := #[] }, { accessFlags := 26, nameIndex := 364, descriptorIndex := 339, attributes := #[] }, { accessFlags := 26, nameIndex := 365, descriptorIndex := 339, attributes := #[] }, { accessFlags := 26, nameIndex := 172, descriptorIndex := 173, attributes := #[] }, { accessFlags := 26, nameIndex := 176, descriptorIndex := 173, attributes := #[] }, { accessFlags := 8, nameIndex := 344, descriptorIndex := 339, attributes := #[] }, { accessFlags := 8, nameIndex := 338, descriptorIndex := 339, attributes := #[] }, { accessFlags := 4120, nameIndex := 245, descriptorIndex := 246, attributes := #[] }])
  fields := #[{ name := "E", type := .double, accessFlags := 25, slot := 0, constantValue := 0 }, { name := "PI", type := .double, accessFlags := 25, slot := 1, constantValue := 0 }, { name := "TAU", type := .double, accessFlags := 25, slot := 2, constantValue := 0 }, { name := "DEGREES_TO_RADIANS", type := .double, accessFlags := 26, slot := 3, constantValue := 0 }, { name := "RADIANS_TO_DEGREES", type := .double, accessFlags := 26, slot := 4, constantValue := 0 }, { name := "negativeZeroFloatBits", type := .long, accessFlags := 26, slot := 5, constantValue := 0 }, { name := "negativeZeroDoubleBits", type := .long, accessFlags := 26, slot := 6, constantValue := 0 }, { name := "twoToTheDoubleScaleUp", type := .double, accessFlags := 8, slot := 7, constantValue := 0 }, { name := "twoToTheDoubleScaleDown", type := .double, accessFlags := 8, slot := 8, constantValue := 0 }, { name := "$assertionsDisabled", type := .boolean, accessFlags := 4120, slot := 9, constantValue := 0 }]
  methods := #[k15m0, k15m1, k15m2]
  instanceTypes := #[]
  staticTypes := #[.double, .double, .double, .double, .double, .long, .long, .double, .double, .boolean]
  resolved := Array.replicate 460 none
  statics := none }

def pool16 : Array CpInfo := pool [(9, u "<init>"), (6, .class_ 18), (1, u "java/lang/Object"), (0, u "()V"), (1, .class_ 23), (1, u "jdk/internal/util/ArraysSupport"), (0, u "LOG2_ARRAY_LONG_INDEX_SCALE"), (0, u "I"), (2, u "U"), (0, u "Ljdk/internal/misc/Unsafe;"), (8, u "BIG_ENDIAN"), (0, u "Z"), (8, u "LOG2_BYTE_BIT_SIZE"), (4, u "LOG2_ARRAY_INT_INDEX_SCALE"), (54, u "JLA"), (0, u "Ljdk/internal/access/JavaLangAccess;"), (11, u "LOG2_ARRAY_BOOLEAN_INDEX_SCALE"), (9, u "LOG2_ARRAY_BYTE_INDEX_SCALE"), (5, u "LOG2_ARRAY_CHAR_INDEX_SCALE"), (5, u "LOG2_ARRAY_SHORT_INDEX_SCALE"), (18, u "LOG2_ARRAY_FLOAT_INDEX_SCALE"), (24, u "LOG2_ARRAY_DOUBLE_INDEX_SCALE"), (6, .methodref 195 196), (0, .class_ 197), (0, .nameAndType 198 199), (0, u "java/lang/Math"), (0, u "max"), (0, u "(II)I"), (0, .integer 2147483639), (76, u "T_BOOLEAN"), (2, u "T_CHAR"), (1, u "T_FLOAT"), (1, u "T_DOUBLE"), (1, u "T_BYTE"), (1, u "T_SHORT"), (1, u "T_INT"), (1, u "T_LONG"), (1, u "SOFT_MAX_ARRAY_LENGTH"), (56, u "newLength"), (0, u "(III)I")] 25

def k16m0 : Method := { name := "<init>", desc := "()V", sig := { parameters := [], returnType := none }, accessFlags := 2, code := none }
def k16c1 : Code := { maxStack := 3, maxLocals := 4, code := jdk_48_method_27_code, exceptionTable := #[], attributes := #[] }
def k16m1 : Method := { name := "newLength", desc := "(III)I", sig := { parameters := [.int, .int, .int], returnType := some .int }, accessFlags := 9, code := some k16c1 }
/-- jdk/internal/util/ArraysSupport -/
def k16 : Class := { plain "jdk/internal/util/ArraysSupport" (some 0) with
  accessFlags := 33
  interfaces := #[]
  cf := some (fileOf pool16 21 #[] #[{ accessFlags := 2, nameIndex := 9, descriptorIndex := 19, attributes := #[] }, { accessFlags := 9, nameIndex := 351, descriptorIndex := 352, attributes := #[] }] 33 16 #[] #[{ accessFlags := 24, nameIndex := 28, descriptorIndex := 29, attributes := #[] }, { accessFlags := 26, nameIndex := 38, descriptorIndex := 39, attributes := #[] }, { accessFlags := 25, nameIndex := 121, descriptorIndex := 25, attributes := #[] }, { accessFlags := 25, nameIndex := 131, descriptorIndex := 25, attributes := #[] }, { accessFlags := 25, nameIndex := 137, descriptorIndex := 25, attributes := #[] }, { accessFlags := 25, nameIndex := 143, descriptorIndex := 25, attributes := #[] }, { accessFlags := 25, nameIndex := 53, descriptorIndex := 25, attributes := #[] }, { accessFlags := 25, nameIndex := 24, descriptorIndex := 25, attributes := #[] }, { accessFlags := 25, nameIndex := 162, descriptorIndex := 25, attributes := #[] }, { accessFlags := 25, nameIndex := 187, descriptorIndex := 25, attributes := #[] }, { accessFlags := 26, nameIndex := 48, descriptorIndex := 25, attributes := #[] }, { accessFlags := 25, nameIndex := 277, descriptorIndex := 25, attributes := #[] }, { accessFlags := 25, nameIndex := 280, descriptorIndex := 25, attributes := #[] }, { accessFlags := 25, nameIndex := 282, descriptorIndex := 25, attributes := #[] }, { accessFlags := 25, nameIndex := 284, descriptorIndex := 25, attributes := #[] }, { accessFlags := 25, nameIndex := 286, descriptorIndex := 25, attributes := #[] }, { accessFlags := 25, nameIndex := 288, descriptorIndex := 25, attributes := #[] }, { accessFlags := 25, nameIndex := 290, descriptorIndex := 25, attributes := #[] }, { accessFlags := 25, nameIndex := 292, descriptorIndex := 25, attributes := #[] }, { accessFlags := 26, nameIndex := 108, descriptorIndex := 109, attributes := #[] }, { accessFlags := 25, nameIndex := 294, descriptorIndex := 25, attributes := #[] }])
  fields := #[{ name := "U", type := (.object "jdk/internal/misc/Unsafe"), accessFlags := 24, slot := 0, constantValue := 0 }, { name := "BIG_ENDIAN", type := .boolean, accessFlags := 26, slot := 1, constantValue := 0 }, { name := "LOG2_ARRAY_BOOLEAN_INDEX_SCALE", type := .int, accessFlags := 25, slot := 2, constantValue := 0 }, { name := "LOG2_ARRAY_BYTE_INDEX_SCALE", type := .int, accessFlags := 25, slot := 3, constantValue := 0 }, { name := "LOG2_ARRAY_CHAR_INDEX_SCALE", type := .int, accessFlags := 25, slot := 4, constantValue := 0 }, { name := "LOG2_ARRAY_SHORT_INDEX_SCALE", type := .int, accessFlags := 25, slot := 5, constantValue := 0 }, { name := "LOG2_ARRAY_INT_INDEX_SCALE", type := .int, accessFlags := 25, slot := 6, constantValue := 0 }, { name := "LOG2_ARRAY_LONG_INDEX_SCALE", type := .int, accessFlags := 25, slot := 7, constantValue := 0 }, { name := "LOG2_ARRAY_FLOAT_INDEX_SCALE", type := .int, accessFlags := 25, slot := 8, constantValue := 0 }, { name := "LOG2_ARRAY_DOUBLE_INDEX_SCALE", type := .int, accessFlags := 25, slot := 9, constantValue := 0 }, { name := "LOG2_BYTE_BIT_SIZE", type := .int, accessFlags := 26, slot := 10, constantValue := 0 }, { name := "T_BOOLEAN", type := .int, accessFlags := 25, slot := 11, constantValue := 0 }, { name := "T_CHAR", type := .int, accessFlags := 25, slot := 12, constantValue := 0 }, { name := "T_FLOAT", type := .int, accessFlags := 25, slot := 13, constantValue := 0 }, { name := "T_DOUBLE", type := .int, accessFlags := 25, slot := 14, constantValue := 0 }, { name := "T_BYTE", type := .int, accessFlags := 25, slot := 15, constantValue := 0 }, { name := "T_SHORT", type := .int, accessFlags := 25, slot := 16, constantValue := 0 }, { name := "T_INT", type := .int, accessFlags := 25, slot := 17, constantValue := 0 }, { name := "T_LONG", type := .int, accessFlags := 25, slot := 18, constantValue := 0 }, { name := "JLA", type := (.object "jdk/internal/access/JavaLangAccess"), accessFlags := 26, slot := 19, constantValue := 0 }, { name := "SOFT_MAX_ARRAY_LENGTH", type := .int, accessFlags := 25, slot := 20, constantValue := 0 }]
  methods := #[k16m0, k16m1]
  instanceTypes := #[]
  staticTypes := #[(.object "jdk/internal/misc/Unsafe"), .boolean, .int, .int, .int, .int, .int, .int, .int, .int, .int, .int, .int, .int, .int, .int, .int, .int, .int, (.object "jdk/internal/access/JavaLangAccess"), .int]
  resolved := Array.replicate 378 none
  statics := none }

def pool17 : Array CpInfo := pool [(2, .class_ 4), (1, u "java/lang/Object"), (0, u "<init>"), (0, u "()V"), (1, .class_ 10), (1, u "java/lang/Number"), (2, .class_ 14), (0, u "java/io/Serializable"), (0, u "serialVersionUID"), (0, u "J")] 20

def k17m0 : Method := { name := "<init>", desc := "()V", sig := { parameters := [], returnType := none }, accessFlags := 1, code := none }
/-- java/lang/Number -/
def k17 : Class := { plain "java/lang/Number" (some 0) with
  accessFlags := 1057
  interfaces := #[2]
  cf := some (fileOf pool17 8 #[] #[{ accessFlags := 1, nameIndex := 5, descriptorIndex := 6, attributes := #[] }] 1057 2 #[13] #[{ accessFlags := 26, nameIndex := 15, descriptorIndex := 16, attributes := #[] }])
  fields := #[{ name := "serialVersionUID", type := .long, accessFlags := 26, slot := 0, constantValue := 0 }]
  methods := #[k17m0]
  instanceTypes := #[]
  staticTypes := #[.long]
  resolved := Array.replicate 37 none
  statics := none }

def pool18 : Array CpInfo := pool [(1, .class_ 2), (0, u "java/lang/Integer"), (16, u "digits"), (0, u "[C"), (33, u "(I)I"), (19, u "stringSize"), (2, u "getChars"), (0, u "(II[B)I"), (4, .fieldref 1 84), (0, .nameAndType 85 86), (0, u "DigitOnes"), (0, u "[B"), (0, .fieldref 1 88), (0, .nameAndType 89 86), (0, u "DigitTens"), (99, .class_ 190), (0, u "java/lang/Integer$IntegerCache"), (3, u "I"), (8, .class_ 204), (0, u "java/lang/Number"), (2, u "value"), (94, u "TYPE"), (0, u "Ljava/lang/Class;"), (0, .class_ 305), (0, u "java/lang/Comparable"), (0, .class_ 307), (0, u "java/lang/constant/Constable"), (0, .class_ 309), (0, u "java/lang/constant/ConstantDesc"), (0, u "MIN_VALUE"), (1, u "MAX_VALUE"), (3, u "SIZE"), (1, u "BYTES"), (1, u "serialVersionUID"), (0, u "J")] 131

def k18c0 : Code := { maxStack := 4, maxLocals := 7, code := jdk_33_method_12_code, exceptionTable := #[], attributes := #[] }
def k18m0 : Method := { name := "getChars", desc := "(II[B)I", sig := { parameters := [.int, .int, (.array .byte)], returnType := some .int }, accessFlags := 8, code := some k18c0 }
def k18c1 : Code := { maxStack := 2, maxLocals := 4, code := jdk_33_method_13_code, exceptionTable := #[], attributes := #[] }
def k18m1 : Method := { name := "stringSize", desc := "(I)I", sig := { parameters := [.int], returnType := some .int }, accessFlags := 8, code := some k18c1 }
/-- java/lang/Integer -/
def k18 : Class := { plain "java/lang/Integer" (some 17) with
  accessFlags := 49
  interfaces := #[3, 5, 6]
  cf := some (fileOf pool18 1 #[.nestMembers #[189]] #[{ accessFlags := 8, nameIndex := 77, descriptorIndex := 78, attributes := #[] }, { accessFlags := 8, nameIndex := 74, descriptorIndex := 54, attributes := #[] }] 49 203 #[304, 306, 308] #[{ accessFlags := 25, nameIndex := 310, descriptorIndex := 194, attributes := #[] }, { accessFlags := 25, nameIndex := 312, descriptorIndex := 194, attributes := #[] }, { accessFlags := 25, nameIndex := 302, descriptorIndex := 303, attributes := #[] }, { accessFlags := 24, nameIndex := 19, descriptorIndex := 20, attributes := #[] }, { accessFlags := 24, nameIndex := 89, descriptorIndex := 86, attributes := #[] }, { accessFlags := 24, nameIndex := 85, descriptorIndex := 86, attributes := #[] }, { accessFlags := 18, nameIndex := 207, descriptorIndex := 194, attributes := #[] }, { accessFlags := 25, nameIndex := 316, descriptorIndex := 194, attributes := #[] }, { accessFlags := 25, nameIndex := 318, descriptorIndex := 194, attributes := #[] }, { accessFlags := 26, nameIndex := 320, descriptorIndex := 321, attributes := #[] }])
  fields := #[{ name := "MIN_VALUE", type := .int, accessFlags := 25, slot := 0, constantValue := 0 }, { name := "MAX_VALUE", type := .int, accessFlags := 25, slot := 1, constantValue := 0 }, { name := "TYPE", type := (.object "java/lang/Class"), accessFlags := 25, slot := 2, constantValue := 0 }, { name := "digits", type := (.array .char), accessFlags := 24, slot := 3, constantValue := 0 }, { name := "DigitTens", type := (.array .byte), accessFlags := 24, slot := 4, constantValue := 0 }, { name := "DigitOnes", type := (.array .byte), accessFlags := 24, slot := 5, constantValue := 0 }, { name := "value", type := .int, accessFlags := 18, slot := 0, constantValue := 0 }, { name := "SIZE", type := .int, accessFlags := 25, slot := 6, constantValue := 0 }, { name := "BYTES", type := .int, accessFlags := 25, slot := 7, constantValue := 0 }, { name := "serialVersionUID", type := .long, accessFlags := 26, slot := 8, constantValue := 0 }]
  methods := #[k18m0, k18m1]
  instanceTypes := #[.int]
  staticTypes := #[.int, .int, (.object "java/lang/Class"), (.array .char), (.array .byte), (.array .byte), .int, .int, .long]
  resolved := Array.replicate 453 none
  statics := some 1 }

def pool19 : Array CpInfo := pool [(2, .class_ 4), (1, u "java/lang/Object"), (0, u "<init>"), (0, u "()V"), (17, .class_ 26), (1, u "jdk/internal/util/Preconditions"), (6, u "checkIndex"), (21, .class_ 56), (0, u "jdk/internal/util/Preconditions$4"), (57, .class_ 115), (0, u "jdk/internal/util/Preconditions$1"), (7, u "SIOOBE_FORMATTER"), (0, u "Ljava/util/function/BiFunction;"), (0, .class_ 126), (0, u "jdk/internal/util/Preconditions$2"), (3, u "AIOOBE_FORMATTER"), (0, .class_ 132), (0, u "jdk/internal/util/Preconditions$3"), (3, u "IOOBE_FORMATTER"), (41, u "(IILjava/util/function/BiFunction;)I")] 15

def k19m0 : Method := { name := "<init>", desc := "()V", sig := { parameters := [], returnType := none }, accessFlags := 1, code := none }
def k19c1 : Code := { maxStack := 3, maxLocals := 3, code := jdk_41_method_11_code, exceptionTable := #[], attributes := #[] }
def k19m1 : Method := { name := "checkIndex", desc := "(IILjava/util/function/BiFunction;)I", sig := { parameters := [.int, .int, (.object "java/util/function/BiFunction")], returnType := some .int }, accessFlags := 9, code := some k19c1 }
/-- jdk/internal/util/Preconditions -/
def k19 : Class := { plain "jdk/internal/util/Preconditions" (some 0) with
  accessFlags := 33
  interfaces := #[]
  cf := some (fileOf pool19 24 #[.nestMembers #[55, 131, 125, 114]] #[{ accessFlags := 1, nameIndex := 5, descriptorIndex := 6, attributes := #[] }, { accessFlags := 9, nameIndex := 33, descriptorIndex := 178, attributes := #[] }] 33 2 #[] #[{ accessFlags := 25, nameIndex := 123, descriptorIndex := 124, attributes := #[] }, { accessFlags := 25, nameIndex := 130, descriptorIndex := 124, attributes := #[] }, { accessFlags := 25, nameIndex := 136, descriptorIndex := 124, attributes := #[] }])
  fields := #[{ name := "SIOOBE_FORMATTER", type := (.object "java/util/function/BiFunction"), accessFlags := 25, slot := 0, constantValue := 0 }, { name := "AIOOBE_FORMATTER", type := (.object "java/util/function/BiFunction"), accessFlags := 25, slot := 1, constantValue := 0 }, { name := "IOOBE_FORMATTER", type := (.object "java/util/function/BiFunction"), accessFlags := 25, slot := 2, constantValue := 0 }]
  methods := #[k19m0, k19m1]
  instanceTypes := #[]
  staticTypes := #[(.object "java/util/function/BiFunction"), (.object "java/util/function/BiFunction"), (.object "java/util/function/BiFunction")]
  resolved := Array.replicate 194 none
  statics := some 2 }

def pool20 : Array CpInfo := pool [(6, .class_ 8), (1, u "java/lang/Object"), (0, u "<init>"), (0, u "()V"), (1, .class_ 14), (1, u "java/lang/StringUTF16"), (31, u "$assertionsDisabled"), (0, u "Z"), (13, u "HI_BYTE_SHIFT"), (0, u "I"), (2, u "LO_BYTE_SHIFT"), (49, .methodref 12 116), (0, .nameAndType 117 118), (0, u "compress"), (0, u "([CI[BII)I"), (3, u "([CII)[B"), (138, u "coderFromArrayLen"), (0, u "([BI)B"), (106, .class_ 371), (1, u "java/lang/StringUTF16$LinesSpliterator"), (58, u "MAX_LENGTH"), (196, .class_ 628), (0, u "java/lang/StringUTF16$CodePointsSpliterator"), (0, .class_ 630), (0, u "java/lang/StringUTF16$CharsSpliterator")] 4

def k20m0 : Method := { name := "<init>", desc := "()V", sig := { parameters := [], returnType := none }, accessFlags := 0, code := none }
def k20c1 : Code := { maxStack := 2, maxLocals := 2, code := jdk_52_method_15_code, exceptionTable := #[], attributes := #[] }
def k20m1 : Method := { name := "coderFromArrayLen", desc := "([BI)B", sig := { parameters := [(.array .byte), .int], returnType := some .byte }, accessFlags := 8, code := some k20c1 }
def k20c2 : Code := { maxStack := 5, maxLocals := 6, code := jdk_52_method_16_code, exceptionTable := #[], attributes := #[] }
def k20m2 : Method := { name := "compress", desc := "([CII)[B", sig := { parameters := [(.array .char), .int, .int], returnType := some (.array .byte) }, accessFlags := 9, code := some k20c2 }
def k20c3 : Code := { maxStack := 3, maxLocals := 7, code := jdk_52_method_21_code, exceptionTable := #[], attributes := #[] }
def k20m3 : Method := { name := "compress", desc := "([CI[BII)I", sig := { parameters := [(.array .char), .int, (.array .byte), .int, .int], returnType := some .int }, accessFlags := 9, code := some k20c3 }
/-- java/lang/StringUTF16 -/
def k20 : Class := { plain "java/lang/StringUTF16" (some 0) with
  accessFlags := 48
  interfaces := #[]
  cf := some (fileOf pool20 12 #[.nestMembers #[627, 629, 369]] #[{ accessFlags := 0, nameIndex := 9, descriptorIndex := 10, attributes := #[] }, { accessFlags := 8, nameIndex := 261, descriptorIndex := 262, attributes := #[] }, { accessFlags := 9, nameIndex := 117, descriptorIndex := 122, attributes := #[] }, { accessFlags := 9, nameIndex := 117, descriptorIndex := 118, attributes := #[] }] 48 6 #[] #[{ accessFlags := 26, nameIndex := 61, descriptorIndex := 62, attributes := #[] }, { accessFlags := 26, nameIndex := 65, descriptorIndex := 62, attributes := #[] }, { accessFlags := 24, nameIndex := 430, descriptorIndex := 62, attributes := #[] }, { accessFlags := 4120, nameIndex := 46, descriptorIndex := 47, attributes := #[] }])
  fields := #[{ name := "HI_BYTE_SHIFT", type := .int, accessFlags := 26, slot := 0, constantValue := 0 }, { name := "LO_BYTE_SHIFT", type := .int, accessFlags := 26, slot := 1, constantValue := 0 }, { name := "MAX_LENGTH", type := .int, accessFlags := 24, slot := 2, constantValue := 0 }, { name := "$assertionsDisabled", type := .boolean, accessFlags := 4120, slot := 3, constantValue := 0 }]
  methods := #[k20m0, k20m1, k20m2, k20m3]
  instanceTypes := #[]
  staticTypes := #[.int, .int, .int, .boolean]
  resolved := Array.replicate 635 none
  statics := none }

def pool21 : Array CpInfo := pool [(1, .class_ 2), (0, u "java/lang/Cloneable"), (0, .class_ 4), (0, u "java/lang/Object")] 2

/-- java/lang/Cloneable -/
def k21 : Class := { plain "java/lang/Cloneable" (some 0) with
  accessFlags := 1537
  interfaces := #[]
  cf := some (fileOf pool21 1 #[] #[] 1537 3 #[] #[])
  fields := #[]
  methods := #[]
  instanceTypes := #[]
  staticTypes := #[]
  resolved := Array.replicate 7 none
  statics := none }

/-- the primitive byte -/
def k22 : Class := { plain "byte" none with kind := .primitive 'B', accessFlags := 0x411 }
/-- [B -/
def k23 : Class := { plain "[B" (some 0) with kind := .array 22 .byte, interfaces := #[21, 2], accessFlags := 1041 }

/-- the primitive char -/
def k24 : Class := { plain "char" none with kind := .primitive 'C', accessFlags := 0x411 }
/-- [C -/
def k25 : Class := { plain "[C" (some 0) with kind := .array 24 .char, interfaces := #[21, 2], accessFlags := 1041 }

/-- the primitive int -/
def k26 : Class := { plain "int" none with kind := .primitive 'I', accessFlags := 0x411 }
/-- [I -/
def k27 : Class := { plain "[I" (some 0) with kind := .array 26 .int, interfaces := #[21, 2], accessFlags := 1041 }

def heap : Heap := #[{ cls := 7, slots := #[.long 0, .int 1, .null, .int 0, .null, .int 0, .int 0], vm := .statics 7 },
  { cls := 18, slots := #[.int 0, .int 0, .null, .null, .ref 4, .ref 3, .int 0, .int 0, .long 0], vm := .statics 18 },
  { cls := 19, slots := #[.null, .null, .null], vm := .statics 19 },
  { cls := 23, slots := #[.int 48, .int 49, .int 50, .int 51, .int 52, .int 53, .int 54, .int 55, .int 56, .int 57, .int 48, .int 49, .int 50, .int 51, .int 52, .int 53, .int 54, .int 55, .int 56, .int 57, .int 48, .int 49, .int 50, .int 51, .int 52, .int 53, .int 54, .int 55, .int 56, .int 57, .int 48, .int 49, .int 50, .int 51, .int 52, .int 53, .int 54, .int 55, .int 56, .int 57, .int 48, .int 49, .int 50, .int 51, .int 52, .int 53, .int 54, .int 55, .int 56, .int 57, .int 48, .int 49, .int 50, .int 51, .int 52, .int 53, .int 54, .int 55, .int 56, .int 57, .int 48, .int 49, .int 50, .int 51, .int 52, .int 53, .int 54, .int 55, .int 56, .int 57, .int 48, .int 49, .int 50, .int 51, .int 52, .int 53, .int 54, .int 55, .int 56, .int 57, .int 48, .int 49, .int 50, .int 51, .int 52, .int 53, .int 54, .int 55, .int 56, .int 57, .int 48, .int 49, .int 50, .int 51, .int 52, .int 53, .int 54, .int 55, .int 56, .int 57], vm := .none },
  { cls := 23, slots := #[.int 48, .int 48, .int 48, .int 48, .int 48, .int 48, .int 48, .int 48, .int 48, .int 48, .int 49, .int 49, .int 49, .int 49, .int 49, .int 49, .int 49, .int 49, .int 49, .int 49, .int 50, .int 50, .int 50, .int 50, .int 50, .int 50, .int 50, .int 50, .int 50, .int 50, .int 51, .int 51, .int 51, .int 51, .int 51, .int 51, .int 51, .int 51, .int 51, .int 51, .int 52, .int 52, .int 52, .int 52, .int 52, .int 52, .int 52, .int 52, .int 52, .int 52, .int 53, .int 53, .int 53, .int 53, .int 53, .int 53, .int 53, .int 53, .int 53, .int 53, .int 54, .int 54, .int 54, .int 54, .int 54, .int 54, .int 54, .int 54, .int 54, .int 54, .int 55, .int 55, .int 55, .int 55, .int 55, .int 55, .int 55, .int 55, .int 55, .int 55, .int 56, .int 56, .int 56, .int 56, .int 56, .int 56, .int 56, .int 56, .int 56, .int 56, .int 57, .int 57, .int 57, .int 57, .int 57, .int 57, .int 57, .int 57, .int 57, .int 57], vm := .none }]
def classes : Array Class := #[k0, k1, k2, k3, k4, k5, k6, k7, k8, k9, k10, k11, k12, k13, k14, k15, k16, k17, k18, k19, k20, k21, k22, k23, k24, k25, k26, k27]
def interned : List (Array UInt16 × Addr) := []
def slotsUsed : Nat := 219
def theMethod : MethodId := ⟨1, 1⟩
def args0 : Array Value := #[.int 5, .int 5, .int 5, .int 5]
def aboutOver (below : List Frame) : State where
  vm := { classes := classes, interned := interned.toArray }
  heap := heap
  slotsUsed := slotsUsed
  threads := #[{ frames := .invoking theMethod args0 :: below }]
def below0 : List Frame := [.native { method := ⟨0, 0⟩, args := #[] }]
def about1 : State := aboutOver below0
def p0 : Program := .bare "" "" ""
def e0 : Env := launch0.env 0 0 0
theorem w_frames : about1.frames = Frame.invoking theMethod args0 :: below0 := rfl
set_option maxRecDepth 65536 in
theorem w_args : argsFit about1.vm theMethod args0 = true := by decide +kernel
set_option maxRecDepth 65536 in
theorem w_heap : heapFits about1 = true := by decide +kernel
set_option maxRecDepth 65536 in
theorem w_runnable : about1.curStatus? = some .runnable := by decide +kernel
set_option maxRecDepth 65536 in
theorem w_alone : about1.alone = true := by decide +kernel
set_option maxRecDepth 65536 in
theorem w_named : about1.methodNamed? x = some theMethod := by decide +kernel
set_option maxRecDepth 65536 in
theorem w_hears : about1.hears theMethod below0 = true := by decide +kernel
set_option maxRecDepth 65536 in
theorem w_ripe : about1.ripe theMethod args0 below0 = true := by decide +kernel
theorem w_running : about1.status = .running := rfl
set_option maxRecDepth 65536 in
theorem w_room : about1.hasRoom e0.platform room_1 = true :=
  launch0.hasRoom_least _ room_1 (by decide +kernel) (by decide +kernel) (by decide +kernel) (by decide +kernel) (by decide +kernel) (by decide +kernel)
theorem allAtoms_all (ts : List Jvm.Cond) (a : Array Jvm.Value) (st : Jvm.State) : (allAtoms ts).before a st = ts.all (fun c => c.before a st) := by
  induction ts with
  | nil => rfl
  | cons c t ih =>
    show (Jvm.Cond.and c (allAtoms t)).before a st = _
    rw [Jvm.Cond.before_and, ih, List.all_cons]
def words1 : List Jvm.Cond := Jvm.Cond.code x code maxLocals ret :: tables_1
/-- a 'code' word, met by the world's own term for the bytes: nothing is compared byte by byte -/
theorem code_word {y : MethodName} {bytes : ByteArray} {mx : Nat} {rt : Option FieldType} {a : Array Value} {s : State} {m : MethodId} {meth : Method} {c : Code} (h1 : s.methodNamed? y = some m) (h2 : s.vm.method? m = some meth) (h3 : meth.code = some c) (h4 : c.code = bytes)
    (h5 : (c.maxLocals == mx && c.exceptionTable.isEmpty && decide (c.maxStack ≤ mostOperands) && decide (meth.sig.returnType = rt) && !meth.locks && decide (parseMethodDescriptor y.desc = some meth.sig)) = true) : (Jvm.Cond.code y bytes mx rt).before a s = true := by
  simp only [Bool.and_eq_true, beq_iff_eq, Bool.not_eq_true', decide_eq_true_eq] at h5
  obtain ⟨⟨⟨⟨⟨g1, g2⟩, g3⟩, g4⟩, g5⟩, g6⟩ := h5
  simp [Cond.before, Cond.holds, Cond.value, h1, h2, h3, h4, g1, g2, g3, g4, g5, g6]
def isCode : Jvm.Cond → Bool
  | .code _ _ _ _ => true
  | _ => false
theorem all_split {L : List Jvm.Cond} {P : Jvm.Cond → Bool} (h1 : L.all (fun c => isCode c || P c) = true) (h2 : ∀ c ∈ L.filter isCode, P c = true) : L.all P = true := by
  refine List.all_eq_true.mpr fun c hc => ?_
  have h := List.all_eq_true.mp h1 c hc
  rcases Bool.eq_false_or_eq_true (isCode c) with hi | hi
  · exact h2 c (List.mem_filter.mpr ⟨hc, hi⟩)
  · simpa [hi] using h
set_option maxRecDepth 65536 in
theorem w_c0 : (Jvm.Cond.code x code maxLocals ret).before args0 about1 = true := code_word (m := ⟨1, 1⟩) (meth := k1m1) (c := k1c1) (by decide +kernel) rfl rfl rfl (by decide +kernel)
set_option maxRecDepth 65536 in
theorem w_c1 : (Jvm.Cond.code ({ cls := "java/lang/String", name := "valueOf", desc := "(C)Ljava/lang/String;" } : Jvm.MethodName) jdk_42_method_139_code (1 : Nat) (Option.some (Jvm.ClassFile.FieldType.object "java/lang/String"))).before args0 about1 = true := code_word (m := ⟨7, 5⟩) (meth := k7m5) (c := k7c5) (by decide +kernel) rfl rfl rfl (by decide +kernel)
set_option maxRecDepth 65536 in
theorem w_c2 : (Jvm.Cond.code ({ cls := "java/lang/StringLatin1", name := "canEncode", desc := "(C)Z" } : Jvm.MethodName) jdk_43_method_3_code (1 : Nat) (Option.some Jvm.ClassFile.FieldType.boolean)).before args0 about1 = true := code_word (m := ⟨8, 2⟩) (meth := k8m2) (c := k8c2) (by decide +kernel) rfl rfl rfl (by decide +kernel)
set_option maxRecDepth 65536 in
theorem w_c3 : (Jvm.Cond.code ({ cls := "java/lang/StringLatin1", name := "toBytes", desc := "(C)[B" } : Jvm.MethodName) jdk_43_method_46_code (1 : Nat) (Option.some (Jvm.ClassFile.FieldType.array Jvm.ClassFile.FieldType.byte))).before args0 about1 = true := code_word (m := ⟨8, 3⟩) (meth := k8m3) (c := k8c3) (by decide +kernel) rfl rfl rfl (by decide +kernel)
set_option maxRecDepth 65536 in
theorem w_c4 : (Jvm.Cond.code ({ cls := "java/lang/String", name := "<init>", desc := "([BB)V" } : Jvm.MethodName) jdk_42_method_151_code (3 : Nat) (Option.none : Option Jvm.ClassFile.FieldType)).before args0 about1 = true := code_word (m := ⟨7, 9⟩) (meth := k7m9) (c := k7c9) (by decide +kernel) rfl rfl rfl (by decide +kernel)
set_option maxRecDepth 65536 in
theorem w_c5 : (Jvm.Cond.code ({ cls := "java/lang/Object", name := "<init>", desc := "()V" } : Jvm.MethodName) object_method_1_code (1 : Nat) (Option.none : Option Jvm.ClassFile.FieldType)).before args0 about1 = true := code_word (m := ⟨0, 0⟩) (meth := k0m0) (c := k0c0) (by decide +kernel) rfl rfl rfl (by decide +kernel)
set_option maxRecDepth 65536 in
theorem w_c6 : (Jvm.Cond.code ({ cls := "java/lang/String", name := "<init>", desc := "([C)V" } : Jvm.MethodName) jdk_42_method_3_code (2 : Nat) (Option.none : Option Jvm.ClassFile.FieldType)).before args0 about1 = true := code_word (m := ⟨7, 1⟩) (meth := k7m1) (c := k7c1) (by decide +kernel) rfl rfl rfl (by decide +kernel)
set_option maxRecDepth 65536 in
theorem w_c7 : (Jvm.Cond.code ({ cls := "java/lang/String", name := "<init>", desc := "([CIILjava/lang/Void;)V" } : Jvm.MethodName) jdk_42_method_149_code (6 : Nat) (Option.none : Option Jvm.ClassFile.FieldType)).before args0 about1 = true := code_word (m := ⟨7, 7⟩) (meth := k7m7) (c := k7c7) (by decide +kernel) rfl rfl rfl (by decide +kernel)
set_option maxRecDepth 65536 in
theorem w_c8 : (Jvm.Cond.code ({ cls := "com/example/saga/saga/server/SurfaceUris", name := "<init>", desc := "(Ljava/lang/String;)V" } : Jvm.MethodName) prog_12_method_1_code (2 : Nat) (Option.none : Option Jvm.ClassFile.FieldType)).before args0 about1 = true := code_word (m := ⟨9, 0⟩) (meth := k9m0) (c := k9c0) (by decide +kernel) rfl rfl rfl (by decide +kernel)
set_option maxRecDepth 65536 in
theorem w_c9 : (Jvm.Cond.code ({ cls := "java/lang/StringBuilder", name := "<init>", desc := "()V" } : Jvm.MethodName) jdk_67_method_1_code (1 : Nat) (Option.none : Option Jvm.ClassFile.FieldType)).before args0 about1 = true := code_word (m := ⟨12, 0⟩) (meth := k12m0) (c := k12c0) (by decide +kernel) rfl rfl rfl (by decide +kernel)
set_option maxRecDepth 65536 in
theorem w_c10 : (Jvm.Cond.code ({ cls := "java/lang/AbstractStringBuilder", name := "<init>", desc := "(I)V" } : Jvm.MethodName) jdk_68_method_2_code (2 : Nat) (Option.none : Option Jvm.ClassFile.FieldType)).before args0 about1 = true := code_word (m := ⟨11, 1⟩) (meth := k11m1) (c := k11c1) (by decide +kernel) rfl rfl rfl (by decide +kernel)
set_option maxRecDepth 65536 in
theorem w_c11 : (Jvm.Cond.code ({ cls := "java/lang/StringBuilder", name := "append", desc := "(Ljava/lang/String;)Ljava/lang/StringBuilder;" } : Jvm.MethodName) jdk_67_method_7_code (2 : Nat) (Option.some (Jvm.ClassFile.FieldType.object "java/lang/StringBuilder"))).before args0 about1 = true := code_word (m := ⟨12, 1⟩) (meth := k12m1) (c := k12c1) (by decide +kernel) rfl rfl rfl (by decide +kernel)
set_option maxRecDepth 65536 in
theorem w_c12 : (Jvm.Cond.code ({ cls := "java/lang/AbstractStringBuilder", name := "append", desc := "(Ljava/lang/String;)Ljava/lang/AbstractStringBuilder;" } : Jvm.MethodName) jdk_68_method_22_code (3 : Nat) (Option.some (Jvm.ClassFile.FieldType.object "java/lang/AbstractStringBuilder"))).before args0 about1 = true := code_word (m := ⟨11, 5⟩) (meth := k11m5) (c := k11c5) (by decide +kernel) rfl rfl rfl (by decide +kernel)
set_option maxRecDepth 65536 in
theorem w_c13 : (Jvm.Cond.code ({ cls := "java/lang/String", name := "length", desc := "()I" } : Jvm.MethodName) jdk_42_method_54_code (1 : Nat) (Option.some Jvm.ClassFile.FieldType.int)).before args0 about1 = true := code_word (m := ⟨7, 3⟩) (meth := k7m3) (c := k7c3) (by decide +kernel) rfl rfl rfl (by decide +kernel)
set_option maxRecDepth 65536 in
theorem w_c14 : (Jvm.Cond.code ({ cls := "java/lang/String", name := "coder", desc := "()B" } : Jvm.MethodName) jdk_42_method_152_code (1 : Nat) (Option.some Jvm.ClassFile.FieldType.byte)).before args0 about1 = true := code_word (m := ⟨7, 10⟩) (meth := k7m10) (c := k7c10) (by decide +kernel) rfl rfl rfl (by decide +kernel)
set_option maxRecDepth 65536 in
theorem w_c15 : (Jvm.Cond.code ({ cls := "java/lang/AbstractStringBuilder", name := "ensureCapacityInternal", desc := "(I)V" } : Jvm.MethodName) jdk_68_method_9_code (3 : Nat) (Option.none : Option Jvm.ClassFile.FieldType)).before args0 about1 = true := code_word (m := ⟨11, 3⟩) (meth := k11m3) (c := k11c3) (by decide +kernel) rfl rfl rfl (by decide +kernel)
set_option maxRecDepth 65536 in
theorem w_c16 : (Jvm.Cond.code ({ cls := "java/lang/AbstractStringBuilder", name := "putStringAt", desc := "(ILjava/lang/String;)V" } : Jvm.MethodName) jdk_68_method_73_code (3 : Nat) (Option.none : Option Jvm.ClassFile.FieldType)).before args0 about1 = true := code_word (m := ⟨11, 10⟩) (meth := k11m10) (c := k11c10) (by decide +kernel) rfl rfl rfl (by decide +kernel)
set_option maxRecDepth 65536 in
theorem w_c17 : (Jvm.Cond.code ({ cls := "java/lang/AbstractStringBuilder", name := "inflateIfNeededFor", desc := "(Ljava/lang/String;)V" } : Jvm.MethodName) jdk_68_method_71_code (2 : Nat) (Option.none : Option Jvm.ClassFile.FieldType)).before args0 about1 = true := code_word (m := ⟨11, 9⟩) (meth := k11m9) (c := k11c9) (by decide +kernel) rfl rfl rfl (by decide +kernel)
set_option maxRecDepth 65536 in
theorem w_c18 : (Jvm.Cond.code ({ cls := "java/lang/String", name := "getBytes", desc := "([BIB)V" } : Jvm.MethodName) jdk_42_method_147_code (4 : Nat) (Option.none : Option Jvm.ClassFile.FieldType)).before args0 about1 = true := code_word (m := ⟨7, 6⟩) (meth := k7m6) (c := k7c6) (by decide +kernel) rfl rfl rfl (by decide +kernel)
set_option maxRecDepth 65536 in
theorem w_c19 : (Jvm.Cond.code ({ cls := "java/lang/StringBuilder", name := "toString", desc := "()Ljava/lang/String;" } : Jvm.MethodName) jdk_67_method_42_code (1 : Nat) (Option.some (Jvm.ClassFile.FieldType.object "java/lang/String"))).before args0 about1 = true := code_word (m := ⟨12, 3⟩) (meth := k12m3) (c := k12c3) (by decide +kernel) rfl rfl rfl (by decide +kernel)
set_option maxRecDepth 65536 in
theorem w_c20 : (Jvm.Cond.code ({ cls := "java/lang/String", name := "<init>", desc := "(Ljava/lang/StringBuilder;)V" } : Jvm.MethodName) jdk_42_method_53_code (2 : Nat) (Option.none : Option Jvm.ClassFile.FieldType)).before args0 about1 = true := code_word (m := ⟨7, 2⟩) (meth := k7m2) (c := k7c2) (by decide +kernel) rfl rfl rfl (by decide +kernel)
set_option maxRecDepth 65536 in
theorem w_c21 : (Jvm.Cond.code ({ cls := "java/lang/String", name := "<init>", desc := "(Ljava/lang/AbstractStringBuilder;Ljava/lang/Void;)V" } : Jvm.MethodName) jdk_42_method_150_code (5 : Nat) (Option.none : Option Jvm.ClassFile.FieldType)).before args0 about1 = true := code_word (m := ⟨7, 8⟩) (meth := k7m8) (c := k7c8) (by decide +kernel) rfl rfl rfl (by decide +kernel)
set_option maxRecDepth 65536 in
theorem w_c22 : (Jvm.Cond.code ({ cls := "java/lang/AbstractStringBuilder", name := "getValue", desc := "()[B" } : Jvm.MethodName) jdk_68_method_64_code (1 : Nat) (Option.some (Jvm.ClassFile.FieldType.array Jvm.ClassFile.FieldType.byte))).before args0 about1 = true := code_word (m := ⟨11, 7⟩) (meth := k11m7) (c := k11c7) (by decide +kernel) rfl rfl rfl (by decide +kernel)
set_option maxRecDepth 65536 in
theorem w_c23 : (Jvm.Cond.code ({ cls := "java/lang/StringBuilder", name := "length", desc := "()I" } : Jvm.MethodName) jdk_67_method_93_code (1 : Nat) (Option.some Jvm.ClassFile.FieldType.int)).before args0 about1 = true := code_word (m := ⟨12, 4⟩) (meth := k12m4) (c := k12c4) (by decide +kernel) rfl rfl rfl (by decide +kernel)
set_option maxRecDepth 65536 in
theorem w_c24 : (Jvm.Cond.code ({ cls := "java/lang/AbstractStringBuilder", name := "length", desc := "()I" } : Jvm.MethodName) jdk_68_method_6_code (1 : Nat) (Option.some Jvm.ClassFile.FieldType.int)).before args0 about1 = true := code_word (m := ⟨11, 2⟩) (meth := k11m2) (c := k11c2) (by decide +kernel) rfl rfl rfl (by decide +kernel)
set_option maxRecDepth 65536 in
theorem w_c25 : (Jvm.Cond.code ({ cls := "java/lang/AbstractStringBuilder", name := "isLatin1", desc := "()Z" } : Jvm.MethodName) jdk_68_method_68_code (1 : Nat) (Option.some Jvm.ClassFile.FieldType.boolean)).before args0 about1 = true := code_word (m := ⟨11, 8⟩) (meth := k11m8) (c := k11c8) (by decide +kernel) rfl rfl rfl (by decide +kernel)
set_option maxRecDepth 65536 in
theorem w_c26 : (Jvm.Cond.code ({ cls := "java/util/Arrays", name := "copyOfRange", desc := "([BII)[B" } : Jvm.MethodName) jdk_65_method_132_code (3 : Nat) (Option.some (Jvm.ClassFile.FieldType.array Jvm.ClassFile.FieldType.byte))).before args0 about1 = true := code_word (m := ⟨14, 3⟩) (meth := k14m3) (c := k14c3) (by decide +kernel) rfl rfl rfl (by decide +kernel)
set_option maxRecDepth 65536 in
theorem w_c27 : (Jvm.Cond.code ({ cls := "java/util/Arrays", name := "copyOfRangeByte", desc := "([BII)[B" } : Jvm.MethodName) jdk_65_method_133_code (5 : Nat) (Option.some (Jvm.ClassFile.FieldType.array Jvm.ClassFile.FieldType.byte))).before args0 about1 = true := code_word (m := ⟨14, 4⟩) (meth := k14m4) (c := k14c4) (by decide +kernel) rfl rfl rfl (by decide +kernel)
set_option maxRecDepth 65536 in
theorem w_c28 : (Jvm.Cond.code ({ cls := "java/util/Arrays", name := "checkLength", desc := "(II)V" } : Jvm.MethodName) jdk_65_method_131_code (2 : Nat) (Option.none : Option Jvm.ClassFile.FieldType)).before args0 about1 = true := code_word (m := ⟨14, 2⟩) (meth := k14m2) (c := k14c2) (by decide +kernel) rfl rfl rfl (by decide +kernel)
set_option maxRecDepth 65536 in
theorem w_c29 : (Jvm.Cond.code ({ cls := "java/lang/Math", name := "min", desc := "(II)I" } : Jvm.MethodName) jdk_29_method_69_code (2 : Nat) (Option.some Jvm.ClassFile.FieldType.int)).before args0 about1 = true := code_word (m := ⟨15, 2⟩) (meth := k15m2) (c := k15c2) (by decide +kernel) rfl rfl rfl (by decide +kernel)
set_option maxRecDepth 65536 in
theorem w_c30 : (Jvm.Cond.code ({ cls := "com/example/saga/saga/server/SurfaceUris", name := "linkTimeMap", desc := "(Ljava/lang/String;I)Ljava/lang/String;" } : Jvm.MethodName) prog_12_method_3_code (3 : Nat) (Option.some (Jvm.ClassFile.FieldType.object "java/lang/String"))).before args0 about1 = true := code_word (m := ⟨9, 1⟩) (meth := k9m1) (c := k9c1) (by decide +kernel) rfl rfl rfl (by decide +kernel)
set_option maxRecDepth 65536 in
theorem w_c31 : (Jvm.Cond.code ({ cls := "java/lang/AbstractStringBuilder", name := "newCapacity", desc := "(I)I" } : Jvm.MethodName) jdk_68_method_10_code (6 : Nat) (Option.some Jvm.ClassFile.FieldType.int)).before args0 about1 = true := code_word (m := ⟨11, 4⟩) (meth := k11m4) (c := k11c4) (by decide +kernel) rfl rfl rfl (by decide +kernel)
set_option maxRecDepth 65536 in
theorem w_c32 : (Jvm.Cond.code ({ cls := "jdk/internal/util/ArraysSupport", name := "newLength", desc := "(III)I" } : Jvm.MethodName) jdk_48_method_27_code (4 : Nat) (Option.some Jvm.ClassFile.FieldType.int)).before args0 about1 = true := code_word (m := ⟨16, 1⟩) (meth := k16m1) (c := k16c1) (by decide +kernel) rfl rfl rfl (by decide +kernel)
set_option maxRecDepth 65536 in
theorem w_c33 : (Jvm.Cond.code ({ cls := "java/lang/Math", name := "max", desc := "(II)I" } : Jvm.MethodName) jdk_29_method_65_code (2 : Nat) (Option.some Jvm.ClassFile.FieldType.int)).before args0 about1 = true := code_word (m := ⟨15, 1⟩) (meth := k15m1) (c := k15c1) (by decide +kernel) rfl rfl rfl (by decide +kernel)
set_option maxRecDepth 65536 in
theorem w_c34 : (Jvm.Cond.code ({ cls := "java/util/Arrays", name := "copyOf", desc := "([BI)[B" } : Jvm.MethodName) jdk_65_method_121_code (3 : Nat) (Option.some (Jvm.ClassFile.FieldType.array Jvm.ClassFile.FieldType.byte))).before args0 about1 = true := code_word (m := ⟨14, 1⟩) (meth := k14m1) (c := k14c1) (by decide +kernel) rfl rfl rfl (by decide +kernel)
set_option maxRecDepth 65536 in
theorem w_c35 : (Jvm.Cond.code ({ cls := "com/example/saga/saga/server/SurfaceUris", name := "pageNumber", desc := "(I)Ljava/lang/String;" } : Jvm.MethodName) prog_12_method_8_code (1 : Nat) (Option.some (Jvm.ClassFile.FieldType.object "java/lang/String"))).before args0 about1 = true := code_word (m := ⟨9, 2⟩) (meth := k9m2) (c := k9c2) (by decide +kernel) rfl rfl rfl (by decide +kernel)
set_option maxRecDepth 65536 in
theorem w_c36 : (Jvm.Cond.code ({ cls := "java/lang/StringBuilder", name := "append", desc := "(I)Ljava/lang/StringBuilder;" } : Jvm.MethodName) jdk_67_method_15_code (2 : Nat) (Option.some (Jvm.ClassFile.FieldType.object "java/lang/StringBuilder"))).before args0 about1 = true := code_word (m := ⟨12, 2⟩) (meth := k12m2) (c := k12c2) (by decide +kernel) rfl rfl rfl (by decide +kernel)
set_option maxRecDepth 65536 in
theorem w_c37 : (Jvm.Cond.code ({ cls := "java/lang/AbstractStringBuilder", name := "append", desc := "(I)Ljava/lang/AbstractStringBuilder;" } : Jvm.MethodName) jdk_68_method_32_code (4 : Nat) (Option.some (Jvm.ClassFile.FieldType.object "java/lang/AbstractStringBuilder"))).before args0 about1 = true := code_word (m := ⟨11, 6⟩) (meth := k11m6) (c := k11c6) (by decide +kernel) rfl rfl rfl (by decide +kernel)
set_option maxRecDepth 65536 in
theorem w_c38 : (Jvm.Cond.code ({ cls := "java/lang/Integer", name := "stringSize", desc := "(I)I" } : Jvm.MethodName) jdk_33_method_13_code (4 : Nat) (Option.some Jvm.ClassFile.FieldType.int)).before args0 about1 = true := code_word (m := ⟨18, 1⟩) (meth := k18m1) (c := k18c1) (by decide +kernel) rfl rfl rfl (by decide +kernel)
set_option maxRecDepth 65536 in
theorem w_c39 : (Jvm.Cond.code ({ cls := "java/lang/Integer", name := "getChars", desc := "(II[B)I" } : Jvm.MethodName) jdk_33_method_12_code (7 : Nat) (Option.some Jvm.ClassFile.FieldType.int)).before args0 about1 = true := code_word (m := ⟨18, 0⟩) (meth := k18m0) (c := k18c0) (by decide +kernel) rfl rfl rfl (by decide +kernel)
set_option maxRecDepth 65536 in
theorem w_c40 : (Jvm.Cond.code ({ cls := "com/example/saga/saga/server/SurfaceUrisLinkTimeMapPinLaw", name := "putPage", desc := "([CII)I" } : Jvm.MethodName) method_5_code (7 : Nat) (Option.some Jvm.ClassFile.FieldType.int)).before args0 about1 = true := code_word (m := ⟨1, 4⟩) (meth := k1m4) (c := k1c4) (by decide +kernel) rfl rfl rfl (by decide +kernel)
set_option maxRecDepth 65536 in
theorem w_c41 : (Jvm.Cond.code ({ cls := "com/example/saga/saga/server/SurfaceUrisLinkTimeMapPinLaw", name := "dig", desc := "(JJ)C" } : Jvm.MethodName) method_4_code (4 : Nat) (Option.some Jvm.ClassFile.FieldType.char)).before args0 about1 = true := code_word (m := ⟨1, 3⟩) (meth := k1m3) (c := k1c3) (by decide +kernel) rfl rfl rfl (by decide +kernel)
set_option maxRecDepth 65536 in
theorem w_c42 : (Jvm.Cond.code ({ cls := "com/example/saga/saga/server/SurfaceUrisLinkTimeMapPinLaw", name := "same", desc := "(Ljava/lang/String;[CI)Z" } : Jvm.MethodName) method_3_code (3 : Nat) (Option.some Jvm.ClassFile.FieldType.boolean)).before args0 about1 = true := code_word (m := ⟨1, 2⟩) (meth := k1m2) (c := k1c2) (by decide +kernel) rfl rfl rfl (by decide +kernel)
set_option maxRecDepth 65536 in
theorem w_c43 : (Jvm.Cond.code ({ cls := "java/lang/String", name := "charAt", desc := "(I)C" } : Jvm.MethodName) jdk_42_method_56_code (2 : Nat) (Option.some Jvm.ClassFile.FieldType.char)).before args0 about1 = true := code_word (m := ⟨7, 4⟩) (meth := k7m4) (c := k7c4) (by decide +kernel) rfl rfl rfl (by decide +kernel)
set_option maxRecDepth 65536 in
theorem w_c44 : (Jvm.Cond.code ({ cls := "java/lang/String", name := "isLatin1", desc := "()Z" } : Jvm.MethodName) jdk_42_method_154_code (1 : Nat) (Option.some Jvm.ClassFile.FieldType.boolean)).before args0 about1 = true := code_word (m := ⟨7, 11⟩) (meth := k7m11) (c := k7c11) (by decide +kernel) rfl rfl rfl (by decide +kernel)
set_option maxRecDepth 65536 in
theorem w_c45 : (Jvm.Cond.code ({ cls := "java/lang/StringLatin1", name := "charAt", desc := "([BI)C" } : Jvm.MethodName) jdk_43_method_2_code (2 : Nat) (Option.some Jvm.ClassFile.FieldType.char)).before args0 about1 = true := code_word (m := ⟨8, 1⟩) (meth := k8m1) (c := k8c1) (by decide +kernel) rfl rfl rfl (by decide +kernel)
set_option maxRecDepth 65536 in
theorem w_c46 : (Jvm.Cond.code ({ cls := "java/lang/String", name := "checkIndex", desc := "(II)V" } : Jvm.MethodName) jdk_42_method_155_code (2 : Nat) (Option.none : Option Jvm.ClassFile.FieldType)).before args0 about1 = true := code_word (m := ⟨7, 12⟩) (meth := k7m12) (c := k7c12) (by decide +kernel) rfl rfl rfl (by decide +kernel)
set_option maxRecDepth 65536 in
theorem w_c47 : (Jvm.Cond.code ({ cls := "jdk/internal/util/Preconditions", name := "checkIndex", desc := "(IILjava/util/function/BiFunction;)I" } : Jvm.MethodName) jdk_41_method_11_code (3 : Nat) (Option.some Jvm.ClassFile.FieldType.int)).before args0 about1 = true := code_word (m := ⟨19, 1⟩) (meth := k19m1) (c := k19c1) (by decide +kernel) rfl rfl rfl (by decide +kernel)
set_option maxRecDepth 65536 in
theorem w_c48 : (Jvm.Cond.code ({ cls := "java/lang/StringUTF16", name := "compress", desc := "([CII)[B" } : Jvm.MethodName) jdk_52_method_16_code (6 : Nat) (Option.some (Jvm.ClassFile.FieldType.array Jvm.ClassFile.FieldType.byte))).before args0 about1 = true := code_word (m := ⟨20, 2⟩) (meth := k20m2) (c := k20c2) (by decide +kernel) rfl rfl rfl (by decide +kernel)
set_option maxRecDepth 65536 in
theorem w_c49 : (Jvm.Cond.code ({ cls := "java/lang/StringUTF16", name := "compress", desc := "([CI[BII)I" } : Jvm.MethodName) jdk_52_method_21_code (7 : Nat) (Option.some Jvm.ClassFile.FieldType.int)).before args0 about1 = true := code_word (m := ⟨20, 3⟩) (meth := k20m3) (c := k20c3) (by decide +kernel) rfl rfl rfl (by decide +kernel)
set_option maxRecDepth 65536 in
theorem w_c50 : (Jvm.Cond.code ({ cls := "java/lang/StringUTF16", name := "coderFromArrayLen", desc := "([BI)B" } : Jvm.MethodName) jdk_52_method_15_code (2 : Nat) (Option.some Jvm.ClassFile.FieldType.byte)).before args0 about1 = true := code_word (m := ⟨20, 1⟩) (meth := k20m1) (c := k20c1) (by decide +kernel) rfl rfl rfl (by decide +kernel)
def codes1 : List Jvm.Cond := [Jvm.Cond.code x code maxLocals ret, Jvm.Cond.code ({ cls := "java/lang/String", name := "valueOf", desc := "(C)Ljava/lang/String;" } : Jvm.MethodName) jdk_42_method_139_code (1 : Nat) (Option.some (Jvm.ClassFile.FieldType.object "java/lang/String")), Jvm.Cond.code ({ cls := "java/lang/StringLatin1", name := "canEncode", desc := "(C)Z" } : Jvm.MethodName) jdk_43_method_3_code (1 : Nat) (Option.some Jvm.ClassFile.FieldType.boolean), Jvm.Cond.code ({ cls := "java/lang/StringLatin1", name := "toBytes", desc := "(C)[B" } : Jvm.MethodName) jdk_43_method_46_code (1 : Nat) (Option.some (Jvm.ClassFile.FieldType.array Jvm.ClassFile.FieldType.byte)), Jvm.Cond.code ({ cls := "java/lang/String", name := "<init>", desc := "([BB)V" } : Jvm.MethodName) jdk_42_method_151_code (3 : Nat) (Option.none : Option Jvm.ClassFile.FieldType), Jvm.Cond.code ({ cls := "java/lang/Object", name := "<init>", desc := "()V" } : Jvm.MethodName) object_method_1_code (1 : Nat) (Option.none : Option Jvm.ClassFile.FieldType), Jvm.Cond.code ({ cls := "java/lang/String", name := "<init>", desc := "([C)V" } : Jvm.MethodName) jdk_42_method_3_code (2 : Nat) (Option.none : Option Jvm.ClassFile.FieldType), Jvm.Cond.code ({ cls := "java/lang/String", name := "<init>", desc := "([CIILjava/lang/Void;)V" } : Jvm.MethodName) jdk_42_method_149_code (6 : Nat) (Option.none : Option Jvm.ClassFile.FieldType), Jvm.Cond.code ({ cls := "com/example/saga/saga/server/SurfaceUris", name := "<init>", desc := "(Ljava/lang/String;)V" } : Jvm.MethodName) prog_12_method_1_code (2 : Nat) (Option.none : Option Jvm.ClassFile.FieldType), Jvm.Cond.code ({ cls := "java/lang/StringBuilder", name := "<init>", desc := "()V" } : Jvm.MethodName) jdk_67_method_1_code (1 : Nat) (Option.none : Option Jvm.ClassFile.FieldType), Jvm.Cond.code ({ cls := "java/lang/AbstractStringBuilder", name := "<init>", desc := "(I)V" } : Jvm.MethodName) jdk_68_method_2_code (2 : Nat) (Option.none : Option Jvm.ClassFile.FieldType), Jvm.Cond.code ({ cls := "java/lang/StringBuilder", name := "append", desc := "(Ljava/lang/String;)Ljava/lang/StringBuilder;" } : Jvm.MethodName) jdk_67_method_7_code (2 : Nat) (Option.some (Jvm.ClassFile.FieldType.object "java/lang/StringBuilder")), Jvm.Cond.code ({ cls := "java/lang/AbstractStringBuilder", name := "append", desc := "(Ljava/lang/String;)Ljava/lang/AbstractStringBuilder;" } : Jvm.MethodName) jdk_68_method_22_code (3 : Nat) (Option.some (Jvm.ClassFile.FieldType.object "java/lang/AbstractStringBuilder")), Jvm.Cond.code ({ cls := "java/lang/String", name := "length", desc := "()I" } : Jvm.MethodName) jdk_42_method_54_code (1 : Nat) (Option.some Jvm.ClassFile.FieldType.int), Jvm.Cond.code ({ cls := "java/lang/String", name := "coder", desc := "()B" } : Jvm.MethodName) jdk_42_method_152_code (1 : Nat) (Option.some Jvm.ClassFile.FieldType.byte), Jvm.Cond.code ({ cls := "java/lang/AbstractStringBuilder", name := "ensureCapacityInternal", desc := "(I)V" } : Jvm.MethodName) jdk_68_method_9_code (3 : Nat) (Option.none : Option Jvm.ClassFile.FieldType), Jvm.Cond.code ({ cls := "java/lang/AbstractStringBuilder", name := "putStringAt", desc := "(ILjava/lang/String;)V" } : Jvm.MethodName) jdk_68_method_73_code (3 : Nat) (Option.none : Option Jvm.ClassFile.FieldType), Jvm.Cond.code ({ cls := "java/lang/AbstractStringBuilder", name := "inflateIfNeededFor", desc := "(Ljava/lang/String;)V" } : Jvm.MethodName) jdk_68_method_71_code (2 : Nat) (Option.none : Option Jvm.ClassFile.FieldType), Jvm.Cond.code ({ cls := "java/lang/String", name := "getBytes", desc := "([BIB)V" } : Jvm.MethodName) jdk_42_method_147_code (4 : Nat) (Option.none : Option Jvm.ClassFile.FieldType), Jvm.Cond.code ({ cls := "java/lang/StringBuilder", name := "toString", desc := "()Ljava/lang/String;" } : Jvm.MethodName) jdk_67_method_42_code (1 : Nat) (Option.some (Jvm.ClassFile.FieldType.object "java/lang/String")), Jvm.Cond.code ({ cls := "java/lang/String", name := "<init>", desc := "(Ljava/lang/StringBuilder;)V" } : Jvm.MethodName) jdk_42_method_53_code (2 : Nat) (Option.none : Option Jvm.ClassFile.FieldType), Jvm.Cond.code ({ cls := "java/lang/String", name := "<init>", desc := "(Ljava/lang/AbstractStringBuilder;Ljava/lang/Void;)V" } : Jvm.MethodName) jdk_42_method_150_code (5 : Nat) (Option.none : Option Jvm.ClassFile.FieldType), Jvm.Cond.code ({ cls := "java/lang/AbstractStringBuilder", name := "getValue", desc := "()[B" } : Jvm.MethodName) jdk_68_method_64_code (1 : Nat) (Option.some (Jvm.ClassFile.FieldType.array Jvm.ClassFile.FieldType.byte)), Jvm.Cond.code ({ cls := "java/lang/StringBuilder", name := "length", desc := "()I" } : Jvm.MethodName) jdk_67_method_93_code (1 : Nat) (Option.some Jvm.ClassFile.FieldType.int), Jvm.Cond.code ({ cls := "java/lang/AbstractStringBuilder", name := "length", desc := "()I" } : Jvm.MethodName) jdk_68_method_6_code (1 : Nat) (Option.some Jvm.ClassFile.FieldType.int), Jvm.Cond.code ({ cls := "java/lang/AbstractStringBuilder", name := "isLatin1", desc := "()Z" } : Jvm.MethodName) jdk_68_method_68_code (1 : Nat) (Option.some Jvm.ClassFile.FieldType.boolean), Jvm.Cond.code ({ cls := "java/util/Arrays", name := "copyOfRange", desc := "([BII)[B" } : Jvm.MethodName) jdk_65_method_132_code (3 : Nat) (Option.some (Jvm.ClassFile.FieldType.array Jvm.ClassFile.FieldType.byte)), Jvm.Cond.code ({ cls := "java/util/Arrays", name := "copyOfRangeByte", desc := "([BII)[B" } : Jvm.MethodName) jdk_65_method_133_code (5 : Nat) (Option.some (Jvm.ClassFile.FieldType.array Jvm.ClassFile.FieldType.byte)), Jvm.Cond.code ({ cls := "java/util/Arrays", name := "checkLength", desc := "(II)V" } : Jvm.MethodName) jdk_65_method_131_code (2 : Nat) (Option.none : Option Jvm.ClassFile.FieldType), Jvm.Cond.code ({ cls := "java/lang/Math", name := "min", desc := "(II)I" } : Jvm.MethodName) jdk_29_method_69_code (2 : Nat) (Option.some Jvm.ClassFile.FieldType.int), Jvm.Cond.code ({ cls := "com/example/saga/saga/server/SurfaceUris", name := "linkTimeMap", desc := "(Ljava/lang/String;I)Ljava/lang/String;" } : Jvm.MethodName) prog_12_method_3_code (3 : Nat) (Option.some (Jvm.ClassFile.FieldType.object "java/lang/String")), Jvm.Cond.code ({ cls := "java/lang/AbstractStringBuilder", name := "newCapacity", desc := "(I)I" } : Jvm.MethodName) jdk_68_method_10_code (6 : Nat) (Option.some Jvm.ClassFile.FieldType.int), Jvm.Cond.code ({ cls := "jdk/internal/util/ArraysSupport", name := "newLength", desc := "(III)I" } : Jvm.MethodName) jdk_48_method_27_code (4 : Nat) (Option.some Jvm.ClassFile.FieldType.int), Jvm.Cond.code ({ cls := "java/lang/Math", name := "max", desc := "(II)I" } : Jvm.MethodName) jdk_29_method_65_code (2 : Nat) (Option.some Jvm.ClassFile.FieldType.int), Jvm.Cond.code ({ cls := "java/util/Arrays", name := "copyOf", desc := "([BI)[B" } : Jvm.MethodName) jdk_65_method_121_code (3 : Nat) (Option.some (Jvm.ClassFile.FieldType.array Jvm.ClassFile.FieldType.byte)), Jvm.Cond.code ({ cls := "com/example/saga/saga/server/SurfaceUris", name := "pageNumber", desc := "(I)Ljava/lang/String;" } : Jvm.MethodName) prog_12_method_8_code (1 : Nat) (Option.some (Jvm.ClassFile.FieldType.object "java/lang/String")), Jvm.Cond.code ({ cls := "java/lang/StringBuilder", name := "append", desc := "(I)Ljava/lang/StringBuilder;" } : Jvm.MethodName) jdk_67_method_15_code (2 : Nat) (Option.some (Jvm.ClassFile.FieldType.object "java/lang/StringBuilder")), Jvm.Cond.code ({ cls := "java/lang/AbstractStringBuilder", name := "append", desc := "(I)Ljava/lang/AbstractStringBuilder;" } : Jvm.MethodName) jdk_68_method_32_code (4 : Nat) (Option.some (Jvm.ClassFile.FieldType.object "java/lang/AbstractStringBuilder")), Jvm.Cond.code ({ cls := "java/lang/Integer", name := "stringSize", desc := "(I)I" } : Jvm.MethodName) jdk_33_method_13_code (4 : Nat) (Option.some Jvm.ClassFile.FieldType.int), Jvm.Cond.code ({ cls := "java/lang/Integer", name := "getChars", desc := "(II[B)I" } : Jvm.MethodName) jdk_33_method_12_code (7 : Nat) (Option.some Jvm.ClassFile.FieldType.int), Jvm.Cond.code ({ cls := "com/example/saga/saga/server/SurfaceUrisLinkTimeMapPinLaw", name := "putPage", desc := "([CII)I" } : Jvm.MethodName) method_5_code (7 : Nat) (Option.some Jvm.ClassFile.FieldType.int), Jvm.Cond.code ({ cls := "com/example/saga/saga/server/SurfaceUrisLinkTimeMapPinLaw", name := "dig", desc := "(JJ)C" } : Jvm.MethodName) method_4_code (4 : Nat) (Option.some Jvm.ClassFile.FieldType.char), Jvm.Cond.code ({ cls := "com/example/saga/saga/server/SurfaceUrisLinkTimeMapPinLaw", name := "same", desc := "(Ljava/lang/String;[CI)Z" } : Jvm.MethodName) method_3_code (3 : Nat) (Option.some Jvm.ClassFile.FieldType.boolean), Jvm.Cond.code ({ cls := "java/lang/String", name := "charAt", desc := "(I)C" } : Jvm.MethodName) jdk_42_method_56_code (2 : Nat) (Option.some Jvm.ClassFile.FieldType.char), Jvm.Cond.code ({ cls := "java/lang/String", name := "isLatin1", desc := "()Z" } : Jvm.MethodName) jdk_42_method_154_code (1 : Nat) (Option.some Jvm.ClassFile.FieldType.boolean), Jvm.Cond.code ({ cls := "java/lang/StringLatin1", name := "charAt", desc := "([BI)C" } : Jvm.MethodName) jdk_43_method_2_code (2 : Nat) (Option.some Jvm.ClassFile.FieldType.char), Jvm.Cond.code ({ cls := "java/lang/String", name := "checkIndex", desc := "(II)V" } : Jvm.MethodName) jdk_42_method_155_code (2 : Nat) (Option.none : Option Jvm.ClassFile.FieldType), Jvm.Cond.code ({ cls := "jdk/internal/util/Preconditions", name := "checkIndex", desc := "(IILjava/util/function/BiFunction;)I" } : Jvm.MethodName) jdk_41_method_11_code (3 : Nat) (Option.some Jvm.ClassFile.FieldType.int), Jvm.Cond.code ({ cls := "java/lang/StringUTF16", name := "compress", desc := "([CII)[B" } : Jvm.MethodName) jdk_52_method_16_code (6 : Nat) (Option.some (Jvm.ClassFile.FieldType.array Jvm.ClassFile.FieldType.byte)), Jvm.Cond.code ({ cls := "java/lang/StringUTF16", name := "compress", desc := "([CI[BII)I" } : Jvm.MethodName) jdk_52_method_21_code (7 : Nat) (Option.some Jvm.ClassFile.FieldType.int), Jvm.Cond.code ({ cls := "java/lang/StringUTF16", name := "coderFromArrayLen", desc := "([BI)B" } : Jvm.MethodName) jdk_52_method_15_code (2 : Nat) (Option.some Jvm.ClassFile.FieldType.byte)]
set_option maxRecDepth 65536 in
theorem codes_eq : words1.filter isCode = codes1 := rfl
theorem w_codes : ∀ c ∈ words1.filter isCode, c.before args0 about1 = true := by
  rw [codes_eq]
  intro c hc
  simp only [codes1, List.mem_cons, List.not_mem_nil, or_false] at hc
  rcases hc with rfl | rfl | rfl | rfl | rfl | rfl | rfl | rfl | rfl | rfl | rfl | rfl | rfl | rfl | rfl | rfl | rfl | rfl | rfl | rfl | rfl | rfl | rfl | rfl | rfl | rfl | rfl | rfl | rfl | rfl | rfl | rfl | rfl | rfl | rfl | rfl | rfl | rfl | rfl | rfl | rfl | rfl | rfl | rfl | rfl | rfl | rfl | rfl | rfl | rfl | rfl
  · exact w_c0
  · exact w_c1
  · exact w_c2
  · exact w_c3
  · exact w_c4
  · exact w_c5
  · exact w_c6
  · exact w_c7
  · exact w_c8
  · exact w_c9
  · exact w_c10
  · exact w_c11
  · exact w_c12
  · exact w_c13
  · exact w_c14
  · exact w_c15
  · exact w_c16
  · exact w_c17
  · exact w_c18
  · exact w_c19
  · exact w_c20
  · exact w_c21
  · exact w_c22
  · exact w_c23
  · exact w_c24
  · exact w_c25
  · exact w_c26
  · exact w_c27
  · exact w_c28
  · exact w_c29
  · exact w_c30
  · exact w_c31
  · exact w_c32
  · exact w_c33
  · exact w_c34
  · exact w_c35
  · exact w_c36
  · exact w_c37
  · exact w_c38
  · exact w_c39
  · exact w_c40
  · exact w_c41
  · exact w_c42
  · exact w_c43
  · exact w_c44
  · exact w_c45
  · exact w_c46
  · exact w_c47
  · exact w_c48
  · exact w_c49
  · exact w_c50
set_option maxRecDepth 65536 in
theorem w_t1 : (words1.take 24).all (fun c => isCode c || c.before args0 about1) = true := by decide +kernel
set_option maxRecDepth 65536 in
theorem w_t2 : ((words1.drop 24).take 24).all (fun c => isCode c || c.before args0 about1) = true := by decide +kernel
set_option maxRecDepth 65536 in
theorem w_t3 : (((words1.drop 24).drop 24).take 24).all (fun c => isCode c || c.before args0 about1) = true := by decide +kernel
set_option maxRecDepth 65536 in
theorem w_t4 : ((((words1.drop 24).drop 24).drop 24).take 24).all (fun c => isCode c || c.before args0 about1) = true := by decide +kernel
set_option maxRecDepth 65536 in
theorem w_t5 : (((((words1.drop 24).drop 24).drop 24).drop 24).take 24).all (fun c => isCode c || c.before args0 about1) = true := by decide +kernel
set_option maxRecDepth 65536 in
theorem w_t6 : ((((((words1.drop 24).drop 24).drop 24).drop 24).drop 24).take 24).all (fun c => isCode c || c.before args0 about1) = true := by decide +kernel
set_option maxRecDepth 65536 in
theorem w_t7 : (((((((words1.drop 24).drop 24).drop 24).drop 24).drop 24).drop 24).take 24).all (fun c => isCode c || c.before args0 about1) = true := by decide +kernel
set_option maxRecDepth 65536 in
theorem w_t8 : ((((((((words1.drop 24).drop 24).drop 24).drop 24).drop 24).drop 24).drop 24).take 24).all (fun c => isCode c || c.before args0 about1) = true := by decide +kernel
set_option maxRecDepth 65536 in
theorem w_t9 : (((((((((words1.drop 24).drop 24).drop 24).drop 24).drop 24).drop 24).drop 24).drop 24).take 24).all (fun c => isCode c || c.before args0 about1) = true := by decide +kernel
set_option maxRecDepth 65536 in
theorem w_t10 : ((((((((((words1.drop 24).drop 24).drop 24).drop 24).drop 24).drop 24).drop 24).drop 24).drop 24).take 24).all (fun c => isCode c || c.before args0 about1) = true := by decide +kernel
set_option maxRecDepth 65536 in
theorem w_t11 : (((((((((((words1.drop 24).drop 24).drop 24).drop 24).drop 24).drop 24).drop 24).drop 24).drop 24).drop 24).take 24).all (fun c => isCode c || c.before args0 about1) = true := by decide +kernel
set_option maxRecDepth 65536 in
theorem w_t12 : (((((((((((words1.drop 24).drop 24).drop 24).drop 24).drop 24).drop 24).drop 24).drop 24).drop 24).drop 24).drop 24).all (fun c => isCode c || c.before args0 about1) = true := by decide +kernel
theorem w_tables : (allAtoms (Jvm.Cond.code x code maxLocals ret :: tables_1)).before args0 about1 = true := by
  rw [allAtoms_all]
  show words1.all (fun c => c.before args0 about1) = true
  refine all_split ?_ w_codes
  rw [← List.take_append_drop 24 words1, List.all_append, w_t1, ← List.take_append_drop 24 (words1.drop 24), List.all_append, w_t2, ← List.take_append_drop 24 ((words1.drop 24).drop 24), List.all_append, w_t3, ← List.take_append_drop 24 (((words1.drop 24).drop 24).drop 24), List.all_append, w_t4, ← List.take_append_drop 24 ((((words1.drop 24).drop 24).drop 24).drop 24), List.all_append, w_t5, ← List.take_append_drop 24 (((((words1.drop 24).drop 24).drop 24).drop 24).drop 24), List.all_append, w_t6, ← List.take_append_drop 24 ((((((words1.drop 24).drop 24).drop 24).drop 24).drop 24).drop 24), List.all_append, w_t7, ← List.take_append_drop 24 (((((((words1.drop 24).drop 24).drop 24).drop 24).drop 24).drop 24).drop 24), List.all_append, w_t8, ← List.take_append_drop 24 ((((((((words1.drop 24).drop 24).drop 24).drop 24).drop 24).drop 24).drop 24).drop 24), List.all_append, w_t9, ← List.take_append_drop 24 (((((((((words1.drop 24).drop 24).drop 24).drop 24).drop 24).drop 24).drop 24).drop 24).drop 24), List.all_append, w_t10, ← List.take_append_drop 24 ((((((((((words1.drop 24).drop 24).drop 24).drop 24).drop 24).drop 24).drop 24).drop 24).drop 24).drop 24), List.all_append, w_t11, w_t12]
  rfl
set_option maxRecDepth 65536 in
theorem w_rest : rest_1_c.before args0 about1 = true := by decide +kernel
set_option maxRecDepth 65536 in
theorem w_case : (Jvm.Cond.and given_1 narrow_1).before args0 about1 = true := by decide +kernel
set_option maxRecDepth 65536 in
theorem w_consts : constsHeld consts_1 about1 := Jvm.Lit.constsHeldB_iff.mp (by decide +kernel)
theorem w_applies : (headSpec (Jvm.Cond.code x code maxLocals ret :: tables_1) room_1).applies x e0.platform about1 = true :=
  (Spec.applies_iff w_frames).mpr ⟨w_running, w_runnable, w_alone, w_named, w_hears, w_ripe, w_room, w_tables⟩
theorem atStart : AtStart classFile x code maxLocals ret World_1 tables_1 room_1 Calls_1 rest_1 Pre_1 launch0 p0 e0 about1 theMethod args0 below0 :=
  ⟨lists_1, trivial, launch0.admits_env _ _ _, launch0.least_env, fairChoices_fair.cas, fairChoices_fair.clock, w_frames, w_args, w_heap, w_applies, ⟨w_consts, trivial⟩, w_rest, w_case⟩
end start1
theorem witness_1 : WitnessClaimed_1 := ⟨start1.p0, start1.e0, start1.about1, start1.theMethod, start1.args0, start1.below0, start1.atStart⟩
end Jvm.Pilot.@@N@@
