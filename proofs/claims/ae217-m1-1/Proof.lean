import JvmDerived
import JvmDerived.Pilot.@@N@@Statement
import JvmDerived.Pilot.@@N@@Code
set_option linter.unusedVariables false
set_option linter.unusedSimpArgs false
/-! OWN FRAMEWORK, part 1: a walk as one predicate 'Go' (the machine's state hidden), contracts 'Met'. -/
namespace Jvm.Pilot.@@N@@
namespace Own
open Jvm Jvm.ClassFile Sem Op Lib Jvm.Free Jvm.Stand Jvm.LawKit Jvm.RoadKit
/-- what one run of a body fixes: program, env, start, method id, arguments, frames below, method, code -/
abbrev Cx := Program × Env × State × MethodId × Array Value × List Frame × Method × Code
abbrev QT := Option Value → Heap → List Addr → Prop
/-- the words of the sheet, of the start Z -/
def Wd (Z : State) (a0 : Array Value) : Prop := (∀ d ∈ tables_1, d.before a0 Z = true) ∧ EW Z a0 consts_1 ∧ (∀ a ∈ Bundle.stringAtoms, a.before a0 Z = true) ∧ (∃ cz : Int32, Sta Z Z.heap "java/lang/String" "COMPACT_STRINGS" "Z" (.int cz) ∧ ¬ cz = 0) ∧ (∃ fm : Value, Sta Z Z.heap "jdk/internal/util/Preconditions" "SIOOBE_FORMATTER" "Ljava/util/function/BiFunction;" fm ∧ fm.isRef = true) ∧ (∀ d ∈ jdkStatics_1, d.before a0 Z = true)
/-- made since the law began, and no cell of a booked literal -/
def Mine (Z : State) (vm : Vm) (h : Heap) (x : Addr) : Prop := Z.heap.size ≤ x ∧ x < h.size ∧ Safe Z consts_1 vm h x
def St (l : Launch) (Z : State) (K : Cx) (own mn : String) (b : ByteArray) (ml : Nat) (rt : Option FieldType) (R : Room) (T : State) (h : Heap) (F : List Addr) (c s : Nat) : Prop :=
  ∃ (vm : Vm) (k : Nat) (locs : List Loc), Stand K.1 l K.2.1 R (K.2.2.1.setVm vm) K.2.2.2.1 K.2.2.2.2.1 K.2.2.2.2.2.1 K.2.2.2.2.2.2.1 K.2.2.2.2.2.2.2 T locs c s ∧ T.heap = h ∧
    K.2.2.1.Since vm k ∧ k ≤ h.size ∧ Z.Warmed39 vm ∧ vm.findClass own = some K.2.2.2.1.cls ∧ Fr Z.heap.size locs ∧ CHr Z consts_1 K.2.2.1.vm K.2.2.1.heap vm h ∧ (∀ x ∈ F, Mine Z vm h x) ∧ Old Z Z.heap.size h ∧
    K.1.tables.exec = Jvm.exec ∧ K.2.2.2.2.2.2.2.code = b ∧ K.2.2.2.2.2.2.2.maxLocals = ml ∧ K.2.2.2.2.2.2.1.sig.returnType = rt ∧ K.2.2.2.2.2.2.1.name = mn ∧ K.2.2.2.2.2.2.1.locks = false
def End (Z : State) (s : State) (R : Room) (Q : QT) (o : Outcome) (U : State) : Prop :=
  ∃ v L G, o = .returned v ∧ Q v U.heap G ∧ Fr Z.heap.size L ∧ (∀ x ∈ G, Mine Z U.vm U.heap x) ∧ CHr Z consts_1 s.vm s.heap U.vm U.heap ∧ Old Z Z.heap.size U.heap ∧ ReturnedEndW s o U L R.cells R.slots
def Go (l : Launch) (Z : State) (K : Cx) (own mn : String) (b : ByteArray) (ml : Nat) (rt : Option FieldType) (R : Room) (Q : QT) (h : Heap) (F : List Addr) (c s : Nat) (pc : Nat) (L : Array Slot) (S : List Value) : Prop :=
  ∀ T, St l Z K own mn b ml rt R T h F c s → ∃ s₂ o, Steps K.1.tables K.2.1 K.2.2.2.2.2.1 (T.setTop (mkF K.2.2.2.1 pc L S)) s₂ ∧ s₂.status = .running ∧ Ended s₂ K.2.2.2.2.2.1 o ∧ End Z K.2.2.1 R Q o s₂
/-- a body's contract -/
def Met (l : Launch) (Z : State) (y : MethodName) (b : ByteArray) (ml : Nat) (rt : Option FieldType) (R : Room) (h0 : Heap) (F : List Addr) (as : Array Value) (Q : QT) : Prop :=
  MetFree l y (head1 [Cond.code y b ml rt] R) (fun a U => a = as ∧ Z.Warmed39 U.vm ∧ U.heap = h0 ∧ CHv Z consts_1 U.vm h0 ∧ (∀ x ∈ F, Mine Z U.vm h0 x) ∧ Old Z Z.heap.size h0) (fun _ _ _ _ _ => True) (fun _ U o U' => End Z U R Q o U')
section G
variable {l : Launch} {Z : State} {a0 : Array Value} {K : Cx} {own mn : String} {b : ByteArray} {ml : Nat} {rt : Option FieldType} {R : Room} {Q : QT} {h h' : Heap} {F : List Addr} {c s pc q : Nat} {L L' : Array Slot} {S S' : List Value}
theorem Met.mk {y : MethodName} {as : Array Value} (hp : plainFor y = true) (he : ∀ m, entryFrame m as ml = mkF m 0 L []) (w : ∀ K, Go l Z K y.cls y.name b ml rt R Q h F 0 0 0 L []) : Met l Z y b ml rt R h F as Q := by
  refine MetFree.of_bodySF hp hisR ?_
  intro p e s m args below meth c s₁ Bd hml hP hK
  obtain ⟨rfl, hZ, hh, hC, hF, hO⟩ := hP
  have hst : s₁.heap = h := by rw [← hh, Bd.state]; rfl
  have X0 : Stand p l e R s m args below meth c s₁ [] 0 0 := Stand.of_body Bd
  obtain ⟨s₂, o, h1, h2, h3, h4⟩ := w (p, e, s, m, args, below, meth, c) s₁ ⟨s.vm, 0, [], X0, hst, ⟨State.Warmed39.refl _, (State.WarmedH.refl s).no_new_pair _⟩, Nat.zero_le _, hZ, findClass_of_methodNamed Bd.named, Fr.nil _, by
    show CHr Z consts_1 s.vm s.heap s.vm h
    rw [hh]; exact CHr.refl hC, hF, hO, Bd.exec, Bd.bytes, hml, Bd.returns, (name_of_methodNamed Bd.named Bd.method).1, Bd.notSynchronized⟩
  exact ⟨s₂, o, by rw [he]; exact h1, h2, h3, h4⟩
/-- the law's own contract, over the sheet's words -/
def MetL (l : Launch) (Z : State) (y : MethodName) (b : ByteArray) (ml : Nat) (rt : Option FieldType) (R : Room) (h0 : Heap) (F : List Addr) (as : Array Value) (Q : QT) : Prop :=
  MetFree l y (head1 (Cond.code y b ml rt :: tables_1) R) (fun a U => a = as ∧ Z.Warmed39 U.vm ∧ U.heap = h0 ∧ CHv Z consts_1 U.vm h0 ∧ (∀ x ∈ F, Mine Z U.vm h0 x) ∧ Old Z Z.heap.size h0) (fun _ _ _ _ _ => True) (fun _ U o U' => End Z U R Q o U')
theorem MetL.mk {y : MethodName} {as : Array Value} (hp : plainFor y = true) (he : ∀ m, entryFrame m as ml = mkF m 0 L []) (w : ∀ K, Go l Z K y.cls y.name b ml rt R Q h F 0 0 0 L []) : MetL l Z y b ml rt R h F as Q := by
  refine MetFree.of_bodySF hp hisR ?_
  intro p e s m args below meth c s₁ Bd hml hP hK
  obtain ⟨rfl, hZ, hh, hC, hF, hO⟩ := hP
  have hst : s₁.heap = h := by rw [← hh, Bd.state]; rfl
  have X0 : Stand p l e R s m args below meth c s₁ [] 0 0 := Stand.of_body Bd
  obtain ⟨s₂, o, h1, h2, h3, h4⟩ := w (p, e, s, m, args, below, meth, c) s₁ ⟨s.vm, 0, [], X0, hst, ⟨State.Warmed39.refl _, (State.WarmedH.refl s).no_new_pair _⟩, Nat.zero_le _, hZ, findClass_of_methodNamed Bd.named, Fr.nil _, by
    show CHr Z consts_1 s.vm s.heap s.vm h
    rw [hh]; exact CHr.refl hC, hF, hO, Bd.exec, Bd.bytes, hml, Bd.returns, (name_of_methodNamed Bd.named Bd.method).1, Bd.notSynchronized⟩
  exact ⟨s₂, o, by rw [he]; exact h1, h2, h3, h4⟩
theorem go_of (st : ∀ T, St l Z K own mn b ml rt R T h F c s → ∀ t, Steps K.1.tables K.2.1 K.2.2.2.2.2.1 (T.setTop (mkF K.2.2.2.1 q L' S')) t → Steps K.1.tables K.2.1 K.2.2.2.2.2.1 (T.setTop (mkF K.2.2.2.1 pc L S)) t)
    (n : Go l Z K own mn b ml rt R Q h F c s q L' S') : Go l Z K own mn b ml rt R Q h F c s pc L S := fun T X => by
  obtain ⟨s₂, o, a, r⟩ := n T X
  exact ⟨s₂, o, st T X _ a, r⟩
/-- the facts at hand may be fewer; the counts higher -/
theorem go_less {F' : List Addr} {c' s' : Nat} (hF : ∀ x ∈ F', x ∈ F) (hc : c ≤ c') (hs : s ≤ s') (n : Go l Z K own mn b ml rt R Q h F' c' s' pc L S) : Go l Z K own mn b ml rt R Q h F c s pc L S := fun T X => by
  obtain ⟨vm, k, locs, Y, r1, r2, r3, r4, r5, r6, r7, r8, r9⟩ := X
  exact n T ⟨vm, k, locs, Y.mono hc hs, r1, r2, r3, r4, r5, r6, r7, fun x hx => r8 x (hF x hx), r9⟩
/-- an object of a class of its own, made since the law began, may be written -/
theorem go_claim {x : Addr} {C : String} (E : Exa Z h x C) (hC : C ≠ "java/lang/String" ∧ C ≠ "[B") (hx : Z.heap.size ≤ x) (n : Go l Z K own mn b ml rt R Q h (x :: F) c s pc L S) : Go l Z K own mn b ml rt R Q h F c s pc L S := fun T X => by
  obtain ⟨vm, k, locs, Y, r1, r2, r3, r4, r5, r6, r7, r8, r9⟩ := X
  exact n T ⟨vm, k, locs, Y, r1, r2, r3, r4, r5, r6, r7, allS ⟨hx, E.lt, Safe.exa r4.alike E hC.1 hC.2⟩ r8, r9⟩
theorem go_claimA {x : Addr} {k : ClassId} {ty : FieldType} {z : Int32} {vs : List Value} {dv : Value} (E : Arv Z h x k ty z vs dv) (hC : ty ≠ .byte) (hx : Z.heap.size ≤ x) (n : Go l Z K own mn b ml rt R Q h (x :: F) c s pc L S) : Go l Z K own mn b ml rt R Q h F c s pc L S := fun T X => by
  obtain ⟨vm, k, locs, Y, r1, r2, r3, r4, r5, r6, r7, r8, r9⟩ := X
  obtain ⟨cl, A, -⟩ := id E
  exact n T ⟨vm, k, locs, Y, r1, r2, r3, r4, r5, r6, r7, allS ⟨hx, E.lt, Safe.arr r4.alike A hC⟩ r8, r9⟩
/-- what is mine lies in the heap and above the start -/
theorem go_mine (n : (∀ x ∈ F, Z.heap.size ≤ x ∧ x < h.size) → Old Z Z.heap.size h → Go l Z K own mn b ml rt R Q h F c s pc L S) : Go l Z K own mn b ml rt R Q h F c s pc L S := fun T X => by
  obtain ⟨vm, k, locs, Y, r1, r2, r3, r4, r5, r6, r7, r8, r9⟩ := id X
  exact n (fun x hx => ⟨(r8 x hx).1, (r8 x hx).2.1⟩) r9.1 T X
/-! ### the plain steps -/
theorem go_aloadN {k : Fin 4} {v : Value} (hd : decode b pc = .ok (.aload_n k, 1)) (hl : L[k.val]? = some (.val v)) (hv : v.isRef = true) (hq : pc + 1 = q) (n : Go l Z K own mn b ml rt R Q h F c s q L (v :: S)) : Go l Z K own mn b ml rt R Q h F c s pc L S := by
  subst hq; exact go_of (fun T X t st => by obtain ⟨vm, k, locs, Y, r1, r2, r3, r4, r5, r6, r7, r8, r9, hx, hb', r⟩ := X; exact XS.aloadN Y.here hx rfl (hb hb' hd) hl hv st) n
theorem go_aload {k : Nat} {v : Value} (hd : decode b pc = .ok (.aload k, 2)) (hl : L[k]? = some (.val v)) (hv : v.isRef = true) (hq : pc + 2 = q) (n : Go l Z K own mn b ml rt R Q h F c s q L (v :: S)) : Go l Z K own mn b ml rt R Q h F c s pc L S := by
  subst hq; exact go_of (fun T X t st => by obtain ⟨vm, k, locs, Y, r1, r2, r3, r4, r5, r6, r7, r8, r9, hx, hb', r⟩ := X; exact XS.aload Y.here hx rfl (hb hb' hd) hl hv st) n
theorem go_iloadN {k : Fin 4} {v : Int32} (hd : decode b pc = .ok (.iload_n k, 1)) (hl : L[k.val]? = some (.val (.int v))) (hq : pc + 1 = q) (n : Go l Z K own mn b ml rt R Q h F c s q L (.int v :: S)) : Go l Z K own mn b ml rt R Q h F c s pc L S := by
  subst hq; exact go_of (fun T X t st => by obtain ⟨vm, k, locs, Y, r1, r2, r3, r4, r5, r6, r7, r8, r9, hx, hb', r⟩ := X; exact XS.iloadN Y.here hx rfl (hb hb' hd) hl st) n
theorem go_iload {k : Nat} {v : Int32} (hd : decode b pc = .ok (.iload k, 2)) (hl : L[k]? = some (.val (.int v))) (hq : pc + 2 = q) (n : Go l Z K own mn b ml rt R Q h F c s q L (.int v :: S)) : Go l Z K own mn b ml rt R Q h F c s pc L S := by
  subst hq; exact go_of (fun T X t st => by obtain ⟨vm, k, locs, Y, r1, r2, r3, r4, r5, r6, r7, r8, r9, hx, hb', r⟩ := X; exact XS.iload Y.here hx rfl (hb hb' hd) hl st) n
theorem go_lloadN {k : Fin 4} {v : Int64} (hd : decode b pc = .ok (.lload_n k, 1)) (hl : L[k.val]? = some (.val (.long v))) (hq : pc + 1 = q) (n : Go l Z K own mn b ml rt R Q h F c s q L (.long v :: S)) : Go l Z K own mn b ml rt R Q h F c s pc L S := by
  subst hq; exact go_of (fun T X t st => by obtain ⟨vm, k, locs, Y, r1, r2, r3, r4, r5, r6, r7, r8, r9, hx, hb', r⟩ := X; exact XS.lloadN Y.here hx rfl (hb hb' hd) hl st) n
theorem go_lload {k : Nat} {v : Int64} (hd : decode b pc = .ok (.lload k, 2)) (hl : L[k]? = some (.val (.long v))) (hq : pc + 2 = q) (n : Go l Z K own mn b ml rt R Q h F c s q L (.long v :: S)) : Go l Z K own mn b ml rt R Q h F c s pc L S := by
  subst hq; exact go_of (fun T X t st => by obtain ⟨vm, k, locs, Y, r1, r2, r3, r4, r5, r6, r7, r8, r9, hx, hb', r⟩ := X; exact XS.lload Y.here hx rfl (hb hb' hd) hl st) n
theorem go_iconst {i : Int} {x : Int32} (hd : decode b pc = .ok (.iconst i, 1)) (hv : Int32.ofInt i = x) (hq : pc + 1 = q) (n : Go l Z K own mn b ml rt R Q h F c s q L (.int x :: S)) : Go l Z K own mn b ml rt R Q h F c s pc L S := by
  subst hq hv; exact go_of (fun T X t st => by obtain ⟨vm, k, locs, Y, r1, r2, r3, r4, r5, r6, r7, r8, r9, hx, hb', r⟩ := X; exact XS.iconst Y.here hx rfl (hb hb' hd) st) n
theorem go_bipush {i : Int} {x : Int32} (hd : decode b pc = .ok (.bipush i, 2)) (hv : (Int8.ofInt i).toInt32 = x) (hq : pc + 2 = q) (n : Go l Z K own mn b ml rt R Q h F c s q L (.int x :: S)) : Go l Z K own mn b ml rt R Q h F c s pc L S := by
  subst hq hv; exact go_of (fun T X t st => by obtain ⟨vm, k, locs, Y, r1, r2, r3, r4, r5, r6, r7, r8, r9, hx, hb', r⟩ := X; exact XS.bipush Y.here hx rfl (hb hb' hd) st) n
theorem go_sipush {i : Int} {x : Int32} (hd : decode b pc = .ok (.sipush i, 3)) (hv : (Int16.ofInt i).toInt32 = x) (hq : pc + 3 = q) (n : Go l Z K own mn b ml rt R Q h F c s q L (.int x :: S)) : Go l Z K own mn b ml rt R Q h F c s pc L S := by
  subst hq hv; exact go_of (fun T X t st => by obtain ⟨vm, k, locs, Y, r1, r2, r3, r4, r5, r6, r7, r8, r9, hx, hb', r⟩ := X; exact XS.sipush Y.here hx rfl (hb hb' hd) st) n
theorem go_lconst {k : Fin 2} {x : Int64} (hd : decode b pc = .ok (.lconst k, 1)) (hv : Int64.ofNat k = x) (hq : pc + 1 = q) (n : Go l Z K own mn b ml rt R Q h F c s q L (.long x :: S)) : Go l Z K own mn b ml rt R Q h F c s pc L S := by
  subst hq hv; exact go_of (fun T X t st => by obtain ⟨vm, k, locs, Y, r1, r2, r3, r4, r5, r6, r7, r8, r9, hx, hb', r⟩ := X; exact XS.lconst Y.here hx rfl (hb hb' hd) st) n
theorem go_null (hd : decode b pc = .ok (.aconst_null, 1)) (hq : pc + 1 = q) (n : Go l Z K own mn b ml rt R Q h F c s q L (.null :: S)) : Go l Z K own mn b ml rt R Q h F c s pc L S := by
  subst hq; exact go_of (fun T X t st => by obtain ⟨vm, k, locs, Y, r1, r2, r3, r4, r5, r6, r7, r8, r9, hx, hb', r⟩ := X; exact XS.aconstNull Y.here hx rfl (hb hb' hd) st) n
theorem go_iadd {x : Int32} {y : Int32} {r : Int32} (hd : decode b pc = .ok (.iadd, 1)) (hr : x + y = r) (hq : pc + 1 = q) (n : Go l Z K own mn b ml rt R Q h F c s q L (.int r :: S)) : Go l Z K own mn b ml rt R Q h F c s pc L (.int y :: .int x :: S) := by
  subst hq hr; exact go_of (fun T X t st => by obtain ⟨vm, k, locs, Y, r1, r2, r3, r4, r5, r6, r7, r8, r9, hx, hb', rr⟩ := X; exact XS.iadd Y.here hx rfl (hb hb' hd) rfl st) n
theorem go_isub {x : Int32} {y : Int32} {r : Int32} (hd : decode b pc = .ok (.isub, 1)) (hr : x - y = r) (hq : pc + 1 = q) (n : Go l Z K own mn b ml rt R Q h F c s q L (.int r :: S)) : Go l Z K own mn b ml rt R Q h F c s pc L (.int y :: .int x :: S) := by
  subst hq hr; exact go_of (fun T X t st => by obtain ⟨vm, k, locs, Y, r1, r2, r3, r4, r5, r6, r7, r8, r9, hx, hb', rr⟩ := X; exact XS.isub Y.here hx rfl (hb hb' hd) rfl st) n
theorem go_iand {x : Int32} {y : Int32} {r : Int32} (hd : decode b pc = .ok (.iand, 1)) (hr : x &&& y = r) (hq : pc + 1 = q) (n : Go l Z K own mn b ml rt R Q h F c s q L (.int r :: S)) : Go l Z K own mn b ml rt R Q h F c s pc L (.int y :: .int x :: S) := by
  subst hq hr; exact go_of (fun T X t st => by obtain ⟨vm, k, locs, Y, r1, r2, r3, r4, r5, r6, r7, r8, r9, hx, hb', rr⟩ := X; exact XS.iand Y.here hx rfl (hb hb' hd) rfl st) n
theorem go_imul {x : Int32} {y : Int32} {r : Int32} (hd : decode b pc = .ok (.imul, 1)) (hr : x * y = r) (hq : pc + 1 = q) (n : Go l Z K own mn b ml rt R Q h F c s q L (.int r :: S)) : Go l Z K own mn b ml rt R Q h F c s pc L (.int y :: .int x :: S) := by
  subst hq hr; exact go_of (fun T X t st => by obtain ⟨vm, k, locs, Y, r1, r2, r3, r4, r5, r6, r7, r8, r9, hx, hb', rr⟩ := X; exact XS.imul Y.here hx rfl (hb hb' hd) rfl st) n
theorem go_ixor {x : Int32} {y : Int32} {r : Int32} (hd : decode b pc = .ok (.ixor, 1)) (hr : x ^^^ y = r) (hq : pc + 1 = q) (n : Go l Z K own mn b ml rt R Q h F c s q L (.int r :: S)) : Go l Z K own mn b ml rt R Q h F c s pc L (.int y :: .int x :: S) := by
  subst hq hr; exact go_of (fun T X t st => by obtain ⟨vm, k, locs, Y, r1, r2, r3, r4, r5, r6, r7, r8, r9, hx, hb', rr⟩ := X; exact XT.ixor Y.here hx rfl (hb hb' hd) rfl st) n
theorem go_ior {x : Int32} {y : Int32} {r : Int32} (hd : decode b pc = .ok (.ior, 1)) (hr : x ||| y = r) (hq : pc + 1 = q) (n : Go l Z K own mn b ml rt R Q h F c s q L (.int r :: S)) : Go l Z K own mn b ml rt R Q h F c s pc L (.int y :: .int x :: S) := by
  subst hq hr; exact go_of (fun T X t st => by obtain ⟨vm, k, locs, Y, r1, r2, r3, r4, r5, r6, r7, r8, r9, hx, hb', rr⟩ := X; exact XT.ior Y.here hx rfl (hb hb' hd) rfl st) n
theorem go_ishl {x : Int32} {y : Int32} {r : Int32} (hd : decode b pc = .ok (.ishl, 1)) (hr : x <<< (y &&& 31) = r) (hq : pc + 1 = q) (n : Go l Z K own mn b ml rt R Q h F c s q L (.int r :: S)) : Go l Z K own mn b ml rt R Q h F c s pc L (.int y :: .int x :: S) := by
  subst hq hr; exact go_of (fun T X t st => by obtain ⟨vm, k, locs, Y, r1, r2, r3, r4, r5, r6, r7, r8, r9, hx, hb', rr⟩ := X; exact XT.ishl Y.here hx rfl (hb hb' hd) rfl st) n
theorem go_ishr {x : Int32} {y : Int32} {r : Int32} (hd : decode b pc = .ok (.ishr, 1)) (hr : x >>> (y &&& 31) = r) (hq : pc + 1 = q) (n : Go l Z K own mn b ml rt R Q h F c s q L (.int r :: S)) : Go l Z K own mn b ml rt R Q h F c s pc L (.int y :: .int x :: S) := by
  subst hq hr; exact go_of (fun T X t st => by obtain ⟨vm, k, locs, Y, r1, r2, r3, r4, r5, r6, r7, r8, r9, hx, hb', rr⟩ := X; exact XT.ishr Y.here hx rfl (hb hb' hd) rfl st) n
theorem go_iushr {x : Int32} {y : Int32} {r : Int32} (hd : decode b pc = .ok (.iushr, 1)) (hr : XT.ushr x y = r) (hq : pc + 1 = q) (n : Go l Z K own mn b ml rt R Q h F c s q L (.int r :: S)) : Go l Z K own mn b ml rt R Q h F c s pc L (.int y :: .int x :: S) := by
  subst hq hr; exact go_of (fun T X t st => by obtain ⟨vm, k, locs, Y, r1, r2, r3, r4, r5, r6, r7, r8, r9, hx, hb', rr⟩ := X; exact XT.iushr Y.here hx rfl (hb hb' hd) rfl st) n
theorem go_idiv {x : Int32} {y : Int32} {r : Int32} (hd : decode b pc = .ok (.idiv, 1)) (hy : y ≠ 0) (hr : x / y = r) (hq : pc + 1 = q) (n : Go l Z K own mn b ml rt R Q h F c s q L (.int r :: S)) : Go l Z K own mn b ml rt R Q h F c s pc L (.int y :: .int x :: S) := by
  subst hq hr; exact go_of (fun T X t st => by obtain ⟨vm, k, locs, Y, r1, r2, r3, r4, r5, r6, r7, r8, r9, hx, hb', rr⟩ := X; exact XS.idiv Y.here hx rfl (hb hb' hd) rfl hy st) n
theorem go_irem0 {x : Int32} {y : Int32} {r : Int32} (hd : decode b pc = .ok (.irem, 1)) (hy : y ≠ 0) (hr : x - (x / y) * y = r) (hq : pc + 1 = q) (n : Go l Z K own mn b ml rt R Q h F c s q L (.int r :: S)) : Go l Z K own mn b ml rt R Q h F c s pc L (.int y :: .int x :: S) := by
  subst hq hr; exact go_of (fun T X t st => by obtain ⟨vm, k, locs, Y, r1, r2, r3, r4, r5, r6, r7, r8, r9, hx, hb', rr⟩ := X; exact XS.irem Y.here hx rfl (hb hb' hd) rfl hy st) n
theorem go_ladd {x : Int64} {y : Int64} {r : Int64} (hd : decode b pc = .ok (.ladd, 1)) (hr : x + y = r) (hq : pc + 1 = q) (n : Go l Z K own mn b ml rt R Q h F c s q L (.long r :: S)) : Go l Z K own mn b ml rt R Q h F c s pc L (.long y :: .long x :: S) := by
  subst hq hr; exact go_of (fun T X t st => by obtain ⟨vm, k, locs, Y, r1, r2, r3, r4, r5, r6, r7, r8, r9, hx, hb', rr⟩ := X; exact XT.ladd Y.here hx rfl (hb hb' hd) rfl st) n
theorem go_lsub {x : Int64} {y : Int64} {r : Int64} (hd : decode b pc = .ok (.lsub, 1)) (hr : x - y = r) (hq : pc + 1 = q) (n : Go l Z K own mn b ml rt R Q h F c s q L (.long r :: S)) : Go l Z K own mn b ml rt R Q h F c s pc L (.long y :: .long x :: S) := by
  subst hq hr; exact go_of (fun T X t st => by obtain ⟨vm, k, locs, Y, r1, r2, r3, r4, r5, r6, r7, r8, r9, hx, hb', rr⟩ := X; exact XT.lsub Y.here hx rfl (hb hb' hd) rfl st) n
theorem go_lmul {x : Int64} {y : Int64} {r : Int64} (hd : decode b pc = .ok (.lmul, 1)) (hr : x * y = r) (hq : pc + 1 = q) (n : Go l Z K own mn b ml rt R Q h F c s q L (.long r :: S)) : Go l Z K own mn b ml rt R Q h F c s pc L (.long y :: .long x :: S) := by
  subst hq hr; exact go_of (fun T X t st => by obtain ⟨vm, k, locs, Y, r1, r2, r3, r4, r5, r6, r7, r8, r9, hx, hb', rr⟩ := X; exact XT.lmul Y.here hx rfl (hb hb' hd) rfl st) n
theorem go_land {x : Int64} {y : Int64} {r : Int64} (hd : decode b pc = .ok (.land, 1)) (hr : x &&& y = r) (hq : pc + 1 = q) (n : Go l Z K own mn b ml rt R Q h F c s q L (.long r :: S)) : Go l Z K own mn b ml rt R Q h F c s pc L (.long y :: .long x :: S) := by
  subst hq hr; exact go_of (fun T X t st => by obtain ⟨vm, k, locs, Y, r1, r2, r3, r4, r5, r6, r7, r8, r9, hx, hb', rr⟩ := X; exact XT.land Y.here hx rfl (hb hb' hd) rfl st) n
theorem go_lor {x : Int64} {y : Int64} {r : Int64} (hd : decode b pc = .ok (.lor, 1)) (hr : x ||| y = r) (hq : pc + 1 = q) (n : Go l Z K own mn b ml rt R Q h F c s q L (.long r :: S)) : Go l Z K own mn b ml rt R Q h F c s pc L (.long y :: .long x :: S) := by
  subst hq hr; exact go_of (fun T X t st => by obtain ⟨vm, k, locs, Y, r1, r2, r3, r4, r5, r6, r7, r8, r9, hx, hb', rr⟩ := X; exact XT.lor Y.here hx rfl (hb hb' hd) rfl st) n
theorem go_lxor {x : Int64} {y : Int64} {r : Int64} (hd : decode b pc = .ok (.lxor, 1)) (hr : x ^^^ y = r) (hq : pc + 1 = q) (n : Go l Z K own mn b ml rt R Q h F c s q L (.long r :: S)) : Go l Z K own mn b ml rt R Q h F c s pc L (.long y :: .long x :: S) := by
  subst hq hr; exact go_of (fun T X t st => by obtain ⟨vm, k, locs, Y, r1, r2, r3, r4, r5, r6, r7, r8, r9, hx, hb', rr⟩ := X; exact XT.lxor Y.here hx rfl (hb hb' hd) rfl st) n
theorem go_ldiv {x : Int64} {y : Int64} {r : Int64} (hd : decode b pc = .ok (.ldiv, 1)) (hy : y ≠ 0) (hr : x / y = r) (hq : pc + 1 = q) (n : Go l Z K own mn b ml rt R Q h F c s q L (.long r :: S)) : Go l Z K own mn b ml rt R Q h F c s pc L (.long y :: .long x :: S) := by
  subst hq hr; exact go_of (fun T X t st => by obtain ⟨vm, k, locs, Y, r1, r2, r3, r4, r5, r6, r7, r8, r9, hx, hb', rr⟩ := X; exact XT.ldiv Y.here hx rfl (hb hb' hd) rfl hy st) n
theorem go_lrem0 {x : Int64} {y : Int64} {r : Int64} (hd : decode b pc = .ok (.lrem, 1)) (hy : y ≠ 0) (hr : x - (x / y) * y = r) (hq : pc + 1 = q) (n : Go l Z K own mn b ml rt R Q h F c s q L (.long r :: S)) : Go l Z K own mn b ml rt R Q h F c s pc L (.long y :: .long x :: S) := by
  subst hq hr; exact go_of (fun T X t st => by obtain ⟨vm, k, locs, Y, r1, r2, r3, r4, r5, r6, r7, r8, r9, hx, hb', rr⟩ := X; exact XT.lrem Y.here hx rfl (hb hb' hd) rfl hy st) n
theorem go_lcmp {x : Int64} {y : Int64} {r : Int32} (hd : decode b pc = .ok (.lcmp, 1)) (hr : XT.cmpL x y = r) (hq : pc + 1 = q) (n : Go l Z K own mn b ml rt R Q h F c s q L (.int r :: S)) : Go l Z K own mn b ml rt R Q h F c s pc L (.long y :: .long x :: S) := by
  subst hq hr; exact go_of (fun T X t st => by obtain ⟨vm, k, locs, Y, r1, r2, r3, r4, r5, r6, r7, r8, r9, hx, hb', rr⟩ := X; exact XT.lcmp Y.here hx rfl (hb hb' hd) rfl st) n
theorem go_lshl {x : Int64} {y : Int32} {r : Int64} (hd : decode b pc = .ok (.lshl, 1)) (hr : x <<< (y.toInt64 &&& 63) = r) (hq : pc + 1 = q) (n : Go l Z K own mn b ml rt R Q h F c s q L (.long r :: S)) : Go l Z K own mn b ml rt R Q h F c s pc L (.int y :: .long x :: S) := by
  subst hq hr; exact go_of (fun T X t st => by obtain ⟨vm, k, locs, Y, r1, r2, r3, r4, r5, r6, r7, r8, r9, hx, hb', rr⟩ := X; exact XT.lshl Y.here hx rfl (hb hb' hd) rfl st) n
theorem go_lshr {x : Int64} {y : Int32} {r : Int64} (hd : decode b pc = .ok (.lshr, 1)) (hr : x >>> (y.toInt64 &&& 63) = r) (hq : pc + 1 = q) (n : Go l Z K own mn b ml rt R Q h F c s q L (.long r :: S)) : Go l Z K own mn b ml rt R Q h F c s pc L (.int y :: .long x :: S) := by
  subst hq hr; exact go_of (fun T X t st => by obtain ⟨vm, k, locs, Y, r1, r2, r3, r4, r5, r6, r7, r8, r9, hx, hb', rr⟩ := X; exact XT.lshr Y.here hx rfl (hb hb' hd) rfl st) n
theorem go_lushr {x : Int64} {y : Int32} {r : Int64} (hd : decode b pc = .ok (.lushr, 1)) (hr : XT.ushrL x y = r) (hq : pc + 1 = q) (n : Go l Z K own mn b ml rt R Q h F c s q L (.long r :: S)) : Go l Z K own mn b ml rt R Q h F c s pc L (.int y :: .long x :: S) := by
  subst hq hr; exact go_of (fun T X t st => by obtain ⟨vm, k, locs, Y, r1, r2, r3, r4, r5, r6, r7, r8, r9, hx, hb', rr⟩ := X; exact XT.lushr Y.here hx rfl (hb hb' hd) rfl st) n
theorem go_ineg {x : Int32} {r : Int32} (hd : decode b pc = .ok (.ineg, 1)) (hr : -x = r) (hq : pc + 1 = q) (n : Go l Z K own mn b ml rt R Q h F c s q L (.int r :: S)) : Go l Z K own mn b ml rt R Q h F c s pc L (.int x :: S) := by
  subst hq hr; exact go_of (fun T X t st => by obtain ⟨vm, k, locs, Y, r1, r2, r3, r4, r5, r6, r7, r8, r9, hx, hb', rr⟩ := X; exact XS.ineg Y.here hx rfl (hb hb' hd) rfl st) n
theorem go_lneg {x : Int64} {r : Int64} (hd : decode b pc = .ok (.lneg, 1)) (hr : -x = r) (hq : pc + 1 = q) (n : Go l Z K own mn b ml rt R Q h F c s q L (.long r :: S)) : Go l Z K own mn b ml rt R Q h F c s pc L (.long x :: S) := by
  subst hq hr; exact go_of (fun T X t st => by obtain ⟨vm, k, locs, Y, r1, r2, r3, r4, r5, r6, r7, r8, r9, hx, hb', rr⟩ := X; exact XT.lneg Y.here hx rfl (hb hb' hd) rfl st) n
theorem go_i2l {x : Int32} {r : Int64} (hd : decode b pc = .ok (.i2l, 1)) (hr : x.toInt64 = r) (hq : pc + 1 = q) (n : Go l Z K own mn b ml rt R Q h F c s q L (.long r :: S)) : Go l Z K own mn b ml rt R Q h F c s pc L (.int x :: S) := by
  subst hq hr; exact go_of (fun T X t st => by obtain ⟨vm, k, locs, Y, r1, r2, r3, r4, r5, r6, r7, r8, r9, hx, hb', rr⟩ := X; exact XT.i2l Y.here hx rfl (hb hb' hd) rfl st) n
theorem go_l2i {x : Int64} {r : Int32} (hd : decode b pc = .ok (.l2i, 1)) (hr : x.toInt32 = r) (hq : pc + 1 = q) (n : Go l Z K own mn b ml rt R Q h F c s q L (.int r :: S)) : Go l Z K own mn b ml rt R Q h F c s pc L (.long x :: S) := by
  subst hq hr; exact go_of (fun T X t st => by obtain ⟨vm, k, locs, Y, r1, r2, r3, r4, r5, r6, r7, r8, r9, hx, hb', rr⟩ := X; exact XT.l2i Y.here hx rfl (hb hb' hd) rfl st) n
theorem go_i2b {x : Int32} {r : Int32} (hd : decode b pc = .ok (.i2b, 1)) (hr : x.toInt8.toInt32 = r) (hq : pc + 1 = q) (n : Go l Z K own mn b ml rt R Q h F c s q L (.int r :: S)) : Go l Z K own mn b ml rt R Q h F c s pc L (.int x :: S) := by
  subst hq hr; exact go_of (fun T X t st => by obtain ⟨vm, k, locs, Y, r1, r2, r3, r4, r5, r6, r7, r8, r9, hx, hb', rr⟩ := X; exact XT.i2b Y.here hx rfl (hb hb' hd) rfl st) n
theorem go_i2c {x : Int32} {r : Int32} (hd : decode b pc = .ok (.i2c, 1)) (hr : x.toUInt32.toUInt16.toUInt32.toInt32 = r) (hq : pc + 1 = q) (n : Go l Z K own mn b ml rt R Q h F c s q L (.int r :: S)) : Go l Z K own mn b ml rt R Q h F c s pc L (.int x :: S) := by
  subst hq hr; exact go_of (fun T X t st => by obtain ⟨vm, k, locs, Y, r1, r2, r3, r4, r5, r6, r7, r8, r9, hx, hb', rr⟩ := X; exact XT.i2c Y.here hx rfl (hb hb' hd) rfl st) n
theorem go_i2s {x : Int32} {r : Int32} (hd : decode b pc = .ok (.i2s, 1)) (hr : x.toInt16.toInt32 = r) (hq : pc + 1 = q) (n : Go l Z K own mn b ml rt R Q h F c s q L (.int r :: S)) : Go l Z K own mn b ml rt R Q h F c s pc L (.int x :: S) := by
  subst hq hr; exact go_of (fun T X t st => by obtain ⟨vm, k, locs, Y, r1, r2, r3, r4, r5, r6, r7, r8, r9, hx, hb', rr⟩ := X; exact XT.i2s Y.here hx rfl (hb hb' hd) rfl st) n
theorem go_istoreN {k : Fin 4} {x : Int32} (hd : decode b pc = .ok (.istore_n k, 1)) (hl : storeLocals L k.val (.int x) = some L') (hq : pc + 1 = q) (n : Go l Z K own mn b ml rt R Q h F c s q L' S) : Go l Z K own mn b ml rt R Q h F c s pc L (.int x :: S) := by
  subst hq; exact go_of (fun T X t st => by obtain ⟨vm, k, locs, Y, r1, r2, r3, r4, r5, r6, r7, r8, r9, hx, hb', rr⟩ := X; exact XS.istoreN Y.here hx rfl (hb hb' hd) rfl hl st) n
theorem go_istore {k : Nat} {x : Int32} (hd : decode b pc = .ok (.istore k, 2)) (hl : storeLocals L k (.int x) = some L') (hq : pc + 2 = q) (n : Go l Z K own mn b ml rt R Q h F c s q L' S) : Go l Z K own mn b ml rt R Q h F c s pc L (.int x :: S) := by
  subst hq; exact go_of (fun T X t st => by obtain ⟨vm, k, locs, Y, r1, r2, r3, r4, r5, r6, r7, r8, r9, hx, hb', rr⟩ := X; exact XS.istore Y.here hx rfl (hb hb' hd) rfl hl st) n
theorem go_lstoreN {k : Fin 4} {x : Int64} (hd : decode b pc = .ok (.lstore_n k, 1)) (hl : storeLocals L k.val (.long x) = some L') (hq : pc + 1 = q) (n : Go l Z K own mn b ml rt R Q h F c s q L' S) : Go l Z K own mn b ml rt R Q h F c s pc L (.long x :: S) := by
  subst hq; exact go_of (fun T X t st => by obtain ⟨vm, k, locs, Y, r1, r2, r3, r4, r5, r6, r7, r8, r9, hx, hb', rr⟩ := X; exact XT.lstoreN Y.here hx rfl (hb hb' hd) rfl hl st) n
theorem go_lstore {k : Nat} {x : Int64} (hd : decode b pc = .ok (.lstore k, 2)) (hl : storeLocals L k (.long x) = some L') (hq : pc + 2 = q) (n : Go l Z K own mn b ml rt R Q h F c s q L' S) : Go l Z K own mn b ml rt R Q h F c s pc L (.long x :: S) := by
  subst hq; exact go_of (fun T X t st => by obtain ⟨vm, k, locs, Y, r1, r2, r3, r4, r5, r6, r7, r8, r9, hx, hb', rr⟩ := X; exact XT.lstore Y.here hx rfl (hb hb' hd) rfl hl st) n
theorem go_astoreN {k : Fin 4} {x : Value} (hd : decode b pc = .ok (.astore_n k, 1)) (hv : x.isRef = true) (hl : storeLocals L k.val (x) = some L') (hq : pc + 1 = q) (n : Go l Z K own mn b ml rt R Q h F c s q L' S) : Go l Z K own mn b ml rt R Q h F c s pc L (x :: S) := by
  subst hq; exact go_of (fun T X t st => by obtain ⟨vm, k, locs, Y, r1, r2, r3, r4, r5, r6, r7, r8, r9, hx, hb', rr⟩ := X; exact XS.astoreN Y.here hx rfl (hb hb' hd) rfl hv hl st) n
theorem go_astore {k : Nat} {x : Value} (hd : decode b pc = .ok (.astore k, 2)) (hv : x.isRef = true) (hl : storeLocals L k (x) = some L') (hq : pc + 2 = q) (n : Go l Z K own mn b ml rt R Q h F c s q L' S) : Go l Z K own mn b ml rt R Q h F c s pc L (x :: S) := by
  subst hq; exact go_of (fun T X t st => by obtain ⟨vm, k, locs, Y, r1, r2, r3, r4, r5, r6, r7, r8, r9, hx, hb', rr⟩ := X; exact XS.astore Y.here hx rfl (hb hb' hd) rfl hv hl st) n
theorem go_iinc {k : Nat} {i : Int} {x y : Int32} (hd : decode b pc = .ok (.iinc k i, 3)) (hl : L[k]? = some (.val (.int x))) (hy : x + Int32.ofInt i = y) (hl' : storeLocals L k (.int y) = some L') (hq : pc + 3 = q) (n : Go l Z K own mn b ml rt R Q h F c s q L' S) : Go l Z K own mn b ml rt R Q h F c s pc L S := by
  subst hq hy; exact go_of (fun T X t st => by obtain ⟨vm, k, locs, Y, r1, r2, r3, r4, r5, r6, r7, r8, r9, hx, hb', rr⟩ := X; exact XS.iinc Y.here hx rfl (hb hb' hd) hl hl' st) n
theorem go_dup {x : Value} (hd : decode b pc = .ok (.dup, 1)) (hc : x.category = 1) (hq : pc + 1 = q) (n : Go l Z K own mn b ml rt R Q h F c s q L (x :: x :: S)) : Go l Z K own mn b ml rt R Q h F c s pc L (x :: S) := by
  subst hq; exact go_of (fun T X t st => by obtain ⟨vm, k, locs, Y, r1, r2, r3, r4, r5, r6, r7, r8, r9, hx, hb', rr⟩ := X; exact XS.dup Y.here hx rfl (hb hb' hd) rfl hc st) n
theorem go_pop {x : Value} (hd : decode b pc = .ok (.pop, 1)) (hc : x.category = 1) (hq : pc + 1 = q) (n : Go l Z K own mn b ml rt R Q h F c s q L S) : Go l Z K own mn b ml rt R Q h F c s pc L (x :: S) := by
  subst hq; exact go_of (fun T X t st => by obtain ⟨vm, k, locs, Y, r1, r2, r3, r4, r5, r6, r7, r8, r9, hx, hb', rr⟩ := X; exact XT.pop Y.here hx rfl (hb hb' hd) rfl hc st) n
theorem go_dupX1 {x y : Value} (hd : decode b pc = .ok (.dup_x1, 1)) (hc : x.category = 1) (hc' : y.category = 1) (hq : pc + 1 = q) (n : Go l Z K own mn b ml rt R Q h F c s q L (x :: y :: x :: S)) : Go l Z K own mn b ml rt R Q h F c s pc L (x :: y :: S) := by
  subst hq; exact go_of (fun T X t st => by obtain ⟨vm, k, locs, Y, r1, r2, r3, r4, r5, r6, r7, r8, r9, hx, hb', rr⟩ := X; exact XT.dupX1 Y.here hx rfl (hb hb' hd) rfl hc hc' st) n
theorem go_dup2 {x y : Value} (hd : decode b pc = .ok (.dup2, 1)) (hc : x.category = 1) (hc' : y.category = 1) (hq : pc + 1 = q) (n : Go l Z K own mn b ml rt R Q h F c s q L (x :: y :: x :: y :: S)) : Go l Z K own mn b ml rt R Q h F c s pc L (x :: y :: S) := by
  subst hq; exact go_of (fun T X t st => by obtain ⟨vm, k, locs, Y, r1, r2, r3, r4, r5, r6, r7, r8, r9, hx, hb', rr⟩ := X; exact XT.dup2 Y.here hx rfl (hb hb' hd) rfl hc hc' st) n
theorem go_goto {o : Int} (hd : decode b pc = .ok (.goto o, 3)) (ho : 0 ≤ (pc : Int) + o) (hp : ((pc : Int) + o).toNat = q) (n : Go l Z K own mn b ml rt R Q h F c s q L S) : Go l Z K own mn b ml rt R Q h F c s pc L S := by
  exact go_of (fun T X t st => by obtain ⟨vm, k, locs, Y, r1, r2, r3, r4, r5, r6, r7, r8, r9, hx, hb', rr⟩ := X; exact XS.goto Y.here hx rfl rfl (hb hb' hd) ho hp st) n
/-- the condition as a plain proposition: taken, not taken -/
abbrev cY : ClassFile.Cond → Int32 → Int32 → Prop
  | .eq, x, y => x = y
  | .ne, x, y => ¬ x = y
  | .lt, x, y => x < y
  | .ge, x, y => ¬ x < y
  | .gt, x, y => y < x
  | .le, x, y => ¬ y < x
abbrev cN : ClassFile.Cond → Int32 → Int32 → Prop
  | .eq, x, y => ¬ x = y
  | .ne, x, y => x = y
  | .lt, x, y => ¬ x < y
  | .ge, x, y => x < y
  | .gt, x, y => ¬ y < x
  | .le, x, y => y < x
theorem cY_holds {cd : ClassFile.Cond} {x y : Int32} (h : cY cd x y) : if_icmp.holds cd x y = true := by
  cases cd with
  | eq => exact (teq h).1
  | ne => exact (feq h).2
  | lt => exact (tlt h).1
  | ge => exact (flt h).2.1
  | gt => exact (tlt h).2.2.1
  | le => exact (flt h).2.2.2
theorem cN_holds {cd : ClassFile.Cond} {x y : Int32} (h : cN cd x y) : if_icmp.holds cd x y = false := by
  cases cd with
  | eq => exact (feq h).1
  | ne => exact (teq h).2
  | lt => exact (flt h).1
  | ge => exact (tlt h).2.1
  | gt => exact (flt h).2.2.1
  | le => exact (tlt h).2.2.2
theorem go_ifY {cd : ClassFile.Cond} {x : Int32} {o : Int} (hd : decode b pc = .ok (.ifCond cd o, 3)) (hc : cY cd x 0) (ho : 0 ≤ (pc : Int) + o) (hp : ((pc : Int) + o).toNat = q) (n : Go l Z K own mn b ml rt R Q h F c s q L S) : Go l Z K own mn b ml rt R Q h F c s pc L (.int x :: S) := by
  exact go_of (fun T X t st => by obtain ⟨vm, k, locs, Y, r1, r2, r3, r4, r5, r6, r7, r8, r9, hx, hb', rr⟩ := X; exact XS.ifYes Y.here hx rfl rfl (hb hb' hd) rfl ((if0 _ _).trans (cY_holds hc)) ho hp st) n
theorem go_ifN {cd : ClassFile.Cond} {x : Int32} {o : Int} (hd : decode b pc = .ok (.ifCond cd o, 3)) (hc : cN cd x 0) (hq : pc + 3 = q) (n : Go l Z K own mn b ml rt R Q h F c s q L S) : Go l Z K own mn b ml rt R Q h F c s pc L (.int x :: S) := by
  subst hq; exact go_of (fun T X t st => by obtain ⟨vm, k, locs, Y, r1, r2, r3, r4, r5, r6, r7, r8, r9, hx, hb', rr⟩ := X; exact XS.ifNo Y.here hx rfl (hb hb' hd) rfl ((if0 _ _).trans (cN_holds hc)) st) n
theorem go_icY {cd : ClassFile.Cond} {x y : Int32} {o : Int} (hd : decode b pc = .ok (.if_icmp cd o, 3)) (hc : cY cd x y) (ho : 0 ≤ (pc : Int) + o) (hp : ((pc : Int) + o).toNat = q) (n : Go l Z K own mn b ml rt R Q h F c s q L S) : Go l Z K own mn b ml rt R Q h F c s pc L (.int y :: .int x :: S) := by
  exact go_of (fun T X t st => by obtain ⟨vm, k, locs, Y, r1, r2, r3, r4, r5, r6, r7, r8, r9, hx, hb', rr⟩ := X; exact XS.icmpYes Y.here hx rfl rfl (hb hb' hd) rfl (cY_holds hc) ho hp st) n
theorem go_icN {cd : ClassFile.Cond} {x y : Int32} {o : Int} (hd : decode b pc = .ok (.if_icmp cd o, 3)) (hc : cN cd x y) (hq : pc + 3 = q) (n : Go l Z K own mn b ml rt R Q h F c s q L S) : Go l Z K own mn b ml rt R Q h F c s pc L (.int y :: .int x :: S) := by
  subst hq; exact go_of (fun T X t st => by obtain ⟨vm, k, locs, Y, r1, r2, r3, r4, r5, r6, r7, r8, r9, hx, hb', rr⟩ := X; exact XS.icmpNo Y.here hx rfl (hb hb' hd) rfl (cN_holds hc) st) n
theorem go_nullY {o : Int} (hd : decode b pc = .ok (.ifnull o, 3)) (ho : 0 ≤ (pc : Int) + o) (hp : ((pc : Int) + o).toNat = q) (n : Go l Z K own mn b ml rt R Q h F c s q L S) : Go l Z K own mn b ml rt R Q h F c s pc L (.null :: S) := by
  exact go_of (fun T X t st => by obtain ⟨vm, k, locs, Y, r1, r2, r3, r4, r5, r6, r7, r8, r9, hx, hb', rr⟩ := X; exact XS.ifnullYes Y.here hx rfl rfl (hb hb' hd) rfl ho hp st) n
theorem go_nullN {a : Addr} {o : Int} (hd : decode b pc = .ok (.ifnull o, 3)) (hq : pc + 3 = q) (n : Go l Z K own mn b ml rt R Q h F c s q L S) : Go l Z K own mn b ml rt R Q h F c s pc L (.ref a :: S) := by
  subst hq; exact go_of (fun T X t st => by obtain ⟨vm, k, locs, Y, r1, r2, r3, r4, r5, r6, r7, r8, r9, hx, hb', rr⟩ := X; exact XS.ifnullNo Y.here hx rfl (hb hb' hd) rfl st) n
theorem go_nnY {a : Addr} {o : Int} (hd : decode b pc = .ok (.ifnonnull o, 3)) (ho : 0 ≤ (pc : Int) + o) (hp : ((pc : Int) + o).toNat = q) (n : Go l Z K own mn b ml rt R Q h F c s q L S) : Go l Z K own mn b ml rt R Q h F c s pc L (.ref a :: S) := by
  exact go_of (fun T X t st => by obtain ⟨vm, k, locs, Y, r1, r2, r3, r4, r5, r6, r7, r8, r9, hx, hb', rr⟩ := X; exact XT.ifnonnullYes Y.here hx rfl rfl (hb hb' hd) rfl ho hp st) n
theorem go_nnN {o : Int} (hd : decode b pc = .ok (.ifnonnull o, 3)) (hq : pc + 3 = q) (n : Go l Z K own mn b ml rt R Q h F c s q L S) : Go l Z K own mn b ml rt R Q h F c s pc L (.null :: S) := by
  subst hq; exact go_of (fun T X t st => by obtain ⟨vm, k, locs, Y, r1, r2, r3, r4, r5, r6, r7, r8, r9, hx, hb', rr⟩ := X; exact XT.ifnonnullNo Y.here hx rfl (hb hb' hd) rfl st) n
theorem go_acY {cd : ClassFile.ACond} {x y : Value} {o : Int} (hd : decode b pc = .ok (.if_acmp cd o, 3)) (h1 : x.isRef = true) (h2 : y.isRef = true) (hc : XT.acmp cd x y = true) (ho : 0 ≤ (pc : Int) + o) (hp : ((pc : Int) + o).toNat = q) (n : Go l Z K own mn b ml rt R Q h F c s q L S) : Go l Z K own mn b ml rt R Q h F c s pc L (y :: x :: S) := by
  exact go_of (fun T X t st => by obtain ⟨vm, k, locs, Y, r1, r2, r3, r4, r5, r6, r7, r8, r9, hx, hb', rr⟩ := X; exact XT.acmpYes Y.here hx rfl rfl (hb hb' hd) rfl h1 h2 hc ho hp st) n
theorem go_acN {cd : ClassFile.ACond} {x y : Value} {o : Int} (hd : decode b pc = .ok (.if_acmp cd o, 3)) (h1 : x.isRef = true) (h2 : y.isRef = true) (hc : XT.acmp cd x y = false) (hq : pc + 3 = q) (n : Go l Z K own mn b ml rt R Q h F c s q L S) : Go l Z K own mn b ml rt R Q h F c s pc L (y :: x :: S) := by
  subst hq; exact go_of (fun T X t st => by obtain ⟨vm, k, locs, Y, r1, r2, r3, r4, r5, r6, r7, r8, r9, hx, hb', rr⟩ := X; exact XT.acmpNo Y.here hx rfl (hb hb' hd) rfl h1 h2 hc st) n
theorem go_irem {x y r : Int32} (hd : decode b pc = .ok (.irem, 1)) (hy : y ≠ 0) (hr : x % y = r) (hq : pc + 1 = q) (n : Go l Z K own mn b ml rt R Q h F c s q L (.int r :: S)) : Go l Z K own mn b ml rt R Q h F c s pc L (.int y :: .int x :: S) := by
  subst hq hr; exact go_of (fun T X t st => by obtain ⟨vm, k, locs, Y, r1, r2, r3, r4, r5, r6, r7, r8, r9, hx, hb', r⟩ := X; exact iremM Y hx rfl (hb hb' hd) rfl hy st) n
theorem go_lrem {x y r : Int64} (hd : decode b pc = .ok (.lrem, 1)) (hy : y ≠ 0) (hr : x % y = r) (hq : pc + 1 = q) (n : Go l Z K own mn b ml rt R Q h F c s q L (.long r :: S)) : Go l Z K own mn b ml rt R Q h F c s pc L (.long y :: .long x :: S) := go_lrem0 hd hy ((lrem_mod x y).trans hr) hq n
end G
end Own
end Jvm.Pilot.@@N@@
/-! OWN FRAMEWORK, part 2: steps that touch the heap, returns, calls. -/
namespace Jvm.Pilot.@@N@@
namespace Own
open Jvm Jvm.ClassFile Sem Op Lib Jvm.Free Jvm.Stand Jvm.LawKit Jvm.RoadKit
section G
variable {l : Launch} {Z : State} {a0 : Array Value} {K : Cx} {own mn : String} {b : ByteArray} {ml : Nat} {rt : Option FieldType} {R : Room} {Q : QT} {h h' : Heap} {F : List Addr} {c s pc q c' s' : Nat} {L L' : Array Slot} {S S' : List Value}
theorem go_getfield {index : Nat} {R0 O n d : String} {a : Addr} {v : Value} (w : (Cond.fieldLink own index R0 n d).before a0 Z = true) (via : Via Z R0 O n d) (Fv : Fld Z h a O n d v) (hd : decode b pc = .ok (.getfield index, 3)) (hq : pc + 3 = q)
    (nx : Go l Z K own mn b ml rt R Q h F c s q L (v :: S)) : Go l Z K own mn b ml rt R Q h F c s pc L (.ref a :: S) := fun T X => by
  subst hq
  obtain ⟨vm, k, locs, Y, eT, hS, hk, hZ, hown, N, C, M, O, hx, hb', r⟩ := X
  obtain ⟨T', Y', e', st⟩ := getF Y hx hZ hown (host := "") (Or.inl w) via eT Fv (g := mkF K.2.2.2.1 pc L (.ref a :: S)) rfl rfl (hb hb' hd)
  obtain ⟨s₂, o, x, r'⟩ := nx T' ⟨vm, k, locs, Y', e', hS, hk, hZ, hown, N, C, M, O, hx, hb', r⟩
  exact ⟨s₂, o, st _ x, r'⟩
theorem go_getstatic {index : Nat} {R0 O n d : String} {v : Value} (w : (Cond.fieldLink own index R0 n d).before a0 Z = true) (via : Via Z R0 O n d) (Fv : Sta Z Z.heap O n d v) (hd : decode b pc = .ok (.getstatic index, 3)) (hq : pc + 3 = q)
    (nx : Go l Z K own mn b ml rt R Q h F c s q L (v :: S)) : Go l Z K own mn b ml rt R Q h F c s pc L S := fun T X => by
  subst hq
  obtain ⟨vm, k, locs, Y, eT, hS, hk, hZ, hown, N, C, M, O, hx, hb', r⟩ := X
  obtain ⟨T', Y', e', st⟩ := getS2 Y hx hZ hown (host := "") (Or.inl w) via eT (Fv.ext O.2) (g := mkF K.2.2.2.1 pc L S) rfl (hb hb' hd)
  obtain ⟨s₂, o, x, r'⟩ := nx T' ⟨vm, k, locs, Y', e', hS, hk, hZ, hown, N, C, M, O, hx, hb', r⟩
  exact ⟨s₂, o, st _ x, r'⟩
theorem St.wrote {vm : Vm} {k sl : Nat} {locs : List Loc} {T' : State} {a : Addr} {v : Value} (W : Wr h h' a sl v) (ha : a ∈ F) (Y : Stand K.1 l K.2.1 R (K.2.2.1.setVm vm) K.2.2.2.1 K.2.2.2.2.1 K.2.2.2.2.2.1 K.2.2.2.2.2.2.1 K.2.2.2.2.2.2.2 T' (locs ++ [⟨a, sl⟩]) c s) (e' : T'.heap = h')
    (hS : K.2.2.1.Since vm k) (hk : k ≤ h.size) (hZ : Z.Warmed39 vm) (hown : vm.findClass own = some K.2.2.2.1.cls) (N : Fr Z.heap.size locs) (C : CHr Z consts_1 K.2.2.1.vm K.2.2.1.heap vm h) (M : ∀ x ∈ F, Mine Z vm h x) (O : Old Z Z.heap.size h)
    (r : K.1.tables.exec = Jvm.exec ∧ K.2.2.2.2.2.2.2.code = b ∧ K.2.2.2.2.2.2.2.maxLocals = ml ∧ K.2.2.2.2.2.2.1.sig.returnType = rt ∧ K.2.2.2.2.2.2.1.name = mn ∧ K.2.2.2.2.2.2.1.locks = false) : St l Z K own mn b ml rt R T' h' F c s :=
  ⟨vm, k, _, Y, e', hS, by rw [W.size]; exact hk, hZ, hown, Fr.snoc Y N (M a ha).1, C.trans (CHr.wr W (M a ha).2.2 C.1), fun x hx => ⟨(M x hx).1, by rw [W.size]; exact (M x hx).2.1, Safe.wr W (M a ha).2.2 C.1 (M x hx).2.2⟩, O.wr W (M a ha).1, r⟩
theorem go_putfield {index kk : Nat} {R0 O n d C : String} {ty : FieldType} {a : Addr} {v old : Value} (w : (Cond.fieldLink own index R0 n d).before a0 Z = true) (via : Via Z R0 O n d) (Fv : Fld Z h a O n d old) (E : Exa Z h a C)
    (Ly : (Cond.lays C O n d).before a0 Z = true ∨ ((Cond.laysFinal C O n d).before a0 Z = true ∧ own = O ∧ mn = "<init>")) (wi : (Cond.instantiable C kk).before a0 Z = true) (hty : parseFieldDescriptor d = some ty) (hn : narrow ty v = v) (hf : fits ty v = true) (ha : a ∈ F)
    (hd : decode b pc = .ok (.putfield index, 3)) (hq : pc + 3 = q) (nx : ∀ h', Wr h h' a (RoadKit.slotOf Z O n d) v → Go l Z K own mn b ml rt R Q h' F c s q L S) : Go l Z K own mn b ml rt R Q h F c s pc L (v :: .ref a :: S) := fun T X => by
  subst hq
  obtain ⟨vm, k, locs, Y, eT, hS, hk, hZ, hown, N, C, M, O, hx, hb', r1, r2, r3, r4⟩ := X
  obtain ⟨T', h', Y', e', W, st⟩ := putF Y hx hZ hown (host := "") (Or.inl w) via eT Fv E (Ly.imp id fun z => ⟨z.1, z.2.1, r3.trans z.2.2⟩) wi hty hn hf (g := mkF K.2.2.2.1 pc L (v :: .ref a :: S)) rfl rfl (hb hb' hd)
  obtain ⟨s₂, o, x, r'⟩ := nx h' W T' (St.wrote W ha Y' e' hS hk hZ hown N C M O ⟨hx, hb', r1, r2, r3, r4⟩)
  exact ⟨s₂, o, st _ x, r'⟩
theorem St.grew {vm : Vm} {k : Nat} {locs : List Loc} {T' : State} (E : Ext h h') {F' : List Addr} (hF : ∀ x ∈ F', x ∈ F ∨ (h.size ≤ x ∧ x < h'.size)) (Y : Stand K.1 l K.2.1 R (K.2.2.1.setVm vm) K.2.2.2.1 K.2.2.2.2.1 K.2.2.2.2.2.1 K.2.2.2.2.2.2.1 K.2.2.2.2.2.2.2 T' locs c s) (e' : T'.heap = h')
    (hS : K.2.2.1.Since vm k) (hk : k ≤ h.size) (hZ : Z.Warmed39 vm) (hown : vm.findClass own = some K.2.2.2.1.cls) (N : Fr Z.heap.size locs) (C : CHr Z consts_1 K.2.2.1.vm K.2.2.1.heap vm h) (M : ∀ x ∈ F, Mine Z vm h x) (O : Old Z Z.heap.size h)
    (r : K.1.tables.exec = Jvm.exec ∧ K.2.2.2.2.2.2.2.code = b ∧ K.2.2.2.2.2.2.2.maxLocals = ml ∧ K.2.2.2.2.2.2.1.sig.returnType = rt ∧ K.2.2.2.2.2.2.1.name = mn ∧ K.2.2.2.2.2.2.1.locks = false) : St l Z K own mn b ml rt R T' h' F' c s :=
  ⟨vm, k, _, Y, e', hS, Nat.le_trans hk E.1, hZ, hown, N, C.trans (CHr.ext E C.1), fun x hx => by
    rcases hF x hx with q | ⟨q1, q2⟩
    · exact ⟨(M x q).1, Nat.lt_of_lt_of_le (M x q).2.1 E.1, Safe.ext E C.1 (M x q).2.2⟩
    · exact ⟨Nat.le_trans O.2.1 q1, q2, Safe.ext E C.1 (Safe.new q1)⟩, O.ext E, r⟩
theorem go_new {index n : Nat} {C : String} (w : (Cond.classLink own index C).before a0 Z = true) (wi : (Cond.instantiable C n).before a0 Z = true) (wz : (Cond.initialized C).before a0 Z = true) (hd : decode b pc = .ok (.new index, 3)) (hq : pc + 3 = q) (hc : c + 1 = c') (hs : s + n = s') (hc' : c' ≤ R.cells) (hs' : s' ≤ R.slots)
    (nx : ∀ h' a, a = h.size → Ext h h' → Exa Z h' a C → (∀ {O nm d : String} {ty : FieldType}, Laid Z a0 C O nm d → parseFieldDescriptor d = some ty → Fld Z h' a O nm d (defaultValue ty)) → Go l Z K own mn b ml rt R Q h' (a :: F) c' s' q L (.ref a :: S)) : Go l Z K own mn b ml rt R Q h F c s pc L S := fun T X => by
  subst hq hc hs
  obtain ⟨vm, k, locs, Y, eT, hS, hk, hZ, hown, N, C, M, O, r⟩ := X
  obtain ⟨T', h', Y', e', E, A, D, -, st⟩ := newO Y r.1 hZ hown w wi wz eT (g := mkF K.2.2.2.1 pc L S) rfl (hb r.2.1 hd) hc' hs'
  obtain ⟨s₂, o, x, r'⟩ := nx h' _ rfl E A D T' (St.grew E (fun x hx => by rcases List.mem_cons.mp hx with rfl | hx; exact Or.inr ⟨Nat.le_refl _, A.lt⟩; exact Or.inl hx) Y' e' hS hk hZ hown N C M O r)
  exact ⟨s₂, o, st _ x, r'⟩
/-- 'new', and the fresh cell as the exception laws want it -/
theorem go_newU {index n : Nat} {C : String} (w : (Cond.classLink own index C).before a0 Z = true) (wi : (Cond.instantiable C n).before a0 Z = true) (wz : (Cond.initialized C).before a0 Z = true) (hd : decode b pc = .ok (.new index, 3)) (hq : pc + 3 = q) (hc : c + 1 = c') (hs : s + n = s') (hc' : c' ≤ R.cells) (hs' : s' ≤ R.slots)
    (nx : ∀ h' a, a = h.size → Ext h h' → Exa Z h' a C → Unt h' a → (∀ {O nm d : String} {ty : FieldType}, Laid Z a0 C O nm d → parseFieldDescriptor d = some ty → Fld Z h' a O nm d (defaultValue ty)) → Go l Z K own mn b ml rt R Q h' (a :: F) c' s' q L (.ref a :: S)) : Go l Z K own mn b ml rt R Q h F c s pc L S := fun T X => by
  subst hq hc hs
  obtain ⟨vm, k, locs, Y, eT, hS, hk, hZ, hown, N, C, M, O, r⟩ := X
  obtain ⟨T', h', Y', e', E, A, D, U, st⟩ := newO Y r.1 hZ hown w wi wz eT (g := mkF K.2.2.2.1 pc L S) rfl (hb r.2.1 hd) hc' hs'
  obtain ⟨s₂, o, x, r'⟩ := nx h' _ rfl E A U D T' (St.grew E (fun x hx => by rcases List.mem_cons.mp hx with rfl | hx; exact Or.inr ⟨Nat.le_refl _, A.lt⟩; exact Or.inl hx) Y' e' hS hk hZ hown N C M O r)
  exact ⟨s₂, o, st _ x, r'⟩
theorem go_newarray {aty : ArrayType} {z : Int32} {cap n : Nat} {ad : String} {ty : FieldType} {dv : Value} (hty : newarray.typeOf aty = ty) (hdv : defaultValue ty = dv) (hzn : z.toNatClampNeg = n) (w : (Cond.arrayClass ty).before a0 Z = true) (hd : decode b pc = .ok (.newarray aty, 2)) (hz : ¬ z < 0) (hcap : n ≤ cap) (hbig : cap * 8 ≤ 536870912) (had : "[" ++ ty.toString = ad) (hq : pc + 2 = q) (hc : c + 1 = c') (hs : s + cap = s') (hc' : c' ≤ R.cells) (hs' : s' ≤ R.slots)
    (nx : ∀ h' a k, a = h.size → Ext h h' → Arv Z h' a k ty z (List.replicate n dv) dv → Exa Z h' a ad → Go l Z K own mn b ml rt R Q h' (a :: F) c' s' q L (.ref a :: S)) : Go l Z K own mn b ml rt R Q h F c s pc L (.int z :: S) := fun T X => by
  subst hq hc hs hty hdv hzn
  obtain ⟨vm, k, locs, Y, eT, hS, hk, hZ, hown, N, C, M, O, r⟩ := X
  obtain ⟨T', h', cA, Y', e', E, A, Ex, st⟩ := newPE Y r.1 hZ w eT (g := mkF K.2.2.2.1 pc L (.int z :: S)) rfl (hb r.2.1 hd) rfl hz hcap hbig hc' hs' had
  have V := (Arv.new A hz).pad (vs' := List.replicate z.toNatClampNeg (defaultValue (newarray.typeOf aty))) (fun i => by
    have := pad_rep [] (defaultValue (newarray.typeOf aty)) z.toNatClampNeg i
    simpa using this)
  obtain ⟨s₂, o, x, r'⟩ := nx h' _ _ rfl E V Ex T' (St.grew E (fun x hx => by rcases List.mem_cons.mp hx with rfl | hx; exact Or.inr ⟨Nat.le_refl _, A.lt⟩; exact Or.inl hx) Y' e' hS hk hZ hown N C M O r)
  exact ⟨s₂, o, st _ x, r'⟩
theorem go_anewarray {index : Nat} {C : String} {z : Int32} {cap : Nat} {ad : String} (w : (Cond.classLink own index C).before a0 Z = true) (w2 : (Cond.arrayOver (.object C)).before a0 Z = true) (hd : decode b pc = .ok (.anewarray index, 3)) (hz : ¬ z < 0) (hcap : z.toNatClampNeg ≤ cap) (hbig : cap * 8 ≤ 536870912) (had : "[" ++ (FieldType.object C).toString = ad) (hq : pc + 3 = q) (hc : c + 1 = c') (hs : s + cap = s') (hc' : c' ≤ R.cells) (hs' : s' ≤ R.slots)
    (nx : ∀ h' a k, a = h.size → Ext h h' → Arv Z h' a k (.object C) z (List.replicate z.toNatClampNeg .null) .null → Exa Z h' a ad → Ovr Z k C → Go l Z K own mn b ml rt R Q h' (a :: F) c' s' q L (.ref a :: S)) : Go l Z K own mn b ml rt R Q h F c s pc L (.int z :: S) := fun T X => by
  subst hq hc hs
  obtain ⟨vm, k, locs, Y, eT, hS, hk, hZ, hown, N, C, M, O, r⟩ := X
  obtain ⟨T', h', cA, Y', e', E, A, Ex, Ov, st⟩ := newRE Y r.1 hZ hown w w2 eT (g := mkF K.2.2.2.1 pc L (.int z :: S)) rfl (hb r.2.1 hd) rfl hz hcap hbig hc' hs' had
  have V0 : Arv Z h' h.size cA (.object _) z [] .null := Arv.new A hz
  have V := V0.pad (vs' := List.replicate z.toNatClampNeg .null) (fun i => by
    have := pad_rep [] .null z.toNatClampNeg i
    simpa using this)
  obtain ⟨s₂, o, x, r'⟩ := nx h' _ _ rfl E V Ex Ov T' (St.grew E (fun x hx => by rcases List.mem_cons.mp hx with rfl | hx; exact Or.inr ⟨Nat.le_refl _, A.lt⟩; exact Or.inl hx) Y' e' hS hk hZ hown N C M O r)
  exact ⟨s₂, o, st _ x, r'⟩
theorem fits_nar_byte (x : Int32) : fits .byte (.int (nar .byte x)) = true := Jvm.Free.SBG.fits_of_int8 _
theorem go_castore {a : Addr} {k : ClassId} {z j x y : Int32} {vs : List Value} {dv : Value} {i : Nat} (A : Arv Z h a k .char z vs dv) (hj : ¬ j < 0 ∧ j < z) (hi : j.toNatClampNeg = i) (hl : i < vs.length) (ha : a ∈ F) (hy : nar .char x = y) (hd : decode b pc = .ok (.castore, 1)) (hq : pc + 1 = q)
    (nx : ∀ h', Keep h h' [a] → h'.size = h.size → Arv Z h' a k .char z (vs.set i (.int y)) dv → Go l Z K own mn b ml rt R Q h' F c s q L S) : Go l Z K own mn b ml rt R Q h F c s pc L (.int x :: .int j :: .ref a :: S) := fun T X => by
  subst hq hy
  obtain ⟨vm, k, locs, Y, eT, hS, hk, hZ, hown, N, C, M, O, r⟩ := X
  obtain ⟨cl, Ar, q1, q2, q3, q4, q5⟩ := A
  have hin := inb_of q2 hj
  obtain ⟨T', h', Y', e', W, st⟩ := stC Y r.1 hZ eT Ar hin (g := mkF K.2.2.2.1 pc L (.int x :: .int j :: .ref a :: S)) rfl rfl (hb r.2.1 hd)
  obtain ⟨s₂, o, x, r'⟩ := nx h' (Keep.of_wr W) W.size (Arv.set Ar q1 q2 q3 q4 q5 (fits_nar_char x) W i hi hl) T' (St.wrote W ha Y' e' hS hk hZ hown N C M O r)
  exact ⟨s₂, o, st _ x, r'⟩
theorem go_bastore {a : Addr} {k : ClassId} {z j x y : Int32} {vs : List Value} {dv : Value} {i : Nat} (A : Arv Z h a k .byte z vs dv) (hj : ¬ j < 0 ∧ j < z) (hi : j.toNatClampNeg = i) (hl : i < vs.length) (ha : a ∈ F) (hy : nar .byte x = y) (hd : decode b pc = .ok (.bastore, 1)) (hq : pc + 1 = q)
    (nx : ∀ h', Keep h h' [a] → h'.size = h.size → Arv Z h' a k .byte z (vs.set i (.int y)) dv → Go l Z K own mn b ml rt R Q h' F c s q L S) : Go l Z K own mn b ml rt R Q h F c s pc L (.int x :: .int j :: .ref a :: S) := fun T X => by
  subst hq hy
  obtain ⟨vm, k, locs, Y, eT, hS, hk, hZ, hown, N, C, M, O, r⟩ := X
  obtain ⟨cl, Ar, q1, q2, q3, q4, q5⟩ := A
  have hin := inb_of q2 hj
  obtain ⟨T', h', Y', e', W, st⟩ := stB Y r.1 hZ eT Ar hin (g := mkF K.2.2.2.1 pc L (.int x :: .int j :: .ref a :: S)) rfl rfl (hb r.2.1 hd)
  obtain ⟨s₂, o, x, r'⟩ := nx h' (Keep.of_wr W) W.size (Arv.set Ar q1 q2 q3 q4 q5 (fits_nar_byte x) W i hi hl) T' (St.wrote W ha Y' e' hS hk hZ hown N C M O r)
  exact ⟨s₂, o, st _ x, r'⟩
theorem go_lastore {a : Addr} {k : ClassId} {z j : Int32} {x : Int64} {vs : List Value} {dv : Value} {i : Nat} (A : Arv Z h a k .long z vs dv) (hj : ¬ j < 0 ∧ j < z) (hi : j.toNatClampNeg = i) (hl : i < vs.length) (ha : a ∈ F) (hd : decode b pc = .ok (.lastore, 1)) (hq : pc + 1 = q)
    (nx : ∀ h', Keep h h' [a] → h'.size = h.size → Arv Z h' a k .long z (vs.set i (.long x)) dv → Go l Z K own mn b ml rt R Q h' F c s q L S) : Go l Z K own mn b ml rt R Q h F c s pc L (.long x :: .int j :: .ref a :: S) := fun T X => by
  subst hq
  obtain ⟨vm, k, locs, Y, eT, hS, hk, hZ, hown, N, C, M, O, r⟩ := X
  obtain ⟨cl, Ar, q1, q2, q3, q4, q5⟩ := A
  have hin := inb_of q2 hj
  obtain ⟨T', h', Y', e', W, st⟩ := stJ Y r.1 hZ eT Ar hin (g := mkF K.2.2.2.1 pc L (.long x :: .int j :: .ref a :: S)) rfl rfl (hb r.2.1 hd)
  obtain ⟨s₂, o, x, r'⟩ := nx h' (Keep.of_wr W) W.size (Arv.set Ar q1 q2 q3 q4 q5 rfl W i hi hl) T' (St.wrote W ha Y' e' hS hk hZ hown N C M O r)
  exact ⟨s₂, o, st _ x, r'⟩
theorem go_arraylength {a : Addr} {k : ClassId} {ty : FieldType} {z : Int32} {vs : List Value} {dv : Value} (A : Arv Z h a k ty z vs dv) (hd : decode b pc = .ok (.arraylength, 1)) (hq : pc + 1 = q)
    (nx : Go l Z K own mn b ml rt R Q h F c s q L (.int z :: S)) : Go l Z K own mn b ml rt R Q h F c s pc L (.ref a :: S) := by
  subst hq
  exact go_of (fun T X t st => by
    obtain ⟨vm, k, locs, Y, eT, hS, hk, hZ, hown, N, C, M, O, r⟩ := X
    obtain ⟨cl, Ar, q1, q2, q3, q4, q5⟩ := A
    refine Y.arraylength r.1 (by rw [eT]; exact Ar.1) (State.isArrayOf_alike hZ.alike Ar.2.1) (g := mkF K.2.2.2.1 pc L (.ref a :: S)) rfl rfl (hb r.2.1 hd) _ ?_
    rw [len_of q2 q3]; exact st) nx
theorem go_caload {a : Addr} {k : ClassId} {z j : Int32} {vs : List Value} {dv v : Value} (A : Arv Z h a k .char z vs dv) (hj : ¬ j < 0 ∧ j < z) (hv : vs.getD j.toNatClampNeg dv = v) (hd : decode b pc = .ok (.caload, 1)) (hq : pc + 1 = q)
    (nx : Go l Z K own mn b ml rt R Q h F c s q L (v :: S)) : Go l Z K own mn b ml rt R Q h F c s pc L (.int j :: .ref a :: S) := by
  subst hq
  exact go_of (fun T X t st => by
    obtain ⟨vm, k, locs, Y, eT, hS, hk, hZ, hown, N, C, M, O, r⟩ := X
    obtain ⟨cl, Ar, q1, q2, q3, q4, q5⟩ := A
    exact Y.caload r.1 (by rw [eT]; exact Ar.1) (State.isArrayOf_alike hZ.alike Ar.2.1) Ar.2.2 (inb_of q2 hj) (q4.at (inb_of q2 hj) hv) (g := mkF K.2.2.2.1 pc L (.int j :: .ref a :: S)) rfl rfl (hb r.2.1 hd) _ st) nx
theorem go_baload {a : Addr} {k : ClassId} {z j : Int32} {vs : List Value} {dv v : Value} (A : Arv Z h a k .byte z vs dv) (hj : ¬ j < 0 ∧ j < z) (hv : vs.getD j.toNatClampNeg dv = v) (hd : decode b pc = .ok (.baload, 1)) (hq : pc + 1 = q)
    (nx : Go l Z K own mn b ml rt R Q h F c s q L (v :: S)) : Go l Z K own mn b ml rt R Q h F c s pc L (.int j :: .ref a :: S) := by
  subst hq
  exact go_of (fun T X t st => by
    obtain ⟨vm, k, locs, Y, eT, hS, hk, hZ, hown, N, C, M, O, r⟩ := X
    obtain ⟨cl, Ar, q1, q2, q3, q4, q5⟩ := A
    exact Y.baloadBytes r.1 (by rw [eT]; exact Ar.1) (State.isArrayOf_alike hZ.alike Ar.2.1) Ar.2.2 (inb_of q2 hj) (q4.at (inb_of q2 hj) hv) (g := mkF K.2.2.2.1 pc L (.int j :: .ref a :: S)) rfl rfl (hb r.2.1 hd) _ st) nx
theorem go_laload {a : Addr} {k : ClassId} {z j : Int32} {vs : List Value} {dv v : Value} (A : Arv Z h a k .long z vs dv) (hj : ¬ j < 0 ∧ j < z) (hv : vs.getD j.toNatClampNeg dv = v) (hd : decode b pc = .ok (.laload, 1)) (hq : pc + 1 = q)
    (nx : Go l Z K own mn b ml rt R Q h F c s q L (v :: S)) : Go l Z K own mn b ml rt R Q h F c s pc L (.int j :: .ref a :: S) := by
  subst hq
  exact go_of (fun T X t st => by
    obtain ⟨vm, k, locs, Y, eT, hS, hk, hZ, hown, N, C, M, O, r⟩ := X
    obtain ⟨cl, Ar, q1, q2, q3, q4, q5⟩ := A
    exact Y.laload r.1 (by rw [eT]; exact Ar.1) (State.isArrayOf_alike hZ.alike Ar.2.1) Ar.2.2 (inb_of q2 hj) (q4.at (inb_of q2 hj) hv) (g := mkF K.2.2.2.1 pc L (.int j :: .ref a :: S)) rfl rfl (hb r.2.1 hd) _ st) nx
theorem go_aaload {a : Addr} {k : ClassId} {ty : FieldType} {z j : Int32} {vs : List Value} {dv v : Value} (A : Arv Z h a k ty z vs dv) (hty : ty.isReference = true) (hj : ¬ j < 0 ∧ j < z) (hv : vs.getD j.toNatClampNeg dv = v) (hd : decode b pc = .ok (.aaload, 1)) (hq : pc + 1 = q)
    (nx : Go l Z K own mn b ml rt R Q h F c s q L (v :: S)) : Go l Z K own mn b ml rt R Q h F c s pc L (.int j :: .ref a :: S) := by
  subst hq
  exact go_of (fun T X t st => by
    obtain ⟨vm, k, locs, Y, eT, hS, hk, hZ, hown, N, C, M, O, r⟩ := X
    obtain ⟨cl, Ar, q1, q2, q3, q4, q5⟩ := A
    exact Y.aaload r.1 (by rw [eT]; exact Ar.1) (State.isArrayOf_alike hZ.alike Ar.2.1) hty Ar.2.2 (inb_of q2 hj) (q4.at (inb_of q2 hj) hv) (g := mkF K.2.2.2.1 pc L (.int j :: .ref a :: S)) rfl rfl (hb r.2.1 hd) _ st) nx
theorem go_checkcast {index : Nat} {C : String} {a : Addr} (w : (Cond.classLink own index C).before a0 Z = true) (I : Ins Z h a C true) (hd : decode b pc = .ok (.checkcast index, 3)) (hq : pc + 3 = q)
    (nx : Go l Z K own mn b ml rt R Q h F c s q L (.ref a :: S)) : Go l Z K own mn b ml rt R Q h F c s pc L (.ref a :: S) := fun T X => by
  subst hq
  obtain ⟨vm, k, locs, Y, eT, hS, hk, hZ, hown, N, C, M, O, r⟩ := X
  obtain ⟨T', Y', e', st⟩ := castY Y r.1 hZ hown w eT I (g := mkF K.2.2.2.1 pc L (.ref a :: S)) rfl rfl (hb r.2.1 hd)
  obtain ⟨s₂, o, x, r'⟩ := nx T' ⟨vm, k, locs, Y', e', hS, hk, hZ, hown, N, C, M, O, r⟩
  exact ⟨s₂, o, st _ x, r'⟩
theorem go_instY {index : Nat} {C : String} {a : Addr} (w : (Cond.classLink own index C).before a0 Z = true) (I : Ins Z h a C true) (hd : decode b pc = .ok (.instanceof index, 3)) (hq : pc + 3 = q)
    (nx : Go l Z K own mn b ml rt R Q h F c s q L (.int 1 :: S)) : Go l Z K own mn b ml rt R Q h F c s pc L (.ref a :: S) := fun T X => by
  subst hq
  obtain ⟨vm, k, locs, Y, eT, hS, hk, hZ, hown, N, C, M, O, r⟩ := X
  obtain ⟨T', Y', e', st⟩ := instY Y r.1 hZ hown w eT I (g := mkF K.2.2.2.1 pc L (.ref a :: S)) rfl rfl (hb r.2.1 hd)
  obtain ⟨s₂, o, x, r'⟩ := nx T' ⟨vm, k, locs, Y', e', hS, hk, hZ, hown, N, C, M, O, r⟩
  exact ⟨s₂, o, st _ x, r'⟩
theorem go_instNo {index : Nat} {C D : String} {a : Addr} (w : (Cond.classLink own index D).before a0 Z = true) (E : Exa Z h a C) (Fn : ∃ c t, Z.vm.findClass C = some c ∧ Z.vm.findClass D = some t ∧ Z.vm.assignable c t = false) (hd : decode b pc = .ok (.instanceof index, 3)) (hq : pc + 3 = q)
    (nx : Go l Z K own mn b ml rt R Q h F c s q L (.int 0 :: S)) : Go l Z K own mn b ml rt R Q h F c s pc L (.ref a :: S) := fun T X => by
  subst hq
  obtain ⟨vm, k, locs, Y, eT, hS, hk, hZ, hown, N, C, M, O, r⟩ := X
  obtain ⟨T', Y', e', st⟩ := instNo Y r.1 hZ hown w eT E Fn (g := mkF K.2.2.2.1 pc L (.ref a :: S)) rfl rfl (hb r.2.1 hd)
  obtain ⟨s₂, o, x, r'⟩ := nx T' ⟨vm, k, locs, Y', e', hS, hk, hZ, hown, N, C, M, O, r⟩
  exact ⟨s₂, o, st _ x, r'⟩
theorem go_ldcInt {index : Nat} {v : Int32} (w : (Cond.constant own index v).before a0 Z = true) (hd : decode b pc = .ok (.ldc index, 2)) (hq : pc + 2 = q) (nx : Go l Z K own mn b ml rt R Q h F c s q L (.int v :: S)) : Go l Z K own mn b ml rt R Q h F c s pc L S := by
  subst hq
  exact go_of (fun T X t st => by
    obtain ⟨vm, k, locs, Y, eT, hS, hk, hZ, hown, N, C, M, O, r⟩ := X
    exact Y.ldcInt r.1 hown (mvT (s := K.2.2.1.setVm vm) hZ w) (g := mkF K.2.2.2.1 pc L S) rfl (hb r.2.1 hd) _ st) nx
theorem go_ldc2 {index : Nat} {v : Int64} (w : (Cond.constantLong own index v).before a0 Z = true) (hd : decode b pc = .ok (.ldc2_w index, 3)) (hq : pc + 3 = q) (nx : Go l Z K own mn b ml rt R Q h F c s q L (.long v :: S)) : Go l Z K own mn b ml rt R Q h F c s pc L S := by
  subst hq
  exact go_of (fun T X t st => by
    obtain ⟨vm, k, locs, Y, eT, hS, hk, hZ, hown, N, C, M, O, r⟩ := X
    exact Y.ldc2Long r.1 hown (mvT (s := K.2.2.1.setVm vm) hZ w) (g := mkF K.2.2.2.1 pc L S) rfl (hb r.2.1 hd) _ st) nx
/-- ldc of a String constant, read -/
theorem go_ldcS (H : Wd Z a0) {index : Nat} {text : String} (w : (Cond.stringLink own index text).before a0 Z = true) (hm : (own, index) ∈ consts_1) {vs : List Value} {z : Int32} (ht : (∀ c ∈ text.toList, c.toNat < 256) ∧ text.toList.map (fun c => Value.int (Jvm.Lit.byteI c.toNat.toUInt16)) = vs) (hz : ¬ z < 0) (hl : z.toNatClampNeg = vs.length)
    (hd : decode b pc = .ok (.ldc index, 2)) {n : Nat} (hn : 4 * text.toList.length ≤ n) (hbig : n ≤ 536870912) (hq : pc + 2 = q) (hc : c + 2 = c') (hs : s + (n + 4) = s') (hc' : c' ≤ R.cells) (hs' : s' ≤ R.slots)
    (nx : ∀ h' a bb k, Ext h h' → Exa Z h' a "java/lang/String" → Fld Z h' a "java/lang/String" "coder" "B" (.int 0) → Fld Z h' a "java/lang/String" "value" "[B" (.ref bb) → Arv Z h' bb k .byte z vs (.int 0) → (∀ x ∈ F, x ≠ a ∧ x ≠ bb) → Go l Z K own mn b ml rt R Q h' F c' s' q L (.ref a :: S)) : Go l Z K own mn b ml rt R Q h F c s pc L S := fun T X => by
  subst hq hc hs
  obtain ⟨vm, k, locs, Y, eT, hS, hk, hZ, hown, N, C, M, O, r⟩ := X
  obtain ⟨a, T', h', k1, bb, kc, Y', e', E, hS', hk', hZ', hown', A, Fc, Fv, V, -, -, C', -, Sf, st⟩ := ldcCH Y r.1 hZ hown w H.2.2.1 eT hS hk H.2.1 hm C.1 ht hz hl (g := mkF K.2.2.2.1 pc L S) rfl (hb r.2.1 hd) hn hbig hc' hs'
  have M' : ∀ x ∈ F, Mine Z T'.vm h' x := fun x hx => ⟨(M x hx).1, Nat.lt_of_lt_of_le (M x hx).2.1 E.1, C'.safe (M x hx).2.1 (M x hx).2.2⟩
  obtain ⟨s₂, o, x, r'⟩ := nx h' a bb kc E A Fc Fv V (fun x hx => Sf x (M' x hx).2.2) T' ⟨T'.vm, k1, locs, Y', e', hS', hk', hZ', hown', N, C.trans C', M', O.ext E, r⟩
  exact ⟨s₂, o, st _ x, r'⟩
theorem go_initO {index : Nat} {a : Addr} (w1 : (Cond.methodLink own index Lib.objectInit).before a0 Z = true) (w2 : (Cond.instanceMethod Lib.objectInit).before a0 Z = true) (w3 : (Cond.code Lib.objectInit ⟨#[0xb1]⟩ 1 none).before a0 Z = true) (hL : L.size = ml) (hd : decode b pc = .ok (.invokespecial index, 3)) (hq : pc + 3 = q) (hf : 1 ≤ R.frames) (hlo : (S.map fun v => v.category).sum + 12 ≤ R.locals)
    (nx : Go l Z K own mn b ml rt R Q h F c s q L S) : Go l Z K own mn b ml rt R Q h F c s pc L (.ref a :: S) := fun T X => by
  subst hq
  obtain ⟨vm, k, locs, Y, eT, hS, hk, hZ, hown, N, C, M, O, r⟩ := X
  obtain ⟨T', Y', e', st⟩ := initO Y r.1 hZ hown w1 w2 w3 eT (g := mkF K.2.2.2.1 pc L (.ref a :: S)) rfl (by rw [r.2.2.1]; exact hL) rfl (hb r.2.1 hd) hf (W := (S.map fun v => v.category).sum) (by show 2 * 0 + _ ≤ _; omega) hlo
  obtain ⟨s₂, o, x, r'⟩ := nx T' ⟨vm, k, locs, Y', e', hS, hk, hZ, hown, N, C, M, O, r⟩
  exact ⟨s₂, o, st _ x, r'⟩
/-! ### returns -/
theorem St.end_ (H : Wd Z a0) {T : State} (X : St l Z K own mn b ml rt R T h F c s) {G : List Addr} {v : Option Value} (hq : Q v h G) (hG : ∀ x ∈ G, x ∈ F) (hc : c ≤ R.cells) (hs : s ≤ R.slots) (hv : rt = none → v = none) :
    ∃ fs, (∀ (f : JFrame) (acts : List Action), f.method = K.2.2.2.1 → f.locked = none → f.entered = [] → (doReturn K.2.1 (T.setTop f) acts v).1 = T.setFrames fs) ∧ (T.setFrames fs).status = .running ∧ Ended (T.setFrames fs) K.2.2.2.2.2.1 (.returned v) ∧ End Z K.2.2.1 R Q (.returned v) (T.setFrames fs) := by
  obtain ⟨vm, k, locs, Y, eT, hS, hk, hZ, hown, N, C, M, O, hx, hb', r1, r2, r3, r4⟩ := X
  obtain ⟨fs, h1, h2, h3, h4⟩ := Y.leaveW hS (by rw [eT]; exact hk) (v := v) (fun e => hv (r2.symm.trans e)) r4
  have A := CHv.at Y hZ H.2.1 C.1
  refine ⟨fs, h1, h2, h3, v, locs, G, rfl, by show Q v T.heap G; rw [eT]; exact hq, N, fun x hx => ?_, by show CHr Z consts_1 _ _ T.vm T.heap; rw [eT]; exact C.trans A, by show Old Z _ T.heap; rw [eT]; exact O, h4.1, h4.2.1, h4.2.2.1, h4.2.2.2.mono hc hs⟩
  have m := M x (hG x hx)
  exact ⟨m.1, by show x < T.heap.size; rw [eT]; exact m.2.1, by show Safe Z consts_1 T.vm T.heap x; rw [eT]; exact A.safe m.2.1 m.2.2⟩
theorem go_return (H : Wd Z a0) {G : List Addr} (hr : rt = none) (hd : decode b pc = .ok (.return_, 1)) (hc : c ≤ R.cells) (hs : s ≤ R.slots) (hG : ∀ x ∈ G, x ∈ F) (hq : Q none h G) : Go l Z K own mn b ml rt R Q h F c s pc L [] := fun T X => by
  obtain ⟨fs, h1, h2, h3, h4⟩ := X.end_ H hq hG hc hs (fun _ => rfl)
  obtain ⟨vm, k, locs, Y, eT, hS, hk, hZ, hown, N, C, M, O, hx, hb', r1, r2, r3, r4⟩ := X
  exact ⟨_, _, Y.returnOut hx (r2.trans hr) (hb hb' hd) h1, h2, h3, h4⟩
theorem go_areturn (H : Wd Z a0) {G : List Addr} {w : Value} {t : FieldType} (hr : rt = some t) (ht : t.isReference = true) (hw : w.isRef = true) (hd : decode b pc = .ok (.areturn, 1)) (hc : c ≤ R.cells) (hs : s ≤ R.slots) (hG : ∀ x ∈ G, x ∈ F) (hq : Q (some w) h G) : Go l Z K own mn b ml rt R Q h F c s pc L (w :: S) := fun T X => by
  obtain ⟨fs, h1, h2, h3, h4⟩ := X.end_ H hq hG hc hs (fun e => by rw [hr] at e; cases e)
  obtain ⟨vm, k, locs, Y, eT, hS, hk, hZ, hown, N, C, M, O, hx, hb', r1, r2, r3, r4⟩ := X
  have hn : narrow t w = w := by cases t <;> cases w <;> simp_all [narrow, Value.isRef, FieldType.isReference]
  exact ⟨_, _, retOut Y hx (r2.trans hr) hn (Or.inr (Or.inr (Or.inr (Or.inr ⟨rfl, ht, hw⟩)))) (hb hb' hd) h1, h2, h3, h4⟩
theorem go_ireturn (H : Wd Z a0) {G : List Addr} {x : Int32} {t : FieldType} (hr : rt = some t) (ht : t = .int ∨ t = .boolean ∨ t = .byte ∨ t = .char ∨ t = .short) (hn : narrow t (.int x) = .int x) (hd : decode b pc = .ok (.ireturn, 1)) (hc : c ≤ R.cells) (hs : s ≤ R.slots) (hG : ∀ x ∈ G, x ∈ F) (hq : Q (some (.int x)) h G) : Go l Z K own mn b ml rt R Q h F c s pc L (.int x :: S) := fun T X => by
  obtain ⟨fs, h1, h2, h3, h4⟩ := X.end_ H hq hG hc hs (fun e => by rw [hr] at e; cases e)
  obtain ⟨vm, k, locs, Y, eT, hS, hk, hZ, hown, N, C, M, O, hx, hb', r1, r2, r3, r4⟩ := X
  exact ⟨_, _, retOut Y hx (r2.trans hr) hn (Or.inl ⟨rfl, ht, x, rfl⟩) (hb hb' hd) h1, h2, h3, h4⟩
theorem go_lreturn (H : Wd Z a0) {G : List Addr} {x : Int64} (hr : rt = some .long) (hd : decode b pc = .ok (.lreturn, 1)) (hc : c ≤ R.cells) (hs : s ≤ R.slots) (hG : ∀ x ∈ G, x ∈ F) (hq : Q (some (.long x)) h G) : Go l Z K own mn b ml rt R Q h F c s pc L (.long x :: S) := fun T X => by
  obtain ⟨fs, h1, h2, h3, h4⟩ := X.end_ H hq hG hc hs (fun e => by rw [hr] at e; cases e)
  obtain ⟨vm, k, locs, Y, eT, hS, hk, hZ, hown, N, C, M, O, hx, hb', r1, r2, r3, r4⟩ := X
  exact ⟨_, _, retOut Y hx (r2.trans hr) rfl (Or.inr (Or.inl ⟨rfl, rfl, x, rfl⟩)) (hb hb' hd) h1, h2, h3, h4⟩
/-! ### calls -/
/-- what a callee leaves, as the caller's law sees it -/
def Left (Z : State) (vm0 : Vm) (h : Heap) (R' : Room) (Q' : QT) (A : Pt) (v : Option Value) (B : Pt) : Prop :=
  ∃ L G, Q' v B.U.heap G ∧ Fr Z.heap.size L ∧ (∀ x ∈ G, Mine Z B.U.vm B.U.heap x) ∧ CHr Z consts_1 vm0 h B.U.vm B.U.heap ∧ Old Z Z.heap.size B.U.heap ∧ B.locs = A.locs ++ L ∧ B.cells = A.cells + R'.cells ∧ B.slots = A.slots + R'.slots
theorem Met.back {y : MethodName} {b' : ByteArray} {ml' : Nat} {rt' : Option FieldType} {R' : Room} {F' : List Addr} {as : Array Value} {Q' : QT} {len W : Nat} {vm0 : Vm} {p : Program} {e : Env} {below : List Frame} {s : State} {args : Array Value} (H : Wd Z a0) (M : Met l Z y b' ml' rt' R' h F' as Q') (hZ : Z.Warmed39 vm0)
    (wc : (Cond.code y b' ml' rt').before a0 Z = true) (wz : (Cond.initialized y.cls).before a0 Z = true) (hf : R'.frames + 1 ≤ R.frames) (hl : W + (ml' + 11) + R'.locals ≤ R.locals) (C : CHv Z consts_1 vm0 h) (hM : ∀ x ∈ F', Mine Z vm0 h x) (hO : Old Z Z.heap.size h) :
    BackS l R p e below (s.setVm vm0) args y len W (fun A a => a = as ∧ A.U.heap = h ∧ A.cells + R'.cells ≤ R.cells ∧ A.slots + R'.slots ≤ R.slots) (fun A _ v B => Left Z vm0 h R' Q' A v B) :=
  BackS.of_freeW (bytes := b') (maxL := ml') (ret := rt') (E := fun _ first o t L k n => k = R'.cells ∧ n = R'.slots ∧ ∃ v G, o = .returned v ∧ Q' v t.heap G ∧ Fr Z.heap.size L ∧ (∀ x ∈ G, Mine Z t.vm t.heap x) ∧ CHr Z consts_1 first.vm first.heap t.vm t.heap ∧ Old Z Z.heap.size t.heap) M hf hl
    (fun m meth c A a Y hp => have hU : Z.Warmed39 A.U.vm := wtrans (s := s.setVm vm0) hZ Y.warmed
      ⟨by show (Cond.and _ .tt).before a A.U = true; rw [Cond.before_and, mv hU wc]; rfl, mv hU wc, mv hU wz, hp.2.2.1, hp.2.2.2⟩)
    (fun m meth c A a g mk Y hp => ⟨hp.1, wtrans (s := s.setVm vm0) hZ Y.warmed, hp.2.1, (CHv.at Y hZ H.2.1 C).1, fun x hx => ⟨(hM x hx).1, (hM x hx).2.1, (CHv.at Y hZ H.2.1 C).safe (hM x hx).2.1 (hM x hx).2.2⟩, hO⟩) (fun _ _ _ _ _ _ _ _ _ => trivial)
    (fun _ _ _ _ ⟨v, L, G, h1, h2, h3, h4, h5, h6, h7⟩ => ⟨L, _, _, h7, rfl, rfl, v, G, h1, h2, h3, h4, h5, h6⟩)
    (fun m meth c A a g mk v t L k n Y hp _ _ ⟨e1, e2, v', G, e3, e4, e5, e6, e7, e8⟩ => by
      cases e3; subst e1 e2
      refine ⟨L, G, e4, e5, e6, (CHv.at Y hZ H.2.1 C).trans ?_, e8, rfl, rfl, rfl⟩
      rw [← hp.2.1]; exact e7)
/-- behind a call -/
theorem St.came {vm : Vm} {k : Nat} {locs : List Loc} {T : State} {R' : Room} {Q' : QT} {v : Option Value} {vm₁ : Vm} {B : Pt} (Y : Stand K.1 l K.2.1 R (K.2.2.1.setVm vm) K.2.2.2.1 K.2.2.2.2.1 K.2.2.2.2.2.1 K.2.2.2.2.2.2.1 K.2.2.2.2.2.2.2 T locs c s) (eT : T.heap = h) (hS : K.2.2.1.Since vm k) (hk : k ≤ h.size)
    (hZ : Z.Warmed39 vm) (hown : vm.findClass own = some K.2.2.2.1.cls) (N : Fr Z.heap.size locs) (C : CHr Z consts_1 K.2.2.1.vm K.2.2.1.heap vm h) (M : ∀ x ∈ F, Mine Z vm h x)
    (r : K.1.tables.exec = Jvm.exec ∧ K.2.2.2.2.2.2.2.code = b ∧ K.2.2.2.2.2.2.2.maxLocals = ml ∧ K.2.2.2.2.2.2.1.sig.returnType = rt ∧ K.2.2.2.2.2.2.1.name = mn ∧ K.2.2.2.2.2.2.1.locks = false)
    (Y' : Stand K.1 l K.2.1 R ((K.2.2.1.setVm vm).setVm B.U.vm) K.2.2.2.1 K.2.2.2.2.1 K.2.2.2.2.2.1 K.2.2.2.2.2.2.1 K.2.2.2.2.2.2.2 B.U B.locs B.cells B.slots) (hS' : (K.2.2.1.setVm vm).Since B.U.vm B.U.heap.size) (hg : T.heap.size ≤ B.U.heap.size) (P : Left Z vm h R' Q' ⟨T.setVm vm₁, locs, c, s⟩ v B) :
    ∃ G, Q' v B.U.heap G ∧ (∀ F2, (∀ x ∈ F2, x ∈ G ∨ x ∈ F) → St l Z K own mn b ml rt R B.U B.U.heap F2 (c + R'.cells) (s + R'.slots)) := by
  obtain ⟨Lc, G, q1, q2, q3, q4, q5, q6, q7, q8⟩ := P
  have hkT : k ≤ T.heap.size := by rw [eT]; exact hk
  obtain ⟨w1, w2, w3, w4⟩ := rebS hS hkT Y' hS' hg hZ hown
  try dsimp only at q6 q7 q8
  rw [q6, q7, q8] at w1
  exact ⟨G, q1, fun F2 hF => ⟨B.U.vm, _, _, w1, rfl, w2, Nat.le_refl _, w3, w4, N.app q2, C.trans q4, fun x hx => by
    rcases hF x hx with z | z
    · exact q3 x z
    · have m := M x z
      exact ⟨m.1, Nat.lt_of_lt_of_le m.2.1 (by rw [← eT]; exact hg), q4.safe m.2.1 m.2.2⟩, q5, r⟩⟩
theorem decl_of {y : MethodName} {b' : ByteArray} {ml' : Nat} {rt' : Option FieldType} (w1 : (Cond.instanceMethod y).before a0 Z = true) (w2 : (Cond.code y b' ml' rt').before a0 Z = true) : (Cond.declares y).before a0 Z = true := by
  obtain ⟨mk, methM, hn, hm, hst, -⟩ := Cond.instanceMethod_spec w1
  obtain ⟨m2, cM, q1, -, -, -, -, -, -, hsig⟩ := Cond.code_spec hn w2
  cases hm.symm.trans q1
  simp [Cond.before, Cond.holds, Cond.value, hn, hm, hst, hsig]
theorem nf_mate {y w : MethodName} {C : String} (hc : w.cls = y.cls) (hs : (Cond.selects C w w).before a0 Z = true) : ∀ s : State, Z.Warmed39 s.vm → NotFace s y := fun s hZ r0 h0 => by
  obtain ⟨c, r, m, q1, q2, q3, q4, mk, q5, q6⟩ := Cond.selects_spec (mvT (s := s) (args := #[]) hZ hs)
  have e1 := findClass_of_methodNamed q3
  have e2 := findClass_of_methodNamed h0
  rw [hc] at e1
  have e3 : m.cls = r0.cls := Option.some.inj (e1.symm.trans e2)
  exact ⟨mk, by rw [← e3]; exact q5, q6⟩
theorem same_of {y w : MethodName} {C : String} (hc : w.cls = y.cls) (hs : (Cond.selects C w w).before a0 Z = true) (hd : (Cond.declares y).before a0 Z = true) (hy : y.cls ≠ "java/lang/invoke/MethodHandle" ∧ y.cls ≠ "java/lang/invoke/VarHandle") : (Cond.sameMethod y.cls y.cls y.name y.desc).before a0 Z = true := by
  obtain ⟨r0, r, hn, hrm, -, -⟩ := Cond.declares_spec hd
  obtain ⟨k, hk, hi⟩ := nf_mate hc hs Z (State.Warmed39.refl Z) r0 hn
  have hf := State.methodFound?_of_named hn hy
  have hcn := findClass_of_methodNamed hn
  have hn' : Z.methodNamed? ⟨y.cls, y.name, y.desc⟩ = some r0 := hn
  simp [Cond.before, Cond.holds, Cond.value, hcn, hf, hn', hk, hi]
section Calls
variable {index : Nat} {y : MethodName} {b' : ByteArray} {ml' : Nat} {rt' : Option FieldType} {R' : Room} {F' : List Addr} {as : Array Value} {Q' : QT} {argsL : List Value}
theorem go_static (H : Wd Z a0) (w1 : (Cond.methodLink own index y).before a0 Z = true) (w2 : (Cond.static y).before a0 Z = true) (w3 : (Cond.initialized y.cls).before a0 Z = true) (w4 : (Cond.code y b' ml' rt').before a0 Z = true) (hy : y.cls ≠ "java/lang/invoke/MethodHandle" ∧ y.cls ≠ "java/lang/invoke/VarHandle") (M' : Met l Z y b' ml' rt' R' h F' as Q')
    (ha : argsL.toArray = as) (hst : S' = argsL.reverse ++ S) (hlen : ∀ sig, parseMethodDescriptor y.desc = some sig → argsL.length = sig.parameters.length) (hF : ∀ x ∈ F', x ∈ F) (hL : L.size = ml) (hfr : R'.frames + 1 ≤ R.frames) (hlo : (S.map fun v => v.category).sum + (ml' + 11) + R'.locals ≤ R.locals) (hc : c + R'.cells = c') (hs : s + R'.slots = s') (hc' : c' ≤ R.cells) (hs' : s' ≤ R.slots)
    (hd : decode b pc = .ok (.invokestatic index, 3)) (hq : pc + 3 = q) (nx : ∀ v h' G, h.size ≤ h'.size → Q' v h' G → ∃ F2, (∀ x ∈ F2, x ∈ G ∨ x ∈ F) ∧ Go l Z K own mn b ml rt R Q h' F2 c' s' q L (v.toList ++ S)) : Go l Z K own mn b ml rt R Q h F c s pc L S' := fun T X => by
  subst hq hc hs hst ha
  obtain ⟨vm, k, locs, Y, eT, hS, hk, hZ, hown, N, C, M, O, r⟩ := X
  obtain ⟨v, vm₁, B, -, Y', hS', hg, P, st⟩ := callSS Y r.1 hown (mvT (s := K.2.2.1.setVm vm) hZ w1) (mvT (s := K.2.2.1.setVm vm) hZ w2) (mvT (s := K.2.2.1.setVm vm) hZ w3) (mvT (s := K.2.2.1.setVm vm) hZ w4) hy (W := (S.map fun v => v.category).sum) (M'.back H hZ w4 w3 hfr hlo C.1 (fun x hx => M x (hF x hx)) O) (g := mkF K.2.2.2.1 pc L (argsL.reverse ++ S)) rfl (by rw [r.2.2.1]; exact hL) (argsL := argsL) (rest := S) hlen rfl (by show 2 * 0 + _ ≤ _; omega) (hb r.2.1 hd) (fun _ _ => ⟨rfl, eT, hc', hs'⟩)
  obtain ⟨G, q1, q2⟩ := St.came Y eT hS hk hZ hown N C M r Y' hS' hg P
  obtain ⟨F2, f1, f2⟩ := nx v B.U.heap G (by rw [← eT]; exact hg) q1
  obtain ⟨s₂, o, x, r'⟩ := f2 B.U (q2 F2 f1)
  exact ⟨s₂, o, st.trans x, r'⟩
theorem go_special (H : Wd Z a0) {a : Addr} (hy1 : y.name = "<init>") (w1 : (Cond.methodLink own index y).before a0 Z = true) (w2 : (Cond.instanceMethod y).before a0 Z = true) (w3 : (Cond.initialized y.cls).before a0 Z = true) (w4 : (Cond.code y b' ml' none).before a0 Z = true) (hy : y.cls ≠ "java/lang/invoke/MethodHandle" ∧ y.cls ≠ "java/lang/invoke/VarHandle") (M' : Met l Z y b' ml' none R' h F' as Q')
    (ha : (.ref a :: argsL).toArray = as) (hst : S' = argsL.reverse ++ .ref a :: S) (hlen : ∀ sig, parseMethodDescriptor y.desc = some sig → argsL.length = sig.parameters.length) (hF : ∀ x ∈ F', x ∈ F) (hL : L.size = ml) (hfr : R'.frames + 1 ≤ R.frames) (hlo : (S.map fun v => v.category).sum + (ml' + 11) + R'.locals ≤ R.locals) (hc : c + R'.cells = c') (hs : s + R'.slots = s') (hc' : c' ≤ R.cells) (hs' : s' ≤ R.slots)
    (hd : decode b pc = .ok (.invokespecial index, 3)) (hq : pc + 3 = q) (nx : ∀ v h' G, h.size ≤ h'.size → Q' v h' G → ∃ F2, (∀ x ∈ F2, x ∈ G ∨ x ∈ F) ∧ Go l Z K own mn b ml rt R Q h' F2 c' s' q L (v.toList ++ S)) : Go l Z K own mn b ml rt R Q h F c s pc L S' := fun T X => by
  subst hq hc hs hst ha
  obtain ⟨vm, k, locs, Y, eT, hS, hk, hZ, hown, N, C, M, O, r⟩ := X
  obtain ⟨v, vm₁, B, -, Y', hS', hg, P, st⟩ := Y.specialBackS r.1 hy1 hown (mvT (s := K.2.2.1.setVm vm) hZ w1) (mvT (s := K.2.2.1.setVm vm) hZ w2) (mvT (s := K.2.2.1.setVm vm) hZ w4) hy (W := (S.map fun v => v.category).sum) (M'.back H hZ w4 w3 hfr hlo C.1 (fun x hx => M x (hF x hx)) O) (g := mkF K.2.2.2.1 pc L (argsL.reverse ++ .ref a :: S)) rfl (by rw [r.2.2.1]; exact hL) (Steps.refl _) (argsL := argsL) (rest := S) hlen rfl (by show 2 * 0 + _ ≤ _; omega) (hb r.2.1 hd) (fun _ _ => ⟨rfl, eT, hc', hs'⟩)
  obtain ⟨G, q1, q2⟩ := St.came Y eT hS hk hZ hown N C M r Y' hS' hg P
  obtain ⟨F2, f1, f2⟩ := nx v B.U.heap G (by rw [← eT]; exact hg) q1
  obtain ⟨s₂, o, x, r'⟩ := f2 B.U (q2 F2 f1)
  exact ⟨s₂, o, st.trans x, r'⟩
/-- invokevirtual of y on an object exactly of class C: the body is z's -/
theorem go_virtual (H : Wd Z a0) {a : Addr} {C : String} {z : MethodName} (w1 : (Cond.methodLink own index y).before a0 Z = true) (w2 : (Cond.declares y).before a0 Z = true) (wnf : ∀ s : State, Z.Warmed39 s.vm → NotFace s y) (w3 : (Cond.selects C y z).before a0 Z = true) (w4 : (Cond.instanceMethod z).before a0 Z = true) (w5 : (Cond.initialized z.cls).before a0 Z = true) (w6 : (Cond.code z b' ml' rt').before a0 Z = true)
    (hy : y.cls ≠ "java/lang/invoke/MethodHandle" ∧ y.cls ≠ "java/lang/invoke/VarHandle") (E : Exa Z h a C) (M' : Met l Z z b' ml' rt' R' h F' as Q')
    (ha : (.ref a :: argsL).toArray = as) (hst : S' = argsL.reverse ++ .ref a :: S) (hlen : ∀ sig, parseMethodDescriptor y.desc = some sig → argsL.length = sig.parameters.length) (hF : ∀ x ∈ F', x ∈ F) (hL : L.size = ml) (hfr : R'.frames + 1 ≤ R.frames) (hlo : (S.map fun v => v.category).sum + (ml' + 11) + R'.locals ≤ R.locals) (hc : c + R'.cells = c') (hs : s + R'.slots = s') (hc' : c' ≤ R.cells) (hs' : s' ≤ R.slots)
    (hd : decode b pc = .ok (.invokevirtual index, 3)) (hq : pc + 3 = q) (nx : ∀ v h' G, h.size ≤ h'.size → Q' v h' G → ∃ F2, (∀ x ∈ F2, x ∈ G ∨ x ∈ F) ∧ Go l Z K own mn b ml rt R Q h' F2 c' s' q L (v.toList ++ S)) : Go l Z K own mn b ml rt R Q h F c s pc L S' := fun T X => by
  subst hq hc hs hst ha
  obtain ⟨vm, k, locs, Y, eT, hS, hk, hZ, hown, N, C, M, O, r⟩ := X
  obtain ⟨cB, kB, g1, g2, g3⟩ := isOf (s := K.2.2.1.setVm vm) hZ eT E
  obtain ⟨v, vm₁, B, -, Y', hS', hg, P, st⟩ := Y.virtualBackS r.1 hown (mvT (s := K.2.2.1.setVm vm) hZ w1) (mvT (s := K.2.2.1.setVm vm) hZ w2) (wnf (K.2.2.1.setVm vm) hZ) (mvT (s := K.2.2.1.setVm vm) hZ w3) (mvT (s := K.2.2.1.setVm vm) hZ w4) hy (W := (S.map fun v => v.category).sum) (M'.back H hZ w6 w5 hfr hlo C.1 (fun x hx => M x (hF x hx)) O) g1 g3 (g := mkF K.2.2.2.1 pc L (argsL.reverse ++ .ref a :: S)) rfl (by rw [r.2.2.1]; exact hL) (Steps.refl _) (argsL := argsL) (rest := S) hlen rfl (by show 2 * 0 + _ ≤ _; omega) (hb r.2.1 hd) (fun _ _ => ⟨rfl, eT, hc', hs'⟩)
  obtain ⟨G, q1, q2⟩ := St.came Y eT hS hk hZ hown N C M r Y' hS' hg P
  obtain ⟨F2, f1, f2⟩ := nx v B.U.heap G (by rw [← eT]; exact hg) q1
  obtain ⟨s₂, o, x, r'⟩ := f2 B.U (q2 F2 f1)
  exact ⟨s₂, o, st.trans x, r'⟩
theorem go_interface (H : Wd Z a0) {a : Addr} {C : String} {z : MethodName} {count : Nat} (w1 : (Cond.methodLink own index y).before a0 Z = true) (w2 : (Cond.declares y).before a0 Z = true) (w3 : ∀ (s : State) (args : Array Value), Z.Warmed39 s.vm → (Cond.interfaceMethod y.cls y.cls y.name y.desc).before args s = true) (w4 : (Cond.selects C y z).before a0 Z = true) (w5 : (Cond.instanceMethod z).before a0 Z = true) (w6 : (Cond.publicMethod z).before a0 Z = true) (w7 : (Cond.unhidden C y.name y.desc).before a0 Z = true) (w8 : (Cond.castable C y.cls).before a0 Z = true) (w9 : (Cond.initialized z.cls).before a0 Z = true) (w10 : (Cond.code z b' ml' rt').before a0 Z = true)
    (hy : y.cls ≠ "java/lang/invoke/MethodHandle" ∧ y.cls ≠ "java/lang/invoke/VarHandle") (E : Exa Z h a C) (M' : Met l Z z b' ml' rt' R' h F' as Q')
    (ha : (.ref a :: argsL).toArray = as) (hst : S' = argsL.reverse ++ .ref a :: S) (hlen : ∀ sig, parseMethodDescriptor y.desc = some sig → argsL.length = sig.parameters.length) (hF : ∀ x ∈ F', x ∈ F) (hL : L.size = ml) (hfr : R'.frames + 1 ≤ R.frames) (hlo : (S.map fun v => v.category).sum + (ml' + 11) + R'.locals ≤ R.locals) (hc : c + R'.cells = c') (hs : s + R'.slots = s') (hc' : c' ≤ R.cells) (hs' : s' ≤ R.slots)
    (hd : decode b pc = .ok (.invokeinterface index count, 5)) (hq : pc + 5 = q) (nx : ∀ v h' G, h.size ≤ h'.size → Q' v h' G → ∃ F2, (∀ x ∈ F2, x ∈ G ∨ x ∈ F) ∧ Go l Z K own mn b ml rt R Q h' F2 c' s' q L (v.toList ++ S)) : Go l Z K own mn b ml rt R Q h F c s pc L S' := fun T X => by
  subst hq hc hs hst ha
  obtain ⟨vm, k, locs, Y, eT, hS, hk, hZ, hown, N, C, M, O, r⟩ := X
  obtain ⟨cB, kB, g1, g2, g3⟩ := isOf (s := K.2.2.1.setVm vm) hZ eT E
  obtain ⟨v, vm₁, B, -, Y', hS', hg, P, st⟩ := Y.interfaceBackS r.1 hown (mvT (s := K.2.2.1.setVm vm) hZ w1) (mvT (s := K.2.2.1.setVm vm) hZ w2) (w3 (K.2.2.1.setVm vm) _ hZ) (mvT (s := K.2.2.1.setVm vm) hZ w4) (mvT (s := K.2.2.1.setVm vm) hZ w5) (mvT (s := K.2.2.1.setVm vm) hZ w6) (mvT (s := K.2.2.1.setVm vm) hZ w7) (mvT (s := K.2.2.1.setVm vm) hZ w8) hy (W := (S.map fun v => v.category).sum) (M'.back H hZ w10 w9 hfr hlo C.1 (fun x hx => M x (hF x hx)) O) g1 g2 g3 (g := mkF K.2.2.2.1 pc L (argsL.reverse ++ .ref a :: S)) rfl (by rw [r.2.2.1]; exact hL) (Steps.refl _) (argsL := argsL) (rest := S) hlen rfl (by show 2 * 0 + _ ≤ _; omega) (hb r.2.1 hd) (fun _ _ => ⟨rfl, eT, hc', hs'⟩)
  obtain ⟨G, q1, q2⟩ := St.came Y eT hS hk hZ hown N C M r Y' hS' hg P
  obtain ⟨F2, f1, f2⟩ := nx v B.U.heap G (by rw [← eT]; exact hg) q1
  obtain ⟨s₂, o, x, r'⟩ := f2 B.U (q2 F2 f1)
  exact ⟨s₂, o, st.trans x, r'⟩
/-- invokespecial of the superclass's own method -/
theorem go_super (H : Wd Z a0) {a : Addr} {C : String} (w1 : (Cond.methodLink own index y).before a0 Z = true) (w2 : (Cond.sameMethod y.cls y.cls y.name y.desc).before a0 Z = true) (w3 : (Cond.instanceMethod y).before a0 Z = true) (w4 : (Cond.superclass own y.cls).before a0 Z = true) (w5 : (Cond.initialized y.cls).before a0 Z = true) (w6 : (Cond.code y b' ml' rt').before a0 Z = true) (hni : y.name ≠ "<init>") (E : Exa Z h a C) (M' : Met l Z y b' ml' rt' R' h F' as Q')
    (ha : (.ref a :: argsL).toArray = as) (hst : S' = argsL.reverse ++ .ref a :: S) (hlen : ∀ sig, parseMethodDescriptor y.desc = some sig → argsL.length = sig.parameters.length) (hF : ∀ x ∈ F', x ∈ F) (hL : L.size = ml) (hfr : R'.frames + 1 ≤ R.frames) (hlo : (S.map fun v => v.category).sum + (ml' + 11) + R'.locals ≤ R.locals) (hc : c + R'.cells = c') (hs : s + R'.slots = s') (hc' : c' ≤ R.cells) (hs' : s' ≤ R.slots)
    (hd : decode b pc = .ok (.invokespecial index, 3)) (hq : pc + 3 = q) (nx : ∀ v h' G, h.size ≤ h'.size → Q' v h' G → ∃ F2, (∀ x ∈ F2, x ∈ G ∨ x ∈ F) ∧ Go l Z K own mn b ml rt R Q h' F2 c' s' q L (v.toList ++ S)) : Go l Z K own mn b ml rt R Q h F c s pc L S' := fun T X => by
  subst hq hc hs hst ha
  obtain ⟨vm, k, locs, Y, eT, hS, hk, hZ, hown, N, C, M, O, r⟩ := X
  obtain ⟨v, vm₁, B, -, Y', hS', hg, P, st⟩ := superBackS Y r.1 (show Z.Warmed39 (K.2.2.1.setVm vm).vm from hZ) hown w1 w2 w3 w4 hni (W := (S.map fun v => v.category).sum) (M'.back H hZ w6 w5 hfr hlo C.1 (fun x hx => M x (hF x hx)) O) eT (Ins.self E) (g := mkF K.2.2.2.1 pc L (argsL.reverse ++ .ref a :: S)) rfl (by rw [r.2.2.1]; exact hL) w6 (argsL := argsL) (rest := S) hlen rfl (by show 2 * 0 + _ ≤ _; omega) (hb r.2.1 hd) (fun _ _ => ⟨rfl, eT, hc', hs'⟩)
  obtain ⟨G, q1, q2⟩ := St.came Y eT hS hk hZ hown N C M r Y' hS' hg P
  obtain ⟨F2, f1, f2⟩ := nx v B.U.heap G (by rw [← eT]; exact hg) q1
  obtain ⟨s₂, o, x, r'⟩ := f2 B.U (q2 F2 f1)
  exact ⟨s₂, o, st.trans x, r'⟩
/-- System.arraycopy of bytes -/
theorem go_arraycopy {a d : Addr} {ka kd : ClassId} {ty : FieldType} {z z' sp dp nn : Int32} {vs vd us : List Value} {dv dd : Value} (w1 : (Cond.methodLink own index Jvm.Stand.acN).before a0 Z = true) (w2 : (Cond.native Jvm.Stand.acN).before a0 Z = true) (w3 : (Cond.static Jvm.Stand.acN).before a0 Z = true) (w4 : (Cond.initialized "java/lang/System").before a0 Z = true)
    (A : Arv Z h a ka ty z vs dv) (B : Arv Z h d kd ty z' vd dd) (hty : refKind ty = false) (h1 : ¬ sp < 0) (h2 : ¬ dp < 0) (h3 : ¬ nn < 0) (h4 : sp.toNatClampNeg + nn.toNatClampNeg ≤ z.toNatClampNeg) (h5 : dp.toNatClampNeg + nn.toNatClampNeg ≤ z'.toNatClampNeg) (hus : us = (List.range nn.toNatClampNeg).map fun i => vs.getD (sp.toNatClampNeg + i) dv) (hl : dp.toNatClampNeg + nn.toNatClampNeg ≤ vd.length) (ha : d ∈ F)
    (hL : L.size = ml) (hfr : 1 ≤ R.frames) (hlo : (S.map fun v => v.category).sum + (nativeFrameWords "java/lang/System" "arraycopy" 5 + 11) ≤ R.locals) (hd : decode b pc = .ok (.invokestatic index, 3)) (hq : pc + 3 = q)
    (nx : ∀ h', Keep h h' [d] → Arv Z h' d kd ty z' (vd.take dp.toNatClampNeg ++ us ++ vd.drop (dp.toNatClampNeg + nn.toNatClampNeg)) dd → Go l Z K own mn b ml rt R Q h' F c s q L S) : Go l Z K own mn b ml rt R Q h F c s pc L (.int nn :: .int dp :: .ref d :: .int sp :: .ref a :: S) := fun T X => by
  subst hq
  obtain ⟨vm, k, locs, Y, eT, hS, hk, hZ, hown, N, C, M, O, r⟩ := X
  obtain ⟨T', h', L', Y', e', N', Kp, V, st⟩ := cpA Y r.1 (show Z.Warmed39 (K.2.2.1.setVm vm).vm from hZ) hown w1 w2 w3 w4 eT A B (Or.inl ⟨rfl, hty⟩) h1 h2 h3 h4 h5 hus hl N (M d ha).1 (g := mkF K.2.2.2.1 pc L (.int nn :: .int dp :: .ref d :: .int sp :: .ref a :: S)) rfl (by rw [r.2.2.1]; exact hL) (rest := S) rfl (hb r.2.1 hd) hfr (W := (S.map fun v => v.category).sum) (by show 2 * 0 + _ ≤ _; omega) hlo
  have hsf : ∀ x ∈ [d], Safe Z consts_1 vm h x := fun x hx => by cases List.mem_singleton.mp hx; exact (M d ha).2.2
  obtain ⟨s₂, o, x, r'⟩ := nx h' Kp V T' ⟨vm, k, L', Y', e', hS, Nat.le_trans hk Kp.1, hZ, hown, N', C.trans (CHr.keep Kp hsf C.1), fun x hx => ⟨(M x hx).1, Nat.lt_of_lt_of_le (M x hx).2.1 Kp.1, Safe.keep Kp hsf C.1 (M x hx).2.2⟩, O.keep Kp (fun x hx => by cases List.mem_singleton.mp hx; exact (M d ha).1), r⟩
  exact ⟨s₂, o, st _ x, r'⟩
theorem nf_self {C : String} (w3 : (Cond.selects C y y).before a0 Z = true) : ∀ s : State, Z.Warmed39 s.vm → NotFace s y := fun s hZ => notFace_of_selects (args := #[]) (mvT hZ w3)
/-- the plain end of a call: nothing more to write -/
theorem nx_ {v : Option Value} {G : List Addr} (n : Go l Z K own mn b ml rt R Q h F c s pc L S) : ∃ F2, (∀ x ∈ F2, x ∈ G ∨ x ∈ F) ∧ Go l Z K own mn b ml rt R Q h F2 c s pc L S := ⟨F, fun _ q => Or.inr q, n⟩
end Calls
end G
end Own
end Jvm.Pilot.@@N@@
/-! OWN FRAMEWORK, part 3: Strings of Latin-1 chars. -/
namespace Jvm.Pilot.@@N@@
namespace Own
open Jvm Jvm.ClassFile Sem Op Lib Jvm.Free Jvm.Stand Jvm.LawKit Jvm.RoadKit
abbrev ST : String := "java/lang/String"
abbrev bts (cs : List Int32) : List Value := cs.map fun c => .int c.toInt8.toInt32
abbrev ints (cs : List Int32) : List Value := cs.map fun c => .int c
def Lat (cs : List Int32) : Prop := cs.length ≤ 4096 ∧ ∀ c ∈ cs, ¬ c < 0 ∧ ¬ 255 < c
/-- the String at a spells cs; its cells are none of F -/
def Str (Z : State) (h : Heap) (F : List Addr) (a : Addr) (cs : List Int32) : Prop :=
  Exa Z h a ST ∧ Fld Z h a ST "coder" "B" (.int 0) ∧ a ∉ F ∧ Lat cs ∧ ∃ bb k, bb ∉ F ∧ Fld Z h a ST "value" "[B" (.ref bb) ∧ Arv Z h bb k .byte (Int32.ofNat cs.length) (bts cs) (.int 0)
theorem toInt_ofNat {n : Nat} (h : n < 2147483648) : (Int32.ofNat n).toInt = n := by
  rw [Int32.toInt_ofNat_of_lt (by simpa using h)]
theorem cl_ofNat {n : Nat} (h : n < 2147483648) : (Int32.ofNat n).toNatClampNeg = n := by
  simp only [Int32.toNatClampNeg, toInt_ofNat h]; omega
theorem nn_ofNat {n : Nat} (h : n < 2147483648) : ¬ Int32.ofNat n < 0 := by
  rw [Int32.lt_iff_toInt_lt, toInt_ofNat h, show (0 : Int32).toInt = 0 from rfl]; omega
theorem lt_ofNat {i n : Nat} (hi : i < 2147483648) (hn : n < 2147483648) : Int32.ofNat i < Int32.ofNat n ↔ i < n := by
  rw [Int32.lt_iff_toInt_lt, toInt_ofNat hi, toInt_ofNat hn]; omega
theorem eq_ofNat {i n : Nat} (hi : i < 2147483648) (hn : n < 2147483648) : Int32.ofNat i = Int32.ofNat n ↔ i = n := by
  rw [← Int32.toInt_inj, toInt_ofNat hi, toInt_ofNat hn]; omega
theorem add1_ofNat {i : Nat} : Int32.ofNat i + Int32.ofInt 1 = Int32.ofNat (i + 1) := by
  rw [Int32.ofNat_add]; rfl
section
variable {Z : State} {h h' : Heap} {F F' : List Addr} {a : Addr} {cs : List Int32} {ws : List Addr}
theorem Str.exa (S : Str Z h F a cs) : Exa Z h a ST := S.1
theorem Str.lat (S : Str Z h F a cs) : Lat cs := S.2.2.2.1
theorem Str.lt (S : Str Z h F a cs) : a < h.size := S.1.lt
theorem Str.keep (S : Str Z h F a cs) (K : Keep h h' ws) (hw : ∀ x ∈ ws, x ∈ F ∨ h.size ≤ x) : Str Z h' F a cs := by
  obtain ⟨E, C, ha, hl, bb, k, hb, V, A⟩ := S
  have na : a ∉ ws := fun q => (hw a q).elim ha fun z => absurd E.lt (Nat.not_lt.mpr z)
  have nb : bb ∉ ws := fun q => (hw bb q).elim hb fun z => absurd A.lt (Nat.not_lt.mpr z)
  exact ⟨E.keep K, C.keep K na, ha, hl, bb, k, hb, V.keep K na, A.keep K nb⟩
theorem Str.keep0 (S : Str Z h F a cs) (K : Keep h h' []) : Str Z h' F a cs := S.keep K (fun _ q => nomatch q)
theorem Str.ext (S : Str Z h F a cs) (E : Ext h h') : Str Z h' F a cs := S.keep0 ((Keep.refl h []).ext E)
theorem Str.grow (S : Str Z h F a cs) (hF : ∀ x ∈ F', x ∈ F ∨ h.size ≤ x) : Str Z h F' a cs := by
  obtain ⟨E, C, ha, hl, bb, k, hb, V, A⟩ := S
  exact ⟨E, C, fun q => (hF a q).elim ha fun z => absurd E.lt (Nat.not_lt.mpr z), hl, bb, k, fun q => (hF bb q).elim hb fun z => absurd A.lt (Nat.not_lt.mpr z), V, A⟩
theorem Str.less (S : Str Z h F a cs) (hF : ∀ x ∈ F', x ∈ F) : Str Z h F' a cs := S.grow fun x q => Or.inl (hF x q)
theorem Str.nil (S : Str Z h F a cs) : Str Z h [] a cs := S.less (fun _ q => nomatch q)
theorem Str.ins (S : Str Z h F a cs) : Ins Z h a ST true := Ins.self S.1
end
theorem kless {h h' : Heap} {ws ws' : List Addr} (K : Keep h h' ws) (q : ∀ x ∈ ws, x ∈ ws') : Keep h h' ws' := ⟨K.1, fun x c e n => K.2.1 x c e fun m => n (q x m), K.2.2⟩
theorem kfresh {h h1 h2 : Heap} {a : Addr} (K : Keep h h1 []) (K' : Keep h1 h2 [a]) (q : h.size ≤ a) : Keep h h2 [] := K.trans K' fun x e => by cases List.mem_singleton.mp e; exact Or.inr q
theorem nref {t : FieldType} {v : Value} (ht : t.isReference = true) (hv : v.isRef = true) : narrow t v = v := by cases t <;> cases v <;> simp_all [narrow, Value.isRef, FieldType.isReference]
theorem fref {t : FieldType} {v : Value} (ht : t.isReference = true) (hv : v.isRef = true) : fits t v = true := by cases t <;> cases v <;> simp_all [fits, Value.isRef, FieldType.isReference]
theorem shr0 (z : Int32) : z >>> ((0 : Int32) &&& 31) = z := by
  rw [← Int32.toInt_inj, c_ishr z 0 0 rfl]; simp
theorem nar_char {x : Int32} (h0 : ¬ x < 0) (h1 : ¬ 255 < x) : nar .char x = x := by
  have h := c_i2c x
  rw [Int32.lt_iff_toInt_lt] at h0 h1
  have e0 : (0 : Int32).toInt = 0 := rfl
  have e1 : (255 : Int32).toInt = 255 := rfl
  rw [← Int32.toInt_inj]
  show x.toUInt32.toUInt16.toUInt32.toInt32.toInt = _
  omega
theorem msk (x : Int32) : ¬ (x &&& 255) < 0 ∧ ¬ 255 < (x &&& 255) := by
  have h := c_and x 255 (by decide)
  rw [Int32.lt_iff_toInt_lt, Int32.lt_iff_toInt_lt]
  have e0 : (0 : Int32).toInt = 0 := rfl
  have e1 : (255 : Int32).toInt = 255 := rfl
  omega
theorem i2c_msk (x : Int32) : (x &&& 255).toUInt32.toUInt16.toUInt32.toInt32 = x &&& 255 := nar_char (msk x).1 (msk x).2
theorem b_inj {x y : Int32} (hx : ¬ x < 0 ∧ ¬ 255 < x) (hy : ¬ y < 0 ∧ ¬ 255 < y) (h : x.toInt8.toInt32 = y.toInt8.toInt32) : x = y := by
  have h1 := c_i2b x; have h2 := c_i2b y
  rw [h] at h1
  rw [Int32.lt_iff_toInt_lt, Int32.lt_iff_toInt_lt] at hx hy
  have e0 : (0 : Int32).toInt = 0 := rfl
  have e1 : (255 : Int32).toInt = 255 := rfl
  rw [← Int32.toInt_inj]; omega
theorem b_and {x : Int32} (hx : ¬ x < 0 ∧ ¬ 255 < x) : x.toInt8.toInt32 &&& 255 = x := by
  have h1 := c_i2b x
  have h2 := c_mask (x.toInt8.toInt32) 255 8 (by decide) (by decide)
  rw [Int32.lt_iff_toInt_lt, Int32.lt_iff_toInt_lt] at hx
  have e0 : (0 : Int32).toInt = 0 := rfl
  have e1 : (255 : Int32).toInt = 255 := rfl
  rw [← Int32.toInt_inj, h2]; omega
theorem bts_at {cs : List Int32} {i : Nat} (hi : i < cs.length) : (bts cs).getD i (.int 0) = .int (cs[i].toInt8.toInt32) := by simp [bts, hi]
theorem Str.same {Z : State} {h : Heap} {F F' : List Addr} {a : Addr} {cs ds : List Int32} (S : Str Z h F a cs) (S2 : Str Z h F' a ds) : cs = ds := by
  obtain ⟨E, C, ha, hl, bb, k, hb, V, A⟩ := S
  obtain ⟨E2, C2, ha2, hl2, bb2, k2, hb2, V2, A2⟩ := S2
  obtain rfl : bb = bb2 := by
    by_cases e : bb = bb2
    · exact e
    · exact absurd rfl (V.ne V2 (by simpa using e))
  obtain ⟨c1, r1, q1, s1, n1, H1, G1⟩ := A
  obtain ⟨c2, r2, q2, s2, n2, H2, G2⟩ := A2
  obtain rfl : c1 = c2 := Option.some.inj (r1.1.symm.trans r2.1)
  have l1 := hl.1; have l2 := hl2.1
  rw [cl_ofNat (by omega)] at s1 s2
  have hlen : cs.length = ds.length := s1.symm.trans s2
  refine List.ext_getElem hlen fun i h1 h2 => ?_
  have e1 := H1 i (by omega)
  have e2 := H2 i (by omega)
  rw [bts_at h1] at e1; rw [bts_at h2] at e2
  have e3 := e1.symm.trans e2
  simp only [Option.some.injEq, Value.int.injEq] at e3
  exact b_inj (hl.2 _ (List.getElem_mem h1)) (hl2.2 _ (List.getElem_mem h2)) e3
section G
variable {l : Launch} {Z : State} {a0 : Array Value} {K : Cx} {own mn : String} {b : ByteArray} {ml : Nat} {rt : Option FieldType} {R : Room} {Q : QT} {h h' : Heap} {F : List Addr} {c s pc q c' s' : Nat} {L L' : Array Slot} {S S' : List Value}
theorem go_istoreO {k : Nat} {x : Int32} {o : Slot} (hd : decode b pc = .ok (.istore k, 2)) (hold : L[k]? = some o) (ho : One o) (hL : L.setIfInBounds k (.val (.int x)) = L') (hq : pc + 2 = q) (n : Go l Z K own mn b ml rt R Q h F c s q L' S) : Go l Z K own mn b ml rt R Q h F c s pc L (.int x :: S) := by
  subst hq hL; exact go_of (fun T X t st => by obtain ⟨vm, k, locs, Y, r1, r2, r3, r4, r5, r6, r7, r8, r9, hx, hb', rr⟩ := X; exact XS.istoreS Y.here hx rfl (hb hb' hd) rfl hold ho st) n
theorem go_istoreNO {k : Fin 4} {x : Int32} {o : Slot} (hd : decode b pc = .ok (.istore_n k, 1)) (hold : L[k.val]? = some o) (ho : One o) (hL : L.setIfInBounds k.val (.val (.int x)) = L') (hq : pc + 1 = q) (n : Go l Z K own mn b ml rt R Q h F c s q L' S) : Go l Z K own mn b ml rt R Q h F c s pc L (.int x :: S) := by
  subst hq hL; exact go_of (fun T X t st => by obtain ⟨vm, k, locs, Y, r1, r2, r3, r4, r5, r6, r7, r8, r9, hx, hb', rr⟩ := X; exact XS.istoreNS Y.here hx rfl (hb hb' hd) rfl hold ho st) n
/-- ldc of a Latin-1 constant -/
theorem go_lit (H : Wd Z a0) {index : Nat} {text : String} {cs : List Int32} {n : Nat} (w : (Cond.stringLink own index text).before a0 Z = true) (hm : (own, index) ∈ consts_1) (ht1 : ∀ c ∈ text.toList, c.toNat < 256) (ht2 : text.toList.map (fun c => Value.int (Jvm.Lit.byteI c.toNat.toUInt16)) = bts cs) (h1 : cs.length ≤ 4096) (h2 : ∀ c ∈ cs, ¬ c < 0 ∧ ¬ 255 < c)
    (hd : decode b pc = .ok (.ldc index, 2)) (hn : 4 * text.toList.length ≤ n) (hbig : n ≤ 536870912) (hq : pc + 2 = q) (hc : c + 2 = c') (hs : s + (n + 4) = s') (hc' : c' ≤ R.cells) (hs' : s' ≤ R.slots)
    (nx : ∀ h' a, Ext h h' → Str Z h' F a cs → Go l Z K own mn b ml rt R Q h' F c' s' q L (.ref a :: S)) : Go l Z K own mn b ml rt R Q h F c s pc L S :=
  go_ldcS H w hm ⟨ht1, ht2⟩ (nn_ofNat (n := cs.length) (by omega)) (by rw [cl_ofNat (by omega)]; simp) hd hn hbig hq hc hs hc' hs' fun h' a bb k E A Fc Fv V ne => nx h' a E ⟨A, Fc, fun q => (ne a q).1 rfl, ⟨h1, h2⟩, bb, k, fun q => (ne bb q).2 rfl, Fv, V⟩
end G
end Own
end Jvm.Pilot.@@N@@
/-! OWN FRAMEWORK, part 4: StringBuilder. -/
namespace Jvm.Pilot.@@N@@
namespace Own
open Jvm Jvm.ClassFile Sem Op Lib Jvm.Free Jvm.Stand Jvm.LawKit Jvm.RoadKit
abbrev SBN : String := "java/lang/StringBuilder"
abbrev ABN : String := "java/lang/AbstractStringBuilder"
abbrev zs (n : Nat) : List Value := List.replicate n (.int 0)
/-- the builder x, whose array is v (cap bytes), spells cs -/
def SBd (Z : State) (h : Heap) (x v : Addr) (cap : Nat) (cs : List Int32) : Prop :=
  Exa Z h x SBN ∧ Fld Z h x ABN "value" "[B" (.ref v) ∧ Fld Z h x ABN "coder" "B" (.int 0) ∧ Fld Z h x ABN "count" "I" (.int (Int32.ofNat cs.length)) ∧ Lat cs ∧ cs.length ≤ cap ∧ cap ≤ 4096 ∧ ∃ k, Arv Z h v k .byte (Int32.ofNat cap) (bts cs ++ zs (cap - cs.length)) (.int 0)
section
variable {Z : State} {h h' : Heap} {x v : Addr} {cap : Nat} {cs ds : List Int32} {ws : List Addr}
theorem SBd.keep (S : SBd Z h x v cap cs) (K : Keep h h' ws) (nx : x ∉ ws) (nv : v ∉ ws) : SBd Z h' x v cap cs := by
  obtain ⟨E, V, C, N, L, l1, l2, k, A⟩ := S
  exact ⟨E.keep K, V.keep K nx, C.keep K nx, N.keep K nx, L, l1, l2, k, A.keep K nv⟩
theorem SBd.keep0 (S : SBd Z h x v cap cs) (K : Keep h h' []) : SBd Z h' x v cap cs := S.keep K nin0 nin0
theorem SBd.ext (S : SBd Z h x v cap cs) (E : Ext h h') : SBd Z h' x v cap cs := S.keep0 ((Keep.refl h []).ext E)
theorem SBd.exa (S : SBd Z h x v cap cs) : Exa Z h x SBN := S.1
theorem SBd.lat (S : SBd Z h x v cap cs) : Lat cs := S.2.2.2.2.1
theorem SBd.le (S : SBd Z h x v cap cs) : cs.length ≤ cap := S.2.2.2.2.2.1
theorem bts_len (cs : List Int32) : (bts cs).length = cs.length := by simp [bts]
theorem us_eq (ds : List Int32) : (List.range ds.length).map (fun i => (bts ds).getD i (.int 0)) = bts ds := by
  refine List.ext_getElem (by simp [bts]) fun i h1 h2 => ?_
  simp only [bts_len] at h2
  simp [bts, h2]
theorem cat_eq {n : Nat} (h1 : cs.length + ds.length ≤ n) : (bts cs ++ zs (n - cs.length)).take cs.length ++ bts ds ++ (bts cs ++ zs (n - cs.length)).drop (cs.length + ds.length) = bts (cs ++ ds) ++ zs (n - (cs ++ ds).length) := by
  have e1 : (bts cs ++ zs (n - cs.length)).take cs.length = bts cs := by
    rw [List.take_append_of_le_length (by rw [bts_len]; exact Nat.le_refl _), List.take_of_length_le (by rw [bts_len]; exact Nat.le_refl _)]
  have e2 : (bts cs ++ zs (n - cs.length)).drop (cs.length + ds.length) = zs (n - (cs ++ ds).length) := by
    rw [List.drop_append, List.drop_of_length_le (by rw [bts_len]; omega), List.nil_append, bts_len, List.drop_replicate, List.length_append]
    congr 1; omega
  rw [e1, e2]
  simp [bts]
theorem Lat.app (h1 : Lat cs) (h2 : Lat ds) (h : cs.length + ds.length ≤ 4096) : Lat (cs ++ ds) := ⟨by simpa using h, fun c hc => (List.mem_append.mp hc).elim (h1.2 c) (h2.2 c)⟩
theorem add_ofNat (i j : Nat) : Int32.ofNat i + Int32.ofNat j = Int32.ofNat (i + j) := (Int32.ofNat_add i j).symm
theorem shl0 (z : Int32) : z <<< ((0 : Int32) &&& 31) = z := by
  rw [show (0 : Int32) &&& 31 = 0 from by decide]; exact Int32.shiftLeft_zero
theorem sub_ofNat {i j : Nat} (hi : i < 2147483648) (hj : j < 2147483648) : (Int32.ofNat i - Int32.ofNat j).toInt = (i : Int) - j := by
  have h := c_isub (Int32.ofNat i) (Int32.ofNat j)
  rw [toInt_ofNat hi, toInt_ofNat hj] at h
  have h3 := (Int32.ofNat i - Int32.ofNat j).le_toInt; have h4 := (Int32.ofNat i - Int32.ofNat j).toInt_lt
  omega
theorem subNat {i j : Nat} (hj : j ≤ i) (hi : i < 2147483648) : Int32.ofNat i - Int32.ofNat j = Int32.ofNat (i - j) := by
  rw [← Int32.toInt_inj, sub_ofNat hi (by omega), toInt_ofNat (by omega)]; omega
theorem not_pos_sub {i j : Nat} (h : i ≤ j) (hj : j < 2147483648) : ¬ (0 : Int32) < Int32.ofNat i - Int32.ofNat j := by
  rw [Int32.lt_iff_toInt_lt, sub_ofNat (by omega) hj, show (0 : Int32).toInt = 0 from rfl]; omega
end
end Own
end Jvm.Pilot.@@N@@
/-! OWN FRAMEWORK, part 5: arrays of references, ArrayList. -/
namespace Jvm.Pilot.@@N@@
namespace Own
open Jvm Jvm.ClassFile Sem Op Lib Jvm.Free Jvm.Stand Jvm.LawKit Jvm.RoadKit
section G
variable {l : Launch} {Z : State} {a0 : Array Value} {K : Cx} {own mn : String} {b : ByteArray} {ml : Nat} {rt : Option FieldType} {R : Room} {Q : QT} {h h' : Heap} {F : List Addr} {c s pc q c' s' : Nat} {L L' : Array Slot} {S S' : List Value}
theorem go_aastore {a y : Addr} {k : ClassId} {C : String} {z j : Int32} {vs : List Value} {dv : Value} {i : Nat} (A : Arv Z h a k (.object C) z vs dv) (Ov : Ovr Z k C) (I : Ins Z h y C true) (hj : ¬ j < 0 ∧ j < z) (hi : j.toNatClampNeg = i) (hl : i < vs.length) (ha : a ∈ F) (hd : decode b pc = .ok (.aastore, 1)) (hq : pc + 1 = q)
    (nx : ∀ h', Keep h h' [a] → h'.size = h.size → Arv Z h' a k (.object C) z (vs.set i (.ref y)) dv → Go l Z K own mn b ml rt R Q h' F c s q L S) : Go l Z K own mn b ml rt R Q h F c s pc L (.ref y :: .int j :: .ref a :: S) := fun T X => by
  subst hq
  obtain ⟨vm, k, locs, Y, eT, hS, hk, hZ, hown, N, C, M, O, r⟩ := X
  obtain ⟨cl, Ar, q1, q2, q3, q4, q5⟩ := A
  have hin := inb_of q2 hj
  obtain ⟨T', h', Y', e', W, st⟩ := stR Y r.1 hZ eT Ar hin rfl (Sto.ofV Ar q1 Ov I) (g := mkF K.2.2.2.1 pc L (.ref y :: .int j :: .ref a :: S)) rfl rfl (hb r.2.1 hd)
  obtain ⟨s₂, o, x, r'⟩ := nx h' (Keep.of_wr W) W.size (Arv.set Ar q1 q2 q3 q4 q5 rfl W i hi hl) T' (St.wrote W ha Y' e' hS hk hZ hown N C M O r)
  exact ⟨s₂, o, st _ x, r'⟩
theorem go_getstaticN {index : Nat} {R0 O n d host : String} {v : Value} (w : (Cond.fieldLinkNest own index R0 n d host).before a0 Z = true) (via : Via Z R0 O n d) (Fv : Sta Z Z.heap O n d v) (hd : decode b pc = .ok (.getstatic index, 3)) (hq : pc + 3 = q)
    (nx : Go l Z K own mn b ml rt R Q h F c s q L (v :: S)) : Go l Z K own mn b ml rt R Q h F c s pc L S := fun T X => by
  subst hq
  obtain ⟨vm, k, locs, Y, eT, hS, hk, hZ, hown, N, C, M, O, hx, hb', r⟩ := X
  obtain ⟨T', Y', e', st⟩ := getS2 Y hx hZ hown (host := host) (Or.inr w) via eT (Fv.ext O.2) (g := mkF K.2.2.2.1 pc L S) rfl (hb hb' hd)
  obtain ⟨s₂, o, x, r'⟩ := nx T' ⟨vm, k, locs, Y', e', hS, hk, hZ, hown, N, C, M, O, hx, hb', r⟩
  exact ⟨s₂, o, st _ x, r'⟩
theorem go_instNull {index : Nat} (hd : decode b pc = .ok (.instanceof index, 3)) (hq : pc + 3 = q) (nx : Go l Z K own mn b ml rt R Q h F c s q L (.int 0 :: S)) : Go l Z K own mn b ml rt R Q h F c s pc L (.null :: S) := by
  subst hq
  exact go_of (fun T X t st => by
    obtain ⟨vm, k, locs, Y, eT, hS, hk, hZ, hown, N, C, M, O, r⟩ := X
    exact Y.instanceofNull r.1 (g := mkF K.2.2.2.1 pc L (.null :: S)) rfl rfl (hb r.2.1 hd) _ st) nx
/-- clone of an array -/
theorem go_clone {index cap : Nat} {a : Addr} {ad : String} {k : ClassId} {ty : FieldType} {z : Int32} {vs : List Value} {dv : Value} (w1 : (Cond.methodLink own index ⟨ad, "clone", "()Ljava/lang/Object;"⟩).before a0 Z = true) (w2 : (Cond.sameMethod ad "java/lang/Object" "clone" "()Ljava/lang/Object;").before a0 Z = true) (w3 : (Cond.native ⟨"java/lang/Object", "clone", "()Ljava/lang/Object;"⟩).before a0 Z = true)
    (w4 : (Cond.instanceMethod ⟨"java/lang/Object", "clone", "()Ljava/lang/Object;"⟩).before a0 Z = true) (w5 : (Cond.selects ad ⟨ad, "clone", "()Ljava/lang/Object;"⟩ ⟨"java/lang/Object", "clone", "()Ljava/lang/Object;"⟩).before a0 Z = true) (w6 : (Cond.castable ad "java/lang/Cloneable").before a0 Z = true)
    (V : Arv Z h a k ty z vs dv) (E : Exa Z h a ad) (hL : L.size = ml) (hfr : 1 ≤ R.frames) (hlo : (S.map fun v => v.category).sum + 14 ≤ R.locals) (hcap : z.toNatClampNeg ≤ cap) (hd : decode b pc = .ok (.invokevirtual index, 3)) (hq : pc + 3 = q) (hc : c + 1 = c') (hs : s + cap = s') (hc' : c' ≤ R.cells) (hs' : s' ≤ R.slots)
    (nx : ∀ h' d, d = h.size → Ext h h' → Arv Z h' d k ty z vs dv → Exa Z h' d ad → Go l Z K own mn b ml rt R Q h' (d :: F) c' s' q L (.ref d :: S)) : Go l Z K own mn b ml rt R Q h F c s pc L (.ref a :: S) := fun T X => by
  subst hq hc hs
  obtain ⟨vm, k, locs, Y, eT, hS, hk, hZ, hown, N, C, M, O, r⟩ := X
  obtain ⟨cl, A, q1, q2, q3, H, G⟩ := V
  have FC : FitC Z cl := fitC_of A fun i hi v hv => by rw [H i hi] at hv; cases hv; exact G i hi
  obtain ⟨T', h', Y', e', Ex, A', E', st⟩ := cloneA Y r.1 (show Z.Warmed39 (K.2.2.1.setVm vm).vm from hZ) hown w1 w2 w3 w4 w5 w6 eT A E FC (g := mkF K.2.2.2.1 pc L (.ref a :: S)) rfl (by rw [r.2.2.1]; exact hL) (rest := S) rfl (hb r.2.1 hd) hfr (W := (S.map fun v => v.category).sum) (by show 2 * 0 + _ ≤ _; omega) hlo (by rw [q2]; exact hcap) hc' hs'
  obtain ⟨s₂, o, x, r'⟩ := nx h' _ rfl Ex ⟨cloneOf cl, A', q1, q2, q3, H, G⟩ E' T' (St.grew Ex (fun x hx => by rcases List.mem_cons.mp hx with rfl | hx; exact Or.inr ⟨Nat.le_refl _, A'.lt⟩; exact Or.inl hx) Y' e' hS hk hZ hown N C M O r)
  exact ⟨s₂, o, st _ x, r'⟩
section Calls
variable {index : Nat} {y : MethodName} {b' : ByteArray} {ml' : Nat} {rt' : Option FieldType} {R' : Room} {F' : List Addr} {as : Array Value} {Q' : QT} {argsL : List Value}
/-- invokevirtual of a method that the named class inherits -/
theorem go_virtualUp (H : Wd Z a0) {a : Addr} {C owner : String} {z : MethodName} (w1 : (Cond.methodLink own index y).before a0 Z = true) (w2 : (Cond.sameMethod y.cls owner y.name y.desc).before a0 Z = true) (w2' : (Cond.declares ⟨owner, y.name, y.desc⟩).before a0 Z = true) (how : owner ≠ "java/lang/invoke/MethodHandle" ∧ owner ≠ "java/lang/invoke/VarHandle") (w3 : (Cond.selects C y z).before a0 Z = true) (w4 : (Cond.instanceMethod z).before a0 Z = true) (w5 : (Cond.initialized z.cls).before a0 Z = true) (w6 : (Cond.code z b' ml' rt').before a0 Z = true)
    (E : Exa Z h a C) (M' : Met l Z z b' ml' rt' R' h F' as Q')
    (ha : (.ref a :: argsL).toArray = as) (hst : S' = argsL.reverse ++ .ref a :: S) (hlen : ∀ sig, parseMethodDescriptor y.desc = some sig → argsL.length = sig.parameters.length) (hF : ∀ x ∈ F', x ∈ F) (hL : L.size = ml) (hfr : R'.frames + 1 ≤ R.frames) (hlo : (S.map fun v => v.category).sum + (ml' + 11) + R'.locals ≤ R.locals) (hc : c + R'.cells = c') (hs : s + R'.slots = s') (hc' : c' ≤ R.cells) (hs' : s' ≤ R.slots)
    (hd : decode b pc = .ok (.invokevirtual index, 3)) (hq : pc + 3 = q) (nx : ∀ v h' G, h.size ≤ h'.size → Q' v h' G → ∃ F2, (∀ x ∈ F2, x ∈ G ∨ x ∈ F) ∧ Go l Z K own mn b ml rt R Q h' F2 c' s' q L (v.toList ++ S)) : Go l Z K own mn b ml rt R Q h F c s pc L S' := fun T X => by
  subst hq hc hs hst ha
  obtain ⟨vm, k, locs, Y, eT, hS, hk, hZ, hown, N, C, M, O, r⟩ := X
  obtain ⟨cB, kB, g1, g2, g3⟩ := isOf (s := K.2.2.1.setVm vm) hZ eT E
  obtain ⟨v, vm₁, B, -, Y', hS', hg, P, st⟩ := Y.virtualBackUpS r.1 hown (mvT (s := K.2.2.1.setVm vm) hZ w1) (mvT (s := K.2.2.1.setVm vm) hZ w2) (mvT (s := K.2.2.1.setVm vm) hZ w2') how (mvT (s := K.2.2.1.setVm vm) hZ w3) (mvT (s := K.2.2.1.setVm vm) hZ w4) (W := (S.map fun v => v.category).sum) (M'.back H hZ w6 w5 hfr hlo C.1 (fun x hx => M x (hF x hx)) O) g1 g3 (g := mkF K.2.2.2.1 pc L (argsL.reverse ++ .ref a :: S)) rfl (by rw [r.2.2.1]; exact hL) (Steps.refl _) (argsL := argsL) (rest := S) hlen rfl (by show 2 * 0 + _ ≤ _; omega) (hb r.2.1 hd) (fun _ _ => ⟨rfl, eT, hc', hs'⟩)
  obtain ⟨G, q1, q2⟩ := St.came Y eT hS hk hZ hown N C M r Y' hS' hg P
  obtain ⟨F2, f1, f2⟩ := nx v B.U.heap G (by rw [← eT]; exact hg) q1
  obtain ⟨s₂, o, x, r'⟩ := f2 B.U (q2 F2 f1)
  exact ⟨s₂, o, st.trans x, r'⟩
end Calls
end G
abbrev ALN : String := "java/util/ArrayList"
abbrev ABL : String := "java/util/AbstractList"
abbrev OBJ : String := "java/lang/Object"
abbrev OA : String := "[Ljava/lang/Object;"
/-- the shared empty array of a new ArrayList -/
def Dfl (Z : State) (de : Addr) : Prop := Sta Z Z.heap ALN "DEFAULTCAPACITY_EMPTY_ELEMENTDATA" OA (.ref de) ∧ ∃ k, Arv Z Z.heap de k (.object OBJ) 0 [] .null
/-- the ArrayList x: its array, size, modCount -/
def ALf (Z : State) (h : Heap) (x : Addr) (d : Value) (n m : Int32) : Prop := Exa Z h x ALN ∧ Fld Z h x ALN "elementData" OA d ∧ Fld Z h x ALN "size" "I" (.int n) ∧ Fld Z h x ABL "modCount" "I" (.int m)
/-- an array of ten references -/
def Ten (Z : State) (h : Heap) (d : Addr) (vs : List Value) : Prop := vs.length = 10 ∧ ∃ k, Ovr Z k OBJ ∧ Arv Z h d k (.object OBJ) 10 vs .null
section
variable {Z : State} {h h' : Heap} {x d : Addr} {v : Value} {n m : Int32} {vs : List Value} {ws : List Addr}
theorem ALf.keep (A : ALf Z h x v n m) (K : Keep h h' ws) (q : x ∉ ws) : ALf Z h' x v n m := ⟨A.1.keep K, A.2.1.keep K q, A.2.2.1.keep K q, A.2.2.2.keep K q⟩
theorem ALf.ext (A : ALf Z h x v n m) (E : Ext h h') : ALf Z h' x v n m := A.keep ((Keep.refl h []).ext E) nin0
theorem Ten.keep (A : Ten Z h d vs) (K : Keep h h' ws) (q : d ∉ ws) : Ten Z h' d vs := by
  obtain ⟨h1, k, O, V⟩ := A; exact ⟨h1, k, O, V.keep K q⟩
theorem Ten.ext (A : Ten Z h d vs) (E : Ext h h') : Ten Z h' d vs := A.keep ((Keep.refl h []).ext E) nin0
end
end Own
end Jvm.Pilot.@@N@@
namespace Jvm.Pilot.@@N@@
namespace Own
open Jvm Jvm.ClassFile Sem Op Lib Jvm.Free Jvm.Stand Jvm.LawKit Jvm.RoadKit
abbrev CPN : String := "com/example/emendate/emendate/model/Capability"
def nU : List Int32 := [117, 115, 101, 114, 115, 58, 101, 100, 105, 116]
def nA : List Int32 := [97, 100, 109, 105, 110]
def nM : List Int32 := [97, 100, 109, 105, 110, 115, 58, 109, 97, 110, 97, 103, 101]
/-- null, or a String -/
def NS (Z : State) (h : Heap) (F : List Addr) (w : Value) : Prop := w = .null ∨ ∃ a cs, w = .ref a ∧ Str Z h F a cs
theorem lat_set {cs : List Int32} {c : Int32} {i : Nat} (h : Lat cs) (hc : ¬ c < 0 ∧ ¬ 255 < c) : Lat (cs.set i c) := ⟨by rw [List.length_set]; exact h.1, fun x hx => (List.mem_or_eq_of_mem_set hx).elim (h.2 x) (fun e => e ▸ hc)⟩
abbrev CPD : String := "Lcom/example/emendate/emendate/model/Capability;"
abbrev SDs : String := "Ljava/lang/String;"
abbrev OPN : String := "java/util/Optional"
/-- the constant c, whose name is cs -/
def Cap (Z : State) (c : Addr) (cs : List Int32) : Prop := Exa Z Z.heap c CPN ∧ ∃ n, Fld Z Z.heap c CPN "capabilityName" SDs (.ref n) ∧ Str Z Z.heap [] n cs
def Caps (Z : State) (u a m : Addr) : Prop := (Sta Z Z.heap CPN "USERS_EDIT" CPD (.ref u) ∧ Sta Z Z.heap CPN "ADMIN" CPD (.ref a) ∧ Sta Z Z.heap CPN "ADMINS_MANAGE" CPD (.ref m)) ∧ (Cap Z u nU ∧ Cap Z a nA ∧ Cap Z m nM) ∧ ∃ va k, Sta Z Z.heap CPN "$VALUES" "[Lcom/example/emendate/emendate/model/Capability;" (.ref va) ∧ Exa Z Z.heap va "[Lcom/example/emendate/emendate/model/Capability;" ∧ Arv Z Z.heap va k (.object CPN) 3 [.ref u, .ref a, .ref m] .null
def Emp (Z : State) (oe : Addr) : Prop := Sta Z Z.heap OPN "EMPTY" "Ljava/util/Optional;" (.ref oe) ∧ Exa Z Z.heap oe OPN ∧ Fld Z Z.heap oe OPN "value" "Ljava/lang/Object;" .null
/-- what both roads answer -/
def pickC (u a m : Addr) (cs : List Int32) : Value := if cs = nU then .ref u else if cs = nA then .ref a else if cs = nM then .ref m else .null
theorem pickU {u a m : Addr} {cs : List Int32} (h : cs = nU) : pickC u a m cs = .ref u := if_pos h
theorem pickA {u a m : Addr} {cs : List Int32} (h1 : ¬ cs = nU) (h : cs = nA) : pickC u a m cs = .ref a := (if_neg h1).trans (if_pos h)
theorem pickM {u a m : Addr} {cs : List Int32} (h1 : ¬ cs = nU) (h2 : ¬ cs = nA) (h : cs = nM) : pickC u a m cs = .ref m := (if_neg h1).trans ((if_neg h2).trans (if_pos h))
theorem pickN {u a m : Addr} {cs : List Int32} (h1 : ¬ cs = nU) (h2 : ¬ cs = nA) (h3 : ¬ cs = nM) : pickC u a m cs = .null := (if_neg h1).trans ((if_neg h2).trans (if_neg h3))
theorem pick_cases (u a m : Addr) (cs : List Int32) : pickC u a m cs = .null ∨ (cs = nU ∧ pickC u a m cs = .ref u) ∨ (cs = nA ∧ pickC u a m cs = .ref a) ∨ (cs = nM ∧ pickC u a m cs = .ref m) := by
  by_cases h1 : cs = nU
  · exact Or.inr (Or.inl ⟨h1, pickU h1⟩)
  · by_cases h2 : cs = nA
    · exact Or.inr (Or.inr (Or.inl ⟨h2, pickA h1 h2⟩))
    · by_cases h3 : cs = nM
      · exact Or.inr (Or.inr (Or.inr ⟨h3, pickM h1 h2 h3⟩))
      · exact Or.inl (pickN h1 h2 h3)
theorem eq_v {args : Array Value} {s : State} {a b : Term} (h : (Jvm.Cond.eq a b).value args s none s [] = some true) : ∃ v, a.eval args s none [] s = some v ∧ b.eval args s none [] s = some v := by
  simp only [Jvm.Cond.value] at h
  cases ha : a.eval args s none [] s with
  | none => simp [ha] at h
  | some x =>
    cases hb : b.eval args s none [] s with
    | none => cases x <;> simp [ha, hb] at h
    | some y => refine ⟨x, rfl, ?_⟩; cases x <;> cases y <;> simp_all
theorem el_at {args : Array Value} {s : State} {T U : Term} {a : Addr} {cl : Cell} {j : Int32} {i : Nat} {v : Value} (ev : T.eval args s none [] s = some (.ref a)) (hat : s.arrayAt? a = some cl) (h : (Jvm.Cond.eq (Jvm.Term.elem T (Jvm.Term.int j)) U).value args s none s [] = some true) (hu : U.eval args s none [] s = some v) (h0 : ¬ j < 0) (hj : j.toNatClampNeg = i) : cl.slots[i]? = some v := by
  obtain ⟨w, e1, e2⟩ := eq_v h
  rw [hu] at e2; cases e2; subst hj
  simpa [Term.eval, ev, hat, h0] using e1
theorem el_int {args : Array Value} {s : State} {T : Term} {a : Addr} {cl : Cell} {j x y : Int32} {i : Nat} (ev : T.eval args s none [] s = some (.ref a)) (hat : s.arrayAt? a = some cl) (h : (Jvm.Cond.eq (Jvm.Term.elem T (Jvm.Term.int j)) (Jvm.Term.int x)).value args s none s [] = some true) (h0 : ¬ j < 0) (hj : j.toNatClampNeg = i) (hx : x = y) : cl.slots[i]? = some (.int y) := by
  subst hx; exact el_at ev hat h (by simp only [Term.eval]) h0 hj
theorem arr_start {args : Array Value} {s : State} {T : Term} {ty : FieldType} {dv : Value} {z : Int32} {vs : List Value} (hf : Fit s) (n1 : (Jvm.Cond.arrayOf T ty).value args s none s [] = some true) (n2 : (Jvm.Cond.eq (Jvm.Term.length T) (Jvm.Term.int z)).value args s none s [] = some true) (hz : ¬ z < 0) (hl : z.toNatClampNeg = vs.length) (hel : ∀ a cl, T.eval args s none [] s = some (.ref a) → s.arrayAt? a = some cl → HasL cl 0 vs) : ∃ (a : Addr) (k : ClassId), T.eval args s none [] s = some (.ref a) ∧ Arv s s.heap a k ty z vs dv := by
  cases ev : T.eval args s none [] s with
  | none => simp [Jvm.Cond.value, Term.eval, ev] at n2
  | some v =>
    cases v with
    | ref a =>
      obtain ⟨cl, A⟩ := Arr.start ev n1
      have hat : s.arrayAt? a = some cl := A.fin (State.Warmed39.refl s).alike
      have q2 : cl.slots.size < 2 ^ 31 ∧ cl.slots.size.toInt32 = z := by
        by_cases q : cl.slots.size < 2 ^ 31
        · refine ⟨q, ?_⟩
          have q' : cl.slots.size < 2147483648 := q
          simpa [Jvm.Cond.value, Term.eval, ev, hat, q'] using n2
        · have q' : ¬ cl.slots.size < 2147483648 := q
          simp [Jvm.Cond.value, Term.eval, ev, hat, q'] at n2
      exact ⟨a, cl.cls, rfl, Arv.start hf A q2.1 q2.2 hz hl (hel a cl ev hat)⟩
    | _ => simp [Jvm.Cond.value, Term.eval, ev] at n2
theorem field_ev {args : Array Value} {s : State} {T : Term} {a : Addr} {C n d : String} {v : Value} (ev : T.eval args s none [] s = some (.ref a)) (e : (Jvm.Term.field T C n d).eval args s none [] s = some v) : s.fieldOf? a C n d = some v := by simpa [Term.eval, ev] using e
theorem str_start {args : Array Value} {s : State} {T : Term} {cs : List Int32} {z : Int32} (hf : Fit s) (n1 : (Jvm.Cond.exactly T "java/lang/String").value args s none s [] = some true) (n2 : (Jvm.Cond.eq (Jvm.Term.field T "java/lang/String" "coder" "B") (Jvm.Term.int 0)).value args s none s [] = some true) (n3 : (Jvm.Cond.arrayOf (Jvm.Term.field T "java/lang/String" "value" "[B") .byte).value args s none s [] = some true) (n4 : (Jvm.Cond.eq (Jvm.Term.length (Jvm.Term.field T "java/lang/String" "value" "[B")) (Jvm.Term.int z)).value args s none s [] = some true) (hz : z = Int32.ofNat cs.length) (hlat : Lat cs) (hel : ∀ bb cl, (Jvm.Term.field T "java/lang/String" "value" "[B").eval args s none [] s = some (.ref bb) → s.arrayAt? bb = some cl → HasL cl 0 (bts cs)) : ∃ a, T.eval args s none [] s = some (.ref a) ∧ Str s s.heap [] a cs := by
  obtain ⟨a, -, -, -, ev, -⟩ := Cond.exactly_spec (Cond.before_iff.mpr n1)
  have E := Exa.start ev n1
  have hb := hlat.1
  subst hz
  obtain ⟨bb, k, e2, A⟩ := arr_start (dv := .int 0) hf n3 n4 (nn_ofNat (by omega)) (by rw [cl_ofNat (by omega), bts_len]) hel
  obtain ⟨w, q1, q2⟩ := eq_v n2
  have hw : w = .int 0 := by simpa [Term.eval] using q2.symm
  subst hw
  exact ⟨a, ev, E, Fld.start (field_ev ev q1), by simp, hlat, bb, k, by simp, Fld.start (field_ev ev e2), A⟩
theorem w_0 {Z : State} {a0 : Array Value} (H : Wd Z a0) : ((Jvm.Cond.methodLink "com/example/emendate/emendate/model/CapabilityByNamePinLaw" (7 : Nat) ({ cls := "com/example/emendate/emendate/model/CapabilityByNamePinLaw", name := "draw", desc := "(IIICC)Ljava/lang/String;" } : Jvm.MethodName)) : Jvm.Cond).before a0 Z = true := H.1 _ (List.mem_of_getElem? (i := 0) rfl)
theorem w_1 {Z : State} {a0 : Array Value} (H : Wd Z a0) : ((Jvm.Cond.static ({ cls := "com/example/emendate/emendate/model/CapabilityByNamePinLaw", name := "draw", desc := "(IIICC)Ljava/lang/String;" } : Jvm.MethodName)) : Jvm.Cond).before a0 Z = true := H.1 _ (List.mem_of_getElem? (i := 1) rfl)
theorem w_2 {Z : State} {a0 : Array Value} (H : Wd Z a0) : ((Jvm.Cond.initialized "com/example/emendate/emendate/model/CapabilityByNamePinLaw") : Jvm.Cond).before a0 Z = true := H.1 _ (List.mem_of_getElem? (i := 2) rfl)
theorem w_3 {Z : State} {a0 : Array Value} (H : Wd Z a0) : ((Jvm.Cond.code ({ cls := "com/example/emendate/emendate/model/CapabilityByNamePinLaw", name := "draw", desc := "(IIICC)Ljava/lang/String;" } : Jvm.MethodName) method_4_code (8 : Nat) (Option.some (Jvm.ClassFile.FieldType.object "java/lang/String"))) : Jvm.Cond).before a0 Z = true := H.1 _ (List.mem_of_getElem? (i := 3) rfl)
theorem w_4 {Z : State} {a0 : Array Value} (H : Wd Z a0) : ((Jvm.Cond.arrayClass Jvm.ClassFile.FieldType.char) : Jvm.Cond).before a0 Z = true := H.1 _ (List.mem_of_getElem? (i := 4) rfl)
theorem w_5 {Z : State} {a0 : Array Value} (H : Wd Z a0) : ((Jvm.Cond.classLink "com/example/emendate/emendate/model/CapabilityByNamePinLaw" (38 : Nat) "java/lang/String") : Jvm.Cond).before a0 Z = true := H.1 _ (List.mem_of_getElem? (i := 5) rfl)
theorem w_6 {Z : State} {a0 : Array Value} (H : Wd Z a0) : ((Jvm.Cond.instantiable "java/lang/String" (4 : Nat)) : Jvm.Cond).before a0 Z = true := H.1 _ (List.mem_of_getElem? (i := 6) rfl)
theorem w_7 {Z : State} {a0 : Array Value} (H : Wd Z a0) : ((Jvm.Cond.initialized "java/lang/String") : Jvm.Cond).before a0 Z = true := H.1 _ (List.mem_of_getElem? (i := 7) rfl)
theorem w_8 {Z : State} {a0 : Array Value} (H : Wd Z a0) : ((Jvm.Cond.methodLink "com/example/emendate/emendate/model/CapabilityByNamePinLaw" (65 : Nat) ({ cls := "java/lang/String", name := "<init>", desc := "([C)V" } : Jvm.MethodName)) : Jvm.Cond).before a0 Z = true := H.1 _ (List.mem_of_getElem? (i := 8) rfl)
theorem w_9 {Z : State} {a0 : Array Value} (H : Wd Z a0) : ((Jvm.Cond.instanceMethod ({ cls := "java/lang/String", name := "<init>", desc := "([C)V" } : Jvm.MethodName)) : Jvm.Cond).before a0 Z = true := H.1 _ (List.mem_of_getElem? (i := 9) rfl)
theorem w_10 {Z : State} {a0 : Array Value} (H : Wd Z a0) : ((Jvm.Cond.code ({ cls := "java/lang/String", name := "<init>", desc := "([C)V" } : Jvm.MethodName) jdk_42_method_3_code (2 : Nat) (Option.none : Option Jvm.ClassFile.FieldType)) : Jvm.Cond).before a0 Z = true := H.1 _ (List.mem_of_getElem? (i := 10) rfl)
theorem w_11 {Z : State} {a0 : Array Value} (H : Wd Z a0) : ((Jvm.Cond.methodLink "java/lang/String" (27 : Nat) ({ cls := "java/lang/String", name := "<init>", desc := "([CIILjava/lang/Void;)V" } : Jvm.MethodName)) : Jvm.Cond).before a0 Z = true := H.1 _ (List.mem_of_getElem? (i := 11) rfl)
theorem w_12 {Z : State} {a0 : Array Value} (H : Wd Z a0) : ((Jvm.Cond.instanceMethod ({ cls := "java/lang/String", name := "<init>", desc := "([CIILjava/lang/Void;)V" } : Jvm.MethodName)) : Jvm.Cond).before a0 Z = true := H.1 _ (List.mem_of_getElem? (i := 12) rfl)
theorem w_14 {Z : State} {a0 : Array Value} (H : Wd Z a0) : ((Jvm.Cond.code ({ cls := "java/lang/String", name := "<init>", desc := "([CIILjava/lang/Void;)V" } : Jvm.MethodName) jdk_42_method_149_code (6 : Nat) (Option.none : Option Jvm.ClassFile.FieldType)) : Jvm.Cond).before a0 Z = true := H.1 _ (List.mem_of_getElem? (i := 14) rfl)
theorem w_15 {Z : State} {a0 : Array Value} (H : Wd Z a0) : ((Jvm.Cond.methodLink "java/lang/String" (1 : Nat) ({ cls := "java/lang/Object", name := "<init>", desc := "()V" } : Jvm.MethodName)) : Jvm.Cond).before a0 Z = true := H.1 _ (List.mem_of_getElem? (i := 15) rfl)
theorem w_16 {Z : State} {a0 : Array Value} (H : Wd Z a0) : ((Jvm.Cond.instanceMethod ({ cls := "java/lang/Object", name := "<init>", desc := "()V" } : Jvm.MethodName)) : Jvm.Cond).before a0 Z = true := H.1 _ (List.mem_of_getElem? (i := 16) rfl)
theorem w_17 {Z : State} {a0 : Array Value} (H : Wd Z a0) : ((Jvm.Cond.code ({ cls := "java/lang/Object", name := "<init>", desc := "()V" } : Jvm.MethodName) object_method_1_code (1 : Nat) (Option.none : Option Jvm.ClassFile.FieldType)) : Jvm.Cond).before a0 Z = true := H.1 _ (List.mem_of_getElem? (i := 17) rfl)
theorem w_18 {Z : State} {a0 : Array Value} (H : Wd Z a0) : ((Jvm.Cond.fieldLink "java/lang/String" (38 : Nat) "java/lang/String" "COMPACT_STRINGS" "Z") : Jvm.Cond).before a0 Z = true := H.1 _ (List.mem_of_getElem? (i := 18) rfl)
theorem w_19 {Z : State} {a0 : Array Value} (H : Wd Z a0) : ((Jvm.Cond.methodLink "java/lang/String" (177 : Nat) ({ cls := "java/lang/StringUTF16", name := "compress", desc := "([CII)[B" } : Jvm.MethodName)) : Jvm.Cond).before a0 Z = true := H.1 _ (List.mem_of_getElem? (i := 19) rfl)
theorem w_20 {Z : State} {a0 : Array Value} (H : Wd Z a0) : ((Jvm.Cond.static ({ cls := "java/lang/StringUTF16", name := "compress", desc := "([CII)[B" } : Jvm.MethodName)) : Jvm.Cond).before a0 Z = true := H.1 _ (List.mem_of_getElem? (i := 20) rfl)
theorem w_21 {Z : State} {a0 : Array Value} (H : Wd Z a0) : ((Jvm.Cond.initialized "java/lang/StringUTF16") : Jvm.Cond).before a0 Z = true := H.1 _ (List.mem_of_getElem? (i := 21) rfl)
theorem w_22 {Z : State} {a0 : Array Value} (H : Wd Z a0) : ((Jvm.Cond.code ({ cls := "java/lang/StringUTF16", name := "compress", desc := "([CII)[B" } : Jvm.MethodName) jdk_52_method_16_code (6 : Nat) (Option.some (Jvm.ClassFile.FieldType.array Jvm.ClassFile.FieldType.byte))) : Jvm.Cond).before a0 Z = true := H.1 _ (List.mem_of_getElem? (i := 22) rfl)
theorem w_23 {Z : State} {a0 : Array Value} (H : Wd Z a0) : ((Jvm.Cond.arrayClass Jvm.ClassFile.FieldType.byte) : Jvm.Cond).before a0 Z = true := H.1 _ (List.mem_of_getElem? (i := 23) rfl)
theorem w_24 {Z : State} {a0 : Array Value} (H : Wd Z a0) : ((Jvm.Cond.methodLink "java/lang/StringUTF16" (115 : Nat) ({ cls := "java/lang/StringUTF16", name := "compress", desc := "([CI[BII)I" } : Jvm.MethodName)) : Jvm.Cond).before a0 Z = true := H.1 _ (List.mem_of_getElem? (i := 24) rfl)
theorem w_25 {Z : State} {a0 : Array Value} (H : Wd Z a0) : ((Jvm.Cond.static ({ cls := "java/lang/StringUTF16", name := "compress", desc := "([CI[BII)I" } : Jvm.MethodName)) : Jvm.Cond).before a0 Z = true := H.1 _ (List.mem_of_getElem? (i := 25) rfl)
theorem w_26 {Z : State} {a0 : Array Value} (H : Wd Z a0) : ((Jvm.Cond.code ({ cls := "java/lang/StringUTF16", name := "compress", desc := "([CI[BII)I" } : Jvm.MethodName) jdk_52_method_21_code (7 : Nat) (Option.some Jvm.ClassFile.FieldType.int)) : Jvm.Cond).before a0 Z = true := H.1 _ (List.mem_of_getElem? (i := 26) rfl)
theorem w_27 {Z : State} {a0 : Array Value} (H : Wd Z a0) : ((Jvm.Cond.methodLink "java/lang/String" (47 : Nat) ({ cls := "java/lang/StringUTF16", name := "coderFromArrayLen", desc := "([BI)B" } : Jvm.MethodName)) : Jvm.Cond).before a0 Z = true := H.1 _ (List.mem_of_getElem? (i := 27) rfl)
theorem w_28 {Z : State} {a0 : Array Value} (H : Wd Z a0) : ((Jvm.Cond.static ({ cls := "java/lang/StringUTF16", name := "coderFromArrayLen", desc := "([BI)B" } : Jvm.MethodName)) : Jvm.Cond).before a0 Z = true := H.1 _ (List.mem_of_getElem? (i := 28) rfl)
theorem w_29 {Z : State} {a0 : Array Value} (H : Wd Z a0) : ((Jvm.Cond.code ({ cls := "java/lang/StringUTF16", name := "coderFromArrayLen", desc := "([BI)B" } : Jvm.MethodName) jdk_52_method_15_code (2 : Nat) (Option.some Jvm.ClassFile.FieldType.byte)) : Jvm.Cond).before a0 Z = true := H.1 _ (List.mem_of_getElem? (i := 29) rfl)
theorem w_30 {Z : State} {a0 : Array Value} (H : Wd Z a0) : ((Jvm.Cond.fieldLink "java/lang/String" (15 : Nat) "java/lang/String" "coder" "B") : Jvm.Cond).before a0 Z = true := H.1 _ (List.mem_of_getElem? (i := 30) rfl)
theorem w_31 {Z : State} {a0 : Array Value} (H : Wd Z a0) : ((Jvm.Cond.laysFinal "java/lang/String" "java/lang/String" "coder" "B") : Jvm.Cond).before a0 Z = true := H.1 _ (List.mem_of_getElem? (i := 31) rfl)
theorem w_32 {Z : State} {a0 : Array Value} (H : Wd Z a0) : ((Jvm.Cond.fieldLink "java/lang/String" (9 : Nat) "java/lang/String" "value" "[B") : Jvm.Cond).before a0 Z = true := H.1 _ (List.mem_of_getElem? (i := 32) rfl)
theorem w_33 {Z : State} {a0 : Array Value} (H : Wd Z a0) : ((Jvm.Cond.laysFinal "java/lang/String" "java/lang/String" "value" "[B") : Jvm.Cond).before a0 Z = true := H.1 _ (List.mem_of_getElem? (i := 33) rfl)
theorem w_34 {Z : State} {a0 : Array Value} (H : Wd Z a0) : ((Jvm.Cond.methodLink "com/example/emendate/emendate/model/CapabilityByNamePinLaw" (13 : Nat) ({ cls := "com/example/emendate/emendate/model/CapabilityByNamePinLaw", name := "reference", desc := "(Ljava/lang/String;)Lcom/example/emendate/emendate/model/Capability;" } : Jvm.MethodName)) : Jvm.Cond).before a0 Z = true := H.1 _ (List.mem_of_getElem? (i := 34) rfl)
theorem w_35 {Z : State} {a0 : Array Value} (H : Wd Z a0) : ((Jvm.Cond.static ({ cls := "com/example/emendate/emendate/model/CapabilityByNamePinLaw", name := "reference", desc := "(Ljava/lang/String;)Lcom/example/emendate/emendate/model/Capability;" } : Jvm.MethodName)) : Jvm.Cond).before a0 Z = true := H.1 _ (List.mem_of_getElem? (i := 35) rfl)
theorem w_36 {Z : State} {a0 : Array Value} (H : Wd Z a0) : ((Jvm.Cond.code ({ cls := "com/example/emendate/emendate/model/CapabilityByNamePinLaw", name := "reference", desc := "(Ljava/lang/String;)Lcom/example/emendate/emendate/model/Capability;" } : Jvm.MethodName) method_3_code (1 : Nat) (Option.some (Jvm.ClassFile.FieldType.object "com/example/emendate/emendate/model/Capability"))) : Jvm.Cond).before a0 Z = true := H.1 _ (List.mem_of_getElem? (i := 36) rfl)
theorem w_37 {Z : State} {a0 : Array Value} (H : Wd Z a0) : ((Jvm.Cond.stringLink "com/example/emendate/emendate/model/CapabilityByNamePinLaw" (43 : Nat) "users:edit") : Jvm.Cond).before a0 Z = true := H.1 _ (List.mem_of_getElem? (i := 37) rfl)
theorem w_38 {Z : State} {a0 : Array Value} (H : Wd Z a0) : ((Jvm.Cond.soleField "java/lang/String" "value") : Jvm.Cond).before a0 Z = true := H.1 _ (List.mem_of_getElem? (i := 38) rfl)
theorem w_39 {Z : State} {a0 : Array Value} (H : Wd Z a0) : ((Jvm.Cond.soleField "java/lang/String" "coder") : Jvm.Cond).before a0 Z = true := H.1 _ (List.mem_of_getElem? (i := 39) rfl)
theorem w_40 {Z : State} {a0 : Array Value} (H : Wd Z a0) : ((Jvm.Cond.methodLink "com/example/emendate/emendate/model/CapabilityByNamePinLaw" (37 : Nat) ({ cls := "java/lang/String", name := "equals", desc := "(Ljava/lang/Object;)Z" } : Jvm.MethodName)) : Jvm.Cond).before a0 Z = true := H.1 _ (List.mem_of_getElem? (i := 40) rfl)
theorem w_41 {Z : State} {a0 : Array Value} (H : Wd Z a0) : ((Jvm.Cond.declares ({ cls := "java/lang/String", name := "equals", desc := "(Ljava/lang/Object;)Z" } : Jvm.MethodName)) : Jvm.Cond).before a0 Z = true := H.1 _ (List.mem_of_getElem? (i := 41) rfl)
theorem w_42 {Z : State} {a0 : Array Value} (H : Wd Z a0) : ((Jvm.Cond.instanceMethod ({ cls := "java/lang/String", name := "equals", desc := "(Ljava/lang/Object;)Z" } : Jvm.MethodName)) : Jvm.Cond).before a0 Z = true := H.1 _ (List.mem_of_getElem? (i := 42) rfl)
theorem w_43 {Z : State} {a0 : Array Value} (H : Wd Z a0) : ((Jvm.Cond.selects "java/lang/String" ({ cls := "java/lang/String", name := "equals", desc := "(Ljava/lang/Object;)Z" } : Jvm.MethodName) ({ cls := "java/lang/String", name := "equals", desc := "(Ljava/lang/Object;)Z" } : Jvm.MethodName)) : Jvm.Cond).before a0 Z = true := H.1 _ (List.mem_of_getElem? (i := 43) rfl)
theorem w_44 {Z : State} {a0 : Array Value} (H : Wd Z a0) : ((Jvm.Cond.code ({ cls := "java/lang/String", name := "equals", desc := "(Ljava/lang/Object;)Z" } : Jvm.MethodName) jdk_42_method_66_code (3 : Nat) (Option.some Jvm.ClassFile.FieldType.boolean)) : Jvm.Cond).before a0 Z = true := H.1 _ (List.mem_of_getElem? (i := 44) rfl)
theorem w_45 {Z : State} {a0 : Array Value} (H : Wd Z a0) : ((Jvm.Cond.classLink "java/lang/String" (10 : Nat) "java/lang/String") : Jvm.Cond).before a0 Z = true := H.1 _ (List.mem_of_getElem? (i := 45) rfl)
theorem w_46 {Z : State} {a0 : Array Value} (H : Wd Z a0) : ((Jvm.Cond.methodLink "java/lang/String" (541 : Nat) ({ cls := "java/lang/StringLatin1", name := "equals", desc := "([B[B)Z" } : Jvm.MethodName)) : Jvm.Cond).before a0 Z = true := H.1 _ (List.mem_of_getElem? (i := 46) rfl)
theorem w_47 {Z : State} {a0 : Array Value} (H : Wd Z a0) : ((Jvm.Cond.static ({ cls := "java/lang/StringLatin1", name := "equals", desc := "([B[B)Z" } : Jvm.MethodName)) : Jvm.Cond).before a0 Z = true := H.1 _ (List.mem_of_getElem? (i := 47) rfl)
theorem w_48 {Z : State} {a0 : Array Value} (H : Wd Z a0) : ((Jvm.Cond.initialized "java/lang/StringLatin1") : Jvm.Cond).before a0 Z = true := H.1 _ (List.mem_of_getElem? (i := 48) rfl)
theorem w_49 {Z : State} {a0 : Array Value} (H : Wd Z a0) : ((Jvm.Cond.code ({ cls := "java/lang/StringLatin1", name := "equals", desc := "([B[B)Z" } : Jvm.MethodName) jdk_43_method_13_code (3 : Nat) (Option.some Jvm.ClassFile.FieldType.boolean)) : Jvm.Cond).before a0 Z = true := H.1 _ (List.mem_of_getElem? (i := 49) rfl)
theorem w_50 {Z : State} {a0 : Array Value} (H : Wd Z a0) : ((Jvm.Cond.fieldLink "com/example/emendate/emendate/model/CapabilityByNamePinLaw" (45 : Nat) "com/example/emendate/emendate/model/Capability" "USERS_EDIT" "Lcom/example/emendate/emendate/model/Capability;") : Jvm.Cond).before a0 Z = true := H.1 _ (List.mem_of_getElem? (i := 50) rfl)
theorem w_51 {Z : State} {a0 : Array Value} (H : Wd Z a0) : ((Jvm.Cond.initialized "com/example/emendate/emendate/model/Capability") : Jvm.Cond).before a0 Z = true := H.1 _ (List.mem_of_getElem? (i := 51) rfl)
theorem w_52 {Z : State} {a0 : Array Value} (H : Wd Z a0) : ((Jvm.Cond.laysStatic "com/example/emendate/emendate/model/Capability" "USERS_EDIT" "Lcom/example/emendate/emendate/model/Capability;") : Jvm.Cond).before a0 Z = true := H.1 _ (List.mem_of_getElem? (i := 52) rfl)
theorem w_53 {Z : State} {a0 : Array Value} (H : Wd Z a0) : ((Jvm.Cond.methodLink "com/example/emendate/emendate/model/CapabilityByNamePinLaw" (17 : Nat) ({ cls := "com/example/emendate/emendate/model/Capability", name := "byName", desc := "(Ljava/lang/String;)Ljava/util/Optional;" } : Jvm.MethodName)) : Jvm.Cond).before a0 Z = true := H.1 _ (List.mem_of_getElem? (i := 53) rfl)
theorem w_54 {Z : State} {a0 : Array Value} (H : Wd Z a0) : ((Jvm.Cond.static ({ cls := "com/example/emendate/emendate/model/Capability", name := "byName", desc := "(Ljava/lang/String;)Ljava/util/Optional;" } : Jvm.MethodName)) : Jvm.Cond).before a0 Z = true := H.1 _ (List.mem_of_getElem? (i := 54) rfl)
theorem w_55 {Z : State} {a0 : Array Value} (H : Wd Z a0) : ((Jvm.Cond.code ({ cls := "com/example/emendate/emendate/model/Capability", name := "byName", desc := "(Ljava/lang/String;)Ljava/util/Optional;" } : Jvm.MethodName) prog_7_method_4_code (5 : Nat) (Option.some (Jvm.ClassFile.FieldType.object "java/util/Optional"))) : Jvm.Cond).before a0 Z = true := H.1 _ (List.mem_of_getElem? (i := 55) rfl)
theorem w_56 {Z : State} {a0 : Array Value} (H : Wd Z a0) : ((Jvm.Cond.methodLink "com/example/emendate/emendate/model/Capability" (36 : Nat) ({ cls := "com/example/emendate/emendate/model/Capability", name := "values", desc := "()[Lcom/example/emendate/emendate/model/Capability;" } : Jvm.MethodName)) : Jvm.Cond).before a0 Z = true := H.1 _ (List.mem_of_getElem? (i := 56) rfl)
theorem w_57 {Z : State} {a0 : Array Value} (H : Wd Z a0) : ((Jvm.Cond.static ({ cls := "com/example/emendate/emendate/model/Capability", name := "values", desc := "()[Lcom/example/emendate/emendate/model/Capability;" } : Jvm.MethodName)) : Jvm.Cond).before a0 Z = true := H.1 _ (List.mem_of_getElem? (i := 57) rfl)
theorem w_58 {Z : State} {a0 : Array Value} (H : Wd Z a0) : ((Jvm.Cond.code ({ cls := "com/example/emendate/emendate/model/Capability", name := "values", desc := "()[Lcom/example/emendate/emendate/model/Capability;" } : Jvm.MethodName) prog_7_method_1_code (0 : Nat) (Option.some (Jvm.ClassFile.FieldType.array (Jvm.ClassFile.FieldType.object "com/example/emendate/emendate/model/Capability")))) : Jvm.Cond).before a0 Z = true := H.1 _ (List.mem_of_getElem? (i := 58) rfl)
theorem w_59 {Z : State} {a0 : Array Value} (H : Wd Z a0) : ((Jvm.Cond.fieldLink "com/example/emendate/emendate/model/Capability" (13 : Nat) "com/example/emendate/emendate/model/Capability" "$VALUES" "[Lcom/example/emendate/emendate/model/Capability;") : Jvm.Cond).before a0 Z = true := H.1 _ (List.mem_of_getElem? (i := 59) rfl)
theorem w_61 {Z : State} {a0 : Array Value} (H : Wd Z a0) : ((Jvm.Cond.methodLink "com/example/emendate/emendate/model/Capability" (17 : Nat) ({ cls := "[Lcom/example/emendate/emendate/model/Capability;", name := "clone", desc := "()Ljava/lang/Object;" } : Jvm.MethodName)) : Jvm.Cond).before a0 Z = true := H.1 _ (List.mem_of_getElem? (i := 61) rfl)
theorem w_62 {Z : State} {a0 : Array Value} (H : Wd Z a0) : ((Jvm.Cond.sameMethod "[Lcom/example/emendate/emendate/model/Capability;" "java/lang/Object" "clone" "()Ljava/lang/Object;") : Jvm.Cond).before a0 Z = true := H.1 _ (List.mem_of_getElem? (i := 62) rfl)
theorem w_64 {Z : State} {a0 : Array Value} (H : Wd Z a0) : ((Jvm.Cond.instanceMethod ({ cls := "java/lang/Object", name := "clone", desc := "()Ljava/lang/Object;" } : Jvm.MethodName)) : Jvm.Cond).before a0 Z = true := H.1 _ (List.mem_of_getElem? (i := 64) rfl)
theorem w_65 {Z : State} {a0 : Array Value} (H : Wd Z a0) : ((Jvm.Cond.selects "[Lcom/example/emendate/emendate/model/Capability;" ({ cls := "[Lcom/example/emendate/emendate/model/Capability;", name := "clone", desc := "()Ljava/lang/Object;" } : Jvm.MethodName) ({ cls := "java/lang/Object", name := "clone", desc := "()Ljava/lang/Object;" } : Jvm.MethodName)) : Jvm.Cond).before a0 Z = true := H.1 _ (List.mem_of_getElem? (i := 65) rfl)
theorem w_66 {Z : State} {a0 : Array Value} (H : Wd Z a0) : ((Jvm.Cond.native ({ cls := "java/lang/Object", name := "clone", desc := "()Ljava/lang/Object;" } : Jvm.MethodName)) : Jvm.Cond).before a0 Z = true := H.1 _ (List.mem_of_getElem? (i := 66) rfl)
theorem w_67 {Z : State} {a0 : Array Value} (H : Wd Z a0) : ((Jvm.Cond.castable "[Lcom/example/emendate/emendate/model/Capability;" "java/lang/Cloneable") : Jvm.Cond).before a0 Z = true := H.1 _ (List.mem_of_getElem? (i := 67) rfl)
theorem w_68 {Z : State} {a0 : Array Value} (H : Wd Z a0) : ((Jvm.Cond.laysStatic "com/example/emendate/emendate/model/Capability" "ADMIN" "Lcom/example/emendate/emendate/model/Capability;") : Jvm.Cond).before a0 Z = true := H.1 _ (List.mem_of_getElem? (i := 68) rfl)
theorem w_69 {Z : State} {a0 : Array Value} (H : Wd Z a0) : ((Jvm.Cond.laysStatic "com/example/emendate/emendate/model/Capability" "ADMINS_MANAGE" "Lcom/example/emendate/emendate/model/Capability;") : Jvm.Cond).before a0 Z = true := H.1 _ (List.mem_of_getElem? (i := 69) rfl)
theorem w_70 {Z : State} {a0 : Array Value} (H : Wd Z a0) : ((Jvm.Cond.initializedFor "com/example/emendate/emendate/model/Capability" "$VALUES" "[Lcom/example/emendate/emendate/model/Capability;") : Jvm.Cond).before a0 Z = true := H.1 _ (List.mem_of_getElem? (i := 70) rfl)
theorem w_71 {Z : State} {a0 : Array Value} (H : Wd Z a0) : ((Jvm.Cond.classLink "com/example/emendate/emendate/model/Capability" (18 : Nat) "[Lcom/example/emendate/emendate/model/Capability;") : Jvm.Cond).before a0 Z = true := H.1 _ (List.mem_of_getElem? (i := 71) rfl)
theorem w_73 {Z : State} {a0 : Array Value} (H : Wd Z a0) : ((Jvm.Cond.fieldLink "com/example/emendate/emendate/model/Capability" (32 : Nat) "com/example/emendate/emendate/model/Capability" "capabilityName" "Ljava/lang/String;") : Jvm.Cond).before a0 Z = true := H.1 _ (List.mem_of_getElem? (i := 73) rfl)
theorem w_75 {Z : State} {a0 : Array Value} (H : Wd Z a0) : ((Jvm.Cond.methodLink "com/example/emendate/emendate/model/Capability" (40 : Nat) ({ cls := "java/lang/String", name := "equals", desc := "(Ljava/lang/Object;)Z" } : Jvm.MethodName)) : Jvm.Cond).before a0 Z = true := H.1 _ (List.mem_of_getElem? (i := 75) rfl)
theorem w_76 {Z : State} {a0 : Array Value} (H : Wd Z a0) : ((Jvm.Cond.methodLink "com/example/emendate/emendate/model/Capability" (46 : Nat) ({ cls := "java/util/Optional", name := "of", desc := "(Ljava/lang/Object;)Ljava/util/Optional;" } : Jvm.MethodName)) : Jvm.Cond).before a0 Z = true := H.1 _ (List.mem_of_getElem? (i := 76) rfl)
theorem w_77 {Z : State} {a0 : Array Value} (H : Wd Z a0) : ((Jvm.Cond.static ({ cls := "java/util/Optional", name := "of", desc := "(Ljava/lang/Object;)Ljava/util/Optional;" } : Jvm.MethodName)) : Jvm.Cond).before a0 Z = true := H.1 _ (List.mem_of_getElem? (i := 77) rfl)
theorem w_78 {Z : State} {a0 : Array Value} (H : Wd Z a0) : ((Jvm.Cond.initialized "java/util/Optional") : Jvm.Cond).before a0 Z = true := H.1 _ (List.mem_of_getElem? (i := 78) rfl)
theorem w_79 {Z : State} {a0 : Array Value} (H : Wd Z a0) : ((Jvm.Cond.code ({ cls := "java/util/Optional", name := "of", desc := "(Ljava/lang/Object;)Ljava/util/Optional;" } : Jvm.MethodName) jdk_32_method_3_code (1 : Nat) (Option.some (Jvm.ClassFile.FieldType.object "java/util/Optional"))) : Jvm.Cond).before a0 Z = true := H.1 _ (List.mem_of_getElem? (i := 79) rfl)
theorem w_80 {Z : State} {a0 : Array Value} (H : Wd Z a0) : ((Jvm.Cond.classLink "java/util/Optional" (2 : Nat) "java/util/Optional") : Jvm.Cond).before a0 Z = true := H.1 _ (List.mem_of_getElem? (i := 80) rfl)
theorem w_81 {Z : State} {a0 : Array Value} (H : Wd Z a0) : ((Jvm.Cond.instantiable "java/util/Optional" (1 : Nat)) : Jvm.Cond).before a0 Z = true := H.1 _ (List.mem_of_getElem? (i := 81) rfl)
theorem w_82 {Z : State} {a0 : Array Value} (H : Wd Z a0) : ((Jvm.Cond.methodLink "java/util/Optional" (17 : Nat) ({ cls := "java/util/Objects", name := "requireNonNull", desc := "(Ljava/lang/Object;)Ljava/lang/Object;" } : Jvm.MethodName)) : Jvm.Cond).before a0 Z = true := H.1 _ (List.mem_of_getElem? (i := 82) rfl)
theorem w_83 {Z : State} {a0 : Array Value} (H : Wd Z a0) : ((Jvm.Cond.static ({ cls := "java/util/Objects", name := "requireNonNull", desc := "(Ljava/lang/Object;)Ljava/lang/Object;" } : Jvm.MethodName)) : Jvm.Cond).before a0 Z = true := H.1 _ (List.mem_of_getElem? (i := 83) rfl)
theorem w_84 {Z : State} {a0 : Array Value} (H : Wd Z a0) : ((Jvm.Cond.initialized "java/util/Objects") : Jvm.Cond).before a0 Z = true := H.1 _ (List.mem_of_getElem? (i := 84) rfl)
theorem w_85 {Z : State} {a0 : Array Value} (H : Wd Z a0) : ((Jvm.Cond.code ({ cls := "java/util/Objects", name := "requireNonNull", desc := "(Ljava/lang/Object;)Ljava/lang/Object;" } : Jvm.MethodName) jdk_31_method_10_code (1 : Nat) (Option.some (Jvm.ClassFile.FieldType.object "java/lang/Object"))) : Jvm.Cond).before a0 Z = true := H.1 _ (List.mem_of_getElem? (i := 85) rfl)
theorem w_86 {Z : State} {a0 : Array Value} (H : Wd Z a0) : ((Jvm.Cond.methodLink "java/util/Optional" (23 : Nat) ({ cls := "java/util/Optional", name := "<init>", desc := "(Ljava/lang/Object;)V" } : Jvm.MethodName)) : Jvm.Cond).before a0 Z = true := H.1 _ (List.mem_of_getElem? (i := 86) rfl)
theorem w_87 {Z : State} {a0 : Array Value} (H : Wd Z a0) : ((Jvm.Cond.instanceMethod ({ cls := "java/util/Optional", name := "<init>", desc := "(Ljava/lang/Object;)V" } : Jvm.MethodName)) : Jvm.Cond).before a0 Z = true := H.1 _ (List.mem_of_getElem? (i := 87) rfl)
theorem w_89 {Z : State} {a0 : Array Value} (H : Wd Z a0) : ((Jvm.Cond.code ({ cls := "java/util/Optional", name := "<init>", desc := "(Ljava/lang/Object;)V" } : Jvm.MethodName) jdk_32_method_2_code (2 : Nat) (Option.none : Option Jvm.ClassFile.FieldType)) : Jvm.Cond).before a0 Z = true := H.1 _ (List.mem_of_getElem? (i := 89) rfl)
theorem w_90 {Z : State} {a0 : Array Value} (H : Wd Z a0) : ((Jvm.Cond.methodLink "java/util/Optional" (7 : Nat) ({ cls := "java/lang/Object", name := "<init>", desc := "()V" } : Jvm.MethodName)) : Jvm.Cond).before a0 Z = true := H.1 _ (List.mem_of_getElem? (i := 90) rfl)
theorem w_91 {Z : State} {a0 : Array Value} (H : Wd Z a0) : ((Jvm.Cond.fieldLink "java/util/Optional" (13 : Nat) "java/util/Optional" "value" "Ljava/lang/Object;") : Jvm.Cond).before a0 Z = true := H.1 _ (List.mem_of_getElem? (i := 91) rfl)
theorem w_92 {Z : State} {a0 : Array Value} (H : Wd Z a0) : ((Jvm.Cond.laysFinal "java/util/Optional" "java/util/Optional" "value" "Ljava/lang/Object;") : Jvm.Cond).before a0 Z = true := H.1 _ (List.mem_of_getElem? (i := 92) rfl)
theorem w_93 {Z : State} {a0 : Array Value} (H : Wd Z a0) : ((Jvm.Cond.methodLink "com/example/emendate/emendate/model/CapabilityByNamePinLaw" (23 : Nat) ({ cls := "java/util/Optional", name := "isPresent", desc := "()Z" } : Jvm.MethodName)) : Jvm.Cond).before a0 Z = true := H.1 _ (List.mem_of_getElem? (i := 93) rfl)
theorem w_94 {Z : State} {a0 : Array Value} (H : Wd Z a0) : ((Jvm.Cond.declares ({ cls := "java/util/Optional", name := "isPresent", desc := "()Z" } : Jvm.MethodName)) : Jvm.Cond).before a0 Z = true := H.1 _ (List.mem_of_getElem? (i := 94) rfl)
theorem w_95 {Z : State} {a0 : Array Value} (H : Wd Z a0) : ((Jvm.Cond.instanceMethod ({ cls := "java/util/Optional", name := "isPresent", desc := "()Z" } : Jvm.MethodName)) : Jvm.Cond).before a0 Z = true := H.1 _ (List.mem_of_getElem? (i := 95) rfl)
theorem w_96 {Z : State} {a0 : Array Value} (H : Wd Z a0) : ((Jvm.Cond.selects "java/util/Optional" ({ cls := "java/util/Optional", name := "isPresent", desc := "()Z" } : Jvm.MethodName) ({ cls := "java/util/Optional", name := "isPresent", desc := "()Z" } : Jvm.MethodName)) : Jvm.Cond).before a0 Z = true := H.1 _ (List.mem_of_getElem? (i := 96) rfl)
theorem w_97 {Z : State} {a0 : Array Value} (H : Wd Z a0) : ((Jvm.Cond.code ({ cls := "java/util/Optional", name := "isPresent", desc := "()Z" } : Jvm.MethodName) jdk_32_method_6_code (1 : Nat) (Option.some Jvm.ClassFile.FieldType.boolean)) : Jvm.Cond).before a0 Z = true := H.1 _ (List.mem_of_getElem? (i := 97) rfl)
theorem w_98 {Z : State} {a0 : Array Value} (H : Wd Z a0) : ((Jvm.Cond.methodLink "com/example/emendate/emendate/model/CapabilityByNamePinLaw" (29 : Nat) ({ cls := "java/util/Optional", name := "get", desc := "()Ljava/lang/Object;" } : Jvm.MethodName)) : Jvm.Cond).before a0 Z = true := H.1 _ (List.mem_of_getElem? (i := 98) rfl)
theorem w_99 {Z : State} {a0 : Array Value} (H : Wd Z a0) : ((Jvm.Cond.declares ({ cls := "java/util/Optional", name := "get", desc := "()Ljava/lang/Object;" } : Jvm.MethodName)) : Jvm.Cond).before a0 Z = true := H.1 _ (List.mem_of_getElem? (i := 99) rfl)
theorem w_100 {Z : State} {a0 : Array Value} (H : Wd Z a0) : ((Jvm.Cond.instanceMethod ({ cls := "java/util/Optional", name := "get", desc := "()Ljava/lang/Object;" } : Jvm.MethodName)) : Jvm.Cond).before a0 Z = true := H.1 _ (List.mem_of_getElem? (i := 100) rfl)
theorem w_101 {Z : State} {a0 : Array Value} (H : Wd Z a0) : ((Jvm.Cond.selects "java/util/Optional" ({ cls := "java/util/Optional", name := "get", desc := "()Ljava/lang/Object;" } : Jvm.MethodName) ({ cls := "java/util/Optional", name := "get", desc := "()Ljava/lang/Object;" } : Jvm.MethodName)) : Jvm.Cond).before a0 Z = true := H.1 _ (List.mem_of_getElem? (i := 101) rfl)
theorem w_102 {Z : State} {a0 : Array Value} (H : Wd Z a0) : ((Jvm.Cond.code ({ cls := "java/util/Optional", name := "get", desc := "()Ljava/lang/Object;" } : Jvm.MethodName) jdk_32_method_5_code (1 : Nat) (Option.some (Jvm.ClassFile.FieldType.object "java/lang/Object"))) : Jvm.Cond).before a0 Z = true := H.1 _ (List.mem_of_getElem? (i := 102) rfl)
theorem w_103 {Z : State} {a0 : Array Value} (H : Wd Z a0) : ((Jvm.Cond.classLink "com/example/emendate/emendate/model/CapabilityByNamePinLaw" (18 : Nat) "com/example/emendate/emendate/model/Capability") : Jvm.Cond).before a0 Z = true := H.1 _ (List.mem_of_getElem? (i := 103) rfl)
theorem w_105 {Z : State} {a0 : Array Value} (H : Wd Z a0) : ((Jvm.Cond.methodLink "com/example/emendate/emendate/model/CapabilityByNamePinLaw" (33 : Nat) ({ cls := "com/example/emendate/emendate/model/Capability", name := "capabilityName", desc := "()Ljava/lang/String;" } : Jvm.MethodName)) : Jvm.Cond).before a0 Z = true := H.1 _ (List.mem_of_getElem? (i := 105) rfl)
theorem w_106 {Z : State} {a0 : Array Value} (H : Wd Z a0) : ((Jvm.Cond.declares ({ cls := "com/example/emendate/emendate/model/Capability", name := "capabilityName", desc := "()Ljava/lang/String;" } : Jvm.MethodName)) : Jvm.Cond).before a0 Z = true := H.1 _ (List.mem_of_getElem? (i := 106) rfl)
theorem w_107 {Z : State} {a0 : Array Value} (H : Wd Z a0) : ((Jvm.Cond.instanceMethod ({ cls := "com/example/emendate/emendate/model/Capability", name := "capabilityName", desc := "()Ljava/lang/String;" } : Jvm.MethodName)) : Jvm.Cond).before a0 Z = true := H.1 _ (List.mem_of_getElem? (i := 107) rfl)
theorem w_108 {Z : State} {a0 : Array Value} (H : Wd Z a0) : ((Jvm.Cond.selects "com/example/emendate/emendate/model/Capability" ({ cls := "com/example/emendate/emendate/model/Capability", name := "capabilityName", desc := "()Ljava/lang/String;" } : Jvm.MethodName) ({ cls := "com/example/emendate/emendate/model/Capability", name := "capabilityName", desc := "()Ljava/lang/String;" } : Jvm.MethodName)) : Jvm.Cond).before a0 Z = true := H.1 _ (List.mem_of_getElem? (i := 108) rfl)
theorem w_109 {Z : State} {a0 : Array Value} (H : Wd Z a0) : ((Jvm.Cond.code ({ cls := "com/example/emendate/emendate/model/Capability", name := "capabilityName", desc := "()Ljava/lang/String;" } : Jvm.MethodName) prog_7_method_5_code (1 : Nat) (Option.some (Jvm.ClassFile.FieldType.object "java/lang/String"))) : Jvm.Cond).before a0 Z = true := H.1 _ (List.mem_of_getElem? (i := 109) rfl)
theorem w_110 {Z : State} {a0 : Array Value} (H : Wd Z a0) : ((Jvm.Cond.stringLink "com/example/emendate/emendate/model/CapabilityByNamePinLaw" (59 : Nat) "") : Jvm.Cond).before a0 Z = true := H.1 _ (List.mem_of_getElem? (i := 110) rfl)
theorem w_111 {Z : State} {a0 : Array Value} (H : Wd Z a0) : ((Jvm.Cond.stringLink "com/example/emendate/emendate/model/CapabilityByNamePinLaw" (49 : Nat) "admin") : Jvm.Cond).before a0 Z = true := H.1 _ (List.mem_of_getElem? (i := 111) rfl)
theorem w_112 {Z : State} {a0 : Array Value} (H : Wd Z a0) : ((Jvm.Cond.stringLink "com/example/emendate/emendate/model/CapabilityByNamePinLaw" (54 : Nat) "admins:manage") : Jvm.Cond).before a0 Z = true := H.1 _ (List.mem_of_getElem? (i := 112) rfl)
theorem w_113 {Z : State} {a0 : Array Value} (H : Wd Z a0) : ((Jvm.Cond.methodLink "com/example/emendate/emendate/model/Capability" (52 : Nat) ({ cls := "java/util/Optional", name := "empty", desc := "()Ljava/util/Optional;" } : Jvm.MethodName)) : Jvm.Cond).before a0 Z = true := H.1 _ (List.mem_of_getElem? (i := 113) rfl)
theorem w_114 {Z : State} {a0 : Array Value} (H : Wd Z a0) : ((Jvm.Cond.static ({ cls := "java/util/Optional", name := "empty", desc := "()Ljava/util/Optional;" } : Jvm.MethodName)) : Jvm.Cond).before a0 Z = true := H.1 _ (List.mem_of_getElem? (i := 114) rfl)
theorem w_115 {Z : State} {a0 : Array Value} (H : Wd Z a0) : ((Jvm.Cond.code ({ cls := "java/util/Optional", name := "empty", desc := "()Ljava/util/Optional;" } : Jvm.MethodName) jdk_32_method_1_code (1 : Nat) (Option.some (Jvm.ClassFile.FieldType.object "java/util/Optional"))) : Jvm.Cond).before a0 Z = true := H.1 _ (List.mem_of_getElem? (i := 115) rfl)
theorem w_116 {Z : State} {a0 : Array Value} (H : Wd Z a0) : ((Jvm.Cond.fieldLink "java/util/Optional" (1 : Nat) "java/util/Optional" "EMPTY" "Ljava/util/Optional;") : Jvm.Cond).before a0 Z = true := H.1 _ (List.mem_of_getElem? (i := 116) rfl)
theorem w_117 {Z : State} {a0 : Array Value} (H : Wd Z a0) : ((Jvm.Cond.constant "com/example/emendate/emendate/model/CapabilityByNamePinLaw" (68 : Nat) (2147483647 : Int32)) : Jvm.Cond).before a0 Z = true := H.1 _ (List.mem_of_getElem? (i := 117) rfl)
theorem w_118 {Z : State} {a0 : Array Value} (H : Wd Z a0) : ((Jvm.Cond.fieldLink "com/example/emendate/emendate/model/CapabilityByNamePinLaw" (51 : Nat) "com/example/emendate/emendate/model/Capability" "ADMIN" "Lcom/example/emendate/emendate/model/Capability;") : Jvm.Cond).before a0 Z = true := H.1 _ (List.mem_of_getElem? (i := 118) rfl)
theorem w_119 {Z : State} {a0 : Array Value} (H : Wd Z a0) : ((Jvm.Cond.methodLink "com/example/emendate/emendate/model/CapabilityByNamePinLaw" (61 : Nat) ({ cls := "java/lang/String", name := "valueOf", desc := "(C)Ljava/lang/String;" } : Jvm.MethodName)) : Jvm.Cond).before a0 Z = true := H.1 _ (List.mem_of_getElem? (i := 119) rfl)
theorem w_120 {Z : State} {a0 : Array Value} (H : Wd Z a0) : ((Jvm.Cond.static ({ cls := "java/lang/String", name := "valueOf", desc := "(C)Ljava/lang/String;" } : Jvm.MethodName)) : Jvm.Cond).before a0 Z = true := H.1 _ (List.mem_of_getElem? (i := 120) rfl)
theorem w_121 {Z : State} {a0 : Array Value} (H : Wd Z a0) : ((Jvm.Cond.code ({ cls := "java/lang/String", name := "valueOf", desc := "(C)Ljava/lang/String;" } : Jvm.MethodName) jdk_42_method_139_code (1 : Nat) (Option.some (Jvm.ClassFile.FieldType.object "java/lang/String"))) : Jvm.Cond).before a0 Z = true := H.1 _ (List.mem_of_getElem? (i := 121) rfl)
theorem w_122 {Z : State} {a0 : Array Value} (H : Wd Z a0) : ((Jvm.Cond.methodLink "java/lang/String" (1015 : Nat) ({ cls := "java/lang/StringLatin1", name := "canEncode", desc := "(C)Z" } : Jvm.MethodName)) : Jvm.Cond).before a0 Z = true := H.1 _ (List.mem_of_getElem? (i := 122) rfl)
theorem w_123 {Z : State} {a0 : Array Value} (H : Wd Z a0) : ((Jvm.Cond.static ({ cls := "java/lang/StringLatin1", name := "canEncode", desc := "(C)Z" } : Jvm.MethodName)) : Jvm.Cond).before a0 Z = true := H.1 _ (List.mem_of_getElem? (i := 123) rfl)
theorem w_124 {Z : State} {a0 : Array Value} (H : Wd Z a0) : ((Jvm.Cond.code ({ cls := "java/lang/StringLatin1", name := "canEncode", desc := "(C)Z" } : Jvm.MethodName) jdk_43_method_3_code (1 : Nat) (Option.some Jvm.ClassFile.FieldType.boolean)) : Jvm.Cond).before a0 Z = true := H.1 _ (List.mem_of_getElem? (i := 124) rfl)
theorem w_125 {Z : State} {a0 : Array Value} (H : Wd Z a0) : ((Jvm.Cond.methodLink "java/lang/String" (1018 : Nat) ({ cls := "java/lang/StringLatin1", name := "toBytes", desc := "(C)[B" } : Jvm.MethodName)) : Jvm.Cond).before a0 Z = true := H.1 _ (List.mem_of_getElem? (i := 125) rfl)
theorem w_126 {Z : State} {a0 : Array Value} (H : Wd Z a0) : ((Jvm.Cond.static ({ cls := "java/lang/StringLatin1", name := "toBytes", desc := "(C)[B" } : Jvm.MethodName)) : Jvm.Cond).before a0 Z = true := H.1 _ (List.mem_of_getElem? (i := 126) rfl)
theorem w_127 {Z : State} {a0 : Array Value} (H : Wd Z a0) : ((Jvm.Cond.code ({ cls := "java/lang/StringLatin1", name := "toBytes", desc := "(C)[B" } : Jvm.MethodName) jdk_43_method_46_code (1 : Nat) (Option.some (Jvm.ClassFile.FieldType.array Jvm.ClassFile.FieldType.byte))) : Jvm.Cond).before a0 Z = true := H.1 _ (List.mem_of_getElem? (i := 127) rfl)
theorem w_128 {Z : State} {a0 : Array Value} (H : Wd Z a0) : ((Jvm.Cond.methodLink "java/lang/String" (209 : Nat) ({ cls := "java/lang/String", name := "<init>", desc := "([BB)V" } : Jvm.MethodName)) : Jvm.Cond).before a0 Z = true := H.1 _ (List.mem_of_getElem? (i := 128) rfl)
theorem w_129 {Z : State} {a0 : Array Value} (H : Wd Z a0) : ((Jvm.Cond.instanceMethod ({ cls := "java/lang/String", name := "<init>", desc := "([BB)V" } : Jvm.MethodName)) : Jvm.Cond).before a0 Z = true := H.1 _ (List.mem_of_getElem? (i := 129) rfl)
theorem w_130 {Z : State} {a0 : Array Value} (H : Wd Z a0) : ((Jvm.Cond.code ({ cls := "java/lang/String", name := "<init>", desc := "([BB)V" } : Jvm.MethodName) jdk_42_method_151_code (3 : Nat) (Option.none : Option Jvm.ClassFile.FieldType)) : Jvm.Cond).before a0 Z = true := H.1 _ (List.mem_of_getElem? (i := 130) rfl)
theorem w_131 {Z : State} {a0 : Array Value} (H : Wd Z a0) : ((Jvm.Cond.fieldLink "com/example/emendate/emendate/model/CapabilityByNamePinLaw" (56 : Nat) "com/example/emendate/emendate/model/Capability" "ADMINS_MANAGE" "Lcom/example/emendate/emendate/model/Capability;") : Jvm.Cond).before a0 Z = true := H.1 _ (List.mem_of_getElem? (i := 131) rfl)
theorem d0_0 : decode method_4_code 0 = .ok (.iload_n 0, 1) := by decide +kernel
theorem d0_1 : decode method_4_code 1 = .ok (.iconst 3, 1) := by decide +kernel
theorem d0_2 : decode method_4_code 2 = .ok (.if_icmp .ne 5, 3) := by decide +kernel
theorem d0_5 : decode method_4_code 5 = .ok (.aconst_null, 1) := by decide +kernel
theorem d0_6 : decode method_4_code 6 = .ok (.areturn, 1) := by decide +kernel
theorem d0_7 : decode method_4_code 7 = .ok (.iload_n 0, 1) := by decide +kernel
theorem d0_8 : decode method_4_code 8 = .ok (.iconst 4, 1) := by decide +kernel
theorem d0_9 : decode method_4_code 9 = .ok (.if_icmp .ne 6, 3) := by decide +kernel
theorem d0_12 : decode method_4_code 12 = .ok (.ldc 59, 2) := by decide +kernel
theorem d0_14 : decode method_4_code 14 = .ok (.areturn, 1) := by decide +kernel
theorem d0_15 : decode method_4_code 15 = .ok (.iload_n 0, 1) := by decide +kernel
theorem d0_16 : decode method_4_code 16 = .ok (.iconst 5, 1) := by decide +kernel
theorem d0_17 : decode method_4_code 17 = .ok (.if_icmp .ne 8, 3) := by decide +kernel
theorem d0_20 : decode method_4_code 20 = .ok (.iload_n 3, 1) := by decide +kernel
theorem d0_21 : decode method_4_code 21 = .ok (.invokestatic 61, 3) := by decide +kernel
theorem d0_24 : decode method_4_code 24 = .ok (.areturn, 1) := by decide +kernel
theorem d0_25 : decode method_4_code 25 = .ok (.iload_n 0, 1) := by decide +kernel
theorem d0_26 : decode method_4_code 26 = .ok (.bipush 6, 2) := by decide +kernel
theorem d0_28 : decode method_4_code 28 = .ok (.if_icmp .ne 23, 3) := by decide +kernel
theorem d0_31 : decode method_4_code 31 = .ok (.new 38, 3) := by decide +kernel
theorem d0_34 : decode method_4_code 34 = .ok (.dup, 1) := by decide +kernel
theorem d0_35 : decode method_4_code 35 = .ok (.iconst 2, 1) := by decide +kernel
theorem d0_36 : decode method_4_code 36 = .ok (.newarray .char, 2) := by decide +kernel
theorem d0_38 : decode method_4_code 38 = .ok (.dup, 1) := by decide +kernel
theorem d0_39 : decode method_4_code 39 = .ok (.iconst 0, 1) := by decide +kernel
theorem d0_40 : decode method_4_code 40 = .ok (.iload_n 3, 1) := by decide +kernel
theorem d0_41 : decode method_4_code 41 = .ok (.castore, 1) := by decide +kernel
theorem d0_42 : decode method_4_code 42 = .ok (.dup, 1) := by decide +kernel
theorem d0_43 : decode method_4_code 43 = .ok (.iconst 1, 1) := by decide +kernel
theorem d0_44 : decode method_4_code 44 = .ok (.iload 4, 2) := by decide +kernel
theorem d0_46 : decode method_4_code 46 = .ok (.castore, 1) := by decide +kernel
theorem d0_47 : decode method_4_code 47 = .ok (.invokespecial 65, 3) := by decide +kernel
theorem d0_50 : decode method_4_code 50 = .ok (.areturn, 1) := by decide +kernel
theorem d0_51 : decode method_4_code 51 = .ok (.iload_n 0, 1) := by decide +kernel
theorem d0_52 : decode method_4_code 52 = .ok (.bipush 7, 2) := by decide +kernel
theorem d0_54 : decode method_4_code 54 = .ok (.if_icmp .ne 27, 3) := by decide +kernel
theorem d0_57 : decode method_4_code 57 = .ok (.new 38, 3) := by decide +kernel
theorem d0_60 : decode method_4_code 60 = .ok (.dup, 1) := by decide +kernel
theorem d0_61 : decode method_4_code 61 = .ok (.iconst 3, 1) := by decide +kernel
theorem d0_62 : decode method_4_code 62 = .ok (.newarray .char, 2) := by decide +kernel
theorem d0_64 : decode method_4_code 64 = .ok (.dup, 1) := by decide +kernel
theorem d0_65 : decode method_4_code 65 = .ok (.iconst 0, 1) := by decide +kernel
theorem d0_66 : decode method_4_code 66 = .ok (.iload_n 3, 1) := by decide +kernel
theorem d0_67 : decode method_4_code 67 = .ok (.castore, 1) := by decide +kernel
theorem d0_68 : decode method_4_code 68 = .ok (.dup, 1) := by decide +kernel
theorem d0_69 : decode method_4_code 69 = .ok (.iconst 1, 1) := by decide +kernel
theorem d0_70 : decode method_4_code 70 = .ok (.iload 4, 2) := by decide +kernel
theorem d0_72 : decode method_4_code 72 = .ok (.castore, 1) := by decide +kernel
theorem d0_73 : decode method_4_code 73 = .ok (.dup, 1) := by decide +kernel
theorem d0_74 : decode method_4_code 74 = .ok (.iconst 2, 1) := by decide +kernel
theorem d0_75 : decode method_4_code 75 = .ok (.iload_n 3, 1) := by decide +kernel
theorem d0_76 : decode method_4_code 76 = .ok (.castore, 1) := by decide +kernel
theorem d0_77 : decode method_4_code 77 = .ok (.invokespecial 65, 3) := by decide +kernel
theorem d0_80 : decode method_4_code 80 = .ok (.areturn, 1) := by decide +kernel
theorem d0_81 : decode method_4_code 81 = .ok (.iload_n 0, 1) := by decide +kernel
theorem d0_82 : decode method_4_code 82 = .ok (.ifCond .ne 185, 3) := by decide +kernel
theorem d0_85 : decode method_4_code 85 = .ok (.bipush 10, 2) := by decide +kernel
theorem d0_87 : decode method_4_code 87 = .ok (.newarray .char, 2) := by decide +kernel
theorem d0_89 : decode method_4_code 89 = .ok (.dup, 1) := by decide +kernel
theorem d0_90 : decode method_4_code 90 = .ok (.iconst 0, 1) := by decide +kernel
theorem d0_91 : decode method_4_code 91 = .ok (.bipush 117, 2) := by decide +kernel
theorem d0_93 : decode method_4_code 93 = .ok (.castore, 1) := by decide +kernel
theorem d0_94 : decode method_4_code 94 = .ok (.dup, 1) := by decide +kernel
theorem d0_95 : decode method_4_code 95 = .ok (.iconst 1, 1) := by decide +kernel
theorem d0_96 : decode method_4_code 96 = .ok (.bipush 115, 2) := by decide +kernel
theorem d0_98 : decode method_4_code 98 = .ok (.castore, 1) := by decide +kernel
theorem d0_99 : decode method_4_code 99 = .ok (.dup, 1) := by decide +kernel
theorem d0_100 : decode method_4_code 100 = .ok (.iconst 2, 1) := by decide +kernel
theorem d0_101 : decode method_4_code 101 = .ok (.bipush 101, 2) := by decide +kernel
theorem d0_103 : decode method_4_code 103 = .ok (.castore, 1) := by decide +kernel
theorem d0_104 : decode method_4_code 104 = .ok (.dup, 1) := by decide +kernel
theorem d0_105 : decode method_4_code 105 = .ok (.iconst 3, 1) := by decide +kernel
theorem d0_106 : decode method_4_code 106 = .ok (.bipush 114, 2) := by decide +kernel
theorem d0_108 : decode method_4_code 108 = .ok (.castore, 1) := by decide +kernel
theorem d0_109 : decode method_4_code 109 = .ok (.dup, 1) := by decide +kernel
theorem d0_110 : decode method_4_code 110 = .ok (.iconst 4, 1) := by decide +kernel
theorem d0_111 : decode method_4_code 111 = .ok (.bipush 115, 2) := by decide +kernel
theorem d0_113 : decode method_4_code 113 = .ok (.castore, 1) := by decide +kernel
theorem d0_114 : decode method_4_code 114 = .ok (.dup, 1) := by decide +kernel
theorem d0_115 : decode method_4_code 115 = .ok (.iconst 5, 1) := by decide +kernel
theorem d0_116 : decode method_4_code 116 = .ok (.bipush 58, 2) := by decide +kernel
theorem d0_118 : decode method_4_code 118 = .ok (.castore, 1) := by decide +kernel
theorem d0_119 : decode method_4_code 119 = .ok (.dup, 1) := by decide +kernel
theorem d0_120 : decode method_4_code 120 = .ok (.bipush 6, 2) := by decide +kernel
theorem d0_122 : decode method_4_code 122 = .ok (.bipush 101, 2) := by decide +kernel
theorem d0_124 : decode method_4_code 124 = .ok (.castore, 1) := by decide +kernel
theorem d0_125 : decode method_4_code 125 = .ok (.dup, 1) := by decide +kernel
theorem d0_126 : decode method_4_code 126 = .ok (.bipush 7, 2) := by decide +kernel
theorem d0_128 : decode method_4_code 128 = .ok (.bipush 100, 2) := by decide +kernel
theorem d0_130 : decode method_4_code 130 = .ok (.castore, 1) := by decide +kernel
theorem d0_131 : decode method_4_code 131 = .ok (.dup, 1) := by decide +kernel
theorem d0_132 : decode method_4_code 132 = .ok (.bipush 8, 2) := by decide +kernel
theorem d0_134 : decode method_4_code 134 = .ok (.bipush 105, 2) := by decide +kernel
theorem d0_136 : decode method_4_code 136 = .ok (.castore, 1) := by decide +kernel
theorem d0_137 : decode method_4_code 137 = .ok (.dup, 1) := by decide +kernel
theorem d0_138 : decode method_4_code 138 = .ok (.bipush 9, 2) := by decide +kernel
theorem d0_140 : decode method_4_code 140 = .ok (.bipush 116, 2) := by decide +kernel
theorem d0_142 : decode method_4_code 142 = .ok (.castore, 1) := by decide +kernel
theorem d0_143 : decode method_4_code 143 = .ok (.astore 5, 2) := by decide +kernel
theorem d0_145 : decode method_4_code 145 = .ok (.bipush 9, 2) := by decide +kernel
theorem d0_147 : decode method_4_code 147 = .ok (.newarray .char, 2) := by decide +kernel
theorem d0_149 : decode method_4_code 149 = .ok (.dup, 1) := by decide +kernel
theorem d0_150 : decode method_4_code 150 = .ok (.iconst 0, 1) := by decide +kernel
theorem d0_151 : decode method_4_code 151 = .ok (.bipush 117, 2) := by decide +kernel
theorem d0_153 : decode method_4_code 153 = .ok (.castore, 1) := by decide +kernel
theorem d0_154 : decode method_4_code 154 = .ok (.dup, 1) := by decide +kernel
theorem d0_155 : decode method_4_code 155 = .ok (.iconst 1, 1) := by decide +kernel
theorem d0_156 : decode method_4_code 156 = .ok (.bipush 115, 2) := by decide +kernel
theorem d0_158 : decode method_4_code 158 = .ok (.castore, 1) := by decide +kernel
theorem d0_159 : decode method_4_code 159 = .ok (.dup, 1) := by decide +kernel
theorem d0_160 : decode method_4_code 160 = .ok (.iconst 2, 1) := by decide +kernel
theorem d0_161 : decode method_4_code 161 = .ok (.bipush 101, 2) := by decide +kernel
theorem d0_163 : decode method_4_code 163 = .ok (.castore, 1) := by decide +kernel
theorem d0_164 : decode method_4_code 164 = .ok (.dup, 1) := by decide +kernel
theorem d0_165 : decode method_4_code 165 = .ok (.iconst 3, 1) := by decide +kernel
theorem d0_166 : decode method_4_code 166 = .ok (.bipush 114, 2) := by decide +kernel
theorem d0_168 : decode method_4_code 168 = .ok (.castore, 1) := by decide +kernel
theorem d0_169 : decode method_4_code 169 = .ok (.dup, 1) := by decide +kernel
theorem d0_170 : decode method_4_code 170 = .ok (.iconst 4, 1) := by decide +kernel
theorem d0_171 : decode method_4_code 171 = .ok (.bipush 115, 2) := by decide +kernel
theorem d0_173 : decode method_4_code 173 = .ok (.castore, 1) := by decide +kernel
theorem d0_174 : decode method_4_code 174 = .ok (.dup, 1) := by decide +kernel
theorem d0_175 : decode method_4_code 175 = .ok (.iconst 5, 1) := by decide +kernel
theorem d0_176 : decode method_4_code 176 = .ok (.bipush 58, 2) := by decide +kernel
theorem d0_178 : decode method_4_code 178 = .ok (.castore, 1) := by decide +kernel
theorem d0_179 : decode method_4_code 179 = .ok (.dup, 1) := by decide +kernel
theorem d0_180 : decode method_4_code 180 = .ok (.bipush 6, 2) := by decide +kernel
theorem d0_182 : decode method_4_code 182 = .ok (.bipush 101, 2) := by decide +kernel
theorem d0_184 : decode method_4_code 184 = .ok (.castore, 1) := by decide +kernel
theorem d0_185 : decode method_4_code 185 = .ok (.dup, 1) := by decide +kernel
theorem d0_186 : decode method_4_code 186 = .ok (.bipush 7, 2) := by decide +kernel
theorem d0_188 : decode method_4_code 188 = .ok (.bipush 100, 2) := by decide +kernel
theorem d0_190 : decode method_4_code 190 = .ok (.castore, 1) := by decide +kernel
theorem d0_191 : decode method_4_code 191 = .ok (.dup, 1) := by decide +kernel
theorem d0_192 : decode method_4_code 192 = .ok (.bipush 8, 2) := by decide +kernel
theorem d0_194 : decode method_4_code 194 = .ok (.bipush 105, 2) := by decide +kernel
theorem d0_196 : decode method_4_code 196 = .ok (.castore, 1) := by decide +kernel
theorem d0_197 : decode method_4_code 197 = .ok (.astore 6, 2) := by decide +kernel
theorem d0_199 : decode method_4_code 199 = .ok (.bipush 11, 2) := by decide +kernel
theorem d0_201 : decode method_4_code 201 = .ok (.newarray .char, 2) := by decide +kernel
theorem d0_203 : decode method_4_code 203 = .ok (.dup, 1) := by decide +kernel
theorem d0_204 : decode method_4_code 204 = .ok (.iconst 0, 1) := by decide +kernel
theorem d0_205 : decode method_4_code 205 = .ok (.bipush 117, 2) := by decide +kernel
theorem d0_207 : decode method_4_code 207 = .ok (.castore, 1) := by decide +kernel
theorem d0_208 : decode method_4_code 208 = .ok (.dup, 1) := by decide +kernel
theorem d0_209 : decode method_4_code 209 = .ok (.iconst 1, 1) := by decide +kernel
theorem d0_210 : decode method_4_code 210 = .ok (.bipush 115, 2) := by decide +kernel
theorem d0_212 : decode method_4_code 212 = .ok (.castore, 1) := by decide +kernel
theorem d0_213 : decode method_4_code 213 = .ok (.dup, 1) := by decide +kernel
theorem d0_214 : decode method_4_code 214 = .ok (.iconst 2, 1) := by decide +kernel
theorem d0_215 : decode method_4_code 215 = .ok (.bipush 101, 2) := by decide +kernel
theorem d0_217 : decode method_4_code 217 = .ok (.castore, 1) := by decide +kernel
theorem d0_218 : decode method_4_code 218 = .ok (.dup, 1) := by decide +kernel
theorem d0_219 : decode method_4_code 219 = .ok (.iconst 3, 1) := by decide +kernel
theorem d0_220 : decode method_4_code 220 = .ok (.bipush 114, 2) := by decide +kernel
theorem d0_222 : decode method_4_code 222 = .ok (.castore, 1) := by decide +kernel
theorem d0_223 : decode method_4_code 223 = .ok (.dup, 1) := by decide +kernel
theorem d0_224 : decode method_4_code 224 = .ok (.iconst 4, 1) := by decide +kernel
theorem d0_225 : decode method_4_code 225 = .ok (.bipush 115, 2) := by decide +kernel
theorem d0_227 : decode method_4_code 227 = .ok (.castore, 1) := by decide +kernel
theorem d0_228 : decode method_4_code 228 = .ok (.dup, 1) := by decide +kernel
theorem d0_229 : decode method_4_code 229 = .ok (.iconst 5, 1) := by decide +kernel
theorem d0_230 : decode method_4_code 230 = .ok (.bipush 58, 2) := by decide +kernel
theorem d0_232 : decode method_4_code 232 = .ok (.castore, 1) := by decide +kernel
theorem d0_233 : decode method_4_code 233 = .ok (.dup, 1) := by decide +kernel
theorem d0_234 : decode method_4_code 234 = .ok (.bipush 6, 2) := by decide +kernel
theorem d0_236 : decode method_4_code 236 = .ok (.bipush 101, 2) := by decide +kernel
theorem d0_238 : decode method_4_code 238 = .ok (.castore, 1) := by decide +kernel
theorem d0_239 : decode method_4_code 239 = .ok (.dup, 1) := by decide +kernel
theorem d0_240 : decode method_4_code 240 = .ok (.bipush 7, 2) := by decide +kernel
theorem d0_242 : decode method_4_code 242 = .ok (.bipush 100, 2) := by decide +kernel
theorem d0_244 : decode method_4_code 244 = .ok (.castore, 1) := by decide +kernel
theorem d0_245 : decode method_4_code 245 = .ok (.dup, 1) := by decide +kernel
theorem d0_246 : decode method_4_code 246 = .ok (.bipush 8, 2) := by decide +kernel
theorem d0_248 : decode method_4_code 248 = .ok (.bipush 105, 2) := by decide +kernel
theorem d0_250 : decode method_4_code 250 = .ok (.castore, 1) := by decide +kernel
theorem d0_251 : decode method_4_code 251 = .ok (.dup, 1) := by decide +kernel
theorem d0_252 : decode method_4_code 252 = .ok (.bipush 9, 2) := by decide +kernel
theorem d0_254 : decode method_4_code 254 = .ok (.bipush 116, 2) := by decide +kernel
theorem d0_256 : decode method_4_code 256 = .ok (.castore, 1) := by decide +kernel
theorem d0_257 : decode method_4_code 257 = .ok (.dup, 1) := by decide +kernel
theorem d0_258 : decode method_4_code 258 = .ok (.bipush 10, 2) := by decide +kernel
theorem d0_260 : decode method_4_code 260 = .ok (.iload_n 3, 1) := by decide +kernel
theorem d0_261 : decode method_4_code 261 = .ok (.castore, 1) := by decide +kernel
theorem d0_262 : decode method_4_code 262 = .ok (.astore 7, 2) := by decide +kernel
theorem d0_264 : decode method_4_code 264 = .ok (.goto 334, 3) := by decide +kernel
theorem d0_267 : decode method_4_code 267 = .ok (.iload_n 0, 1) := by decide +kernel
theorem d0_268 : decode method_4_code 268 = .ok (.iconst 1, 1) := by decide +kernel
theorem d0_269 : decode method_4_code 269 = .ok (.if_icmp .ne 96, 3) := by decide +kernel
theorem d0_272 : decode method_4_code 272 = .ok (.iconst 5, 1) := by decide +kernel
theorem d0_273 : decode method_4_code 273 = .ok (.newarray .char, 2) := by decide +kernel
theorem d0_275 : decode method_4_code 275 = .ok (.dup, 1) := by decide +kernel
theorem d0_276 : decode method_4_code 276 = .ok (.iconst 0, 1) := by decide +kernel
theorem d0_277 : decode method_4_code 277 = .ok (.bipush 97, 2) := by decide +kernel
theorem d0_279 : decode method_4_code 279 = .ok (.castore, 1) := by decide +kernel
theorem d0_280 : decode method_4_code 280 = .ok (.dup, 1) := by decide +kernel
theorem d0_281 : decode method_4_code 281 = .ok (.iconst 1, 1) := by decide +kernel
theorem d0_282 : decode method_4_code 282 = .ok (.bipush 100, 2) := by decide +kernel
theorem d0_284 : decode method_4_code 284 = .ok (.castore, 1) := by decide +kernel
theorem d0_285 : decode method_4_code 285 = .ok (.dup, 1) := by decide +kernel
theorem d0_286 : decode method_4_code 286 = .ok (.iconst 2, 1) := by decide +kernel
theorem d0_287 : decode method_4_code 287 = .ok (.bipush 109, 2) := by decide +kernel
theorem d0_289 : decode method_4_code 289 = .ok (.castore, 1) := by decide +kernel
theorem d0_290 : decode method_4_code 290 = .ok (.dup, 1) := by decide +kernel
theorem d0_291 : decode method_4_code 291 = .ok (.iconst 3, 1) := by decide +kernel
theorem d0_292 : decode method_4_code 292 = .ok (.bipush 105, 2) := by decide +kernel
theorem d0_294 : decode method_4_code 294 = .ok (.castore, 1) := by decide +kernel
theorem d0_295 : decode method_4_code 295 = .ok (.dup, 1) := by decide +kernel
theorem d0_296 : decode method_4_code 296 = .ok (.iconst 4, 1) := by decide +kernel
theorem d0_297 : decode method_4_code 297 = .ok (.bipush 110, 2) := by decide +kernel
theorem d0_299 : decode method_4_code 299 = .ok (.castore, 1) := by decide +kernel
theorem d0_300 : decode method_4_code 300 = .ok (.astore 5, 2) := by decide +kernel
theorem d0_302 : decode method_4_code 302 = .ok (.iconst 4, 1) := by decide +kernel
theorem d0_303 : decode method_4_code 303 = .ok (.newarray .char, 2) := by decide +kernel
theorem d0_305 : decode method_4_code 305 = .ok (.dup, 1) := by decide +kernel
theorem d0_306 : decode method_4_code 306 = .ok (.iconst 0, 1) := by decide +kernel
theorem d0_307 : decode method_4_code 307 = .ok (.bipush 97, 2) := by decide +kernel
theorem d0_309 : decode method_4_code 309 = .ok (.castore, 1) := by decide +kernel
theorem d0_310 : decode method_4_code 310 = .ok (.dup, 1) := by decide +kernel
theorem d0_311 : decode method_4_code 311 = .ok (.iconst 1, 1) := by decide +kernel
theorem d0_312 : decode method_4_code 312 = .ok (.bipush 100, 2) := by decide +kernel
theorem d0_314 : decode method_4_code 314 = .ok (.castore, 1) := by decide +kernel
theorem d0_315 : decode method_4_code 315 = .ok (.dup, 1) := by decide +kernel
theorem d0_316 : decode method_4_code 316 = .ok (.iconst 2, 1) := by decide +kernel
theorem d0_317 : decode method_4_code 317 = .ok (.bipush 109, 2) := by decide +kernel
theorem d0_319 : decode method_4_code 319 = .ok (.castore, 1) := by decide +kernel
theorem d0_320 : decode method_4_code 320 = .ok (.dup, 1) := by decide +kernel
theorem d0_321 : decode method_4_code 321 = .ok (.iconst 3, 1) := by decide +kernel
theorem d0_322 : decode method_4_code 322 = .ok (.bipush 105, 2) := by decide +kernel
theorem d0_324 : decode method_4_code 324 = .ok (.castore, 1) := by decide +kernel
theorem d0_325 : decode method_4_code 325 = .ok (.astore 6, 2) := by decide +kernel
theorem d0_327 : decode method_4_code 327 = .ok (.bipush 6, 2) := by decide +kernel
theorem d0_329 : decode method_4_code 329 = .ok (.newarray .char, 2) := by decide +kernel
theorem d0_331 : decode method_4_code 331 = .ok (.dup, 1) := by decide +kernel
theorem d0_332 : decode method_4_code 332 = .ok (.iconst 0, 1) := by decide +kernel
theorem d0_333 : decode method_4_code 333 = .ok (.bipush 97, 2) := by decide +kernel
theorem d0_335 : decode method_4_code 335 = .ok (.castore, 1) := by decide +kernel
theorem d0_336 : decode method_4_code 336 = .ok (.dup, 1) := by decide +kernel
theorem d0_337 : decode method_4_code 337 = .ok (.iconst 1, 1) := by decide +kernel
theorem d0_338 : decode method_4_code 338 = .ok (.bipush 100, 2) := by decide +kernel
theorem d0_340 : decode method_4_code 340 = .ok (.castore, 1) := by decide +kernel
theorem d0_341 : decode method_4_code 341 = .ok (.dup, 1) := by decide +kernel
theorem d0_342 : decode method_4_code 342 = .ok (.iconst 2, 1) := by decide +kernel
theorem d0_343 : decode method_4_code 343 = .ok (.bipush 109, 2) := by decide +kernel
theorem d0_345 : decode method_4_code 345 = .ok (.castore, 1) := by decide +kernel
theorem d0_346 : decode method_4_code 346 = .ok (.dup, 1) := by decide +kernel
theorem d0_347 : decode method_4_code 347 = .ok (.iconst 3, 1) := by decide +kernel
theorem d0_348 : decode method_4_code 348 = .ok (.bipush 105, 2) := by decide +kernel
theorem d0_350 : decode method_4_code 350 = .ok (.castore, 1) := by decide +kernel
theorem d0_351 : decode method_4_code 351 = .ok (.dup, 1) := by decide +kernel
theorem d0_352 : decode method_4_code 352 = .ok (.iconst 4, 1) := by decide +kernel
theorem d0_353 : decode method_4_code 353 = .ok (.bipush 110, 2) := by decide +kernel
theorem d0_355 : decode method_4_code 355 = .ok (.castore, 1) := by decide +kernel
theorem d0_356 : decode method_4_code 356 = .ok (.dup, 1) := by decide +kernel
theorem d0_357 : decode method_4_code 357 = .ok (.iconst 5, 1) := by decide +kernel
theorem d0_358 : decode method_4_code 358 = .ok (.iload_n 3, 1) := by decide +kernel
theorem d0_359 : decode method_4_code 359 = .ok (.castore, 1) := by decide +kernel
theorem d0_360 : decode method_4_code 360 = .ok (.astore 7, 2) := by decide +kernel
theorem d0_362 : decode method_4_code 362 = .ok (.goto 236, 3) := by decide +kernel
theorem d0_365 : decode method_4_code 365 = .ok (.bipush 13, 2) := by decide +kernel
theorem d0_367 : decode method_4_code 367 = .ok (.newarray .char, 2) := by decide +kernel
theorem d0_369 : decode method_4_code 369 = .ok (.dup, 1) := by decide +kernel
theorem d0_370 : decode method_4_code 370 = .ok (.iconst 0, 1) := by decide +kernel
theorem d0_371 : decode method_4_code 371 = .ok (.bipush 97, 2) := by decide +kernel
theorem d0_373 : decode method_4_code 373 = .ok (.castore, 1) := by decide +kernel
theorem d0_374 : decode method_4_code 374 = .ok (.dup, 1) := by decide +kernel
theorem d0_375 : decode method_4_code 375 = .ok (.iconst 1, 1) := by decide +kernel
theorem d0_376 : decode method_4_code 376 = .ok (.bipush 100, 2) := by decide +kernel
theorem d0_378 : decode method_4_code 378 = .ok (.castore, 1) := by decide +kernel
theorem d0_379 : decode method_4_code 379 = .ok (.dup, 1) := by decide +kernel
theorem d0_380 : decode method_4_code 380 = .ok (.iconst 2, 1) := by decide +kernel
theorem d0_381 : decode method_4_code 381 = .ok (.bipush 109, 2) := by decide +kernel
theorem d0_383 : decode method_4_code 383 = .ok (.castore, 1) := by decide +kernel
theorem d0_384 : decode method_4_code 384 = .ok (.dup, 1) := by decide +kernel
theorem d0_385 : decode method_4_code 385 = .ok (.iconst 3, 1) := by decide +kernel
theorem d0_386 : decode method_4_code 386 = .ok (.bipush 105, 2) := by decide +kernel
theorem d0_388 : decode method_4_code 388 = .ok (.castore, 1) := by decide +kernel
theorem d0_389 : decode method_4_code 389 = .ok (.dup, 1) := by decide +kernel
theorem d0_390 : decode method_4_code 390 = .ok (.iconst 4, 1) := by decide +kernel
theorem d0_391 : decode method_4_code 391 = .ok (.bipush 110, 2) := by decide +kernel
theorem d0_393 : decode method_4_code 393 = .ok (.castore, 1) := by decide +kernel
theorem d0_394 : decode method_4_code 394 = .ok (.dup, 1) := by decide +kernel
theorem d0_395 : decode method_4_code 395 = .ok (.iconst 5, 1) := by decide +kernel
theorem d0_396 : decode method_4_code 396 = .ok (.bipush 115, 2) := by decide +kernel
theorem d0_398 : decode method_4_code 398 = .ok (.castore, 1) := by decide +kernel
theorem d0_399 : decode method_4_code 399 = .ok (.dup, 1) := by decide +kernel
theorem d0_400 : decode method_4_code 400 = .ok (.bipush 6, 2) := by decide +kernel
theorem d0_402 : decode method_4_code 402 = .ok (.bipush 58, 2) := by decide +kernel
theorem d0_404 : decode method_4_code 404 = .ok (.castore, 1) := by decide +kernel
theorem d0_405 : decode method_4_code 405 = .ok (.dup, 1) := by decide +kernel
theorem d0_406 : decode method_4_code 406 = .ok (.bipush 7, 2) := by decide +kernel
theorem d0_408 : decode method_4_code 408 = .ok (.bipush 109, 2) := by decide +kernel
theorem d0_410 : decode method_4_code 410 = .ok (.castore, 1) := by decide +kernel
theorem d0_411 : decode method_4_code 411 = .ok (.dup, 1) := by decide +kernel
theorem d0_412 : decode method_4_code 412 = .ok (.bipush 8, 2) := by decide +kernel
theorem d0_414 : decode method_4_code 414 = .ok (.bipush 97, 2) := by decide +kernel
theorem d0_416 : decode method_4_code 416 = .ok (.castore, 1) := by decide +kernel
theorem d0_417 : decode method_4_code 417 = .ok (.dup, 1) := by decide +kernel
theorem d0_418 : decode method_4_code 418 = .ok (.bipush 9, 2) := by decide +kernel
theorem d0_420 : decode method_4_code 420 = .ok (.bipush 110, 2) := by decide +kernel
theorem d0_422 : decode method_4_code 422 = .ok (.castore, 1) := by decide +kernel
theorem d0_423 : decode method_4_code 423 = .ok (.dup, 1) := by decide +kernel
theorem d0_424 : decode method_4_code 424 = .ok (.bipush 10, 2) := by decide +kernel
theorem d0_426 : decode method_4_code 426 = .ok (.bipush 97, 2) := by decide +kernel
theorem d0_428 : decode method_4_code 428 = .ok (.castore, 1) := by decide +kernel
theorem d0_429 : decode method_4_code 429 = .ok (.dup, 1) := by decide +kernel
theorem d0_430 : decode method_4_code 430 = .ok (.bipush 11, 2) := by decide +kernel
theorem d0_432 : decode method_4_code 432 = .ok (.bipush 103, 2) := by decide +kernel
theorem d0_434 : decode method_4_code 434 = .ok (.castore, 1) := by decide +kernel
theorem d0_435 : decode method_4_code 435 = .ok (.dup, 1) := by decide +kernel
theorem d0_436 : decode method_4_code 436 = .ok (.bipush 12, 2) := by decide +kernel
theorem d0_438 : decode method_4_code 438 = .ok (.bipush 101, 2) := by decide +kernel
theorem d0_440 : decode method_4_code 440 = .ok (.castore, 1) := by decide +kernel
theorem d0_441 : decode method_4_code 441 = .ok (.astore 5, 2) := by decide +kernel
theorem d0_443 : decode method_4_code 443 = .ok (.bipush 12, 2) := by decide +kernel
theorem d0_445 : decode method_4_code 445 = .ok (.newarray .char, 2) := by decide +kernel
theorem d0_447 : decode method_4_code 447 = .ok (.dup, 1) := by decide +kernel
theorem d0_448 : decode method_4_code 448 = .ok (.iconst 0, 1) := by decide +kernel
theorem d0_449 : decode method_4_code 449 = .ok (.bipush 97, 2) := by decide +kernel
theorem d0_451 : decode method_4_code 451 = .ok (.castore, 1) := by decide +kernel
theorem d0_452 : decode method_4_code 452 = .ok (.dup, 1) := by decide +kernel
theorem d0_453 : decode method_4_code 453 = .ok (.iconst 1, 1) := by decide +kernel
theorem d0_454 : decode method_4_code 454 = .ok (.bipush 100, 2) := by decide +kernel
theorem d0_456 : decode method_4_code 456 = .ok (.castore, 1) := by decide +kernel
theorem d0_457 : decode method_4_code 457 = .ok (.dup, 1) := by decide +kernel
theorem d0_458 : decode method_4_code 458 = .ok (.iconst 2, 1) := by decide +kernel
theorem d0_459 : decode method_4_code 459 = .ok (.bipush 109, 2) := by decide +kernel
theorem d0_461 : decode method_4_code 461 = .ok (.castore, 1) := by decide +kernel
theorem d0_462 : decode method_4_code 462 = .ok (.dup, 1) := by decide +kernel
theorem d0_463 : decode method_4_code 463 = .ok (.iconst 3, 1) := by decide +kernel
theorem d0_464 : decode method_4_code 464 = .ok (.bipush 105, 2) := by decide +kernel
theorem d0_466 : decode method_4_code 466 = .ok (.castore, 1) := by decide +kernel
theorem d0_467 : decode method_4_code 467 = .ok (.dup, 1) := by decide +kernel
theorem d0_468 : decode method_4_code 468 = .ok (.iconst 4, 1) := by decide +kernel
theorem d0_469 : decode method_4_code 469 = .ok (.bipush 110, 2) := by decide +kernel
theorem d0_471 : decode method_4_code 471 = .ok (.castore, 1) := by decide +kernel
theorem d0_472 : decode method_4_code 472 = .ok (.dup, 1) := by decide +kernel
theorem d0_473 : decode method_4_code 473 = .ok (.iconst 5, 1) := by decide +kernel
theorem d0_474 : decode method_4_code 474 = .ok (.bipush 115, 2) := by decide +kernel
theorem d0_476 : decode method_4_code 476 = .ok (.castore, 1) := by decide +kernel
theorem d0_477 : decode method_4_code 477 = .ok (.dup, 1) := by decide +kernel
theorem d0_478 : decode method_4_code 478 = .ok (.bipush 6, 2) := by decide +kernel
theorem d0_480 : decode method_4_code 480 = .ok (.bipush 58, 2) := by decide +kernel
theorem d0_482 : decode method_4_code 482 = .ok (.castore, 1) := by decide +kernel
theorem d0_483 : decode method_4_code 483 = .ok (.dup, 1) := by decide +kernel
theorem d0_484 : decode method_4_code 484 = .ok (.bipush 7, 2) := by decide +kernel
theorem d0_486 : decode method_4_code 486 = .ok (.bipush 109, 2) := by decide +kernel
theorem d0_488 : decode method_4_code 488 = .ok (.castore, 1) := by decide +kernel
theorem d0_489 : decode method_4_code 489 = .ok (.dup, 1) := by decide +kernel
theorem d0_490 : decode method_4_code 490 = .ok (.bipush 8, 2) := by decide +kernel
theorem d0_492 : decode method_4_code 492 = .ok (.bipush 97, 2) := by decide +kernel
theorem d0_494 : decode method_4_code 494 = .ok (.castore, 1) := by decide +kernel
theorem d0_495 : decode method_4_code 495 = .ok (.dup, 1) := by decide +kernel
theorem d0_496 : decode method_4_code 496 = .ok (.bipush 9, 2) := by decide +kernel
theorem d0_498 : decode method_4_code 498 = .ok (.bipush 110, 2) := by decide +kernel
theorem d0_500 : decode method_4_code 500 = .ok (.castore, 1) := by decide +kernel
theorem d0_501 : decode method_4_code 501 = .ok (.dup, 1) := by decide +kernel
theorem d0_502 : decode method_4_code 502 = .ok (.bipush 10, 2) := by decide +kernel
theorem d0_504 : decode method_4_code 504 = .ok (.bipush 97, 2) := by decide +kernel
theorem d0_506 : decode method_4_code 506 = .ok (.castore, 1) := by decide +kernel
theorem d0_507 : decode method_4_code 507 = .ok (.dup, 1) := by decide +kernel
theorem d0_508 : decode method_4_code 508 = .ok (.bipush 11, 2) := by decide +kernel
theorem d0_510 : decode method_4_code 510 = .ok (.bipush 103, 2) := by decide +kernel
theorem d0_512 : decode method_4_code 512 = .ok (.castore, 1) := by decide +kernel
theorem d0_513 : decode method_4_code 513 = .ok (.astore 6, 2) := by decide +kernel
theorem d0_515 : decode method_4_code 515 = .ok (.bipush 14, 2) := by decide +kernel
theorem d0_517 : decode method_4_code 517 = .ok (.newarray .char, 2) := by decide +kernel
theorem d0_519 : decode method_4_code 519 = .ok (.dup, 1) := by decide +kernel
theorem d0_520 : decode method_4_code 520 = .ok (.iconst 0, 1) := by decide +kernel
theorem d0_521 : decode method_4_code 521 = .ok (.bipush 97, 2) := by decide +kernel
theorem d0_523 : decode method_4_code 523 = .ok (.castore, 1) := by decide +kernel
theorem d0_524 : decode method_4_code 524 = .ok (.dup, 1) := by decide +kernel
theorem d0_525 : decode method_4_code 525 = .ok (.iconst 1, 1) := by decide +kernel
theorem d0_526 : decode method_4_code 526 = .ok (.bipush 100, 2) := by decide +kernel
theorem d0_528 : decode method_4_code 528 = .ok (.castore, 1) := by decide +kernel
theorem d0_529 : decode method_4_code 529 = .ok (.dup, 1) := by decide +kernel
theorem d0_530 : decode method_4_code 530 = .ok (.iconst 2, 1) := by decide +kernel
theorem d0_531 : decode method_4_code 531 = .ok (.bipush 109, 2) := by decide +kernel
theorem d0_533 : decode method_4_code 533 = .ok (.castore, 1) := by decide +kernel
theorem d0_534 : decode method_4_code 534 = .ok (.dup, 1) := by decide +kernel
theorem d0_535 : decode method_4_code 535 = .ok (.iconst 3, 1) := by decide +kernel
theorem d0_536 : decode method_4_code 536 = .ok (.bipush 105, 2) := by decide +kernel
theorem d0_538 : decode method_4_code 538 = .ok (.castore, 1) := by decide +kernel
theorem d0_539 : decode method_4_code 539 = .ok (.dup, 1) := by decide +kernel
theorem d0_540 : decode method_4_code 540 = .ok (.iconst 4, 1) := by decide +kernel
theorem d0_541 : decode method_4_code 541 = .ok (.bipush 110, 2) := by decide +kernel
theorem d0_543 : decode method_4_code 543 = .ok (.castore, 1) := by decide +kernel
theorem d0_544 : decode method_4_code 544 = .ok (.dup, 1) := by decide +kernel
theorem d0_545 : decode method_4_code 545 = .ok (.iconst 5, 1) := by decide +kernel
theorem d0_546 : decode method_4_code 546 = .ok (.bipush 115, 2) := by decide +kernel
theorem d0_548 : decode method_4_code 548 = .ok (.castore, 1) := by decide +kernel
theorem d0_549 : decode method_4_code 549 = .ok (.dup, 1) := by decide +kernel
theorem d0_550 : decode method_4_code 550 = .ok (.bipush 6, 2) := by decide +kernel
theorem d0_552 : decode method_4_code 552 = .ok (.bipush 58, 2) := by decide +kernel
theorem d0_554 : decode method_4_code 554 = .ok (.castore, 1) := by decide +kernel
theorem d0_555 : decode method_4_code 555 = .ok (.dup, 1) := by decide +kernel
theorem d0_556 : decode method_4_code 556 = .ok (.bipush 7, 2) := by decide +kernel
theorem d0_558 : decode method_4_code 558 = .ok (.bipush 109, 2) := by decide +kernel
theorem d0_560 : decode method_4_code 560 = .ok (.castore, 1) := by decide +kernel
theorem d0_561 : decode method_4_code 561 = .ok (.dup, 1) := by decide +kernel
theorem d0_562 : decode method_4_code 562 = .ok (.bipush 8, 2) := by decide +kernel
theorem d0_564 : decode method_4_code 564 = .ok (.bipush 97, 2) := by decide +kernel
theorem d0_566 : decode method_4_code 566 = .ok (.castore, 1) := by decide +kernel
theorem d0_567 : decode method_4_code 567 = .ok (.dup, 1) := by decide +kernel
theorem d0_568 : decode method_4_code 568 = .ok (.bipush 9, 2) := by decide +kernel
theorem d0_570 : decode method_4_code 570 = .ok (.bipush 110, 2) := by decide +kernel
theorem d0_572 : decode method_4_code 572 = .ok (.castore, 1) := by decide +kernel
theorem d0_573 : decode method_4_code 573 = .ok (.dup, 1) := by decide +kernel
theorem d0_574 : decode method_4_code 574 = .ok (.bipush 10, 2) := by decide +kernel
theorem d0_576 : decode method_4_code 576 = .ok (.bipush 97, 2) := by decide +kernel
theorem d0_578 : decode method_4_code 578 = .ok (.castore, 1) := by decide +kernel
theorem d0_579 : decode method_4_code 579 = .ok (.dup, 1) := by decide +kernel
theorem d0_580 : decode method_4_code 580 = .ok (.bipush 11, 2) := by decide +kernel
theorem d0_582 : decode method_4_code 582 = .ok (.bipush 103, 2) := by decide +kernel
theorem d0_584 : decode method_4_code 584 = .ok (.castore, 1) := by decide +kernel
theorem d0_585 : decode method_4_code 585 = .ok (.dup, 1) := by decide +kernel
theorem d0_586 : decode method_4_code 586 = .ok (.bipush 12, 2) := by decide +kernel
theorem d0_588 : decode method_4_code 588 = .ok (.bipush 101, 2) := by decide +kernel
theorem d0_590 : decode method_4_code 590 = .ok (.castore, 1) := by decide +kernel
theorem d0_591 : decode method_4_code 591 = .ok (.dup, 1) := by decide +kernel
theorem d0_592 : decode method_4_code 592 = .ok (.bipush 13, 2) := by decide +kernel
theorem d0_594 : decode method_4_code 594 = .ok (.iload_n 3, 1) := by decide +kernel
theorem d0_595 : decode method_4_code 595 = .ok (.castore, 1) := by decide +kernel
theorem d0_596 : decode method_4_code 596 = .ok (.astore 7, 2) := by decide +kernel
theorem d0_598 : decode method_4_code 598 = .ok (.iload_n 1, 1) := by decide +kernel
theorem d0_599 : decode method_4_code 599 = .ok (.iconst 1, 1) := by decide +kernel
theorem d0_600 : decode method_4_code 600 = .ok (.if_icmp .ne 13, 3) := by decide +kernel
theorem d0_603 : decode method_4_code 603 = .ok (.new 38, 3) := by decide +kernel
theorem d0_606 : decode method_4_code 606 = .ok (.dup, 1) := by decide +kernel
theorem d0_607 : decode method_4_code 607 = .ok (.aload 6, 2) := by decide +kernel
theorem d0_609 : decode method_4_code 609 = .ok (.invokespecial 65, 3) := by decide +kernel
theorem d0_612 : decode method_4_code 612 = .ok (.areturn, 1) := by decide +kernel
theorem d0_613 : decode method_4_code 613 = .ok (.iload_n 1, 1) := by decide +kernel
theorem d0_614 : decode method_4_code 614 = .ok (.iconst 2, 1) := by decide +kernel
theorem d0_615 : decode method_4_code 615 = .ok (.if_icmp .ne 13, 3) := by decide +kernel
theorem d0_618 : decode method_4_code 618 = .ok (.new 38, 3) := by decide +kernel
theorem d0_621 : decode method_4_code 621 = .ok (.dup, 1) := by decide +kernel
theorem d0_622 : decode method_4_code 622 = .ok (.aload 7, 2) := by decide +kernel
theorem d0_624 : decode method_4_code 624 = .ok (.invokespecial 65, 3) := by decide +kernel
theorem d0_627 : decode method_4_code 627 = .ok (.areturn, 1) := by decide +kernel
theorem d0_628 : decode method_4_code 628 = .ok (.iload_n 1, 1) := by decide +kernel
theorem d0_629 : decode method_4_code 629 = .ok (.iconst 3, 1) := by decide +kernel
theorem d0_630 : decode method_4_code 630 = .ok (.if_icmp .ne 15, 3) := by decide +kernel
theorem d0_633 : decode method_4_code 633 = .ok (.aload 5, 2) := by decide +kernel
theorem d0_635 : decode method_4_code 635 = .ok (.iload_n 2, 1) := by decide +kernel
theorem d0_636 : decode method_4_code 636 = .ok (.ldc 68, 2) := by decide +kernel
theorem d0_638 : decode method_4_code 638 = .ok (.iand, 1) := by decide +kernel
theorem d0_639 : decode method_4_code 639 = .ok (.aload 5, 2) := by decide +kernel
theorem d0_641 : decode method_4_code 641 = .ok (.arraylength, 1) := by decide +kernel
theorem d0_642 : decode method_4_code 642 = .ok (.irem, 1) := by decide +kernel
theorem d0_643 : decode method_4_code 643 = .ok (.iload_n 3, 1) := by decide +kernel
theorem d0_644 : decode method_4_code 644 = .ok (.castore, 1) := by decide +kernel
theorem d0_645 : decode method_4_code 645 = .ok (.new 38, 3) := by decide +kernel
theorem d0_648 : decode method_4_code 648 = .ok (.dup, 1) := by decide +kernel
theorem d0_649 : decode method_4_code 649 = .ok (.aload 5, 2) := by decide +kernel
theorem d0_651 : decode method_4_code 651 = .ok (.invokespecial 65, 3) := by decide +kernel
theorem d0_654 : decode method_4_code 654 = .ok (.areturn, 1) := by decide +kernel
theorem d1_0 : decode jdk_42_method_3_code 0 = .ok (.aload_n 0, 1) := by decide +kernel
theorem d1_1 : decode jdk_42_method_3_code 1 = .ok (.aload_n 1, 1) := by decide +kernel
theorem d1_2 : decode jdk_42_method_3_code 2 = .ok (.iconst 0, 1) := by decide +kernel
theorem d1_3 : decode jdk_42_method_3_code 3 = .ok (.aload_n 1, 1) := by decide +kernel
theorem d1_4 : decode jdk_42_method_3_code 4 = .ok (.arraylength, 1) := by decide +kernel
theorem d1_5 : decode jdk_42_method_3_code 5 = .ok (.aconst_null, 1) := by decide +kernel
theorem d1_6 : decode jdk_42_method_3_code 6 = .ok (.invokespecial 27, 3) := by decide +kernel
theorem d1_9 : decode jdk_42_method_3_code 9 = .ok (.return_, 1) := by decide +kernel
theorem d2_0 : decode jdk_42_method_149_code 0 = .ok (.aload_n 0, 1) := by decide +kernel
theorem d2_1 : decode jdk_42_method_149_code 1 = .ok (.invokespecial 1, 3) := by decide +kernel
theorem d2_4 : decode jdk_42_method_149_code 4 = .ok (.iload_n 3, 1) := by decide +kernel
theorem d2_5 : decode jdk_42_method_149_code 5 = .ok (.ifCond .ne 22, 3) := by decide +kernel
theorem d2_27 : decode jdk_42_method_149_code 27 = .ok (.getstatic 38, 3) := by decide +kernel
theorem d2_30 : decode jdk_42_method_149_code 30 = .ok (.ifCond .eq 28, 3) := by decide +kernel
theorem d2_33 : decode jdk_42_method_149_code 33 = .ok (.aload_n 1, 1) := by decide +kernel
theorem d2_34 : decode jdk_42_method_149_code 34 = .ok (.iload_n 2, 1) := by decide +kernel
theorem d2_35 : decode jdk_42_method_149_code 35 = .ok (.iload_n 3, 1) := by decide +kernel
theorem d2_36 : decode jdk_42_method_149_code 36 = .ok (.invokestatic 177, 3) := by decide +kernel
theorem d2_39 : decode jdk_42_method_149_code 39 = .ok (.astore 5, 2) := by decide +kernel
theorem d2_41 : decode jdk_42_method_149_code 41 = .ok (.aload_n 0, 1) := by decide +kernel
theorem d2_42 : decode jdk_42_method_149_code 42 = .ok (.aload 5, 2) := by decide +kernel
theorem d2_44 : decode jdk_42_method_149_code 44 = .ok (.iload_n 3, 1) := by decide +kernel
theorem d2_45 : decode jdk_42_method_149_code 45 = .ok (.invokestatic 47, 3) := by decide +kernel
theorem d2_48 : decode jdk_42_method_149_code 48 = .ok (.putfield 15, 3) := by decide +kernel
theorem d2_51 : decode jdk_42_method_149_code 51 = .ok (.aload_n 0, 1) := by decide +kernel
theorem d2_52 : decode jdk_42_method_149_code 52 = .ok (.aload 5, 2) := by decide +kernel
theorem d2_54 : decode jdk_42_method_149_code 54 = .ok (.putfield 9, 3) := by decide +kernel
theorem d2_57 : decode jdk_42_method_149_code 57 = .ok (.return_, 1) := by decide +kernel
theorem d4_0 : decode jdk_52_method_16_code 0 = .ok (.iload_n 2, 1) := by decide +kernel
theorem d4_1 : decode jdk_52_method_16_code 1 = .ok (.newarray .byte, 2) := by decide +kernel
theorem d4_3 : decode jdk_52_method_16_code 3 = .ok (.astore_n 3, 1) := by decide +kernel
theorem d4_4 : decode jdk_52_method_16_code 4 = .ok (.aload_n 0, 1) := by decide +kernel
theorem d4_5 : decode jdk_52_method_16_code 5 = .ok (.iload_n 1, 1) := by decide +kernel
theorem d4_6 : decode jdk_52_method_16_code 6 = .ok (.aload_n 3, 1) := by decide +kernel
theorem d4_7 : decode jdk_52_method_16_code 7 = .ok (.iconst 0, 1) := by decide +kernel
theorem d4_8 : decode jdk_52_method_16_code 8 = .ok (.iload_n 2, 1) := by decide +kernel
theorem d4_9 : decode jdk_52_method_16_code 9 = .ok (.invokestatic 115, 3) := by decide +kernel
theorem d4_12 : decode jdk_52_method_16_code 12 = .ok (.istore 4, 2) := by decide +kernel
theorem d4_14 : decode jdk_52_method_16_code 14 = .ok (.iload 4, 2) := by decide +kernel
theorem d4_16 : decode jdk_52_method_16_code 16 = .ok (.iload_n 2, 1) := by decide +kernel
theorem d4_17 : decode jdk_52_method_16_code 17 = .ok (.if_icmp .eq 40, 3) := by decide +kernel
theorem d4_57 : decode jdk_52_method_16_code 57 = .ok (.aload_n 3, 1) := by decide +kernel
theorem d4_58 : decode jdk_52_method_16_code 58 = .ok (.areturn, 1) := by decide +kernel
theorem d5_0 : decode jdk_52_method_21_code 0 = .ok (.iconst 0, 1) := by decide +kernel
theorem d5_1 : decode jdk_52_method_21_code 1 = .ok (.istore 5, 2) := by decide +kernel
theorem d5_3 : decode jdk_52_method_21_code 3 = .ok (.iload 5, 2) := by decide +kernel
theorem d5_5 : decode jdk_52_method_21_code 5 = .ok (.iload 4, 2) := by decide +kernel
theorem d5_7 : decode jdk_52_method_21_code 7 = .ok (.if_icmp .ge 37, 3) := by decide +kernel
theorem d5_10 : decode jdk_52_method_21_code 10 = .ok (.aload_n 0, 1) := by decide +kernel
theorem d5_11 : decode jdk_52_method_21_code 11 = .ok (.iload_n 1, 1) := by decide +kernel
theorem d5_12 : decode jdk_52_method_21_code 12 = .ok (.caload, 1) := by decide +kernel
theorem d5_13 : decode jdk_52_method_21_code 13 = .ok (.istore 6, 2) := by decide +kernel
theorem d5_15 : decode jdk_52_method_21_code 15 = .ok (.iload 6, 2) := by decide +kernel
theorem d5_17 : decode jdk_52_method_21_code 17 = .ok (.sipush 255, 3) := by decide +kernel
theorem d5_20 : decode jdk_52_method_21_code 20 = .ok (.if_icmp .le 6, 3) := by decide +kernel
theorem d5_26 : decode jdk_52_method_21_code 26 = .ok (.aload_n 2, 1) := by decide +kernel
theorem d5_27 : decode jdk_52_method_21_code 27 = .ok (.iload_n 3, 1) := by decide +kernel
theorem d5_28 : decode jdk_52_method_21_code 28 = .ok (.iload 6, 2) := by decide +kernel
theorem d5_30 : decode jdk_52_method_21_code 30 = .ok (.i2b, 1) := by decide +kernel
theorem d5_31 : decode jdk_52_method_21_code 31 = .ok (.bastore, 1) := by decide +kernel
theorem d5_32 : decode jdk_52_method_21_code 32 = .ok (.iinc 1 1, 3) := by decide +kernel
theorem d5_35 : decode jdk_52_method_21_code 35 = .ok (.iinc 3 1, 3) := by decide +kernel
theorem d5_38 : decode jdk_52_method_21_code 38 = .ok (.iinc 5 1, 3) := by decide +kernel
theorem d5_41 : decode jdk_52_method_21_code 41 = .ok (.goto (-38), 3) := by decide +kernel
theorem d5_44 : decode jdk_52_method_21_code 44 = .ok (.iload 4, 2) := by decide +kernel
theorem d5_46 : decode jdk_52_method_21_code 46 = .ok (.ireturn, 1) := by decide +kernel
theorem d6_0 : decode jdk_52_method_15_code 0 = .ok (.iload_n 1, 1) := by decide +kernel
theorem d6_1 : decode jdk_52_method_15_code 1 = .ok (.aload_n 0, 1) := by decide +kernel
theorem d6_2 : decode jdk_52_method_15_code 2 = .ok (.arraylength, 1) := by decide +kernel
theorem d6_3 : decode jdk_52_method_15_code 3 = .ok (.isub, 1) := by decide +kernel
theorem d6_4 : decode jdk_52_method_15_code 4 = .ok (.bipush 31, 2) := by decide +kernel
theorem d6_6 : decode jdk_52_method_15_code 6 = .ok (.iushr, 1) := by decide +kernel
theorem d6_7 : decode jdk_52_method_15_code 7 = .ok (.i2b, 1) := by decide +kernel
theorem d6_8 : decode jdk_52_method_15_code 8 = .ok (.ireturn, 1) := by decide +kernel
theorem d7_0 : decode method_3_code 0 = .ok (.aload_n 0, 1) := by decide +kernel
theorem d7_1 : decode method_3_code 1 = .ok (.ifnonnull 5, 3) := by decide +kernel
theorem d7_4 : decode method_3_code 4 = .ok (.aconst_null, 1) := by decide +kernel
theorem d7_5 : decode method_3_code 5 = .ok (.areturn, 1) := by decide +kernel
theorem d7_6 : decode method_3_code 6 = .ok (.aload_n 0, 1) := by decide +kernel
theorem d7_7 : decode method_3_code 7 = .ok (.ldc 43, 2) := by decide +kernel
theorem d7_9 : decode method_3_code 9 = .ok (.invokevirtual 37, 3) := by decide +kernel
theorem d7_12 : decode method_3_code 12 = .ok (.ifCond .eq 7, 3) := by decide +kernel
theorem d7_15 : decode method_3_code 15 = .ok (.getstatic 45, 3) := by decide +kernel
theorem d7_18 : decode method_3_code 18 = .ok (.areturn, 1) := by decide +kernel
theorem d7_19 : decode method_3_code 19 = .ok (.aload_n 0, 1) := by decide +kernel
theorem d7_20 : decode method_3_code 20 = .ok (.ldc 49, 2) := by decide +kernel
theorem d7_22 : decode method_3_code 22 = .ok (.invokevirtual 37, 3) := by decide +kernel
theorem d7_25 : decode method_3_code 25 = .ok (.ifCond .eq 7, 3) := by decide +kernel
theorem d7_28 : decode method_3_code 28 = .ok (.getstatic 51, 3) := by decide +kernel
theorem d7_31 : decode method_3_code 31 = .ok (.areturn, 1) := by decide +kernel
theorem d7_32 : decode method_3_code 32 = .ok (.aload_n 0, 1) := by decide +kernel
theorem d7_33 : decode method_3_code 33 = .ok (.ldc 54, 2) := by decide +kernel
theorem d7_35 : decode method_3_code 35 = .ok (.invokevirtual 37, 3) := by decide +kernel
theorem d7_38 : decode method_3_code 38 = .ok (.ifCond .eq 7, 3) := by decide +kernel
theorem d7_41 : decode method_3_code 41 = .ok (.getstatic 56, 3) := by decide +kernel
theorem d7_44 : decode method_3_code 44 = .ok (.areturn, 1) := by decide +kernel
theorem d7_45 : decode method_3_code 45 = .ok (.aconst_null, 1) := by decide +kernel
theorem d7_46 : decode method_3_code 46 = .ok (.areturn, 1) := by decide +kernel
theorem d8_0 : decode jdk_42_method_66_code 0 = .ok (.aload_n 0, 1) := by decide +kernel
theorem d8_1 : decode jdk_42_method_66_code 1 = .ok (.aload_n 1, 1) := by decide +kernel
theorem d8_2 : decode jdk_42_method_66_code 2 = .ok (.if_acmp .ne 5, 3) := by decide +kernel
theorem d8_5 : decode jdk_42_method_66_code 5 = .ok (.iconst 1, 1) := by decide +kernel
theorem d8_6 : decode jdk_42_method_66_code 6 = .ok (.ireturn, 1) := by decide +kernel
theorem d8_7 : decode jdk_42_method_66_code 7 = .ok (.aload_n 1, 1) := by decide +kernel
theorem d8_8 : decode jdk_42_method_66_code 8 = .ok (.instanceof 10, 3) := by decide +kernel
theorem d8_11 : decode jdk_42_method_66_code 11 = .ok (.ifCond .eq 43, 3) := by decide +kernel
theorem d8_14 : decode jdk_42_method_66_code 14 = .ok (.aload_n 1, 1) := by decide +kernel
theorem d8_15 : decode jdk_42_method_66_code 15 = .ok (.checkcast 10, 3) := by decide +kernel
theorem d8_18 : decode jdk_42_method_66_code 18 = .ok (.astore_n 2, 1) := by decide +kernel
theorem d8_19 : decode jdk_42_method_66_code 19 = .ok (.getstatic 38, 3) := by decide +kernel
theorem d8_22 : decode jdk_42_method_66_code 22 = .ok (.ifCond .eq 14, 3) := by decide +kernel
theorem d8_25 : decode jdk_42_method_66_code 25 = .ok (.aload_n 0, 1) := by decide +kernel
theorem d8_26 : decode jdk_42_method_66_code 26 = .ok (.getfield 15, 3) := by decide +kernel
theorem d8_29 : decode jdk_42_method_66_code 29 = .ok (.aload_n 2, 1) := by decide +kernel
theorem d8_30 : decode jdk_42_method_66_code 30 = .ok (.getfield 15, 3) := by decide +kernel
theorem d8_33 : decode jdk_42_method_66_code 33 = .ok (.if_icmp .ne 21, 3) := by decide +kernel
theorem d8_36 : decode jdk_42_method_66_code 36 = .ok (.aload_n 0, 1) := by decide +kernel
theorem d8_37 : decode jdk_42_method_66_code 37 = .ok (.getfield 9, 3) := by decide +kernel
theorem d8_40 : decode jdk_42_method_66_code 40 = .ok (.aload_n 2, 1) := by decide +kernel
theorem d8_41 : decode jdk_42_method_66_code 41 = .ok (.getfield 9, 3) := by decide +kernel
theorem d8_44 : decode jdk_42_method_66_code 44 = .ok (.invokestatic 541, 3) := by decide +kernel
theorem d8_47 : decode jdk_42_method_66_code 47 = .ok (.ifCond .eq 7, 3) := by decide +kernel
theorem d8_50 : decode jdk_42_method_66_code 50 = .ok (.iconst 1, 1) := by decide +kernel
theorem d8_51 : decode jdk_42_method_66_code 51 = .ok (.goto 4, 3) := by decide +kernel
theorem d8_54 : decode jdk_42_method_66_code 54 = .ok (.iconst 0, 1) := by decide +kernel
theorem d8_55 : decode jdk_42_method_66_code 55 = .ok (.ireturn, 1) := by decide +kernel
theorem d9_0 : decode jdk_43_method_13_code 0 = .ok (.aload_n 0, 1) := by decide +kernel
theorem d9_1 : decode jdk_43_method_13_code 1 = .ok (.arraylength, 1) := by decide +kernel
theorem d9_2 : decode jdk_43_method_13_code 2 = .ok (.aload_n 1, 1) := by decide +kernel
theorem d9_3 : decode jdk_43_method_13_code 3 = .ok (.arraylength, 1) := by decide +kernel
theorem d9_4 : decode jdk_43_method_13_code 4 = .ok (.if_icmp .ne 30, 3) := by decide +kernel
theorem d9_7 : decode jdk_43_method_13_code 7 = .ok (.iconst 0, 1) := by decide +kernel
theorem d9_8 : decode jdk_43_method_13_code 8 = .ok (.istore_n 2, 1) := by decide +kernel
theorem d9_9 : decode jdk_43_method_13_code 9 = .ok (.iload_n 2, 1) := by decide +kernel
theorem d9_10 : decode jdk_43_method_13_code 10 = .ok (.aload_n 0, 1) := by decide +kernel
theorem d9_11 : decode jdk_43_method_13_code 11 = .ok (.arraylength, 1) := by decide +kernel
theorem d9_12 : decode jdk_43_method_13_code 12 = .ok (.if_icmp .ge 20, 3) := by decide +kernel
theorem d9_15 : decode jdk_43_method_13_code 15 = .ok (.aload_n 0, 1) := by decide +kernel
theorem d9_16 : decode jdk_43_method_13_code 16 = .ok (.iload_n 2, 1) := by decide +kernel
theorem d9_17 : decode jdk_43_method_13_code 17 = .ok (.baload, 1) := by decide +kernel
theorem d9_18 : decode jdk_43_method_13_code 18 = .ok (.aload_n 1, 1) := by decide +kernel
theorem d9_19 : decode jdk_43_method_13_code 19 = .ok (.iload_n 2, 1) := by decide +kernel
theorem d9_20 : decode jdk_43_method_13_code 20 = .ok (.baload, 1) := by decide +kernel
theorem d9_21 : decode jdk_43_method_13_code 21 = .ok (.if_icmp .eq 5, 3) := by decide +kernel
theorem d9_24 : decode jdk_43_method_13_code 24 = .ok (.iconst 0, 1) := by decide +kernel
theorem d9_25 : decode jdk_43_method_13_code 25 = .ok (.ireturn, 1) := by decide +kernel
theorem d9_26 : decode jdk_43_method_13_code 26 = .ok (.iinc 2 1, 3) := by decide +kernel
theorem d9_29 : decode jdk_43_method_13_code 29 = .ok (.goto (-20), 3) := by decide +kernel
theorem d9_32 : decode jdk_43_method_13_code 32 = .ok (.iconst 1, 1) := by decide +kernel
theorem d9_33 : decode jdk_43_method_13_code 33 = .ok (.ireturn, 1) := by decide +kernel
theorem d9_34 : decode jdk_43_method_13_code 34 = .ok (.iconst 0, 1) := by decide +kernel
theorem d9_35 : decode jdk_43_method_13_code 35 = .ok (.ireturn, 1) := by decide +kernel
theorem d10_0 : decode prog_7_method_4_code 0 = .ok (.invokestatic 36, 3) := by decide +kernel
theorem d10_3 : decode prog_7_method_4_code 3 = .ok (.astore_n 1, 1) := by decide +kernel
theorem d10_4 : decode prog_7_method_4_code 4 = .ok (.aload_n 1, 1) := by decide +kernel
theorem d10_5 : decode prog_7_method_4_code 5 = .ok (.arraylength, 1) := by decide +kernel
theorem d10_6 : decode prog_7_method_4_code 6 = .ok (.istore_n 2, 1) := by decide +kernel
theorem d10_7 : decode prog_7_method_4_code 7 = .ok (.iconst 0, 1) := by decide +kernel
theorem d10_8 : decode prog_7_method_4_code 8 = .ok (.istore_n 3, 1) := by decide +kernel
theorem d10_9 : decode prog_7_method_4_code 9 = .ok (.iload_n 3, 1) := by decide +kernel
theorem d10_10 : decode prog_7_method_4_code 10 = .ok (.iload_n 2, 1) := by decide +kernel
theorem d10_11 : decode prog_7_method_4_code 11 = .ok (.if_icmp .ge 32, 3) := by decide +kernel
theorem d10_14 : decode prog_7_method_4_code 14 = .ok (.aload_n 1, 1) := by decide +kernel
theorem d10_15 : decode prog_7_method_4_code 15 = .ok (.iload_n 3, 1) := by decide +kernel
theorem d10_16 : decode prog_7_method_4_code 16 = .ok (.aaload, 1) := by decide +kernel
theorem d10_17 : decode prog_7_method_4_code 17 = .ok (.astore 4, 2) := by decide +kernel
theorem d10_19 : decode prog_7_method_4_code 19 = .ok (.aload 4, 2) := by decide +kernel
theorem d10_21 : decode prog_7_method_4_code 21 = .ok (.getfield 32, 3) := by decide +kernel
theorem d10_24 : decode prog_7_method_4_code 24 = .ok (.aload_n 0, 1) := by decide +kernel
theorem d10_25 : decode prog_7_method_4_code 25 = .ok (.invokevirtual 40, 3) := by decide +kernel
theorem d10_28 : decode prog_7_method_4_code 28 = .ok (.ifCond .eq 9, 3) := by decide +kernel
theorem d10_31 : decode prog_7_method_4_code 31 = .ok (.aload 4, 2) := by decide +kernel
theorem d10_33 : decode prog_7_method_4_code 33 = .ok (.invokestatic 46, 3) := by decide +kernel
theorem d10_36 : decode prog_7_method_4_code 36 = .ok (.areturn, 1) := by decide +kernel
theorem d10_37 : decode prog_7_method_4_code 37 = .ok (.iinc 3 1, 3) := by decide +kernel
theorem d10_40 : decode prog_7_method_4_code 40 = .ok (.goto (-31), 3) := by decide +kernel
theorem d10_43 : decode prog_7_method_4_code 43 = .ok (.invokestatic 52, 3) := by decide +kernel
theorem d10_46 : decode prog_7_method_4_code 46 = .ok (.areturn, 1) := by decide +kernel
theorem d11_0 : decode prog_7_method_1_code 0 = .ok (.getstatic 13, 3) := by decide +kernel
theorem d11_3 : decode prog_7_method_1_code 3 = .ok (.invokevirtual 17, 3) := by decide +kernel
theorem d11_6 : decode prog_7_method_1_code 6 = .ok (.checkcast 18, 3) := by decide +kernel
theorem d11_9 : decode prog_7_method_1_code 9 = .ok (.areturn, 1) := by decide +kernel
theorem d12_0 : decode jdk_32_method_3_code 0 = .ok (.new 2, 3) := by decide +kernel
theorem d12_3 : decode jdk_32_method_3_code 3 = .ok (.dup, 1) := by decide +kernel
theorem d12_4 : decode jdk_32_method_3_code 4 = .ok (.aload_n 0, 1) := by decide +kernel
theorem d12_5 : decode jdk_32_method_3_code 5 = .ok (.invokestatic 17, 3) := by decide +kernel
theorem d12_8 : decode jdk_32_method_3_code 8 = .ok (.invokespecial 23, 3) := by decide +kernel
theorem d12_11 : decode jdk_32_method_3_code 11 = .ok (.areturn, 1) := by decide +kernel
theorem d13_0 : decode jdk_31_method_10_code 0 = .ok (.aload_n 0, 1) := by decide +kernel
theorem d13_1 : decode jdk_31_method_10_code 1 = .ok (.ifnonnull 11, 3) := by decide +kernel
theorem d13_12 : decode jdk_31_method_10_code 12 = .ok (.aload_n 0, 1) := by decide +kernel
theorem d13_13 : decode jdk_31_method_10_code 13 = .ok (.areturn, 1) := by decide +kernel
theorem d14_0 : decode jdk_32_method_2_code 0 = .ok (.aload_n 0, 1) := by decide +kernel
theorem d14_1 : decode jdk_32_method_2_code 1 = .ok (.invokespecial 7, 3) := by decide +kernel
theorem d14_4 : decode jdk_32_method_2_code 4 = .ok (.aload_n 0, 1) := by decide +kernel
theorem d14_5 : decode jdk_32_method_2_code 5 = .ok (.aload_n 1, 1) := by decide +kernel
theorem d14_6 : decode jdk_32_method_2_code 6 = .ok (.putfield 13, 3) := by decide +kernel
theorem d14_9 : decode jdk_32_method_2_code 9 = .ok (.return_, 1) := by decide +kernel
theorem d15_0 : decode jdk_32_method_6_code 0 = .ok (.aload_n 0, 1) := by decide +kernel
theorem d15_1 : decode jdk_32_method_6_code 1 = .ok (.getfield 13, 3) := by decide +kernel
theorem d15_4 : decode jdk_32_method_6_code 4 = .ok (.ifnull 7, 3) := by decide +kernel
theorem d15_7 : decode jdk_32_method_6_code 7 = .ok (.iconst 1, 1) := by decide +kernel
theorem d15_8 : decode jdk_32_method_6_code 8 = .ok (.goto 4, 3) := by decide +kernel
theorem d15_11 : decode jdk_32_method_6_code 11 = .ok (.iconst 0, 1) := by decide +kernel
theorem d15_12 : decode jdk_32_method_6_code 12 = .ok (.ireturn, 1) := by decide +kernel
theorem d16_0 : decode jdk_32_method_5_code 0 = .ok (.aload_n 0, 1) := by decide +kernel
theorem d16_1 : decode jdk_32_method_5_code 1 = .ok (.getfield 13, 3) := by decide +kernel
theorem d16_4 : decode jdk_32_method_5_code 4 = .ok (.ifnonnull 13, 3) := by decide +kernel
theorem d16_17 : decode jdk_32_method_5_code 17 = .ok (.aload_n 0, 1) := by decide +kernel
theorem d16_18 : decode jdk_32_method_5_code 18 = .ok (.getfield 13, 3) := by decide +kernel
theorem d16_21 : decode jdk_32_method_5_code 21 = .ok (.areturn, 1) := by decide +kernel
theorem d17_0 : decode prog_7_method_5_code 0 = .ok (.aload_n 0, 1) := by decide +kernel
theorem d17_1 : decode prog_7_method_5_code 1 = .ok (.getfield 32, 3) := by decide +kernel
theorem d17_4 : decode prog_7_method_5_code 4 = .ok (.areturn, 1) := by decide +kernel
theorem d18_0 : decode jdk_32_method_1_code 0 = .ok (.getstatic 1, 3) := by decide +kernel
theorem d18_3 : decode jdk_32_method_1_code 3 = .ok (.astore_n 0, 1) := by decide +kernel
theorem d18_4 : decode jdk_32_method_1_code 4 = .ok (.aload_n 0, 1) := by decide +kernel
theorem d18_5 : decode jdk_32_method_1_code 5 = .ok (.areturn, 1) := by decide +kernel
theorem d19_0 : decode jdk_42_method_139_code 0 = .ok (.getstatic 38, 3) := by decide +kernel
theorem d19_3 : decode jdk_42_method_139_code 3 = .ok (.ifCond .eq 23, 3) := by decide +kernel
theorem d19_6 : decode jdk_42_method_139_code 6 = .ok (.iload_n 0, 1) := by decide +kernel
theorem d19_7 : decode jdk_42_method_139_code 7 = .ok (.invokestatic 1015, 3) := by decide +kernel
theorem d19_10 : decode jdk_42_method_139_code 10 = .ok (.ifCond .eq 16, 3) := by decide +kernel
theorem d19_13 : decode jdk_42_method_139_code 13 = .ok (.new 10, 3) := by decide +kernel
theorem d19_16 : decode jdk_42_method_139_code 16 = .ok (.dup, 1) := by decide +kernel
theorem d19_17 : decode jdk_42_method_139_code 17 = .ok (.iload_n 0, 1) := by decide +kernel
theorem d19_18 : decode jdk_42_method_139_code 18 = .ok (.invokestatic 1018, 3) := by decide +kernel
theorem d19_21 : decode jdk_42_method_139_code 21 = .ok (.iconst 0, 1) := by decide +kernel
theorem d19_22 : decode jdk_42_method_139_code 22 = .ok (.invokespecial 209, 3) := by decide +kernel
theorem d19_25 : decode jdk_42_method_139_code 25 = .ok (.areturn, 1) := by decide +kernel
theorem d20_0 : decode jdk_43_method_3_code 0 = .ok (.iload_n 0, 1) := by decide +kernel
theorem d20_1 : decode jdk_43_method_3_code 1 = .ok (.sipush 255, 3) := by decide +kernel
theorem d20_4 : decode jdk_43_method_3_code 4 = .ok (.if_icmp .gt 7, 3) := by decide +kernel
theorem d20_7 : decode jdk_43_method_3_code 7 = .ok (.iconst 1, 1) := by decide +kernel
theorem d20_8 : decode jdk_43_method_3_code 8 = .ok (.goto 4, 3) := by decide +kernel
theorem d20_12 : decode jdk_43_method_3_code 12 = .ok (.ireturn, 1) := by decide +kernel
theorem d21_0 : decode jdk_43_method_46_code 0 = .ok (.iconst 1, 1) := by decide +kernel
theorem d21_1 : decode jdk_43_method_46_code 1 = .ok (.newarray .byte, 2) := by decide +kernel
theorem d21_3 : decode jdk_43_method_46_code 3 = .ok (.dup, 1) := by decide +kernel
theorem d21_4 : decode jdk_43_method_46_code 4 = .ok (.iconst 0, 1) := by decide +kernel
theorem d21_5 : decode jdk_43_method_46_code 5 = .ok (.iload_n 0, 1) := by decide +kernel
theorem d21_6 : decode jdk_43_method_46_code 6 = .ok (.i2b, 1) := by decide +kernel
theorem d21_7 : decode jdk_43_method_46_code 7 = .ok (.bastore, 1) := by decide +kernel
theorem d21_8 : decode jdk_43_method_46_code 8 = .ok (.areturn, 1) := by decide +kernel
theorem d22_0 : decode jdk_42_method_151_code 0 = .ok (.aload_n 0, 1) := by decide +kernel
theorem d22_1 : decode jdk_42_method_151_code 1 = .ok (.invokespecial 1, 3) := by decide +kernel
theorem d22_4 : decode jdk_42_method_151_code 4 = .ok (.aload_n 0, 1) := by decide +kernel
theorem d22_5 : decode jdk_42_method_151_code 5 = .ok (.aload_n 1, 1) := by decide +kernel
theorem d22_6 : decode jdk_42_method_151_code 6 = .ok (.putfield 9, 3) := by decide +kernel
theorem d22_9 : decode jdk_42_method_151_code 9 = .ok (.aload_n 0, 1) := by decide +kernel
theorem d22_10 : decode jdk_42_method_151_code 10 = .ok (.iload_n 2, 1) := by decide +kernel
theorem d22_11 : decode jdk_42_method_151_code 11 = .ok (.putfield 15, 3) := by decide +kernel
theorem d22_14 : decode jdk_42_method_151_code 14 = .ok (.return_, 1) := by decide +kernel
theorem pd_0 : parseMethodDescriptor "(Ljava/lang/Object;)Ljava/lang/Object;" = some ⟨[(.object "java/lang/Object")], (some (.object "java/lang/Object"))⟩ := by decide +kernel
theorem pd_1 : parseMethodDescriptor "(Ljava/lang/Object;)V" = some ⟨[(.object "java/lang/Object")], none⟩ := by decide +kernel
theorem pd_2 : parseMethodDescriptor "(Ljava/lang/Object;)Z" = some ⟨[(.object "java/lang/Object")], (some .boolean)⟩ := by decide +kernel
theorem pd_3 : parseMethodDescriptor "()[Lcom/example/emendate/emendate/model/Capability;" = some ⟨[], (some (.array (.object "com/example/emendate/emendate/model/Capability")))⟩ := by decide +kernel
theorem pd_4 : parseMethodDescriptor "()Ljava/util/Optional;" = some ⟨[], (some (.object "java/util/Optional"))⟩ := by decide +kernel
theorem pd_5 : parseMethodDescriptor "(Ljava/lang/Object;)Ljava/util/Optional;" = some ⟨[(.object "java/lang/Object")], (some (.object "java/util/Optional"))⟩ := by decide +kernel
theorem pd_6 : parseMethodDescriptor "([CI[BII)I" = some ⟨[(.array .char), .int, (.array .byte), .int, .int], (some .int)⟩ := by decide +kernel
theorem pd_7 : parseMethodDescriptor "([CII)[B" = some ⟨[(.array .char), .int, .int], (some (.array .byte))⟩ := by decide +kernel
theorem pd_8 : parseMethodDescriptor "([BI)B" = some ⟨[(.array .byte), .int], (some .byte)⟩ := by decide +kernel
theorem pd_9 : parseMethodDescriptor "([CIILjava/lang/Void;)V" = some ⟨[(.array .char), .int, .int, (.object "java/lang/Void")], none⟩ := by decide +kernel
theorem pd_10 : parseMethodDescriptor "(C)Z" = some ⟨[.char], (some .boolean)⟩ := by decide +kernel
theorem pd_11 : parseMethodDescriptor "(C)[B" = some ⟨[.char], (some (.array .byte))⟩ := by decide +kernel
theorem pd_12 : parseMethodDescriptor "([BB)V" = some ⟨[(.array .byte), .byte], none⟩ := by decide +kernel
theorem pd_13 : parseMethodDescriptor "([B[B)Z" = some ⟨[(.array .byte), (.array .byte)], (some .boolean)⟩ := by decide +kernel
theorem pd_14 : parseMethodDescriptor "([C)V" = some ⟨[(.array .char)], none⟩ := by decide +kernel
theorem pd_15 : parseMethodDescriptor "(C)Ljava/lang/String;" = some ⟨[.char], (some (.object "java/lang/String"))⟩ := by decide +kernel
theorem pd_16 : parseMethodDescriptor "()Z" = some ⟨[], (some .boolean)⟩ := by decide +kernel
theorem pd_17 : parseMethodDescriptor "()Ljava/lang/Object;" = some ⟨[], (some (.object "java/lang/Object"))⟩ := by decide +kernel
theorem pd_18 : parseMethodDescriptor "()Ljava/lang/String;" = some ⟨[], (some (.object "java/lang/String"))⟩ := by decide +kernel
theorem pd_19 : parseMethodDescriptor "(IIICC)Ljava/lang/String;" = some ⟨[.int, .int, .int, .char, .char], (some (.object "java/lang/String"))⟩ := by decide +kernel
theorem pd_20 : parseMethodDescriptor "(Ljava/lang/String;)Lcom/example/emendate/emendate/model/Capability;" = some ⟨[(.object "java/lang/String")], (some (.object "com/example/emendate/emendate/model/Capability"))⟩ := by decide +kernel
theorem pd_21 : parseMethodDescriptor "(Ljava/lang/String;)Ljava/util/Optional;" = some ⟨[(.object "java/lang/String")], (some (.object "java/util/Optional"))⟩ := by decide +kernel
theorem bts_set {cs : List Int32} {i : Nat} (hi : i < cs.length) : (bts (cs.take i) ++ List.replicate (cs.length - i) (Value.int 0)).set i (.int (cs[i].toInt8.toInt32)) = bts (cs.take (i + 1)) ++ List.replicate (cs.length - (i + 1)) (Value.int 0) := by
  have hl : (bts (cs.take i)).length = i := by simp; omega
  rw [List.set_append_right _ _ (by omega), hl, Nat.sub_self]
  obtain ⟨m, hm⟩ : ∃ m, cs.length - i = m + 1 := ⟨cs.length - i - 1, by omega⟩
  rw [hm, show cs.length - (i + 1) = m by omega, List.replicate_succ, List.set_cons_zero, List.take_succ_eq_append_getElem hi]
  simp only [bts, List.map_append, List.map_cons, List.map_nil, List.append_assoc, List.singleton_append]

set_option maxRecDepth 65536 in
set_option maxHeartbeats 4000000 in
theorem lp_cmp5 {l : Launch} {Z : State} {a0 : Array Value} (H : Wd Z a0) {K : Cx} {h : Heap} {ca ba : Addr} {kc kb : ClassId} {cs : List Int32} (A : Arv Z h ca kc .char (Int32.ofNat cs.length) (ints cs) (.int 0)) (hl : Lat cs) (hne : ca ≠ ba) : ∀ (n i : Nat) (x6 : Slot) (h1 : Heap), n + i = cs.length → One x6 → Keep h h1 [ba] → Arv Z h1 ba kb .byte (Int32.ofNat cs.length) (bts (cs.take i) ++ List.replicate (cs.length - i) (.int 0)) (.int 0) → Go l Z K "java/lang/StringUTF16" "compress" jdk_52_method_21_code 7 (some .int) ({ frames := 0, cells := 0, slots := 0, locals := 0 } : Room) (fun v h' G => v = some (.int (Int32.ofNat cs.length)) ∧ Keep h h' [ba] ∧ Arv Z h' ba kb .byte (Int32.ofNat cs.length) (bts cs) (.int 0)) h1 [ba] 0 0 3 #[.val (.ref ca), .val (.int (Int32.ofNat i)), .val (.ref ba), .val (.int (Int32.ofNat i)), .val (.int (Int32.ofNat cs.length)), .val (.int (Int32.ofNat i)), x6] []

  | 0, i, x6, h1, hn, h6, K1, V1 => by
    obtain rfl : i = cs.length := by omega
    refine go_iload (v := (Int32.ofNat cs.length)) (q := 5) d5_3 rfl rfl ?_
    refine go_iload (v := (Int32.ofNat cs.length)) (q := 7) d5_5 rfl rfl ?_
    refine go_icY (q := 44) d5_7 (show ¬ Int32.ofNat cs.length < Int32.ofNat cs.length from Int32.lt_irrefl) (by decide) (by decide) ?_
    refine go_iload (v := (Int32.ofNat cs.length)) (q := 46) d5_44 rfl rfl ?_
    have V1 : Arv Z h1 ba kb .byte (Int32.ofNat cs.length) (bts cs) (.int 0) := by simpa using V1
    exact go_ireturn H (G := []) (t := .int) rfl (by decide) rfl d5_46 (by decide) (by decide) (fun _ q => nomatch q) ⟨rfl, K1, V1⟩
  | n + 1, i, x6, h1, hn, h6, K1, V1 => by
    have hi : i < cs.length := by omega
    have hb := hl.1
    have hc := hl.2 cs[i] (List.getElem_mem hi)
    refine go_iload (v := (Int32.ofNat i)) (q := 5) d5_3 rfl rfl ?_
    refine go_iload (v := (Int32.ofNat cs.length)) (q := 7) d5_5 rfl rfl ?_
    refine go_icN (q := 10) d5_7 ((lt_ofNat (by omega) (by omega)).mpr hi) rfl ?_
    refine go_aloadN (v := .ref ca) (q := 11) d5_10 rfl rfl rfl ?_
    refine go_iloadN (v := (Int32.ofNat i)) (q := 12) d5_11 rfl rfl ?_
    refine go_caload (v := .int (cs[i])) (q := 13) (A.keep K1 (ninS hne nin0)) ⟨nn_ofNat (by omega), (lt_ofNat (by omega) (by omega)).mpr hi⟩ (by rw [cl_ofNat (by omega)]; simp [ints, hi]) d5_12 rfl ?_
    refine go_istoreO (L' := #[.val (.ref ca), .val (.int (Int32.ofNat i)), .val (.ref ba), .val (.int (Int32.ofNat i)), .val (.int (Int32.ofNat cs.length)), .val (.int (Int32.ofNat i)), .val (.int (cs[i]))]) (q := 15) d5_13 rfl h6 rfl rfl ?_
    refine go_iload (v := cs[i]) (q := 17) d5_15 rfl rfl ?_
    refine go_sipush (x := (255 : Int32)) (q := 20) d5_17 rfl rfl ?_
    refine go_icY (q := 26) d5_20 (show ¬ (255 : Int32) < cs[i] from hc.2) (by decide) (by decide) ?_
    refine go_aloadN (v := .ref ba) (q := 27) d5_26 rfl rfl rfl ?_
    refine go_iloadN (v := (Int32.ofNat i)) (q := 28) d5_27 rfl rfl ?_
    refine go_iload (v := cs[i]) (q := 30) d5_28 rfl rfl ?_
    refine go_i2b (r := (cs[i]).toInt8.toInt32) (q := 31) d5_30 rfl rfl ?_
    refine go_bastore (i := i) (y := cs[i].toInt8.toInt32) (q := 32) V1 ⟨nn_ofNat (by omega), (lt_ofNat (by omega) (by omega)).mpr hi⟩ (cl_ofNat (by omega)) (by simp; omega) (by simp) (show (cs[i].toInt8.toInt32).toInt8.toInt32 = cs[i].toInt8.toInt32 by simp) d5_31 rfl ?_
    intro h2 K2 z2 V2
    rw [bts_set hi] at V2
    refine go_iinc (x := (Int32.ofNat i)) (y := (Int32.ofNat (i + 1))) (L' := #[.val (.ref ca), .val (.int (Int32.ofNat (i + 1))), .val (.ref ba), .val (.int (Int32.ofNat i)), .val (.int (Int32.ofNat cs.length)), .val (.int (Int32.ofNat i)), .val (.int (cs[i]))]) (q := 35) d5_32 rfl add1_ofNat rfl rfl ?_
    refine go_iinc (x := (Int32.ofNat i)) (y := (Int32.ofNat (i + 1))) (L' := #[.val (.ref ca), .val (.int (Int32.ofNat (i + 1))), .val (.ref ba), .val (.int (Int32.ofNat (i + 1))), .val (.int (Int32.ofNat cs.length)), .val (.int (Int32.ofNat i)), .val (.int (cs[i]))]) (q := 38) d5_35 rfl add1_ofNat rfl rfl ?_
    refine go_iinc (x := (Int32.ofNat i)) (y := (Int32.ofNat (i + 1))) (L' := #[.val (.ref ca), .val (.int (Int32.ofNat (i + 1))), .val (.ref ba), .val (.int (Int32.ofNat (i + 1))), .val (.int (Int32.ofNat cs.length)), .val (.int (Int32.ofNat (i + 1))), .val (.int (cs[i]))]) (q := 41) d5_38 rfl add1_ofNat rfl rfl ?_
    refine go_goto (q := 3) d5_41 (by decide) (by decide) ?_
    exact lp_cmp5 H A hl hne n (i + 1) _ h2 (by omega) (One.val rfl) (K1.trans K2 (fun x q => Or.inl q)) V2
set_option maxRecDepth 65536 in
set_option maxHeartbeats 4000000 in
theorem rm_cmp5 {l : Launch} {Z : State} {a0 : Array Value} (H : Wd Z a0) {h : Heap} {ca ba : Addr} {kc kb : ClassId} {cs : List Int32} (A : Arv Z h ca kc .char (Int32.ofNat cs.length) (ints cs) (.int 0)) (V : Arv Z h ba kb .byte (Int32.ofNat cs.length) (List.replicate cs.length (.int 0)) (.int 0)) (hl : Lat cs) (hne : ca ≠ ba) : Met l Z (⟨"java/lang/StringUTF16", "compress", "([CI[BII)I"⟩ : MethodName) jdk_52_method_21_code 7 (some .int) ({ frames := 0, cells := 0, slots := 0, locals := 0 } : Room) h [ba] #[.ref ca, .int 0, .ref ba, .int 0, .int (Int32.ofNat cs.length)] (fun v h' G => v = some (.int (Int32.ofNat cs.length)) ∧ Keep h h' [ba] ∧ Arv Z h' ba kb .byte (Int32.ofNat cs.length) (bts cs) (.int 0)) := by
  refine Met.mk (L := #[.val (.ref ca), .val (.int 0), .val (.ref ba), .val (.int 0), .val (.int (Int32.ofNat cs.length)), .unset, .unset]) (by decide +kernel) (fun m => by first | (simp [entryFrame, mkF, argsToLocals, Value.category]; done) | rfl) (fun K => ?_)
  show Go _ _ K "java/lang/StringUTF16" "compress" _ _ _ _ _ _ _ _ _ 0 _ _
  refine go_iconst (x := (0 : Int32)) (q := 1) d5_0 rfl rfl ?_
  refine go_istore (L' := #[.val (.ref ca), .val (.int 0), .val (.ref ba), .val (.int 0), .val (.int (Int32.ofNat cs.length)), .val (.int (0 : Int32)), .unset]) (q := 3) d5_1 rfl rfl ?_
  exact lp_cmp5 H A hl hne cs.length 0 _ h (by omega) One.u (Keep.refl _ _) (by simpa using V)
set_option maxRecDepth 65536 in
set_option maxHeartbeats 4000000 in
theorem rm_cmp3 {l : Launch} {Z : State} {a0 : Array Value} (H : Wd Z a0) {h : Heap} {ca : Addr} {kc : ClassId} {cs : List Int32} (A : Arv Z h ca kc .char (Int32.ofNat cs.length) (ints cs) (.int 0)) (hl : Lat cs) (hn : cs.length ≤ 16) : Met l Z (⟨"java/lang/StringUTF16", "compress", "([CII)[B"⟩ : MethodName) jdk_52_method_16_code 6 (some (.array .byte)) ({ frames := 1, cells := 1, slots := 16, locals := 18 } : Room) h [] #[.ref ca, .int 0, .int (Int32.ofNat cs.length)] (fun v h' G => ∃ ba kb, v = some (.ref ba) ∧ h.size ≤ ba ∧ Keep h h' [] ∧ Arv Z h' ba kb .byte (Int32.ofNat cs.length) (bts cs) (.int 0)) := by
  refine Met.mk (L := #[.val (.ref ca), .val (.int 0), .val (.int (Int32.ofNat cs.length)), .unset, .unset, .unset]) (by decide +kernel) (fun m => by first | (simp [entryFrame, mkF, argsToLocals, Value.category]; done) | rfl) (fun K => ?_)
  show Go _ _ K "java/lang/StringUTF16" "compress" _ _ _ _ _ _ _ _ _ 0 _ _
  refine go_iloadN (v := (Int32.ofNat cs.length)) (q := 1) d4_0 rfl rfl ?_
  refine go_newarray (ty := .byte) (dv := .int 0) (n := cs.length) (cap := 16) (ad := "[B") (c' := 1) (s' := 16) (q := 3) rfl rfl (cl_ofNat (by have := hl.1; omega)) (w_23 H) d4_1 (nn_ofNat (by have := hl.1; omega)) hn (by decide) rfl rfl rfl rfl (by decide) (by decide) ?_
  intro h1 ba kb g1 E1 V1 X1
  refine go_astoreN (L' := #[.val (.ref ca), .val (.int 0), .val (.int (Int32.ofNat cs.length)), .val (.ref ba), .unset, .unset]) (q := 4) d4_3 rfl rfl rfl ?_
  refine go_aloadN (v := .ref ca) (q := 5) d4_4 rfl rfl rfl ?_
  refine go_iloadN (v := 0) (q := 6) d4_5 rfl rfl ?_
  refine go_aloadN (v := .ref ba) (q := 7) d4_6 rfl rfl rfl ?_
  refine go_iconst (x := (0 : Int32)) (q := 8) d4_7 rfl rfl ?_
  refine go_iloadN (v := (Int32.ofNat cs.length)) (q := 9) d4_8 rfl rfl ?_
  have ne : ca ≠ ba := fun q => absurd A.lt (by rw [q, g1]; exact Nat.lt_irrefl _)
  refine go_static (c' := 1) (s' := 16) (q := 12) (S := []) (argsL := [.ref ca, .int 0, .ref ba, .int (0 : Int32), .int (Int32.ofNat cs.length)]) H (w_24 H) (w_25 H) (w_21 H) (w_26 H) (by decide) (rm_cmp5 H (A.ext E1) V1 hl ne) rfl rfl (lenOf pd_6 rfl) (fun _ q => q) rfl (by decide) (Nat.le_of_ble_eq_true rfl) rfl rfl (by decide) (by decide) d4_9 rfl ?_
  rintro _ h2 G - ⟨rfl, K2, V2⟩
  refine nx_ (v := none) ?_
  show Go _ _ _ _ _ _ _ _ _ _ _ _ _ _ 12 #[.val (.ref ca), .val (.int 0), .val (.int (Int32.ofNat cs.length)), .val (.ref ba), .unset, .unset] [.int (Int32.ofNat cs.length)]
  refine go_istore (L' := #[.val (.ref ca), .val (.int 0), .val (.int (Int32.ofNat cs.length)), .val (.ref ba), .val (.int (Int32.ofNat cs.length)), .unset]) (q := 14) d4_12 rfl rfl ?_
  refine go_iload (v := (Int32.ofNat cs.length)) (q := 16) d4_14 rfl rfl ?_
  refine go_iloadN (v := (Int32.ofNat cs.length)) (q := 17) d4_16 rfl rfl ?_
  refine go_icY (q := 57) d4_17 rfl (by decide) (by decide) ?_
  refine go_aloadN (v := .ref ba) (q := 58) d4_57 rfl rfl rfl ?_
  exact go_areturn H (G := []) (t := (.array .byte)) rfl rfl rfl d4_58 (by decide) (by decide) (fun _ q => nomatch q) ⟨ba, kb, rfl, by rw [g1]; exact Nat.le_refl _, ((Keep.refl h []).ext E1).trans K2 (fun x q => by cases List.mem_singleton.mp q; exact Or.inr (by rw [g1]; exact Nat.le_refl _)), V2⟩
set_option maxRecDepth 65536 in
set_option maxHeartbeats 4000000 in
theorem rm_codL {l : Launch} {Z : State} {a0 : Array Value} (H : Wd Z a0) {h : Heap} {ba : Addr} {kb : ClassId} {z : Int32} {vs : List Value} {dv : Value} (A : Arv Z h ba kb .byte z vs dv) : Met l Z (⟨"java/lang/StringUTF16", "coderFromArrayLen", "([BI)B"⟩ : MethodName) jdk_52_method_15_code 2 (some .byte) ({ frames := 0, cells := 0, slots := 0, locals := 0 } : Room) h [] #[.ref ba, .int z] (fun v h' G => v = some (.int 0) ∧ h = h') := by
  refine Met.mk (L := #[.val (.ref ba), .val (.int z)]) (by decide +kernel) (fun m => by first | (simp [entryFrame, mkF, argsToLocals, Value.category]; done) | rfl) (fun K => ?_)
  show Go _ _ K "java/lang/StringUTF16" "coderFromArrayLen" _ _ _ _ _ _ _ _ _ 0 _ _
  refine go_iloadN (v := z) (q := 1) d6_0 rfl rfl ?_
  refine go_aloadN (v := .ref ba) (q := 2) d6_1 rfl rfl rfl ?_
  refine go_arraylength (z := z) (q := 3) A d6_2 rfl ?_
  refine go_isub (r := 0) (q := 4) d6_3 (Int32.sub_self _) rfl ?_
  refine go_bipush (x := (31 : Int32)) (q := 6) d6_4 rfl rfl ?_
  refine go_iushr (r := 0) (q := 7) d6_6 rfl rfl ?_
  refine go_i2b (r := 0) (q := 8) d6_7 rfl rfl ?_
  exact go_ireturn H (G := []) (t := .byte) rfl (by decide) rfl d6_8 (by decide) (by decide) (fun _ q => nomatch q) ⟨rfl, rfl⟩
set_option maxRecDepth 65536 in
set_option maxHeartbeats 4000000 in
theorem rm_new4 {l : Launch} {Z : State} {a0 : Array Value} (H : Wd Z a0) {h : Heap} {F : List Addr} {x ca : Addr} {kc : ClassId} {cs : List Int32} (E : Exa Z h x ST) (C : Fld Z h x ST "coder" "B" (.int 0)) (Vv : Fld Z h x ST "value" "[B" .null) (A : Arv Z h ca kc .char (Int32.ofNat cs.length) (ints cs) (.int 0)) (hl : Lat cs) (hn : cs.length ≤ 16) (hx : x ∉ F) (h0 : ¬ cs.length = 0) : Met l Z (⟨"java/lang/String", "<init>", "([CIILjava/lang/Void;)V"⟩ : MethodName) jdk_42_method_149_code 6 none ({ frames := 2, cells := 4, slots := 16, locals := 35 } : Room) h (x :: F) #[.ref x, .ref ca, .int 0, .int (Int32.ofNat cs.length), .null] (fun v h' G => v = none ∧ Keep h h' [x] ∧ Str Z h' F x cs) := by
  refine Met.mk (L := #[.val (.ref x), .val (.ref ca), .val (.int 0), .val (.int (Int32.ofNat cs.length)), .val (.null), .unset]) (by decide +kernel) (fun m => by first | (simp [entryFrame, mkF, argsToLocals, Value.category]; done) | rfl) (fun K => ?_)
  show Go _ _ K "java/lang/String" "<init>" _ _ _ _ _ _ _ _ _ 0 _ _
  obtain ⟨cz, Sz, nz⟩ := H.2.2.2.1
  have sne : RoadKit.slotOf Z ST "value" "[B" ≠ RoadKit.slotOf Z ST "coder" "B" := slot_ne (C := ST) (Or.inr (w_33 H)) (Or.inr (w_31 H)) (by decide) (t := .array .byte) (t' := .byte) (by decide) (by decide)
  have wiS := (w_6 H)
  refine go_aloadN (v := .ref x) (q := 1) d2_0 rfl rfl rfl ?_
  refine go_initO (q := 4) (w_15 H) (w_16 H) (w_17 H) rfl d2_1 rfl (by decide) (Nat.le_of_ble_eq_true rfl) ?_
  refine go_iloadN (v := (Int32.ofNat cs.length)) (q := 5) d2_4 rfl rfl ?_
  refine go_mine fun hMine hOld => ?_
  refine go_ifY (q := 27) d2_5 (show ¬ _ = _ from fun q => h0 ((eq_ofNat (n := 0) (by have := hl.1; omega) (by decide)).mp q)) (by decide) (by decide) ?_
  refine go_getstatic (v := .int cz) (q := 30) (w_18 H) Via.refl Sz d2_27 rfl ?_
  refine go_ifN (q := 33) d2_30 nz rfl ?_
  refine go_aloadN (v := .ref ca) (q := 34) d2_33 rfl rfl rfl ?_
  refine go_iloadN (v := 0) (q := 35) d2_34 rfl rfl ?_
  refine go_iloadN (v := (Int32.ofNat cs.length)) (q := 36) d2_35 rfl rfl ?_
  refine go_static (c' := 1) (s' := 16) (q := 39) (S := []) (argsL := [.ref ca, .int 0, .int (Int32.ofNat cs.length)]) H (w_19 H) (w_20 H) (w_21 H) (w_22 H) (by decide) (rm_cmp3 H A hl hn) rfl rfl (lenOf pd_7 rfl) (fun _ q => nomatch q) rfl (by decide) (Nat.le_of_ble_eq_true rfl) rfl rfl (by decide) (by decide) d2_36 rfl ?_
  rintro _ h1 G - ⟨ba, kb, rfl, gb, K1, V1⟩
  refine nx_ (v := none) ?_
  show Go _ _ _ _ _ _ _ _ _ _ _ _ _ _ 39 #[.val (.ref x), .val (.ref ca), .val (.int 0), .val (.int (Int32.ofNat cs.length)), .val (.null), .unset] [.ref ba]
  refine go_astore (L' := #[.val (.ref x), .val (.ref ca), .val (.int 0), .val (.int (Int32.ofNat cs.length)), .val (.null), .val (.ref ba)]) (q := 41) d2_39 rfl rfl rfl ?_
  refine go_aloadN (v := .ref x) (q := 42) d2_41 rfl rfl rfl ?_
  refine go_aload (v := .ref ba) (q := 44) d2_42 rfl rfl rfl ?_
  refine go_iloadN (v := (Int32.ofNat cs.length)) (q := 45) d2_44 rfl rfl ?_
  refine go_static (c' := 1) (s' := 16) (q := 48) (S := [.ref x]) (argsL := [.ref ba, .int (Int32.ofNat cs.length)]) H (w_27 H) (w_28 H) (w_21 H) (w_29 H) (by decide) (rm_codL H V1) rfl rfl (lenOf pd_8 rfl) (fun _ q => nomatch q) rfl (by decide) (Nat.le_of_ble_eq_true rfl) rfl rfl (by decide) (by decide) d2_45 rfl ?_
  rintro _ _ G - ⟨rfl, rfl⟩
  refine nx_ (v := none) ?_
  show Go _ _ _ _ _ _ _ _ _ _ _ _ _ _ 48 #[.val (.ref x), .val (.ref ca), .val (.int 0), .val (.int (Int32.ofNat cs.length)), .val (.null), .val (.ref ba)] [.int 0, .ref x]
  refine go_putfield (q := 51) (w_30 H) Via.refl (C.keep K1 nin0) (E.keep K1) (Or.inr ⟨(w_31 H), rfl, rfl⟩) (w_6 H) (ty := .byte) (by decide) rfl rfl (by simp) d2_48 rfl ?_
  intro h2 W2
  have nxb : ba ≠ x := E.keep K1 |>.neArv V1 wiS |>.symm
  refine go_aloadN (v := .ref x) (q := 52) d2_51 rfl rfl rfl ?_
  refine go_aload (v := .ref ba) (q := 54) d2_52 rfl rfl rfl ?_
  refine go_putfield (q := 57) (w_32 H) Via.refl ((Vv.keep K1 nin0).other W2 (Or.inr sne)) ((E.keep K1).wr W2) (Or.inr ⟨(w_33 H), rfl, rfl⟩) (w_6 H) (ty := (.array .byte)) (by decide) rfl rfl (by simp) d2_54 rfl ?_
  intro h3 W3
  have Kp : Keep h h3 [x] := ((kless K1 (by simp)).wr W2 (Or.inl (by simp))).wr W3 (Or.inl (by simp))
  exact go_return H (G := []) rfl d2_57 (by decide) (by decide) (fun _ q => nomatch q) ⟨rfl, Kp, ((E.keep K1).wr W2).wr W3, (((C.keep K1 nin0).same W2).other W3 (Or.inr sne.symm)), hx, hl, ba, kb, fun q => absurd (hMine ba (by simp [q])).2 (Nat.not_lt.mpr gb), (((Vv.keep K1 nin0).other W2 (Or.inr sne)).same W3), ((V1.other W2 nxb).other W3 nxb)⟩
set_option maxRecDepth 65536 in
set_option maxHeartbeats 4000000 in
theorem rm_new1 {l : Launch} {Z : State} {a0 : Array Value} (H : Wd Z a0) {h : Heap} {F : List Addr} {x ca : Addr} {kc : ClassId} {cs : List Int32} (E : Exa Z h x ST) (C : Fld Z h x ST "coder" "B" (.int 0)) (Vv : Fld Z h x ST "value" "[B" .null) (A : Arv Z h ca kc .char (Int32.ofNat cs.length) (ints cs) (.int 0)) (hl : Lat cs) (hn : cs.length ≤ 16) (hx : x ∉ F) (h0 : ¬ cs.length = 0) : Met l Z (⟨"java/lang/String", "<init>", "([C)V"⟩ : MethodName) jdk_42_method_3_code 2 none ({ frames := 3, cells := 4, slots := 16, locals := 52 } : Room) h (x :: F) #[.ref x, .ref ca] (fun v h' G => v = none ∧ Keep h h' [x] ∧ Str Z h' F x cs) := by
  refine Met.mk (L := #[.val (.ref x), .val (.ref ca)]) (by decide +kernel) (fun m => by first | (simp [entryFrame, mkF, argsToLocals, Value.category]; done) | rfl) (fun K => ?_)
  show Go _ _ K "java/lang/String" "<init>" _ _ _ _ _ _ _ _ _ 0 _ _
  refine go_aloadN (v := .ref x) (q := 1) d1_0 rfl rfl rfl ?_
  refine go_aloadN (v := .ref ca) (q := 2) d1_1 rfl rfl rfl ?_
  refine go_iconst (x := (0 : Int32)) (q := 3) d1_2 rfl rfl ?_
  refine go_aloadN (v := .ref ca) (q := 4) d1_3 rfl rfl rfl ?_
  refine go_arraylength (z := (Int32.ofNat cs.length)) (q := 5) A d1_4 rfl ?_
  refine go_null (q := 6) d1_5 rfl ?_
  refine go_special (c' := 4) (s' := 16) (q := 9) (S := []) (argsL := [.ref ca, .int (0 : Int32), .int (Int32.ofNat cs.length), .null]) H rfl (w_11 H) (w_12 H) (w_7 H) (w_14 H) (by decide) (rm_new4 H E C Vv A hl hn hx h0) rfl rfl (lenOf pd_9 rfl) (fun _ q => q) rfl (by decide) (Nat.le_of_ble_eq_true rfl) rfl rfl (by decide) (by decide) d1_6 rfl ?_
  rintro _ h1 G - ⟨rfl, K1, S1⟩
  refine nx_ (v := none) ?_
  show Go _ _ _ _ _ _ _ _ _ _ _ _ _ _ 9 #[.val (.ref x), .val (.ref ca)] []
  exact go_return H (G := []) rfl d1_9 (by decide) (by decide) (fun _ q => nomatch q) ⟨rfl, K1, S1⟩
set_option maxRecDepth 65536 in
set_option maxHeartbeats 4000000 in
theorem rm_canE {l : Launch} {Z : State} {a0 : Array Value} (H : Wd Z a0) {h : Heap} {c : Int32} (hc : ¬ 255 < c) : Met l Z (⟨"java/lang/StringLatin1", "canEncode", "(C)Z"⟩ : MethodName) jdk_43_method_3_code 1 (some .boolean) ({ frames := 0, cells := 0, slots := 0, locals := 0 } : Room) h [] #[.int c] (fun v h' G => v = some (.int 1) ∧ h = h') := by
  refine Met.mk (L := #[.val (.int c)]) (by decide +kernel) (fun m => by first | (simp [entryFrame, mkF, argsToLocals, Value.category]; done) | rfl) (fun K => ?_)
  show Go _ _ K "java/lang/StringLatin1" "canEncode" _ _ _ _ _ _ _ _ _ 0 _ _
  refine go_iloadN (v := c) (q := 1) d20_0 rfl rfl ?_
  refine go_sipush (x := (255 : Int32)) (q := 4) d20_1 rfl rfl ?_
  refine go_icN (q := 7) d20_4 (show ¬ (255 : Int32) < c from hc) rfl ?_
  refine go_iconst (x := (1 : Int32)) (q := 8) d20_7 rfl rfl ?_
  refine go_goto (q := 12) d20_8 (by decide) (by decide) ?_
  exact go_ireturn H (G := []) (t := .boolean) rfl (by decide) rfl d20_12 (by decide) (by decide) (fun _ q => nomatch q) ⟨rfl, rfl⟩
set_option maxRecDepth 65536 in
set_option maxHeartbeats 4000000 in
theorem rm_toB {l : Launch} {Z : State} {a0 : Array Value} (H : Wd Z a0) {h : Heap} {c : Int32}  : Met l Z (⟨"java/lang/StringLatin1", "toBytes", "(C)[B"⟩ : MethodName) jdk_43_method_46_code 1 (some (.array .byte)) ({ frames := 0, cells := 1, slots := 1, locals := 0 } : Room) h [] #[.int c] (fun v h' G => ∃ ba kb, v = some (.ref ba) ∧ h.size ≤ ba ∧ Keep h h' [] ∧ Arv Z h' ba kb .byte (Int32.ofNat [c].length) (bts [c]) (.int 0)) := by
  refine Met.mk (L := #[.val (.int c)]) (by decide +kernel) (fun m => by first | (simp [entryFrame, mkF, argsToLocals, Value.category]; done) | rfl) (fun K => ?_)
  show Go _ _ K "java/lang/StringLatin1" "toBytes" _ _ _ _ _ _ _ _ _ 0 _ _
  have Ka : Keep h h [] := Keep.refl _ _
  refine go_iconst (x := (1 : Int32)) (q := 1) d21_0 rfl rfl ?_
  refine go_newarray (ty := .byte) (dv := .int 0) (n := 1) (cap := 1) (ad := "[B") (c' := 1) (s' := 1) (q := 3) rfl rfl (by decide) (w_23 H) d21_1 (by decide) (by decide) (by decide) rfl rfl rfl rfl (by decide) (by decide) ?_
  intro h1 ba kb g1 E1 V1 X1
  have f_Ka_ba : h.size ≤ ba := by rw [g1]; exact Ka.1
  have Ka : Keep h h1 [] := Ka.ext E1
  have V1 : Arv Z h1 ba kb .byte 1 [.int 0] (.int 0) := V1
  refine go_dup (q := 4) d21_3 rfl rfl ?_
  refine go_iconst (x := (0 : Int32)) (q := 5) d21_4 rfl rfl ?_
  refine go_iloadN (v := c) (q := 6) d21_5 rfl rfl ?_
  refine go_i2b (r := c.toInt8.toInt32) (q := 7) d21_6 rfl rfl ?_
  refine go_bastore (i := 0) (y := c.toInt8.toInt32) (q := 8) V1 (by decide) rfl (Nat.le_of_ble_eq_true rfl) (by simp) (show (c.toInt8.toInt32).toInt8.toInt32 = c.toInt8.toInt32 by simp) d21_7 rfl ?_
  intro h2 K2 z2 V2
  have Ka : Keep h h2 [] := kfresh Ka K2 f_Ka_ba
  exact go_areturn H (G := []) (t := (.array .byte)) rfl rfl rfl d21_8 (by decide) (by decide) (fun _ q => nomatch q) ⟨ba, kb, rfl, f_Ka_ba, Ka, V2⟩
set_option maxRecDepth 65536 in
set_option maxHeartbeats 4000000 in
theorem rm_initBB {l : Launch} {Z : State} {a0 : Array Value} (H : Wd Z a0) {h : Heap} {F : List Addr} {x ba : Addr} {kb : ClassId} {cs : List Int32} (E : Exa Z h x ST) (C : Fld Z h x ST "coder" "B" (.int 0)) (Vv : Fld Z h x ST "value" "[B" .null) (A : Arv Z h ba kb .byte (Int32.ofNat cs.length) (bts cs) (.int 0)) (hl : Lat cs) (hx : x ∉ F) (hb : ba ∉ F) : Met l Z (⟨"java/lang/String", "<init>", "([BB)V"⟩ : MethodName) jdk_42_method_151_code 3 none ({ frames := 1, cells := 0, slots := 0, locals := 12 } : Room) h (x :: F) #[.ref x, .ref ba, .int 0] (fun v h' G => v = none ∧ Keep h h' [x] ∧ Str Z h' F x cs) := by
  refine Met.mk (L := #[.val (.ref x), .val (.ref ba), .val (.int 0)]) (by decide +kernel) (fun m => by first | (simp [entryFrame, mkF, argsToLocals, Value.category]; done) | rfl) (fun K => ?_)
  show Go _ _ K "java/lang/String" "<init>" _ _ _ _ _ _ _ _ _ 0 _ _
  have sne : RoadKit.slotOf Z ST "value" "[B" ≠ RoadKit.slotOf Z ST "coder" "B" := slot_ne (C := ST) (Or.inr (w_33 H)) (Or.inr (w_31 H)) (by decide) (t := .array .byte) (t' := .byte) (by decide) (by decide)
  have nxb : ba ≠ x := (E.neArv A (w_6 H)).symm
  refine go_aloadN (v := .ref x) (q := 1) d22_0 rfl rfl rfl ?_
  refine go_initO (q := 4) (w_15 H) (w_16 H) (w_17 H) rfl d22_1 rfl (by decide) (Nat.le_of_ble_eq_true rfl) ?_
  refine go_aloadN (v := .ref x) (q := 5) d22_4 rfl rfl rfl ?_
  refine go_aloadN (v := .ref ba) (q := 6) d22_5 rfl rfl rfl ?_
  refine go_putfield (q := 9) (w_32 H) Via.refl Vv E (Or.inr ⟨(w_33 H), rfl, rfl⟩) (w_6 H) (ty := (.array .byte)) (by decide) rfl rfl (by simp) d22_6 rfl ?_
  intro h1 W1
  refine go_aloadN (v := .ref x) (q := 10) d22_9 rfl rfl rfl ?_
  refine go_iloadN (v := 0) (q := 11) d22_10 rfl rfl ?_
  refine go_putfield (q := 14) (w_30 H) Via.refl (C.other W1 (Or.inr sne.symm)) (E.wr W1) (Or.inr ⟨(w_31 H), rfl, rfl⟩) (w_6 H) (ty := .byte) (by decide) rfl rfl (by simp) d22_11 rfl ?_
  intro h2 W2
  exact go_return H (G := []) rfl d22_14 (by decide) (by decide) (fun _ q => nomatch q) ⟨rfl, (Keep.of_wr W1).wr W2 (Or.inl (by simp)), (E.wr W1).wr W2, (C.other W1 (Or.inr sne.symm)).same W2, hx, hl, ba, kb, hb, (Vv.same W1).other W2 (Or.inr sne), (A.other W1 nxb).other W2 nxb⟩
set_option maxRecDepth 65536 in
set_option maxHeartbeats 4000000 in
theorem rm_vofC {l : Launch} {Z : State} {a0 : Array Value} (H : Wd Z a0) {h : Heap} {F : List Addr} {c : Int32} (hc : ¬ c < 0 ∧ ¬ 255 < c) (hFl : ∀ x ∈ F, x < h.size) : Met l Z (⟨"java/lang/String", "valueOf", "(C)Ljava/lang/String;"⟩ : MethodName) jdk_42_method_139_code 1 (some (.object "java/lang/String")) ({ frames := 2, cells := 2, slots := 5, locals := 27 } : Room) h F #[.int c] (fun v h' G => ∃ a, v = some (.ref a) ∧ Keep h h' [] ∧ Str Z h' F a [c]) := by
  refine Met.mk (L := #[.val (.int c)]) (by decide +kernel) (fun m => by first | (simp [entryFrame, mkF, argsToLocals, Value.category]; done) | rfl) (fun K => ?_)
  show Go _ _ K "java/lang/String" "valueOf" _ _ _ _ _ _ _ _ _ 0 _ _
  have Ka : Keep h h [] := Keep.refl _ _
  obtain ⟨cz, Sz, nz⟩ := H.2.2.2.1
  refine go_getstatic (v := .int cz) (q := 3) (w_18 H) Via.refl Sz d19_0 rfl ?_
  refine go_ifN (q := 6) d19_3 nz rfl ?_
  refine go_iloadN (v := c) (q := 7) d19_6 rfl rfl ?_
  refine go_static (c' := 0) (s' := 0) (q := 10) (S := []) (argsL := [.int c]) H (w_122 H) (w_123 H) (w_48 H) (w_124 H) (by decide) (rm_canE H hc.2) rfl rfl (lenOf pd_10 rfl) (fun _ q => nomatch q) rfl (by decide) (Nat.le_of_ble_eq_true rfl) rfl rfl (by decide) (by decide) d19_7 rfl ?_
  rintro _ _ G - ⟨rfl, rfl⟩
  refine nx_ (v := none) ?_
  show Go _ _ _ _ _ _ _ _ _ _ _ _ _ _ 10 #[.val (.int c)] [.int 1]
  refine go_ifN (q := 13) d19_10 (by decide) rfl ?_
  refine go_new (c' := 1) (s' := 4) (q := 16) (w_45 H) (w_6 H) (w_7 H) d19_13 rfl rfl rfl (by decide) (by decide) ?_
  intro h1 x g1 E1 A1 D1
  have f_Ka_x : h.size ≤ x := by rw [g1]; exact Ka.1
  have Ka : Keep h h1 [] := Ka.ext E1
  have C1 : Fld Z h1 x ST "coder" "B" (.int 0) := D1 (Or.inr (w_31 H)) (ty := .byte) (by decide)
  have V1 : Fld Z h1 x ST "value" "[B" .null := D1 (Or.inr (w_33 H)) (ty := .array .byte) (by decide)
  refine go_dup (q := 17) d19_16 rfl rfl ?_
  refine go_iloadN (v := c) (q := 18) d19_17 rfl rfl ?_
  refine go_static (c' := 2) (s' := 5) (q := 21) (S := [.ref x, .ref x]) (argsL := [.int c]) H (w_125 H) (w_126 H) (w_48 H) (w_127 H) (by decide) (rm_toB H) rfl rfl (lenOf pd_11 rfl) (fun _ q => nomatch q) rfl (by decide) (Nat.le_of_ble_eq_true rfl) rfl rfl (by decide) (by decide) d19_18 rfl ?_
  rintro _ h2 G - ⟨ba, kb, rfl, gb, K2, B2⟩
  refine nx_ (v := none) ?_
  have Ka : Keep h h2 [] := Ka.trans K2 (fun _ q => nomatch q)
  show Go _ _ _ _ _ _ _ _ _ _ _ _ _ _ 21 #[.val (.int c)] [.ref ba, .ref x, .ref x]
  have nF : x ∉ F := fun q => absurd (hFl x q) (Nat.not_lt.mpr f_Ka_x)
  have nb : ba ∉ F := fun q => absurd (hFl ba q) (Nat.not_lt.mpr (Nat.le_trans E1.1 gb))
  refine go_iconst (x := (0 : Int32)) (q := 22) d19_21 rfl rfl ?_
  refine go_special (c' := 2) (s' := 5) (q := 25) (S := [.ref x]) (argsL := [.ref ba, .int (0 : Int32)]) H rfl (w_128 H) (w_129 H) (w_7 H) (w_130 H) (by decide) (rm_initBB H (cs := [c]) (A1.keep K2) (C1.keep K2 nin0) (V1.keep K2 nin0) B2 ⟨Nat.le_of_ble_eq_true rfl, by intro d hd; simp only [List.mem_cons, List.not_mem_nil, or_false] at hd; subst hd; exact hc⟩ nF nb) rfl rfl (lenOf pd_12 rfl) (by intro z hz; simp only [List.mem_cons, List.not_mem_nil, or_false] at hz ⊢; first | exact hz | exact Or.inl hz | (rcases hz with hz | hz <;> simp [hz]; done) | (rcases hz with rfl | rfl <;> simp)) rfl (by decide) (Nat.le_of_ble_eq_true rfl) rfl rfl (by decide) (by decide) d19_22 rfl ?_
  rintro _ h3 G - ⟨rfl, K3, S⟩
  refine nx_ (v := none) ?_
  have Ka : Keep h h3 [] := kfresh Ka K3 f_Ka_x
  show Go _ _ _ _ _ _ _ _ _ _ _ _ _ _ 25 #[.val (.int c)] [.ref x]
  exact go_areturn H (G := []) (t := (.object "java/lang/String")) rfl rfl rfl d19_25 (by decide) (by decide) (fun _ q => nomatch q) ⟨x, rfl, Ka, S⟩
set_option maxRecDepth 65536 in
set_option maxHeartbeats 4000000 in
theorem lp_l1eq {l : Launch} {Z : State} {a0 : Array Value} (H : Wd Z a0) {K : Cx} {h : Heap} {ba bd : Addr} {kb kd : ClassId} {cs ds : List Int32} (A : Arv Z h ba kb .byte (Int32.ofNat cs.length) (bts cs) (.int 0)) (B : Arv Z h bd kd .byte (Int32.ofNat ds.length) (bts ds) (.int 0)) (hc : Lat cs) (hd : Lat ds) (hlen : cs.length = ds.length) : ∀ (n i : Nat), n + i = cs.length → cs.take i = ds.take i → Go l Z K "java/lang/StringLatin1" "equals" jdk_43_method_13_code 3 (some .boolean) ({ frames := 0, cells := 0, slots := 0, locals := 0 } : Room) (fun v h' G => v = some (.int (if cs = ds then 1 else 0)) ∧ h = h') h [] 0 0 9 #[.val (.ref ba), .val (.ref bd), .val (.int (Int32.ofNat i))] []
  | 0, i, hn, ht => by
    obtain rfl : i = cs.length := by omega
    refine go_iloadN (v := (Int32.ofNat cs.length)) (q := 10) d9_9 rfl rfl ?_
    refine go_aloadN (v := .ref ba) (q := 11) d9_10 rfl rfl rfl ?_
    refine go_arraylength (z := (Int32.ofNat cs.length)) (q := 12) A d9_11 rfl ?_
    refine go_icY (q := 32) d9_12 (show ¬ Int32.ofNat cs.length < Int32.ofNat cs.length from Int32.lt_irrefl) (by decide) (by decide) ?_
    refine go_iconst (x := (1 : Int32)) (q := 33) d9_32 rfl rfl ?_
    exact go_ireturn H (G := []) (t := .boolean) rfl (by decide) rfl d9_33 (by decide) (by decide) (fun _ q => nomatch q) ⟨by rw [if_pos (by rw [List.take_length, hlen, List.take_length] at ht; exact ht)], rfl⟩
  | n + 1, i, hn, ht => by
    have hi : i < cs.length := by omega
    have hi2 : i < ds.length := by omega
    refine go_iloadN (v := (Int32.ofNat i)) (q := 10) d9_9 rfl rfl ?_
    refine go_aloadN (v := .ref ba) (q := 11) d9_10 rfl rfl rfl ?_
    refine go_arraylength (z := (Int32.ofNat cs.length)) (q := 12) A d9_11 rfl ?_
    refine go_icN (q := 15) d9_12 ((lt_ofNat (by have := hc.1; omega) (by have := hc.1; omega)).mpr hi) rfl ?_
    refine go_aloadN (v := .ref ba) (q := 16) d9_15 rfl rfl rfl ?_
    refine go_iloadN (v := (Int32.ofNat i)) (q := 17) d9_16 rfl rfl ?_
    refine go_baload (v := .int (cs[i].toInt8.toInt32)) (q := 18) A ⟨nn_ofNat (by have := hc.1; omega), (lt_ofNat (by have := hc.1; have := hd.1; omega) (by have := hc.1; have := hd.1; omega)).mpr hi⟩ (by rw [cl_ofNat (by have := hc.1; omega)]; exact bts_at hi) d9_17 rfl ?_
    refine go_aloadN (v := .ref bd) (q := 19) d9_18 rfl rfl rfl ?_
    refine go_iloadN (v := (Int32.ofNat i)) (q := 20) d9_19 rfl rfl ?_
    refine go_baload (v := .int (ds[i].toInt8.toInt32)) (q := 21) B ⟨nn_ofNat (by have := hc.1; omega), (lt_ofNat (by have := hc.1; have := hd.1; omega) (by have := hc.1; have := hd.1; omega)).mpr hi2⟩ (by rw [cl_ofNat (by have := hc.1; omega)]; exact bts_at hi2) d9_20 rfl ?_
    by_cases q : cs[i].toInt8.toInt32 = ds[i].toInt8.toInt32
    · refine go_icY (q := 26) d9_21 q (by decide) (by decide) ?_
      refine go_iinc (x := (Int32.ofNat i)) (y := (Int32.ofNat (i + 1))) (L' := #[.val (.ref ba), .val (.ref bd), .val (.int (Int32.ofNat (i + 1)))]) (q := 29) d9_26 rfl add1_ofNat rfl rfl ?_
      refine go_goto (q := 9) d9_29 (by decide) (by decide) ?_
      exact lp_l1eq H A B hc hd hlen n (i + 1) (by omega) (by rw [List.take_succ_eq_append_getElem hi, List.take_succ_eq_append_getElem hi2, ht, b_inj (hc.2 _ (List.getElem_mem hi)) (hd.2 _ (List.getElem_mem hi2)) q])
    · refine go_icN (q := 24) d9_21 q rfl ?_
      refine go_iconst (x := (0 : Int32)) (q := 25) d9_24 rfl rfl ?_
      exact go_ireturn H (G := []) (t := .boolean) rfl (by decide) rfl d9_25 (by decide) (by decide) (fun _ q => nomatch q) ⟨by rw [if_neg (fun e => q (by subst e; rfl))], rfl⟩
set_option maxRecDepth 65536 in
set_option maxHeartbeats 4000000 in
theorem rm_l1eq {l : Launch} {Z : State} {a0 : Array Value} (H : Wd Z a0) {h : Heap} {ba bd : Addr} {kb kd : ClassId} {cs ds : List Int32} (A : Arv Z h ba kb .byte (Int32.ofNat cs.length) (bts cs) (.int 0)) (B : Arv Z h bd kd .byte (Int32.ofNat ds.length) (bts ds) (.int 0)) (hc : Lat cs) (hd : Lat ds) : Met l Z (⟨"java/lang/StringLatin1", "equals", "([B[B)Z"⟩ : MethodName) jdk_43_method_13_code 3 (some .boolean) ({ frames := 0, cells := 0, slots := 0, locals := 0 } : Room) h [] #[.ref ba, .ref bd] (fun v h' G => v = some (.int (if cs = ds then 1 else 0)) ∧ h = h') := by
  refine Met.mk (L := #[.val (.ref ba), .val (.ref bd), .unset]) (by decide +kernel) (fun m => by first | (simp [entryFrame, mkF, argsToLocals, Value.category]; done) | rfl) (fun K => ?_)
  show Go _ _ K "java/lang/StringLatin1" "equals" _ _ _ _ _ _ _ _ _ 0 _ _
  refine go_aloadN (v := .ref ba) (q := 1) d9_0 rfl rfl rfl ?_
  refine go_arraylength (z := (Int32.ofNat cs.length)) (q := 2) A d9_1 rfl ?_
  refine go_aloadN (v := .ref bd) (q := 3) d9_2 rfl rfl rfl ?_
  refine go_arraylength (z := (Int32.ofNat ds.length)) (q := 4) B d9_3 rfl ?_
  by_cases hlen : cs.length = ds.length
  · refine go_icN (q := 7) d9_4 (show Int32.ofNat cs.length = Int32.ofNat ds.length by rw [hlen]) rfl ?_
    refine go_iconst (x := (0 : Int32)) (q := 8) d9_7 rfl rfl ?_
    refine go_istoreN (L' := #[.val (.ref ba), .val (.ref bd), .val (.int (0 : Int32))]) (q := 9) d9_8 rfl rfl ?_
    exact lp_l1eq H A B hc hd hlen cs.length 0 (by omega) (by simp)
  · refine go_icY (q := 34) d9_4 (show ¬ _ = _ from fun e => hlen ((eq_ofNat (by have := hc.1; omega) (by have := hd.1; omega)).mp e)) (by decide) (by decide) ?_
    refine go_iconst (x := (0 : Int32)) (q := 35) d9_34 rfl rfl ?_
    exact go_ireturn H (G := []) (t := .boolean) rfl (by decide) rfl d9_35 (by decide) (by decide) (fun _ q => nomatch q) ⟨by rw [if_neg (fun e => hlen (by rw [e]))], rfl⟩
set_option maxRecDepth 65536 in
set_option maxHeartbeats 4000000 in
theorem rm_eq {l : Launch} {Z : State} {a0 : Array Value} (H : Wd Z a0) {h : Heap} {F F2 : List Addr} {a d : Addr} {cs ds : List Int32} (S : Str Z h F a cs) (S2 : Str Z h F2 d ds) : Met l Z (⟨"java/lang/String", "equals", "(Ljava/lang/Object;)Z"⟩ : MethodName) jdk_42_method_66_code 3 (some .boolean) ({ frames := 1, cells := 0, slots := 0, locals := 14 } : Room) h [] #[.ref a, .ref d] (fun v h' G => v = some (.int (if cs = ds then 1 else 0)) ∧ h = h') := by
  refine Met.mk (L := #[.val (.ref a), .val (.ref d), .unset]) (by decide +kernel) (fun m => by first | (simp [entryFrame, mkF, argsToLocals, Value.category]; done) | rfl) (fun K => ?_)
  show Go _ _ K "java/lang/String" "equals" _ _ _ _ _ _ _ _ _ 0 _ _
  obtain ⟨cz, Sz, nz⟩ := H.2.2.2.1
  have I2 := S2.ins
  have hsm : a = d → cs = ds := fun e => by subst e; exact S.same S2
  obtain ⟨E, C, ha, hl, bb, k, hb, Vv, A⟩ := S
  obtain ⟨E2, C2, ha2, hl2, bb2, k2, hb2, Vv2, A2⟩ := S2
  refine go_aloadN (v := .ref a) (q := 1) d8_0 rfl rfl rfl ?_
  refine go_aloadN (v := .ref d) (q := 2) d8_1 rfl rfl rfl ?_
  by_cases e : a = d
  · refine go_acN (q := 5) d8_2 rfl rfl (by simp [XT.acmp, e]) rfl ?_
    refine go_iconst (x := (1 : Int32)) (q := 6) d8_5 rfl rfl ?_
    exact go_ireturn H (G := []) (t := .boolean) rfl (by decide) rfl d8_6 (by decide) (by decide) (fun _ q => nomatch q) ⟨by rw [if_pos (hsm e)], rfl⟩
  · refine go_acY (q := 7) d8_2 rfl rfl (by simp [XT.acmp, e]) (by decide) (by decide) ?_
    refine go_aloadN (v := .ref d) (q := 8) d8_7 rfl rfl rfl ?_
    refine go_instY (q := 11) (w_45 H) I2 d8_8 rfl ?_
    refine go_ifN (q := 14) d8_11 (by decide) rfl ?_
    refine go_aloadN (v := .ref d) (q := 15) d8_14 rfl rfl rfl ?_
    refine go_checkcast (q := 18) (w_45 H) I2 d8_15 rfl ?_
    refine go_astoreN (L' := #[.val (.ref a), .val (.ref d), .val (.ref d)]) (q := 19) d8_18 rfl rfl rfl ?_
    refine go_getstatic (v := .int cz) (q := 22) (w_18 H) Via.refl Sz d8_19 rfl ?_
    refine go_ifN (q := 25) d8_22 nz rfl ?_
    refine go_aloadN (v := .ref a) (q := 26) d8_25 rfl rfl rfl ?_
    refine go_getfield (v := .int 0) (q := 29) (w_30 H) Via.refl C d8_26 rfl ?_
    refine go_aloadN (v := .ref d) (q := 30) d8_29 rfl rfl rfl ?_
    refine go_getfield (v := .int 0) (q := 33) (w_30 H) Via.refl C2 d8_30 rfl ?_
    refine go_icN (q := 36) d8_33 rfl rfl ?_
    refine go_aloadN (v := .ref a) (q := 37) d8_36 rfl rfl rfl ?_
    refine go_getfield (v := .ref bb) (q := 40) (w_32 H) Via.refl Vv d8_37 rfl ?_
    refine go_aloadN (v := .ref d) (q := 41) d8_40 rfl rfl rfl ?_
    refine go_getfield (v := .ref bb2) (q := 44) (w_32 H) Via.refl Vv2 d8_41 rfl ?_
    refine go_static (c' := 0) (s' := 0) (q := 47) (S := []) (argsL := [.ref bb, .ref bb2]) H (w_46 H) (w_47 H) (w_48 H) (w_49 H) (by decide) (rm_l1eq H A A2 hl hl2) rfl rfl (lenOf pd_13 rfl) (fun _ q => nomatch q) rfl (by decide) (Nat.le_of_ble_eq_true rfl) rfl rfl (by decide) (by decide) d8_44 rfl ?_
    rintro _ _ G - ⟨rfl, rfl⟩
    refine nx_ (v := none) ?_
    show Go _ _ _ _ _ _ _ _ _ _ _ _ _ _ 47 #[.val (.ref a), .val (.ref d), .val (.ref d)] [.int (if cs = ds then 1 else 0)]
    by_cases f : cs = ds
    · rw [if_pos f]
      show Go _ _ _ _ _ _ _ _ _ _ _ _ _ _ 47 #[.val (.ref a), .val (.ref d), .val (.ref d)] [.int 1]
      refine go_ifN (q := 50) d8_47 (by decide) rfl ?_
      refine go_iconst (x := (1 : Int32)) (q := 51) d8_50 rfl rfl ?_
      refine go_goto (q := 55) d8_51 (by decide) (by decide) ?_
      exact go_ireturn H (G := []) (t := .boolean) rfl (by decide) rfl d8_55 (by decide) (by decide) (fun _ q => nomatch q) ⟨by first | rfl | rw [if_pos f], rfl⟩
    · rw [if_neg f]
      show Go _ _ _ _ _ _ _ _ _ _ _ _ _ _ 47 #[.val (.ref a), .val (.ref d), .val (.ref d)] [.int 0]
      refine go_ifY (q := 54) d8_47 (by decide) (by decide) (by decide) ?_
      refine go_iconst (x := (0 : Int32)) (q := 55) d8_54 rfl rfl ?_
      exact go_ireturn H (G := []) (t := .boolean) rfl (by decide) rfl d8_55 (by decide) (by decide) (fun _ q => nomatch q) ⟨by first | rfl | rw [if_neg f], rfl⟩
set_option maxRecDepth 65536 in
set_option maxHeartbeats 4000000 in
theorem rm_rn1 {l : Launch} {Z : State} {a0 : Array Value} (H : Wd Z a0) {h : Heap} {a : Addr}  : Met l Z (⟨"java/util/Objects", "requireNonNull", "(Ljava/lang/Object;)Ljava/lang/Object;"⟩ : MethodName) jdk_31_method_10_code 1 (some (.object "java/lang/Object")) ({ frames := 0, cells := 0, slots := 0, locals := 0 } : Room) h [] #[.ref a] (fun v h' G => v = some (.ref a) ∧ h = h') := by
  refine Met.mk (L := #[.val (.ref a)]) (by decide +kernel) (fun m => by first | (simp [entryFrame, mkF, argsToLocals, Value.category]; done) | rfl) (fun K => ?_)
  show Go _ _ K "java/util/Objects" "requireNonNull" _ _ _ _ _ _ _ _ _ 0 _ _
  refine go_aloadN (v := .ref a) (q := 1) d13_0 rfl rfl rfl ?_
  refine go_nnY (q := 12) d13_1 (by decide) (by decide) ?_
  refine go_aloadN (v := .ref a) (q := 13) d13_12 rfl rfl rfl ?_
  exact go_areturn H (G := []) (t := (.object "java/lang/Object")) rfl rfl rfl d13_13 (by decide) (by decide) (fun _ q => nomatch q) ⟨rfl, rfl⟩
abbrev GD (l : Launch) (Z : State) (K : Cx) (h0 : Heap) (F0 : List Addr) (h : Heap) (F : List Addr) (c s pc : Nat) (L : Array Slot) (S : List Value) : Prop := Go l Z K "com/example/emendate/emendate/model/CapabilityByNamePinLaw" "draw" method_4_code 8 (some (.object "java/lang/String")) ({ frames := 4, cells := 10, slots := 100, locals := 72 } : Room) (fun v h' G => ∃ w, v = some w ∧ Keep h0 h' [] ∧ NS Z h' F0 w) h F c s pc L S
set_option maxRecDepth 65536 in
set_option maxHeartbeats 8000000 in
theorem j598 {l : Launch} {Z : State} {a0 : Array Value} (H : Wd Z a0) {K : Cx} {h h0 : Heap} {F0 : List Addr} {yf yg yl : Addr} {kf kg kl : ClassId} {cf cg cl : List Int32} {n v p c d : Int32} (Ka : Keep h0 h []) (fy : h0.size ≤ yf) (hFl : ∀ x ∈ F0, x < h0.size) (hc : ¬ c < 0 ∧ ¬ 255 < c) (Wf : Arv Z h yf kf .char (Int32.ofNat cf.length) (ints cf) (.int 0)) (Lf : Lat cf) (nf : ¬ cf.length = 0) (bf : cf.length ≤ 16) (Wg : Arv Z h yg kg .char (Int32.ofNat cg.length) (ints cg) (.int 0)) (Lg : Lat cg) (ng : ¬ cg.length = 0) (bg : cg.length ≤ 16) (Wl : Arv Z h yl kl .char (Int32.ofNat cl.length) (ints cl) (.int 0)) (Ll : Lat cl) (nl : ¬ cl.length = 0) (bl : cl.length ≤ 16) : GD l Z K h0 F0 h (yf :: F0) 3 42 598 #[.val (.int n), .val (.int v), .val (.int p), .val (.int c), .val (.int d), .val (.ref yf), .val (.ref yg), .val (.ref yl)] [] := by
  refine go_iloadN (v := v) (q := 599) d0_598 rfl rfl ?_
  refine go_iconst (x := (1 : Int32)) (q := 600) d0_599 rfl rfl ?_
  by_cases q1 : v = 1
  · refine go_icN (q := 603) d0_600 q1 rfl ?_
    refine go_new (c' := 4) (s' := 46) (q := 606) (w_5 H) (w_6 H) (w_7 H) d0_603 rfl rfl rfl (by decide) (by decide) ?_
    intro hz1 xz gz1 Ez1 Az1 Dz1
    have f_Ka_xz : h0.size ≤ xz := by rw [gz1]; exact Ka.1
    have Ka : Keep h0 hz1 [] := Ka.ext Ez1
    have Wg := Wg.ext Ez1
    have Cz1 : Fld Z hz1 xz ST "coder" "B" (.int 0) := Dz1 (Or.inr (w_31 H)) (ty := .byte) (by decide)
    have Vz1 : Fld Z hz1 xz ST "value" "[B" .null := Dz1 (Or.inr (w_33 H)) (ty := .array .byte) (by decide)
    have Kbz : Keep hz1 hz1 [] := Keep.refl _ _
    refine go_dup (q := 607) d0_606 rfl rfl ?_
    refine go_aload (v := .ref yg) (q := 609) d0_607 rfl rfl rfl ?_
    have nFz : xz ∉ F0 := fun q => absurd (hFl xz q) (Nat.not_lt.mpr f_Ka_xz)
    refine go_special (c' := 8) (s' := 62) (q := 612) (S := [.ref xz]) (argsL := [.ref yg]) H rfl (w_8 H) (w_9 H) (w_7 H) (w_10 H) (by decide) (rm_new1 H (cs := cg) (F := F0) (Az1.keep Kbz) (Cz1.keep Kbz nin0) (Vz1.keep Kbz nin0) Wg Lg bg nFz ng) rfl rfl (lenOf pd_14 rfl) (by intro z hz; rcases List.mem_cons.mp hz with rfl | hz <;> simp_all) rfl (by decide) (Nat.le_of_ble_eq_true rfl) rfl rfl (by decide) (by decide) d0_609 rfl ?_
    rintro _ hzz G - ⟨rfl, Kcz, Sz⟩
    refine nx_ (v := none) ?_
    have Ka : Keep h0 hzz [] := kfresh Ka Kcz f_Ka_xz
    show Go _ _ _ _ _ _ _ _ _ _ _ _ _ _ 612 #[.val (.int n), .val (.int v), .val (.int p), .val (.int c), .val (.int d), .val (.ref yf), .val (.ref yg), .val (.ref yl)] [.ref xz]
    exact go_areturn H (G := []) (t := (.object "java/lang/String")) rfl rfl rfl d0_612 (by decide) (by decide) (fun _ q => nomatch q) ⟨_, rfl, Ka, Or.inr ⟨xz, _, rfl, Sz⟩⟩
  · refine go_icY (q := 613) d0_600 q1 (by decide) (by decide) ?_
    refine go_iloadN (v := v) (q := 614) d0_613 rfl rfl ?_
    refine go_iconst (x := (2 : Int32)) (q := 615) d0_614 rfl rfl ?_
    by_cases q2 : v = 2
    · refine go_icN (q := 618) d0_615 q2 rfl ?_
      refine go_new (c' := 4) (s' := 46) (q := 621) (w_5 H) (w_6 H) (w_7 H) d0_618 rfl rfl rfl (by decide) (by decide) ?_
      intro hz1 xz gz1 Ez1 Az1 Dz1
      have f_Ka_xz : h0.size ≤ xz := by rw [gz1]; exact Ka.1
      have Ka : Keep h0 hz1 [] := Ka.ext Ez1
      have Wl := Wl.ext Ez1
      have Cz1 : Fld Z hz1 xz ST "coder" "B" (.int 0) := Dz1 (Or.inr (w_31 H)) (ty := .byte) (by decide)
      have Vz1 : Fld Z hz1 xz ST "value" "[B" .null := Dz1 (Or.inr (w_33 H)) (ty := .array .byte) (by decide)
      have Kbz : Keep hz1 hz1 [] := Keep.refl _ _
      refine go_dup (q := 622) d0_621 rfl rfl ?_
      refine go_aload (v := .ref yl) (q := 624) d0_622 rfl rfl rfl ?_
      have nFz : xz ∉ F0 := fun q => absurd (hFl xz q) (Nat.not_lt.mpr f_Ka_xz)
      refine go_special (c' := 8) (s' := 62) (q := 627) (S := [.ref xz]) (argsL := [.ref yl]) H rfl (w_8 H) (w_9 H) (w_7 H) (w_10 H) (by decide) (rm_new1 H (cs := cl) (F := F0) (Az1.keep Kbz) (Cz1.keep Kbz nin0) (Vz1.keep Kbz nin0) Wl Ll bl nFz nl) rfl rfl (lenOf pd_14 rfl) (by intro z hz; rcases List.mem_cons.mp hz with rfl | hz <;> simp_all) rfl (by decide) (Nat.le_of_ble_eq_true rfl) rfl rfl (by decide) (by decide) d0_624 rfl ?_
      rintro _ hzz G - ⟨rfl, Kcz, Sz⟩
      refine nx_ (v := none) ?_
      have Ka : Keep h0 hzz [] := kfresh Ka Kcz f_Ka_xz
      show Go _ _ _ _ _ _ _ _ _ _ _ _ _ _ 627 #[.val (.int n), .val (.int v), .val (.int p), .val (.int c), .val (.int d), .val (.ref yf), .val (.ref yg), .val (.ref yl)] [.ref xz]
      exact go_areturn H (G := []) (t := (.object "java/lang/String")) rfl rfl rfl d0_627 (by decide) (by decide) (fun _ q => nomatch q) ⟨_, rfl, Ka, Or.inr ⟨xz, _, rfl, Sz⟩⟩
    · refine go_icY (q := 628) d0_615 q2 (by decide) (by decide) ?_
      refine go_iloadN (v := v) (q := 629) d0_628 rfl rfl ?_
      refine go_iconst (x := (3 : Int32)) (q := 630) d0_629 rfl rfl ?_
      by_cases q3 : v = 3
      · refine go_icN (q := 633) d0_630 q3 rfl ?_
        refine go_aload (v := .ref yf) (q := 635) d0_633 rfl rfl rfl ?_
        refine go_iloadN (v := p) (q := 636) d0_635 rfl rfl ?_
        refine go_ldcInt (v := (2147483647 : Int32)) (q := 638) (w_117 H) d0_636 rfl ?_
        refine go_iand (r := p &&& (2147483647 : Int32)) (q := 639) d0_638 rfl rfl ?_
        refine go_aload (v := .ref yf) (q := 641) d0_639 rfl rfl rfl ?_
        refine go_arraylength (z := (Int32.ofNat cf.length)) (q := 642) Wf d0_641 rfl ?_
        have hz : ¬ Int32.ofNat cf.length = 0 := fun e => nf ((eq_ofNat (n := 0) (by omega) (by decide)).mp e)
        have hm := c_and p 2147483647 (by decide)
        have hr := (c_iremV (p &&& 2147483647) (Int32.ofNat cf.length)).1 hm.1 (by rw [toInt_ofNat (by omega)]; omega)
        refine go_irem (r := (p &&& (2147483647 : Int32)) % (Int32.ofNat cf.length)) (q := 643) d0_642 hz rfl rfl ?_
        obtain ⟨j, hj⟩ : ∃ j, j = (p &&& 2147483647) % Int32.ofNat cf.length := ⟨_, rfl⟩
        rw [← hj] at hr
        rw [← hj]
        show Go _ _ _ _ _ _ _ _ _ _ _ _ _ _ 643 #[.val (.int n), .val (.int v), .val (.int p), .val (.int c), .val (.int d), .val (.ref yf), .val (.ref yg), .val (.ref yl)] [.int j, .ref yf]
        clear hj
        rw [toInt_ofNat (by omega)] at hr
        have j0 : ¬ j < 0 := by rw [Int32.lt_iff_toInt_lt, show (0 : Int32).toInt = 0 from rfl]; omega
        have j1 : j < Int32.ofNat cf.length := by rw [Int32.lt_iff_toInt_lt, toInt_ofNat (by omega)]; omega
        have j2 : j.toNatClampNeg < cf.length := by simp only [Int32.toNatClampNeg]; omega
        refine go_iloadN (v := c) (q := 644) d0_643 rfl rfl ?_
        refine go_castore (i := j.toNatClampNeg) (y := c) (q := 645) Wf ⟨j0, j1⟩ rfl (by simp [ints]; exact j2) (by simp) (nar_char hc.1 hc.2) d0_644 rfl ?_
        intro hs Ks zs_ Ws
        have Ka : Keep h0 hs [] := kfresh Ka Ks fy
        have Wf : Arv Z hs yf kf .char (Int32.ofNat (cf.set j.toNatClampNeg c).length) (ints (cf.set j.toNatClampNeg c)) (.int 0) := by rw [List.length_set, ints, List.map_set]; exact Ws
        refine go_new (c' := 4) (s' := 46) (q := 648) (w_5 H) (w_6 H) (w_7 H) d0_645 rfl rfl rfl (by decide) (by decide) ?_
        intro hz1 xz gz1 Ez1 Az1 Dz1
        have f_Ka_xz : h0.size ≤ xz := by rw [gz1]; exact Ka.1
        have Ka : Keep h0 hz1 [] := Ka.ext Ez1
        have Wf := Wf.ext Ez1
        have Cz1 : Fld Z hz1 xz ST "coder" "B" (.int 0) := Dz1 (Or.inr (w_31 H)) (ty := .byte) (by decide)
        have Vz1 : Fld Z hz1 xz ST "value" "[B" .null := Dz1 (Or.inr (w_33 H)) (ty := .array .byte) (by decide)
        have Kbz : Keep hz1 hz1 [] := Keep.refl _ _
        refine go_dup (q := 649) d0_648 rfl rfl ?_
        refine go_aload (v := .ref yf) (q := 651) d0_649 rfl rfl rfl ?_
        have nFz : xz ∉ F0 := fun q => absurd (hFl xz q) (Nat.not_lt.mpr f_Ka_xz)
        refine go_special (c' := 8) (s' := 62) (q := 654) (S := [.ref xz]) (argsL := [.ref yf]) H rfl (w_8 H) (w_9 H) (w_7 H) (w_10 H) (by decide) (rm_new1 H (cs := (cf.set j.toNatClampNeg c)) (F := F0) (Az1.keep Kbz) (Cz1.keep Kbz nin0) (Vz1.keep Kbz nin0) Wf (lat_set Lf hc) (by rw [List.length_set]; exact bf) nFz (by rw [List.length_set]; exact nf)) rfl rfl (lenOf pd_14 rfl) (by intro z hz; rcases List.mem_cons.mp hz with rfl | hz <;> simp_all) rfl (by decide) (Nat.le_of_ble_eq_true rfl) rfl rfl (by decide) (by decide) d0_651 rfl ?_
        rintro _ hzz G - ⟨rfl, Kcz, Sz⟩
        refine nx_ (v := none) ?_
        have Ka : Keep h0 hzz [] := kfresh Ka Kcz f_Ka_xz
        show Go _ _ _ _ _ _ _ _ _ _ _ _ _ _ 654 #[.val (.int n), .val (.int v), .val (.int p), .val (.int c), .val (.int d), .val (.ref yf), .val (.ref yg), .val (.ref yl)] [.ref xz]
        exact go_areturn H (G := []) (t := (.object "java/lang/String")) rfl rfl rfl d0_654 (by decide) (by decide) (fun _ q => nomatch q) ⟨_, rfl, Ka, Or.inr ⟨xz, _, rfl, Sz⟩⟩
      · refine go_icY (q := 645) d0_630 q3 (by decide) (by decide) ?_
        refine go_new (c' := 4) (s' := 46) (q := 648) (w_5 H) (w_6 H) (w_7 H) d0_645 rfl rfl rfl (by decide) (by decide) ?_
        intro hz1 xz gz1 Ez1 Az1 Dz1
        have f_Ka_xz : h0.size ≤ xz := by rw [gz1]; exact Ka.1
        have Ka : Keep h0 hz1 [] := Ka.ext Ez1
        have Wf := Wf.ext Ez1
        have Cz1 : Fld Z hz1 xz ST "coder" "B" (.int 0) := Dz1 (Or.inr (w_31 H)) (ty := .byte) (by decide)
        have Vz1 : Fld Z hz1 xz ST "value" "[B" .null := Dz1 (Or.inr (w_33 H)) (ty := .array .byte) (by decide)
        have Kbz : Keep hz1 hz1 [] := Keep.refl _ _
        refine go_dup (q := 649) d0_648 rfl rfl ?_
        refine go_aload (v := .ref yf) (q := 651) d0_649 rfl rfl rfl ?_
        have nFz : xz ∉ F0 := fun q => absurd (hFl xz q) (Nat.not_lt.mpr f_Ka_xz)
        refine go_special (c' := 8) (s' := 62) (q := 654) (S := [.ref xz]) (argsL := [.ref yf]) H rfl (w_8 H) (w_9 H) (w_7 H) (w_10 H) (by decide) (rm_new1 H (cs := cf) (F := F0) (Az1.keep Kbz) (Cz1.keep Kbz nin0) (Vz1.keep Kbz nin0) Wf Lf bf nFz nf) rfl rfl (lenOf pd_14 rfl) (by intro z hz; rcases List.mem_cons.mp hz with rfl | hz <;> simp_all) rfl (by decide) (Nat.le_of_ble_eq_true rfl) rfl rfl (by decide) (by decide) d0_651 rfl ?_
        rintro _ hzz G - ⟨rfl, Kcz, Sz⟩
        refine nx_ (v := none) ?_
        have Ka : Keep h0 hzz [] := kfresh Ka Kcz f_Ka_xz
        show Go _ _ _ _ _ _ _ _ _ _ _ _ _ _ 654 #[.val (.int n), .val (.int v), .val (.int p), .val (.int c), .val (.int d), .val (.ref yf), .val (.ref yg), .val (.ref yl)] [.ref xz]
        exact go_areturn H (G := []) (t := (.object "java/lang/String")) rfl rfl rfl d0_654 (by decide) (by decide) (fun _ q => nomatch q) ⟨_, rfl, Ka, Or.inr ⟨xz, _, rfl, Sz⟩⟩
set_option maxRecDepth 65536 in
set_option maxHeartbeats 4000000 in
theorem rm_draw {l : Launch} {Z : State} {a0 : Array Value} (H : Wd Z a0) {h : Heap} {F : List Addr} {n v p c d : Int32} (hc : ¬ c < 0 ∧ ¬ 255 < c) (hd : ¬ d < 0 ∧ ¬ 255 < d) (hFl : ∀ x ∈ F, x < h.size) : Met l Z (⟨"com/example/emendate/emendate/model/CapabilityByNamePinLaw", "draw", "(IIICC)Ljava/lang/String;"⟩ : MethodName) method_4_code 8 (some (.object "java/lang/String")) ({ frames := 4, cells := 10, slots := 100, locals := 72 } : Room) h F #[.int n, .int v, .int p, .int c, .int d] (fun v h' G => ∃ w, v = some w ∧ Keep h h' [] ∧ NS Z h' F w) := by
  refine Met.mk (L := #[.val (.int n), .val (.int v), .val (.int p), .val (.int c), .val (.int d), .unset, .unset, .unset]) (plainFor_of_name (by first | (simp [plainName, overriddenIn]; done) | decide +kernel)) (fun m => by first | (simp [entryFrame, mkF, argsToLocals, Value.category]; done) | rfl) (fun K => ?_)
  show Go _ _ K "com/example/emendate/emendate/model/CapabilityByNamePinLaw" "draw" _ _ _ _ _ _ _ _ _ 0 _ _
  have Ka : Keep h h [] := Keep.refl _ _
  refine go_iloadN (v := n) (q := 1) d0_0 rfl rfl ?_
  refine go_iconst (x := (3 : Int32)) (q := 2) d0_1 rfl rfl ?_
  by_cases q3 : n = 3
  · refine go_icN (q := 5) d0_2 q3 rfl ?_
    refine go_null (q := 6) d0_5 rfl ?_
    exact go_areturn H (G := []) (t := (.object "java/lang/String")) rfl rfl rfl d0_6 (by decide) (by decide) (fun _ q => nomatch q) ⟨_, rfl, Ka, Or.inl rfl⟩
  refine go_icY (q := 7) d0_2 q3 (by decide) (by decide) ?_
  refine go_iloadN (v := n) (q := 8) d0_7 rfl rfl ?_
  refine go_iconst (x := (4 : Int32)) (q := 9) d0_8 rfl rfl ?_
  by_cases q4 : n = 4
  · refine go_icN (q := 12) d0_9 q4 rfl ?_
    refine go_lit (cs := []) (n := 0) (c' := 2) (s' := 4) (q := 14) H (w_110 H) (by decide) (by decide) (by decide) (by decide) (by decide) d0_12 (by decide) (by decide) rfl rfl rfl (by decide) (by decide) ?_
    intro h1 a1 E1 S1
    have Ka : Keep h h1 [] := Ka.ext E1
    exact go_areturn H (G := []) (t := (.object "java/lang/String")) rfl rfl rfl d0_14 (by decide) (by decide) (fun _ q => nomatch q) ⟨_, rfl, Ka, Or.inr ⟨a1, _, rfl, S1⟩⟩
  refine go_icY (q := 15) d0_9 q4 (by decide) (by decide) ?_
  refine go_iloadN (v := n) (q := 16) d0_15 rfl rfl ?_
  refine go_iconst (x := (5 : Int32)) (q := 17) d0_16 rfl rfl ?_
  by_cases q5 : n = 5
  · refine go_icN (q := 20) d0_17 q5 rfl ?_
    refine go_iloadN (v := c) (q := 21) d0_20 rfl rfl ?_
    refine go_static (c' := 2) (s' := 5) (q := 24) (S := []) (argsL := [.int c]) H (w_119 H) (w_120 H) (w_7 H) (w_121 H) (by decide) (rm_vofC H (F := F) hc hFl) rfl rfl (lenOf pd_15 rfl) (fun _ q => q) rfl (by decide) (Nat.le_of_ble_eq_true rfl) rfl rfl (by decide) (by decide) d0_21 rfl ?_
    rintro _ hz G - ⟨a1, rfl, Kz, S1⟩
    refine nx_ (v := none) ?_
    have Ka : Keep h hz [] := Ka.trans Kz (fun _ q => nomatch q)
    show Go _ _ _ _ _ _ _ _ _ _ _ _ _ _ 24 #[.val (.int n), .val (.int v), .val (.int p), .val (.int c), .val (.int d), .unset, .unset, .unset] [.ref a1]
    exact go_areturn H (G := []) (t := (.object "java/lang/String")) rfl rfl rfl d0_24 (by decide) (by decide) (fun _ q => nomatch q) ⟨_, rfl, Ka, Or.inr ⟨a1, _, rfl, S1⟩⟩
  refine go_icY (q := 25) d0_17 q5 (by decide) (by decide) ?_
  refine go_iloadN (v := n) (q := 26) d0_25 rfl rfl ?_
  refine go_bipush (x := (6 : Int32)) (q := 28) d0_26 rfl rfl ?_
  by_cases q6 : n = 6
  · refine go_icN (q := 31) d0_28 q6 rfl ?_
    refine go_new (c' := 1) (s' := 4) (q := 34) (w_5 H) (w_6 H) (w_7 H) d0_31 rfl rfl rfl (by decide) (by decide) ?_
    intro h1 x g1 E1 A1 D1
    have f_Ka_x : h.size ≤ x := by rw [g1]; exact Ka.1
    have Ka : Keep h h1 [] := Ka.ext E1
    have C1 : Fld Z h1 x ST "coder" "B" (.int 0) := D1 (Or.inr (w_31 H)) (ty := .byte) (by decide)
    have V1 : Fld Z h1 x ST "value" "[B" .null := D1 (Or.inr (w_33 H)) (ty := .array .byte) (by decide)
    have Kb : Keep h1 h1 [] := Keep.refl _ _
    refine go_dup (q := 35) d0_34 rfl rfl ?_
    refine go_iconst (x := (2 : Int32)) (q := 36) d0_35 rfl rfl ?_
    refine go_newarray (ty := .char) (dv := .int 0) (n := 2) (cap := 2) (ad := "[C") (c' := 2) (s' := 6) (q := 38) rfl rfl (by decide) (w_4 H) d0_36 (by decide) (by decide) (by decide) rfl rfl rfl rfl (by decide) (by decide) ?_
    intro h2 y k g2 E2 W2 X2
    have f_Ka_y : h.size ≤ y := by rw [g2]; exact Ka.1
    have f_Kb_y : h1.size ≤ y := by rw [g2]; exact Kb.1
    have Ka : Keep h h2 [] := Ka.ext E2
    have Kb : Keep h1 h2 [] := Kb.ext E2
    have W2 : Arv Z h2 y k .char (2 : Int32) [.int 0, .int 0] (.int 0) := W2
    refine go_dup (q := 39) d0_38 rfl rfl ?_
    refine go_iconst (x := (0 : Int32)) (q := 40) d0_39 rfl rfl ?_
    refine go_iloadN (v := c) (q := 41) d0_40 rfl rfl ?_
    refine go_castore (i := 0) (y := c) (q := 42) W2 (by decide) rfl (Nat.le_of_ble_eq_true rfl) (by simp) (nar_char (hc).1 (hc).2) d0_41 rfl ?_
    intro h3 K3 z3 W3
    have Ka : Keep h h3 [] := kfresh Ka K3 f_Ka_y
    have Kb : Keep h1 h3 [] := kfresh Kb K3 f_Kb_y
    have W3 : Arv Z h3 y k .char (2 : Int32) [.int c, .int 0] (.int 0) := W3
    refine go_dup (q := 43) d0_42 rfl rfl ?_
    refine go_iconst (x := (1 : Int32)) (q := 44) d0_43 rfl rfl ?_
    refine go_iload (v := d) (q := 46) d0_44 rfl rfl ?_
    refine go_castore (i := 1) (y := d) (q := 47) W3 (by decide) rfl (Nat.le_of_ble_eq_true rfl) (by simp) (nar_char (hd).1 (hd).2) d0_46 rfl ?_
    intro h4 K4 z4 W4
    have Ka : Keep h h4 [] := kfresh Ka K4 f_Ka_y
    have Kb : Keep h1 h4 [] := kfresh Kb K4 f_Kb_y
    have W4 : Arv Z h4 y k .char (2 : Int32) [.int c, .int d] (.int 0) := W4
    have Lt : Lat [c, d] := ⟨Nat.le_of_ble_eq_true rfl, (by intro c hc; simp only [List.mem_cons, List.not_mem_nil, or_false] at hc; rcases hc with rfl | rfl <;> first | exact hc | exact hd)⟩
    refine go_mine fun hM _ => ?_
    have nF : x ∉ F := fun q => absurd (hFl x q) (Nat.not_lt.mpr f_Ka_x)
    refine go_special (c' := 6) (s' := 22) (q := 50) (S := [.ref x]) (argsL := [.ref y]) H rfl (w_8 H) (w_9 H) (w_7 H) (w_10 H) (by decide) (rm_new1 H (cs := [c, d]) (F := F) (A1.keep Kb) (C1.keep Kb nin0) (V1.keep Kb nin0) W4 Lt (Nat.le_of_ble_eq_true rfl) nF (by simp)) rfl rfl (lenOf pd_14 rfl) (by intro z hz; simp only [List.mem_cons, List.not_mem_nil, or_false] at hz ⊢; first | exact hz | exact Or.inl hz | (rcases hz with hz | hz <;> simp [hz]; done) | (rcases hz with rfl | rfl <;> simp)) rfl (by decide) (Nat.le_of_ble_eq_true rfl) rfl rfl (by decide) (by decide) d0_47 rfl ?_
    rintro _ hz G - ⟨rfl, Kc, S⟩
    refine nx_ (v := none) ?_
    have Ka : Keep h hz [] := kfresh Ka Kc f_Ka_x
    show Go _ _ _ _ _ _ _ _ _ _ _ _ _ _ 50 #[.val (.int n), .val (.int v), .val (.int p), .val (.int c), .val (.int d), .unset, .unset, .unset] [.ref x]
    refine go_less (F' := F) (by intro y hy; simp [hy]) (Nat.le_refl _) (Nat.le_refl _) ?_
    exact go_areturn H (G := []) (t := (.object "java/lang/String")) rfl rfl rfl d0_50 (by decide) (by decide) (fun _ q => nomatch q) ⟨_, rfl, Ka, Or.inr ⟨x, _, rfl, S⟩⟩
  refine go_icY (q := 51) d0_28 q6 (by decide) (by decide) ?_
  refine go_iloadN (v := n) (q := 52) d0_51 rfl rfl ?_
  refine go_bipush (x := (7 : Int32)) (q := 54) d0_52 rfl rfl ?_
  by_cases q7 : n = 7
  · refine go_icN (q := 57) d0_54 q7 rfl ?_
    refine go_new (c' := 1) (s' := 4) (q := 60) (w_5 H) (w_6 H) (w_7 H) d0_57 rfl rfl rfl (by decide) (by decide) ?_
    intro h1 x g1 E1 A1 D1
    have f_Ka_x : h.size ≤ x := by rw [g1]; exact Ka.1
    have Ka : Keep h h1 [] := Ka.ext E1
    have C1 : Fld Z h1 x ST "coder" "B" (.int 0) := D1 (Or.inr (w_31 H)) (ty := .byte) (by decide)
    have V1 : Fld Z h1 x ST "value" "[B" .null := D1 (Or.inr (w_33 H)) (ty := .array .byte) (by decide)
    have Kb : Keep h1 h1 [] := Keep.refl _ _
    refine go_dup (q := 61) d0_60 rfl rfl ?_
    refine go_iconst (x := (3 : Int32)) (q := 62) d0_61 rfl rfl ?_
    refine go_newarray (ty := .char) (dv := .int 0) (n := 3) (cap := 3) (ad := "[C") (c' := 2) (s' := 7) (q := 64) rfl rfl (by decide) (w_4 H) d0_62 (by decide) (by decide) (by decide) rfl rfl rfl rfl (by decide) (by decide) ?_
    intro h2 y k g2 E2 W2 X2
    have f_Ka_y : h.size ≤ y := by rw [g2]; exact Ka.1
    have f_Kb_y : h1.size ≤ y := by rw [g2]; exact Kb.1
    have Ka : Keep h h2 [] := Ka.ext E2
    have Kb : Keep h1 h2 [] := Kb.ext E2
    have W2 : Arv Z h2 y k .char (3 : Int32) [.int 0, .int 0, .int 0] (.int 0) := W2
    refine go_dup (q := 65) d0_64 rfl rfl ?_
    refine go_iconst (x := (0 : Int32)) (q := 66) d0_65 rfl rfl ?_
    refine go_iloadN (v := c) (q := 67) d0_66 rfl rfl ?_
    refine go_castore (i := 0) (y := c) (q := 68) W2 (by decide) rfl (Nat.le_of_ble_eq_true rfl) (by simp) (nar_char (hc).1 (hc).2) d0_67 rfl ?_
    intro h3 K3 z3 W3
    have Ka : Keep h h3 [] := kfresh Ka K3 f_Ka_y
    have Kb : Keep h1 h3 [] := kfresh Kb K3 f_Kb_y
    have W3 : Arv Z h3 y k .char (3 : Int32) [.int c, .int 0, .int 0] (.int 0) := W3
    refine go_dup (q := 69) d0_68 rfl rfl ?_
    refine go_iconst (x := (1 : Int32)) (q := 70) d0_69 rfl rfl ?_
    refine go_iload (v := d) (q := 72) d0_70 rfl rfl ?_
    refine go_castore (i := 1) (y := d) (q := 73) W3 (by decide) rfl (Nat.le_of_ble_eq_true rfl) (by simp) (nar_char (hd).1 (hd).2) d0_72 rfl ?_
    intro h4 K4 z4 W4
    have Ka : Keep h h4 [] := kfresh Ka K4 f_Ka_y
    have Kb : Keep h1 h4 [] := kfresh Kb K4 f_Kb_y
    have W4 : Arv Z h4 y k .char (3 : Int32) [.int c, .int d, .int 0] (.int 0) := W4
    refine go_dup (q := 74) d0_73 rfl rfl ?_
    refine go_iconst (x := (2 : Int32)) (q := 75) d0_74 rfl rfl ?_
    refine go_iloadN (v := c) (q := 76) d0_75 rfl rfl ?_
    refine go_castore (i := 2) (y := c) (q := 77) W4 (by decide) rfl (Nat.le_of_ble_eq_true rfl) (by simp) (nar_char (hc).1 (hc).2) d0_76 rfl ?_
    intro h5 K5 z5 W5
    have Ka : Keep h h5 [] := kfresh Ka K5 f_Ka_y
    have Kb : Keep h1 h5 [] := kfresh Kb K5 f_Kb_y
    have W5 : Arv Z h5 y k .char (3 : Int32) [.int c, .int d, .int c] (.int 0) := W5
    have Lt : Lat [c, d, c] := ⟨Nat.le_of_ble_eq_true rfl, (by intro c hc; simp only [List.mem_cons, List.not_mem_nil, or_false] at hc; rcases hc with rfl | rfl | rfl <;> first | exact hc | exact hd | exact hc)⟩
    refine go_mine fun hM _ => ?_
    have nF : x ∉ F := fun q => absurd (hFl x q) (Nat.not_lt.mpr f_Ka_x)
    refine go_special (c' := 6) (s' := 23) (q := 80) (S := [.ref x]) (argsL := [.ref y]) H rfl (w_8 H) (w_9 H) (w_7 H) (w_10 H) (by decide) (rm_new1 H (cs := [c, d, c]) (F := F) (A1.keep Kb) (C1.keep Kb nin0) (V1.keep Kb nin0) W5 Lt (Nat.le_of_ble_eq_true rfl) nF (by simp)) rfl rfl (lenOf pd_14 rfl) (by intro z hz; simp only [List.mem_cons, List.not_mem_nil, or_false] at hz ⊢; first | exact hz | exact Or.inl hz | (rcases hz with hz | hz <;> simp [hz]; done) | (rcases hz with rfl | rfl <;> simp)) rfl (by decide) (Nat.le_of_ble_eq_true rfl) rfl rfl (by decide) (by decide) d0_77 rfl ?_
    rintro _ hz G - ⟨rfl, Kc, S⟩
    refine nx_ (v := none) ?_
    have Ka : Keep h hz [] := kfresh Ka Kc f_Ka_x
    show Go _ _ _ _ _ _ _ _ _ _ _ _ _ _ 80 #[.val (.int n), .val (.int v), .val (.int p), .val (.int c), .val (.int d), .unset, .unset, .unset] [.ref x]
    refine go_less (F' := F) (by intro y hy; simp [hy]) (Nat.le_refl _) (Nat.le_refl _) ?_
    exact go_areturn H (G := []) (t := (.object "java/lang/String")) rfl rfl rfl d0_80 (by decide) (by decide) (fun _ q => nomatch q) ⟨_, rfl, Ka, Or.inr ⟨x, _, rfl, S⟩⟩
  refine go_icY (q := 81) d0_54 q7 (by decide) (by decide) ?_
  refine go_iloadN (v := n) (q := 82) d0_81 rfl rfl ?_
  by_cases q0 : n = 0
  · refine go_ifN (q := 85) d0_82 q0 rfl ?_
    refine go_bipush (x := (10 : Int32)) (q := 87) d0_85 rfl rfl ?_
    refine go_newarray (ty := .char) (dv := .int 0) (n := 10) (cap := 10) (ad := "[C") (c' := 1) (s' := 10) (q := 89) rfl rfl (by decide) (w_4 H) d0_87 (by decide) (by decide) (by decide) rfl rfl rfl rfl (by decide) (by decide) ?_
    intro hf2 yf kf gf2 Ef2 Wf2 Xf2
    have f_Ka_yf : h.size ≤ yf := by rw [gf2]; exact Ka.1
    have Ka : Keep h hf2 [] := Ka.ext Ef2
    have Wf2 : Arv Z hf2 yf kf .char (10 : Int32) [.int 0, .int 0, .int 0, .int 0, .int 0, .int 0, .int 0, .int 0, .int 0, .int 0] (.int 0) := Wf2
    refine go_dup (q := 90) d0_89 rfl rfl ?_
    refine go_iconst (x := (0 : Int32)) (q := 91) d0_90 rfl rfl ?_
    refine go_bipush (x := (117 : Int32)) (q := 93) d0_91 rfl rfl ?_
    refine go_castore (i := 0) (y := (117 : Int32)) (q := 94) Wf2 (by decide) rfl (Nat.le_of_ble_eq_true rfl) (by simp) (nar_char ((by decide : ¬ (117 : Int32) < 0 ∧ ¬ 255 < (117 : Int32))).1 ((by decide : ¬ (117 : Int32) < 0 ∧ ¬ 255 < (117 : Int32))).2) d0_93 rfl ?_
    intro hf3 Kf3 zf3 Wf3
    have Ka : Keep h hf3 [] := kfresh Ka Kf3 f_Ka_yf
    have Wf3 : Arv Z hf3 yf kf .char (10 : Int32) [.int (117 : Int32), .int 0, .int 0, .int 0, .int 0, .int 0, .int 0, .int 0, .int 0, .int 0] (.int 0) := Wf3
    refine go_dup (q := 95) d0_94 rfl rfl ?_
    refine go_iconst (x := (1 : Int32)) (q := 96) d0_95 rfl rfl ?_
    refine go_bipush (x := (115 : Int32)) (q := 98) d0_96 rfl rfl ?_
    refine go_castore (i := 1) (y := (115 : Int32)) (q := 99) Wf3 (by decide) rfl (Nat.le_of_ble_eq_true rfl) (by simp) (nar_char ((by decide : ¬ (115 : Int32) < 0 ∧ ¬ 255 < (115 : Int32))).1 ((by decide : ¬ (115 : Int32) < 0 ∧ ¬ 255 < (115 : Int32))).2) d0_98 rfl ?_
    intro hf4 Kf4 zf4 Wf4
    have Ka : Keep h hf4 [] := kfresh Ka Kf4 f_Ka_yf
    have Wf4 : Arv Z hf4 yf kf .char (10 : Int32) [.int (117 : Int32), .int (115 : Int32), .int 0, .int 0, .int 0, .int 0, .int 0, .int 0, .int 0, .int 0] (.int 0) := Wf4
    refine go_dup (q := 100) d0_99 rfl rfl ?_
    refine go_iconst (x := (2 : Int32)) (q := 101) d0_100 rfl rfl ?_
    refine go_bipush (x := (101 : Int32)) (q := 103) d0_101 rfl rfl ?_
    refine go_castore (i := 2) (y := (101 : Int32)) (q := 104) Wf4 (by decide) rfl (Nat.le_of_ble_eq_true rfl) (by simp) (nar_char ((by decide : ¬ (101 : Int32) < 0 ∧ ¬ 255 < (101 : Int32))).1 ((by decide : ¬ (101 : Int32) < 0 ∧ ¬ 255 < (101 : Int32))).2) d0_103 rfl ?_
    intro hf5 Kf5 zf5 Wf5
    have Ka : Keep h hf5 [] := kfresh Ka Kf5 f_Ka_yf
    have Wf5 : Arv Z hf5 yf kf .char (10 : Int32) [.int (117 : Int32), .int (115 : Int32), .int (101 : Int32), .int 0, .int 0, .int 0, .int 0, .int 0, .int 0, .int 0] (.int 0) := Wf5
    refine go_dup (q := 105) d0_104 rfl rfl ?_
    refine go_iconst (x := (3 : Int32)) (q := 106) d0_105 rfl rfl ?_
    refine go_bipush (x := (114 : Int32)) (q := 108) d0_106 rfl rfl ?_
    refine go_castore (i := 3) (y := (114 : Int32)) (q := 109) Wf5 (by decide) rfl (Nat.le_of_ble_eq_true rfl) (by simp) (nar_char ((by decide : ¬ (114 : Int32) < 0 ∧ ¬ 255 < (114 : Int32))).1 ((by decide : ¬ (114 : Int32) < 0 ∧ ¬ 255 < (114 : Int32))).2) d0_108 rfl ?_
    intro hf6 Kf6 zf6 Wf6
    have Ka : Keep h hf6 [] := kfresh Ka Kf6 f_Ka_yf
    have Wf6 : Arv Z hf6 yf kf .char (10 : Int32) [.int (117 : Int32), .int (115 : Int32), .int (101 : Int32), .int (114 : Int32), .int 0, .int 0, .int 0, .int 0, .int 0, .int 0] (.int 0) := Wf6
    refine go_dup (q := 110) d0_109 rfl rfl ?_
    refine go_iconst (x := (4 : Int32)) (q := 111) d0_110 rfl rfl ?_
    refine go_bipush (x := (115 : Int32)) (q := 113) d0_111 rfl rfl ?_
    refine go_castore (i := 4) (y := (115 : Int32)) (q := 114) Wf6 (by decide) rfl (Nat.le_of_ble_eq_true rfl) (by simp) (nar_char ((by decide : ¬ (115 : Int32) < 0 ∧ ¬ 255 < (115 : Int32))).1 ((by decide : ¬ (115 : Int32) < 0 ∧ ¬ 255 < (115 : Int32))).2) d0_113 rfl ?_
    intro hf7 Kf7 zf7 Wf7
    have Ka : Keep h hf7 [] := kfresh Ka Kf7 f_Ka_yf
    have Wf7 : Arv Z hf7 yf kf .char (10 : Int32) [.int (117 : Int32), .int (115 : Int32), .int (101 : Int32), .int (114 : Int32), .int (115 : Int32), .int 0, .int 0, .int 0, .int 0, .int 0] (.int 0) := Wf7
    refine go_dup (q := 115) d0_114 rfl rfl ?_
    refine go_iconst (x := (5 : Int32)) (q := 116) d0_115 rfl rfl ?_
    refine go_bipush (x := (58 : Int32)) (q := 118) d0_116 rfl rfl ?_
    refine go_castore (i := 5) (y := (58 : Int32)) (q := 119) Wf7 (by decide) rfl (Nat.le_of_ble_eq_true rfl) (by simp) (nar_char ((by decide : ¬ (58 : Int32) < 0 ∧ ¬ 255 < (58 : Int32))).1 ((by decide : ¬ (58 : Int32) < 0 ∧ ¬ 255 < (58 : Int32))).2) d0_118 rfl ?_
    intro hf8 Kf8 zf8 Wf8
    have Ka : Keep h hf8 [] := kfresh Ka Kf8 f_Ka_yf
    have Wf8 : Arv Z hf8 yf kf .char (10 : Int32) [.int (117 : Int32), .int (115 : Int32), .int (101 : Int32), .int (114 : Int32), .int (115 : Int32), .int (58 : Int32), .int 0, .int 0, .int 0, .int 0] (.int 0) := Wf8
    refine go_dup (q := 120) d0_119 rfl rfl ?_
    refine go_bipush (x := (6 : Int32)) (q := 122) d0_120 rfl rfl ?_
    refine go_bipush (x := (101 : Int32)) (q := 124) d0_122 rfl rfl ?_
    refine go_castore (i := 6) (y := (101 : Int32)) (q := 125) Wf8 (by decide) rfl (Nat.le_of_ble_eq_true rfl) (by simp) (nar_char ((by decide : ¬ (101 : Int32) < 0 ∧ ¬ 255 < (101 : Int32))).1 ((by decide : ¬ (101 : Int32) < 0 ∧ ¬ 255 < (101 : Int32))).2) d0_124 rfl ?_
    intro hf9 Kf9 zf9 Wf9
    have Ka : Keep h hf9 [] := kfresh Ka Kf9 f_Ka_yf
    have Wf9 : Arv Z hf9 yf kf .char (10 : Int32) [.int (117 : Int32), .int (115 : Int32), .int (101 : Int32), .int (114 : Int32), .int (115 : Int32), .int (58 : Int32), .int (101 : Int32), .int 0, .int 0, .int 0] (.int 0) := Wf9
    refine go_dup (q := 126) d0_125 rfl rfl ?_
    refine go_bipush (x := (7 : Int32)) (q := 128) d0_126 rfl rfl ?_
    refine go_bipush (x := (100 : Int32)) (q := 130) d0_128 rfl rfl ?_
    refine go_castore (i := 7) (y := (100 : Int32)) (q := 131) Wf9 (by decide) rfl (Nat.le_of_ble_eq_true rfl) (by simp) (nar_char ((by decide : ¬ (100 : Int32) < 0 ∧ ¬ 255 < (100 : Int32))).1 ((by decide : ¬ (100 : Int32) < 0 ∧ ¬ 255 < (100 : Int32))).2) d0_130 rfl ?_
    intro hf10 Kf10 zf10 Wf10
    have Ka : Keep h hf10 [] := kfresh Ka Kf10 f_Ka_yf
    have Wf10 : Arv Z hf10 yf kf .char (10 : Int32) [.int (117 : Int32), .int (115 : Int32), .int (101 : Int32), .int (114 : Int32), .int (115 : Int32), .int (58 : Int32), .int (101 : Int32), .int (100 : Int32), .int 0, .int 0] (.int 0) := Wf10
    refine go_dup (q := 132) d0_131 rfl rfl ?_
    refine go_bipush (x := (8 : Int32)) (q := 134) d0_132 rfl rfl ?_
    refine go_bipush (x := (105 : Int32)) (q := 136) d0_134 rfl rfl ?_
    refine go_castore (i := 8) (y := (105 : Int32)) (q := 137) Wf10 (by decide) rfl (Nat.le_of_ble_eq_true rfl) (by simp) (nar_char ((by decide : ¬ (105 : Int32) < 0 ∧ ¬ 255 < (105 : Int32))).1 ((by decide : ¬ (105 : Int32) < 0 ∧ ¬ 255 < (105 : Int32))).2) d0_136 rfl ?_
    intro hf11 Kf11 zf11 Wf11
    have Ka : Keep h hf11 [] := kfresh Ka Kf11 f_Ka_yf
    have Wf11 : Arv Z hf11 yf kf .char (10 : Int32) [.int (117 : Int32), .int (115 : Int32), .int (101 : Int32), .int (114 : Int32), .int (115 : Int32), .int (58 : Int32), .int (101 : Int32), .int (100 : Int32), .int (105 : Int32), .int 0] (.int 0) := Wf11
    refine go_dup (q := 138) d0_137 rfl rfl ?_
    refine go_bipush (x := (9 : Int32)) (q := 140) d0_138 rfl rfl ?_
    refine go_bipush (x := (116 : Int32)) (q := 142) d0_140 rfl rfl ?_
    refine go_castore (i := 9) (y := (116 : Int32)) (q := 143) Wf11 (by decide) rfl (Nat.le_of_ble_eq_true rfl) (by simp) (nar_char ((by decide : ¬ (116 : Int32) < 0 ∧ ¬ 255 < (116 : Int32))).1 ((by decide : ¬ (116 : Int32) < 0 ∧ ¬ 255 < (116 : Int32))).2) d0_142 rfl ?_
    intro hf12 Kf12 zf12 Wf12
    have Ka : Keep h hf12 [] := kfresh Ka Kf12 f_Ka_yf
    have Wf12 : Arv Z hf12 yf kf .char (10 : Int32) [.int (117 : Int32), .int (115 : Int32), .int (101 : Int32), .int (114 : Int32), .int (115 : Int32), .int (58 : Int32), .int (101 : Int32), .int (100 : Int32), .int (105 : Int32), .int (116 : Int32)] (.int 0) := Wf12
    refine go_astore (L' := #[.val (.int n), .val (.int v), .val (.int p), .val (.int c), .val (.int d), .val (.ref yf), .unset, .unset]) (q := 145) d0_143 rfl rfl rfl ?_
    have Kf : Keep hf12 hf12 [] := Keep.refl _ _
    refine go_bipush (x := (9 : Int32)) (q := 147) d0_145 rfl rfl ?_
    refine go_newarray (ty := .char) (dv := .int 0) (n := 9) (cap := 9) (ad := "[C") (c' := 2) (s' := 19) (q := 149) rfl rfl (by decide) (w_4 H) d0_147 (by decide) (by decide) (by decide) rfl rfl rfl rfl (by decide) (by decide) ?_
    intro hg2 yg kg gg2 Eg2 Wg2 Xg2
    have f_Ka_yg : h.size ≤ yg := by rw [gg2]; exact Ka.1
    have f_Kf_yg : hf12.size ≤ yg := by rw [gg2]; exact Kf.1
    have Ka : Keep h hg2 [] := Ka.ext Eg2
    have Kf : Keep hf12 hg2 [] := Kf.ext Eg2
    have Wg2 : Arv Z hg2 yg kg .char (9 : Int32) [.int 0, .int 0, .int 0, .int 0, .int 0, .int 0, .int 0, .int 0, .int 0] (.int 0) := Wg2
    refine go_dup (q := 150) d0_149 rfl rfl ?_
    refine go_iconst (x := (0 : Int32)) (q := 151) d0_150 rfl rfl ?_
    refine go_bipush (x := (117 : Int32)) (q := 153) d0_151 rfl rfl ?_
    refine go_castore (i := 0) (y := (117 : Int32)) (q := 154) Wg2 (by decide) rfl (Nat.le_of_ble_eq_true rfl) (by simp) (nar_char ((by decide : ¬ (117 : Int32) < 0 ∧ ¬ 255 < (117 : Int32))).1 ((by decide : ¬ (117 : Int32) < 0 ∧ ¬ 255 < (117 : Int32))).2) d0_153 rfl ?_
    intro hg3 Kg3 zg3 Wg3
    have Ka : Keep h hg3 [] := kfresh Ka Kg3 f_Ka_yg
    have Kf : Keep hf12 hg3 [] := kfresh Kf Kg3 f_Kf_yg
    have Wg3 : Arv Z hg3 yg kg .char (9 : Int32) [.int (117 : Int32), .int 0, .int 0, .int 0, .int 0, .int 0, .int 0, .int 0, .int 0] (.int 0) := Wg3
    refine go_dup (q := 155) d0_154 rfl rfl ?_
    refine go_iconst (x := (1 : Int32)) (q := 156) d0_155 rfl rfl ?_
    refine go_bipush (x := (115 : Int32)) (q := 158) d0_156 rfl rfl ?_
    refine go_castore (i := 1) (y := (115 : Int32)) (q := 159) Wg3 (by decide) rfl (Nat.le_of_ble_eq_true rfl) (by simp) (nar_char ((by decide : ¬ (115 : Int32) < 0 ∧ ¬ 255 < (115 : Int32))).1 ((by decide : ¬ (115 : Int32) < 0 ∧ ¬ 255 < (115 : Int32))).2) d0_158 rfl ?_
    intro hg4 Kg4 zg4 Wg4
    have Ka : Keep h hg4 [] := kfresh Ka Kg4 f_Ka_yg
    have Kf : Keep hf12 hg4 [] := kfresh Kf Kg4 f_Kf_yg
    have Wg4 : Arv Z hg4 yg kg .char (9 : Int32) [.int (117 : Int32), .int (115 : Int32), .int 0, .int 0, .int 0, .int 0, .int 0, .int 0, .int 0] (.int 0) := Wg4
    refine go_dup (q := 160) d0_159 rfl rfl ?_
    refine go_iconst (x := (2 : Int32)) (q := 161) d0_160 rfl rfl ?_
    refine go_bipush (x := (101 : Int32)) (q := 163) d0_161 rfl rfl ?_
    refine go_castore (i := 2) (y := (101 : Int32)) (q := 164) Wg4 (by decide) rfl (Nat.le_of_ble_eq_true rfl) (by simp) (nar_char ((by decide : ¬ (101 : Int32) < 0 ∧ ¬ 255 < (101 : Int32))).1 ((by decide : ¬ (101 : Int32) < 0 ∧ ¬ 255 < (101 : Int32))).2) d0_163 rfl ?_
    intro hg5 Kg5 zg5 Wg5
    have Ka : Keep h hg5 [] := kfresh Ka Kg5 f_Ka_yg
    have Kf : Keep hf12 hg5 [] := kfresh Kf Kg5 f_Kf_yg
    have Wg5 : Arv Z hg5 yg kg .char (9 : Int32) [.int (117 : Int32), .int (115 : Int32), .int (101 : Int32), .int 0, .int 0, .int 0, .int 0, .int 0, .int 0] (.int 0) := Wg5
    refine go_dup (q := 165) d0_164 rfl rfl ?_
    refine go_iconst (x := (3 : Int32)) (q := 166) d0_165 rfl rfl ?_
    refine go_bipush (x := (114 : Int32)) (q := 168) d0_166 rfl rfl ?_
    refine go_castore (i := 3) (y := (114 : Int32)) (q := 169) Wg5 (by decide) rfl (Nat.le_of_ble_eq_true rfl) (by simp) (nar_char ((by decide : ¬ (114 : Int32) < 0 ∧ ¬ 255 < (114 : Int32))).1 ((by decide : ¬ (114 : Int32) < 0 ∧ ¬ 255 < (114 : Int32))).2) d0_168 rfl ?_
    intro hg6 Kg6 zg6 Wg6
    have Ka : Keep h hg6 [] := kfresh Ka Kg6 f_Ka_yg
    have Kf : Keep hf12 hg6 [] := kfresh Kf Kg6 f_Kf_yg
    have Wg6 : Arv Z hg6 yg kg .char (9 : Int32) [.int (117 : Int32), .int (115 : Int32), .int (101 : Int32), .int (114 : Int32), .int 0, .int 0, .int 0, .int 0, .int 0] (.int 0) := Wg6
    refine go_dup (q := 170) d0_169 rfl rfl ?_
    refine go_iconst (x := (4 : Int32)) (q := 171) d0_170 rfl rfl ?_
    refine go_bipush (x := (115 : Int32)) (q := 173) d0_171 rfl rfl ?_
    refine go_castore (i := 4) (y := (115 : Int32)) (q := 174) Wg6 (by decide) rfl (Nat.le_of_ble_eq_true rfl) (by simp) (nar_char ((by decide : ¬ (115 : Int32) < 0 ∧ ¬ 255 < (115 : Int32))).1 ((by decide : ¬ (115 : Int32) < 0 ∧ ¬ 255 < (115 : Int32))).2) d0_173 rfl ?_
    intro hg7 Kg7 zg7 Wg7
    have Ka : Keep h hg7 [] := kfresh Ka Kg7 f_Ka_yg
    have Kf : Keep hf12 hg7 [] := kfresh Kf Kg7 f_Kf_yg
    have Wg7 : Arv Z hg7 yg kg .char (9 : Int32) [.int (117 : Int32), .int (115 : Int32), .int (101 : Int32), .int (114 : Int32), .int (115 : Int32), .int 0, .int 0, .int 0, .int 0] (.int 0) := Wg7
    refine go_dup (q := 175) d0_174 rfl rfl ?_
    refine go_iconst (x := (5 : Int32)) (q := 176) d0_175 rfl rfl ?_
    refine go_bipush (x := (58 : Int32)) (q := 178) d0_176 rfl rfl ?_
    refine go_castore (i := 5) (y := (58 : Int32)) (q := 179) Wg7 (by decide) rfl (Nat.le_of_ble_eq_true rfl) (by simp) (nar_char ((by decide : ¬ (58 : Int32) < 0 ∧ ¬ 255 < (58 : Int32))).1 ((by decide : ¬ (58 : Int32) < 0 ∧ ¬ 255 < (58 : Int32))).2) d0_178 rfl ?_
    intro hg8 Kg8 zg8 Wg8
    have Ka : Keep h hg8 [] := kfresh Ka Kg8 f_Ka_yg
    have Kf : Keep hf12 hg8 [] := kfresh Kf Kg8 f_Kf_yg
    have Wg8 : Arv Z hg8 yg kg .char (9 : Int32) [.int (117 : Int32), .int (115 : Int32), .int (101 : Int32), .int (114 : Int32), .int (115 : Int32), .int (58 : Int32), .int 0, .int 0, .int 0] (.int 0) := Wg8
    refine go_dup (q := 180) d0_179 rfl rfl ?_
    refine go_bipush (x := (6 : Int32)) (q := 182) d0_180 rfl rfl ?_
    refine go_bipush (x := (101 : Int32)) (q := 184) d0_182 rfl rfl ?_
    refine go_castore (i := 6) (y := (101 : Int32)) (q := 185) Wg8 (by decide) rfl (Nat.le_of_ble_eq_true rfl) (by simp) (nar_char ((by decide : ¬ (101 : Int32) < 0 ∧ ¬ 255 < (101 : Int32))).1 ((by decide : ¬ (101 : Int32) < 0 ∧ ¬ 255 < (101 : Int32))).2) d0_184 rfl ?_
    intro hg9 Kg9 zg9 Wg9
    have Ka : Keep h hg9 [] := kfresh Ka Kg9 f_Ka_yg
    have Kf : Keep hf12 hg9 [] := kfresh Kf Kg9 f_Kf_yg
    have Wg9 : Arv Z hg9 yg kg .char (9 : Int32) [.int (117 : Int32), .int (115 : Int32), .int (101 : Int32), .int (114 : Int32), .int (115 : Int32), .int (58 : Int32), .int (101 : Int32), .int 0, .int 0] (.int 0) := Wg9
    refine go_dup (q := 186) d0_185 rfl rfl ?_
    refine go_bipush (x := (7 : Int32)) (q := 188) d0_186 rfl rfl ?_
    refine go_bipush (x := (100 : Int32)) (q := 190) d0_188 rfl rfl ?_
    refine go_castore (i := 7) (y := (100 : Int32)) (q := 191) Wg9 (by decide) rfl (Nat.le_of_ble_eq_true rfl) (by simp) (nar_char ((by decide : ¬ (100 : Int32) < 0 ∧ ¬ 255 < (100 : Int32))).1 ((by decide : ¬ (100 : Int32) < 0 ∧ ¬ 255 < (100 : Int32))).2) d0_190 rfl ?_
    intro hg10 Kg10 zg10 Wg10
    have Ka : Keep h hg10 [] := kfresh Ka Kg10 f_Ka_yg
    have Kf : Keep hf12 hg10 [] := kfresh Kf Kg10 f_Kf_yg
    have Wg10 : Arv Z hg10 yg kg .char (9 : Int32) [.int (117 : Int32), .int (115 : Int32), .int (101 : Int32), .int (114 : Int32), .int (115 : Int32), .int (58 : Int32), .int (101 : Int32), .int (100 : Int32), .int 0] (.int 0) := Wg10
    refine go_dup (q := 192) d0_191 rfl rfl ?_
    refine go_bipush (x := (8 : Int32)) (q := 194) d0_192 rfl rfl ?_
    refine go_bipush (x := (105 : Int32)) (q := 196) d0_194 rfl rfl ?_
    refine go_castore (i := 8) (y := (105 : Int32)) (q := 197) Wg10 (by decide) rfl (Nat.le_of_ble_eq_true rfl) (by simp) (nar_char ((by decide : ¬ (105 : Int32) < 0 ∧ ¬ 255 < (105 : Int32))).1 ((by decide : ¬ (105 : Int32) < 0 ∧ ¬ 255 < (105 : Int32))).2) d0_196 rfl ?_
    intro hg11 Kg11 zg11 Wg11
    have Ka : Keep h hg11 [] := kfresh Ka Kg11 f_Ka_yg
    have Kf : Keep hf12 hg11 [] := kfresh Kf Kg11 f_Kf_yg
    have Wg11 : Arv Z hg11 yg kg .char (9 : Int32) [.int (117 : Int32), .int (115 : Int32), .int (101 : Int32), .int (114 : Int32), .int (115 : Int32), .int (58 : Int32), .int (101 : Int32), .int (100 : Int32), .int (105 : Int32)] (.int 0) := Wg11
    refine go_astore (L' := #[.val (.int n), .val (.int v), .val (.int p), .val (.int c), .val (.int d), .val (.ref yf), .val (.ref yg), .unset]) (q := 199) d0_197 rfl rfl rfl ?_
    have Kg : Keep hg11 hg11 [] := Keep.refl _ _
    refine go_bipush (x := (11 : Int32)) (q := 201) d0_199 rfl rfl ?_
    refine go_newarray (ty := .char) (dv := .int 0) (n := 11) (cap := 11) (ad := "[C") (c' := 3) (s' := 30) (q := 203) rfl rfl (by decide) (w_4 H) d0_201 (by decide) (by decide) (by decide) rfl rfl rfl rfl (by decide) (by decide) ?_
    intro hl2 yl kl gl2 El2 Wl2 Xl2
    have f_Ka_yl : h.size ≤ yl := by rw [gl2]; exact Ka.1
    have f_Kf_yl : hf12.size ≤ yl := by rw [gl2]; exact Kf.1
    have f_Kg_yl : hg11.size ≤ yl := by rw [gl2]; exact Kg.1
    have Ka : Keep h hl2 [] := Ka.ext El2
    have Kf : Keep hf12 hl2 [] := Kf.ext El2
    have Kg : Keep hg11 hl2 [] := Kg.ext El2
    have Wl2 : Arv Z hl2 yl kl .char (11 : Int32) [.int 0, .int 0, .int 0, .int 0, .int 0, .int 0, .int 0, .int 0, .int 0, .int 0, .int 0] (.int 0) := Wl2
    refine go_dup (q := 204) d0_203 rfl rfl ?_
    refine go_iconst (x := (0 : Int32)) (q := 205) d0_204 rfl rfl ?_
    refine go_bipush (x := (117 : Int32)) (q := 207) d0_205 rfl rfl ?_
    refine go_castore (i := 0) (y := (117 : Int32)) (q := 208) Wl2 (by decide) rfl (Nat.le_of_ble_eq_true rfl) (by simp) (nar_char ((by decide : ¬ (117 : Int32) < 0 ∧ ¬ 255 < (117 : Int32))).1 ((by decide : ¬ (117 : Int32) < 0 ∧ ¬ 255 < (117 : Int32))).2) d0_207 rfl ?_
    intro hl3 Kl3 zl3 Wl3
    have Ka : Keep h hl3 [] := kfresh Ka Kl3 f_Ka_yl
    have Kf : Keep hf12 hl3 [] := kfresh Kf Kl3 f_Kf_yl
    have Kg : Keep hg11 hl3 [] := kfresh Kg Kl3 f_Kg_yl
    have Wl3 : Arv Z hl3 yl kl .char (11 : Int32) [.int (117 : Int32), .int 0, .int 0, .int 0, .int 0, .int 0, .int 0, .int 0, .int 0, .int 0, .int 0] (.int 0) := Wl3
    refine go_dup (q := 209) d0_208 rfl rfl ?_
    refine go_iconst (x := (1 : Int32)) (q := 210) d0_209 rfl rfl ?_
    refine go_bipush (x := (115 : Int32)) (q := 212) d0_210 rfl rfl ?_
    refine go_castore (i := 1) (y := (115 : Int32)) (q := 213) Wl3 (by decide) rfl (Nat.le_of_ble_eq_true rfl) (by simp) (nar_char ((by decide : ¬ (115 : Int32) < 0 ∧ ¬ 255 < (115 : Int32))).1 ((by decide : ¬ (115 : Int32) < 0 ∧ ¬ 255 < (115 : Int32))).2) d0_212 rfl ?_
    intro hl4 Kl4 zl4 Wl4
    have Ka : Keep h hl4 [] := kfresh Ka Kl4 f_Ka_yl
    have Kf : Keep hf12 hl4 [] := kfresh Kf Kl4 f_Kf_yl
    have Kg : Keep hg11 hl4 [] := kfresh Kg Kl4 f_Kg_yl
    have Wl4 : Arv Z hl4 yl kl .char (11 : Int32) [.int (117 : Int32), .int (115 : Int32), .int 0, .int 0, .int 0, .int 0, .int 0, .int 0, .int 0, .int 0, .int 0] (.int 0) := Wl4
    refine go_dup (q := 214) d0_213 rfl rfl ?_
    refine go_iconst (x := (2 : Int32)) (q := 215) d0_214 rfl rfl ?_
    refine go_bipush (x := (101 : Int32)) (q := 217) d0_215 rfl rfl ?_
    refine go_castore (i := 2) (y := (101 : Int32)) (q := 218) Wl4 (by decide) rfl (Nat.le_of_ble_eq_true rfl) (by simp) (nar_char ((by decide : ¬ (101 : Int32) < 0 ∧ ¬ 255 < (101 : Int32))).1 ((by decide : ¬ (101 : Int32) < 0 ∧ ¬ 255 < (101 : Int32))).2) d0_217 rfl ?_
    intro hl5 Kl5 zl5 Wl5
    have Ka : Keep h hl5 [] := kfresh Ka Kl5 f_Ka_yl
    have Kf : Keep hf12 hl5 [] := kfresh Kf Kl5 f_Kf_yl
    have Kg : Keep hg11 hl5 [] := kfresh Kg Kl5 f_Kg_yl
    have Wl5 : Arv Z hl5 yl kl .char (11 : Int32) [.int (117 : Int32), .int (115 : Int32), .int (101 : Int32), .int 0, .int 0, .int 0, .int 0, .int 0, .int 0, .int 0, .int 0] (.int 0) := Wl5
    refine go_dup (q := 219) d0_218 rfl rfl ?_
    refine go_iconst (x := (3 : Int32)) (q := 220) d0_219 rfl rfl ?_
    refine go_bipush (x := (114 : Int32)) (q := 222) d0_220 rfl rfl ?_
    refine go_castore (i := 3) (y := (114 : Int32)) (q := 223) Wl5 (by decide) rfl (Nat.le_of_ble_eq_true rfl) (by simp) (nar_char ((by decide : ¬ (114 : Int32) < 0 ∧ ¬ 255 < (114 : Int32))).1 ((by decide : ¬ (114 : Int32) < 0 ∧ ¬ 255 < (114 : Int32))).2) d0_222 rfl ?_
    intro hl6 Kl6 zl6 Wl6
    have Ka : Keep h hl6 [] := kfresh Ka Kl6 f_Ka_yl
    have Kf : Keep hf12 hl6 [] := kfresh Kf Kl6 f_Kf_yl
    have Kg : Keep hg11 hl6 [] := kfresh Kg Kl6 f_Kg_yl
    have Wl6 : Arv Z hl6 yl kl .char (11 : Int32) [.int (117 : Int32), .int (115 : Int32), .int (101 : Int32), .int (114 : Int32), .int 0, .int 0, .int 0, .int 0, .int 0, .int 0, .int 0] (.int 0) := Wl6
    refine go_dup (q := 224) d0_223 rfl rfl ?_
    refine go_iconst (x := (4 : Int32)) (q := 225) d0_224 rfl rfl ?_
    refine go_bipush (x := (115 : Int32)) (q := 227) d0_225 rfl rfl ?_
    refine go_castore (i := 4) (y := (115 : Int32)) (q := 228) Wl6 (by decide) rfl (Nat.le_of_ble_eq_true rfl) (by simp) (nar_char ((by decide : ¬ (115 : Int32) < 0 ∧ ¬ 255 < (115 : Int32))).1 ((by decide : ¬ (115 : Int32) < 0 ∧ ¬ 255 < (115 : Int32))).2) d0_227 rfl ?_
    intro hl7 Kl7 zl7 Wl7
    have Ka : Keep h hl7 [] := kfresh Ka Kl7 f_Ka_yl
    have Kf : Keep hf12 hl7 [] := kfresh Kf Kl7 f_Kf_yl
    have Kg : Keep hg11 hl7 [] := kfresh Kg Kl7 f_Kg_yl
    have Wl7 : Arv Z hl7 yl kl .char (11 : Int32) [.int (117 : Int32), .int (115 : Int32), .int (101 : Int32), .int (114 : Int32), .int (115 : Int32), .int 0, .int 0, .int 0, .int 0, .int 0, .int 0] (.int 0) := Wl7
    refine go_dup (q := 229) d0_228 rfl rfl ?_
    refine go_iconst (x := (5 : Int32)) (q := 230) d0_229 rfl rfl ?_
    refine go_bipush (x := (58 : Int32)) (q := 232) d0_230 rfl rfl ?_
    refine go_castore (i := 5) (y := (58 : Int32)) (q := 233) Wl7 (by decide) rfl (Nat.le_of_ble_eq_true rfl) (by simp) (nar_char ((by decide : ¬ (58 : Int32) < 0 ∧ ¬ 255 < (58 : Int32))).1 ((by decide : ¬ (58 : Int32) < 0 ∧ ¬ 255 < (58 : Int32))).2) d0_232 rfl ?_
    intro hl8 Kl8 zl8 Wl8
    have Ka : Keep h hl8 [] := kfresh Ka Kl8 f_Ka_yl
    have Kf : Keep hf12 hl8 [] := kfresh Kf Kl8 f_Kf_yl
    have Kg : Keep hg11 hl8 [] := kfresh Kg Kl8 f_Kg_yl
    have Wl8 : Arv Z hl8 yl kl .char (11 : Int32) [.int (117 : Int32), .int (115 : Int32), .int (101 : Int32), .int (114 : Int32), .int (115 : Int32), .int (58 : Int32), .int 0, .int 0, .int 0, .int 0, .int 0] (.int 0) := Wl8
    refine go_dup (q := 234) d0_233 rfl rfl ?_
    refine go_bipush (x := (6 : Int32)) (q := 236) d0_234 rfl rfl ?_
    refine go_bipush (x := (101 : Int32)) (q := 238) d0_236 rfl rfl ?_
    refine go_castore (i := 6) (y := (101 : Int32)) (q := 239) Wl8 (by decide) rfl (Nat.le_of_ble_eq_true rfl) (by simp) (nar_char ((by decide : ¬ (101 : Int32) < 0 ∧ ¬ 255 < (101 : Int32))).1 ((by decide : ¬ (101 : Int32) < 0 ∧ ¬ 255 < (101 : Int32))).2) d0_238 rfl ?_
    intro hl9 Kl9 zl9 Wl9
    have Ka : Keep h hl9 [] := kfresh Ka Kl9 f_Ka_yl
    have Kf : Keep hf12 hl9 [] := kfresh Kf Kl9 f_Kf_yl
    have Kg : Keep hg11 hl9 [] := kfresh Kg Kl9 f_Kg_yl
    have Wl9 : Arv Z hl9 yl kl .char (11 : Int32) [.int (117 : Int32), .int (115 : Int32), .int (101 : Int32), .int (114 : Int32), .int (115 : Int32), .int (58 : Int32), .int (101 : Int32), .int 0, .int 0, .int 0, .int 0] (.int 0) := Wl9
    refine go_dup (q := 240) d0_239 rfl rfl ?_
    refine go_bipush (x := (7 : Int32)) (q := 242) d0_240 rfl rfl ?_
    refine go_bipush (x := (100 : Int32)) (q := 244) d0_242 rfl rfl ?_
    refine go_castore (i := 7) (y := (100 : Int32)) (q := 245) Wl9 (by decide) rfl (Nat.le_of_ble_eq_true rfl) (by simp) (nar_char ((by decide : ¬ (100 : Int32) < 0 ∧ ¬ 255 < (100 : Int32))).1 ((by decide : ¬ (100 : Int32) < 0 ∧ ¬ 255 < (100 : Int32))).2) d0_244 rfl ?_
    intro hl10 Kl10 zl10 Wl10
    have Ka : Keep h hl10 [] := kfresh Ka Kl10 f_Ka_yl
    have Kf : Keep hf12 hl10 [] := kfresh Kf Kl10 f_Kf_yl
    have Kg : Keep hg11 hl10 [] := kfresh Kg Kl10 f_Kg_yl
    have Wl10 : Arv Z hl10 yl kl .char (11 : Int32) [.int (117 : Int32), .int (115 : Int32), .int (101 : Int32), .int (114 : Int32), .int (115 : Int32), .int (58 : Int32), .int (101 : Int32), .int (100 : Int32), .int 0, .int 0, .int 0] (.int 0) := Wl10
    refine go_dup (q := 246) d0_245 rfl rfl ?_
    refine go_bipush (x := (8 : Int32)) (q := 248) d0_246 rfl rfl ?_
    refine go_bipush (x := (105 : Int32)) (q := 250) d0_248 rfl rfl ?_
    refine go_castore (i := 8) (y := (105 : Int32)) (q := 251) Wl10 (by decide) rfl (Nat.le_of_ble_eq_true rfl) (by simp) (nar_char ((by decide : ¬ (105 : Int32) < 0 ∧ ¬ 255 < (105 : Int32))).1 ((by decide : ¬ (105 : Int32) < 0 ∧ ¬ 255 < (105 : Int32))).2) d0_250 rfl ?_
    intro hl11 Kl11 zl11 Wl11
    have Ka : Keep h hl11 [] := kfresh Ka Kl11 f_Ka_yl
    have Kf : Keep hf12 hl11 [] := kfresh Kf Kl11 f_Kf_yl
    have Kg : Keep hg11 hl11 [] := kfresh Kg Kl11 f_Kg_yl
    have Wl11 : Arv Z hl11 yl kl .char (11 : Int32) [.int (117 : Int32), .int (115 : Int32), .int (101 : Int32), .int (114 : Int32), .int (115 : Int32), .int (58 : Int32), .int (101 : Int32), .int (100 : Int32), .int (105 : Int32), .int 0, .int 0] (.int 0) := Wl11
    refine go_dup (q := 252) d0_251 rfl rfl ?_
    refine go_bipush (x := (9 : Int32)) (q := 254) d0_252 rfl rfl ?_
    refine go_bipush (x := (116 : Int32)) (q := 256) d0_254 rfl rfl ?_
    refine go_castore (i := 9) (y := (116 : Int32)) (q := 257) Wl11 (by decide) rfl (Nat.le_of_ble_eq_true rfl) (by simp) (nar_char ((by decide : ¬ (116 : Int32) < 0 ∧ ¬ 255 < (116 : Int32))).1 ((by decide : ¬ (116 : Int32) < 0 ∧ ¬ 255 < (116 : Int32))).2) d0_256 rfl ?_
    intro hl12 Kl12 zl12 Wl12
    have Ka : Keep h hl12 [] := kfresh Ka Kl12 f_Ka_yl
    have Kf : Keep hf12 hl12 [] := kfresh Kf Kl12 f_Kf_yl
    have Kg : Keep hg11 hl12 [] := kfresh Kg Kl12 f_Kg_yl
    have Wl12 : Arv Z hl12 yl kl .char (11 : Int32) [.int (117 : Int32), .int (115 : Int32), .int (101 : Int32), .int (114 : Int32), .int (115 : Int32), .int (58 : Int32), .int (101 : Int32), .int (100 : Int32), .int (105 : Int32), .int (116 : Int32), .int 0] (.int 0) := Wl12
    refine go_dup (q := 258) d0_257 rfl rfl ?_
    refine go_bipush (x := (10 : Int32)) (q := 260) d0_258 rfl rfl ?_
    refine go_iloadN (v := c) (q := 261) d0_260 rfl rfl ?_
    refine go_castore (i := 10) (y := c) (q := 262) Wl12 (by decide) rfl (Nat.le_of_ble_eq_true rfl) (by simp) (nar_char (hc).1 (hc).2) d0_261 rfl ?_
    intro hl13 Kl13 zl13 Wl13
    have Ka : Keep h hl13 [] := kfresh Ka Kl13 f_Ka_yl
    have Kf : Keep hf12 hl13 [] := kfresh Kf Kl13 f_Kf_yl
    have Kg : Keep hg11 hl13 [] := kfresh Kg Kl13 f_Kg_yl
    have Wl13 : Arv Z hl13 yl kl .char (11 : Int32) [.int (117 : Int32), .int (115 : Int32), .int (101 : Int32), .int (114 : Int32), .int (115 : Int32), .int (58 : Int32), .int (101 : Int32), .int (100 : Int32), .int (105 : Int32), .int (116 : Int32), .int c] (.int 0) := Wl13
    refine go_astore (L' := #[.val (.int n), .val (.int v), .val (.int p), .val (.int c), .val (.int d), .val (.ref yf), .val (.ref yg), .val (.ref yl)]) (q := 264) d0_262 rfl rfl rfl ?_
    have Kl : Keep hl13 hl13 [] := Keep.refl _ _
    refine go_goto (q := 598) d0_264 (by decide) (by decide) ?_
    refine go_less (F' := (yf :: F)) (c' := 3) (s' := 42) (by intro y q; rcases List.mem_cons.mp q with rfl | q <;> simp_all) (by decide) (by decide) ?_
    exact j598 H (cf := [(117 : Int32), (115 : Int32), (101 : Int32), (114 : Int32), (115 : Int32), (58 : Int32), (101 : Int32), (100 : Int32), (105 : Int32), (116 : Int32)]) (cg := [(117 : Int32), (115 : Int32), (101 : Int32), (114 : Int32), (115 : Int32), (58 : Int32), (101 : Int32), (100 : Int32), (105 : Int32)]) (cl := [(117 : Int32), (115 : Int32), (101 : Int32), (114 : Int32), (115 : Int32), (58 : Int32), (101 : Int32), (100 : Int32), (105 : Int32), (116 : Int32), c]) Ka f_Ka_yf hFl hc (Wf12.keep Kf nin0) ⟨Nat.le_of_ble_eq_true rfl, (by intro c hc; simp only [List.mem_cons, List.not_mem_nil, or_false] at hc; rcases hc with rfl | rfl | rfl | rfl | rfl | rfl | rfl | rfl | rfl | rfl <;> first | exact (by decide : ¬ (58 : Int32) < 0 ∧ ¬ 255 < (58 : Int32)) | exact (by decide : ¬ (117 : Int32) < 0 ∧ ¬ 255 < (117 : Int32)) | exact (by decide : ¬ (116 : Int32) < 0 ∧ ¬ 255 < (116 : Int32)) | exact (by decide : ¬ (115 : Int32) < 0 ∧ ¬ 255 < (115 : Int32)) | exact (by decide : ¬ (114 : Int32) < 0 ∧ ¬ 255 < (114 : Int32)) | exact (by decide : ¬ (105 : Int32) < 0 ∧ ¬ 255 < (105 : Int32)) | exact (by decide : ¬ (101 : Int32) < 0 ∧ ¬ 255 < (101 : Int32)) | exact (by decide : ¬ (100 : Int32) < 0 ∧ ¬ 255 < (100 : Int32)))⟩ (by simp) (Nat.le_of_ble_eq_true rfl) (Wg11.keep Kg nin0) ⟨Nat.le_of_ble_eq_true rfl, (by intro c hc; simp only [List.mem_cons, List.not_mem_nil, or_false] at hc; rcases hc with rfl | rfl | rfl | rfl | rfl | rfl | rfl | rfl | rfl <;> first | exact (by decide : ¬ (58 : Int32) < 0 ∧ ¬ 255 < (58 : Int32)) | exact (by decide : ¬ (117 : Int32) < 0 ∧ ¬ 255 < (117 : Int32)) | exact (by decide : ¬ (115 : Int32) < 0 ∧ ¬ 255 < (115 : Int32)) | exact (by decide : ¬ (114 : Int32) < 0 ∧ ¬ 255 < (114 : Int32)) | exact (by decide : ¬ (105 : Int32) < 0 ∧ ¬ 255 < (105 : Int32)) | exact (by decide : ¬ (101 : Int32) < 0 ∧ ¬ 255 < (101 : Int32)) | exact (by decide : ¬ (100 : Int32) < 0 ∧ ¬ 255 < (100 : Int32)))⟩ (by simp) (Nat.le_of_ble_eq_true rfl) (Wl13.keep Kl nin0) ⟨Nat.le_of_ble_eq_true rfl, (by intro c hc; simp only [List.mem_cons, List.not_mem_nil, or_false] at hc; rcases hc with rfl | rfl | rfl | rfl | rfl | rfl | rfl | rfl | rfl | rfl | rfl <;> first | exact hc | exact (by decide : ¬ (58 : Int32) < 0 ∧ ¬ 255 < (58 : Int32)) | exact (by decide : ¬ (117 : Int32) < 0 ∧ ¬ 255 < (117 : Int32)) | exact (by decide : ¬ (116 : Int32) < 0 ∧ ¬ 255 < (116 : Int32)) | exact (by decide : ¬ (115 : Int32) < 0 ∧ ¬ 255 < (115 : Int32)) | exact (by decide : ¬ (114 : Int32) < 0 ∧ ¬ 255 < (114 : Int32)) | exact (by decide : ¬ (105 : Int32) < 0 ∧ ¬ 255 < (105 : Int32)) | exact (by decide : ¬ (101 : Int32) < 0 ∧ ¬ 255 < (101 : Int32)) | exact (by decide : ¬ (100 : Int32) < 0 ∧ ¬ 255 < (100 : Int32)))⟩ (by simp) (Nat.le_of_ble_eq_true rfl)
  refine go_ifY (q := 267) d0_82 q0 (by decide) (by decide) ?_
  refine go_iloadN (v := n) (q := 268) d0_267 rfl rfl ?_
  refine go_iconst (x := (1 : Int32)) (q := 269) d0_268 rfl rfl ?_
  by_cases q1 : n = 1
  · refine go_icN (q := 272) d0_269 q1 rfl ?_
    refine go_iconst (x := (5 : Int32)) (q := 273) d0_272 rfl rfl ?_
    refine go_newarray (ty := .char) (dv := .int 0) (n := 5) (cap := 5) (ad := "[C") (c' := 1) (s' := 5) (q := 275) rfl rfl (by decide) (w_4 H) d0_273 (by decide) (by decide) (by decide) rfl rfl rfl rfl (by decide) (by decide) ?_
    intro hf2 yf kf gf2 Ef2 Wf2 Xf2
    have f_Ka_yf : h.size ≤ yf := by rw [gf2]; exact Ka.1
    have Ka : Keep h hf2 [] := Ka.ext Ef2
    have Wf2 : Arv Z hf2 yf kf .char (5 : Int32) [.int 0, .int 0, .int 0, .int 0, .int 0] (.int 0) := Wf2
    refine go_dup (q := 276) d0_275 rfl rfl ?_
    refine go_iconst (x := (0 : Int32)) (q := 277) d0_276 rfl rfl ?_
    refine go_bipush (x := (97 : Int32)) (q := 279) d0_277 rfl rfl ?_
    refine go_castore (i := 0) (y := (97 : Int32)) (q := 280) Wf2 (by decide) rfl (Nat.le_of_ble_eq_true rfl) (by simp) (nar_char ((by decide : ¬ (97 : Int32) < 0 ∧ ¬ 255 < (97 : Int32))).1 ((by decide : ¬ (97 : Int32) < 0 ∧ ¬ 255 < (97 : Int32))).2) d0_279 rfl ?_
    intro hf3 Kf3 zf3 Wf3
    have Ka : Keep h hf3 [] := kfresh Ka Kf3 f_Ka_yf
    have Wf3 : Arv Z hf3 yf kf .char (5 : Int32) [.int (97 : Int32), .int 0, .int 0, .int 0, .int 0] (.int 0) := Wf3
    refine go_dup (q := 281) d0_280 rfl rfl ?_
    refine go_iconst (x := (1 : Int32)) (q := 282) d0_281 rfl rfl ?_
    refine go_bipush (x := (100 : Int32)) (q := 284) d0_282 rfl rfl ?_
    refine go_castore (i := 1) (y := (100 : Int32)) (q := 285) Wf3 (by decide) rfl (Nat.le_of_ble_eq_true rfl) (by simp) (nar_char ((by decide : ¬ (100 : Int32) < 0 ∧ ¬ 255 < (100 : Int32))).1 ((by decide : ¬ (100 : Int32) < 0 ∧ ¬ 255 < (100 : Int32))).2) d0_284 rfl ?_
    intro hf4 Kf4 zf4 Wf4
    have Ka : Keep h hf4 [] := kfresh Ka Kf4 f_Ka_yf
    have Wf4 : Arv Z hf4 yf kf .char (5 : Int32) [.int (97 : Int32), .int (100 : Int32), .int 0, .int 0, .int 0] (.int 0) := Wf4
    refine go_dup (q := 286) d0_285 rfl rfl ?_
    refine go_iconst (x := (2 : Int32)) (q := 287) d0_286 rfl rfl ?_
    refine go_bipush (x := (109 : Int32)) (q := 289) d0_287 rfl rfl ?_
    refine go_castore (i := 2) (y := (109 : Int32)) (q := 290) Wf4 (by decide) rfl (Nat.le_of_ble_eq_true rfl) (by simp) (nar_char ((by decide : ¬ (109 : Int32) < 0 ∧ ¬ 255 < (109 : Int32))).1 ((by decide : ¬ (109 : Int32) < 0 ∧ ¬ 255 < (109 : Int32))).2) d0_289 rfl ?_
    intro hf5 Kf5 zf5 Wf5
    have Ka : Keep h hf5 [] := kfresh Ka Kf5 f_Ka_yf
    have Wf5 : Arv Z hf5 yf kf .char (5 : Int32) [.int (97 : Int32), .int (100 : Int32), .int (109 : Int32), .int 0, .int 0] (.int 0) := Wf5
    refine go_dup (q := 291) d0_290 rfl rfl ?_
    refine go_iconst (x := (3 : Int32)) (q := 292) d0_291 rfl rfl ?_
    refine go_bipush (x := (105 : Int32)) (q := 294) d0_292 rfl rfl ?_
    refine go_castore (i := 3) (y := (105 : Int32)) (q := 295) Wf5 (by decide) rfl (Nat.le_of_ble_eq_true rfl) (by simp) (nar_char ((by decide : ¬ (105 : Int32) < 0 ∧ ¬ 255 < (105 : Int32))).1 ((by decide : ¬ (105 : Int32) < 0 ∧ ¬ 255 < (105 : Int32))).2) d0_294 rfl ?_
    intro hf6 Kf6 zf6 Wf6
    have Ka : Keep h hf6 [] := kfresh Ka Kf6 f_Ka_yf
    have Wf6 : Arv Z hf6 yf kf .char (5 : Int32) [.int (97 : Int32), .int (100 : Int32), .int (109 : Int32), .int (105 : Int32), .int 0] (.int 0) := Wf6
    refine go_dup (q := 296) d0_295 rfl rfl ?_
    refine go_iconst (x := (4 : Int32)) (q := 297) d0_296 rfl rfl ?_
    refine go_bipush (x := (110 : Int32)) (q := 299) d0_297 rfl rfl ?_
    refine go_castore (i := 4) (y := (110 : Int32)) (q := 300) Wf6 (by decide) rfl (Nat.le_of_ble_eq_true rfl) (by simp) (nar_char ((by decide : ¬ (110 : Int32) < 0 ∧ ¬ 255 < (110 : Int32))).1 ((by decide : ¬ (110 : Int32) < 0 ∧ ¬ 255 < (110 : Int32))).2) d0_299 rfl ?_
    intro hf7 Kf7 zf7 Wf7
    have Ka : Keep h hf7 [] := kfresh Ka Kf7 f_Ka_yf
    have Wf7 : Arv Z hf7 yf kf .char (5 : Int32) [.int (97 : Int32), .int (100 : Int32), .int (109 : Int32), .int (105 : Int32), .int (110 : Int32)] (.int 0) := Wf7
    refine go_astore (L' := #[.val (.int n), .val (.int v), .val (.int p), .val (.int c), .val (.int d), .val (.ref yf), .unset, .unset]) (q := 302) d0_300 rfl rfl rfl ?_
    have Kf : Keep hf7 hf7 [] := Keep.refl _ _
    refine go_iconst (x := (4 : Int32)) (q := 303) d0_302 rfl rfl ?_
    refine go_newarray (ty := .char) (dv := .int 0) (n := 4) (cap := 4) (ad := "[C") (c' := 2) (s' := 9) (q := 305) rfl rfl (by decide) (w_4 H) d0_303 (by decide) (by decide) (by decide) rfl rfl rfl rfl (by decide) (by decide) ?_
    intro hg2 yg kg gg2 Eg2 Wg2 Xg2
    have f_Ka_yg : h.size ≤ yg := by rw [gg2]; exact Ka.1
    have f_Kf_yg : hf7.size ≤ yg := by rw [gg2]; exact Kf.1
    have Ka : Keep h hg2 [] := Ka.ext Eg2
    have Kf : Keep hf7 hg2 [] := Kf.ext Eg2
    have Wg2 : Arv Z hg2 yg kg .char (4 : Int32) [.int 0, .int 0, .int 0, .int 0] (.int 0) := Wg2
    refine go_dup (q := 306) d0_305 rfl rfl ?_
    refine go_iconst (x := (0 : Int32)) (q := 307) d0_306 rfl rfl ?_
    refine go_bipush (x := (97 : Int32)) (q := 309) d0_307 rfl rfl ?_
    refine go_castore (i := 0) (y := (97 : Int32)) (q := 310) Wg2 (by decide) rfl (Nat.le_of_ble_eq_true rfl) (by simp) (nar_char ((by decide : ¬ (97 : Int32) < 0 ∧ ¬ 255 < (97 : Int32))).1 ((by decide : ¬ (97 : Int32) < 0 ∧ ¬ 255 < (97 : Int32))).2) d0_309 rfl ?_
    intro hg3 Kg3 zg3 Wg3
    have Ka : Keep h hg3 [] := kfresh Ka Kg3 f_Ka_yg
    have Kf : Keep hf7 hg3 [] := kfresh Kf Kg3 f_Kf_yg
    have Wg3 : Arv Z hg3 yg kg .char (4 : Int32) [.int (97 : Int32), .int 0, .int 0, .int 0] (.int 0) := Wg3
    refine go_dup (q := 311) d0_310 rfl rfl ?_
    refine go_iconst (x := (1 : Int32)) (q := 312) d0_311 rfl rfl ?_
    refine go_bipush (x := (100 : Int32)) (q := 314) d0_312 rfl rfl ?_
    refine go_castore (i := 1) (y := (100 : Int32)) (q := 315) Wg3 (by decide) rfl (Nat.le_of_ble_eq_true rfl) (by simp) (nar_char ((by decide : ¬ (100 : Int32) < 0 ∧ ¬ 255 < (100 : Int32))).1 ((by decide : ¬ (100 : Int32) < 0 ∧ ¬ 255 < (100 : Int32))).2) d0_314 rfl ?_
    intro hg4 Kg4 zg4 Wg4
    have Ka : Keep h hg4 [] := kfresh Ka Kg4 f_Ka_yg
    have Kf : Keep hf7 hg4 [] := kfresh Kf Kg4 f_Kf_yg
    have Wg4 : Arv Z hg4 yg kg .char (4 : Int32) [.int (97 : Int32), .int (100 : Int32), .int 0, .int 0] (.int 0) := Wg4
    refine go_dup (q := 316) d0_315 rfl rfl ?_
    refine go_iconst (x := (2 : Int32)) (q := 317) d0_316 rfl rfl ?_
    refine go_bipush (x := (109 : Int32)) (q := 319) d0_317 rfl rfl ?_
    refine go_castore (i := 2) (y := (109 : Int32)) (q := 320) Wg4 (by decide) rfl (Nat.le_of_ble_eq_true rfl) (by simp) (nar_char ((by decide : ¬ (109 : Int32) < 0 ∧ ¬ 255 < (109 : Int32))).1 ((by decide : ¬ (109 : Int32) < 0 ∧ ¬ 255 < (109 : Int32))).2) d0_319 rfl ?_
    intro hg5 Kg5 zg5 Wg5
    have Ka : Keep h hg5 [] := kfresh Ka Kg5 f_Ka_yg
    have Kf : Keep hf7 hg5 [] := kfresh Kf Kg5 f_Kf_yg
    have Wg5 : Arv Z hg5 yg kg .char (4 : Int32) [.int (97 : Int32), .int (100 : Int32), .int (109 : Int32), .int 0] (.int 0) := Wg5
    refine go_dup (q := 321) d0_320 rfl rfl ?_
    refine go_iconst (x := (3 : Int32)) (q := 322) d0_321 rfl rfl ?_
    refine go_bipush (x := (105 : Int32)) (q := 324) d0_322 rfl rfl ?_
    refine go_castore (i := 3) (y := (105 : Int32)) (q := 325) Wg5 (by decide) rfl (Nat.le_of_ble_eq_true rfl) (by simp) (nar_char ((by decide : ¬ (105 : Int32) < 0 ∧ ¬ 255 < (105 : Int32))).1 ((by decide : ¬ (105 : Int32) < 0 ∧ ¬ 255 < (105 : Int32))).2) d0_324 rfl ?_
    intro hg6 Kg6 zg6 Wg6
    have Ka : Keep h hg6 [] := kfresh Ka Kg6 f_Ka_yg
    have Kf : Keep hf7 hg6 [] := kfresh Kf Kg6 f_Kf_yg
    have Wg6 : Arv Z hg6 yg kg .char (4 : Int32) [.int (97 : Int32), .int (100 : Int32), .int (109 : Int32), .int (105 : Int32)] (.int 0) := Wg6
    refine go_astore (L' := #[.val (.int n), .val (.int v), .val (.int p), .val (.int c), .val (.int d), .val (.ref yf), .val (.ref yg), .unset]) (q := 327) d0_325 rfl rfl rfl ?_
    have Kg : Keep hg6 hg6 [] := Keep.refl _ _
    refine go_bipush (x := (6 : Int32)) (q := 329) d0_327 rfl rfl ?_
    refine go_newarray (ty := .char) (dv := .int 0) (n := 6) (cap := 6) (ad := "[C") (c' := 3) (s' := 15) (q := 331) rfl rfl (by decide) (w_4 H) d0_329 (by decide) (by decide) (by decide) rfl rfl rfl rfl (by decide) (by decide) ?_
    intro hl2 yl kl gl2 El2 Wl2 Xl2
    have f_Ka_yl : h.size ≤ yl := by rw [gl2]; exact Ka.1
    have f_Kf_yl : hf7.size ≤ yl := by rw [gl2]; exact Kf.1
    have f_Kg_yl : hg6.size ≤ yl := by rw [gl2]; exact Kg.1
    have Ka : Keep h hl2 [] := Ka.ext El2
    have Kf : Keep hf7 hl2 [] := Kf.ext El2
    have Kg : Keep hg6 hl2 [] := Kg.ext El2
    have Wl2 : Arv Z hl2 yl kl .char (6 : Int32) [.int 0, .int 0, .int 0, .int 0, .int 0, .int 0] (.int 0) := Wl2
    refine go_dup (q := 332) d0_331 rfl rfl ?_
    refine go_iconst (x := (0 : Int32)) (q := 333) d0_332 rfl rfl ?_
    refine go_bipush (x := (97 : Int32)) (q := 335) d0_333 rfl rfl ?_
    refine go_castore (i := 0) (y := (97 : Int32)) (q := 336) Wl2 (by decide) rfl (Nat.le_of_ble_eq_true rfl) (by simp) (nar_char ((by decide : ¬ (97 : Int32) < 0 ∧ ¬ 255 < (97 : Int32))).1 ((by decide : ¬ (97 : Int32) < 0 ∧ ¬ 255 < (97 : Int32))).2) d0_335 rfl ?_
    intro hl3 Kl3 zl3 Wl3
    have Ka : Keep h hl3 [] := kfresh Ka Kl3 f_Ka_yl
    have Kf : Keep hf7 hl3 [] := kfresh Kf Kl3 f_Kf_yl
    have Kg : Keep hg6 hl3 [] := kfresh Kg Kl3 f_Kg_yl
    have Wl3 : Arv Z hl3 yl kl .char (6 : Int32) [.int (97 : Int32), .int 0, .int 0, .int 0, .int 0, .int 0] (.int 0) := Wl3
    refine go_dup (q := 337) d0_336 rfl rfl ?_
    refine go_iconst (x := (1 : Int32)) (q := 338) d0_337 rfl rfl ?_
    refine go_bipush (x := (100 : Int32)) (q := 340) d0_338 rfl rfl ?_
    refine go_castore (i := 1) (y := (100 : Int32)) (q := 341) Wl3 (by decide) rfl (Nat.le_of_ble_eq_true rfl) (by simp) (nar_char ((by decide : ¬ (100 : Int32) < 0 ∧ ¬ 255 < (100 : Int32))).1 ((by decide : ¬ (100 : Int32) < 0 ∧ ¬ 255 < (100 : Int32))).2) d0_340 rfl ?_
    intro hl4 Kl4 zl4 Wl4
    have Ka : Keep h hl4 [] := kfresh Ka Kl4 f_Ka_yl
    have Kf : Keep hf7 hl4 [] := kfresh Kf Kl4 f_Kf_yl
    have Kg : Keep hg6 hl4 [] := kfresh Kg Kl4 f_Kg_yl
    have Wl4 : Arv Z hl4 yl kl .char (6 : Int32) [.int (97 : Int32), .int (100 : Int32), .int 0, .int 0, .int 0, .int 0] (.int 0) := Wl4
    refine go_dup (q := 342) d0_341 rfl rfl ?_
    refine go_iconst (x := (2 : Int32)) (q := 343) d0_342 rfl rfl ?_
    refine go_bipush (x := (109 : Int32)) (q := 345) d0_343 rfl rfl ?_
    refine go_castore (i := 2) (y := (109 : Int32)) (q := 346) Wl4 (by decide) rfl (Nat.le_of_ble_eq_true rfl) (by simp) (nar_char ((by decide : ¬ (109 : Int32) < 0 ∧ ¬ 255 < (109 : Int32))).1 ((by decide : ¬ (109 : Int32) < 0 ∧ ¬ 255 < (109 : Int32))).2) d0_345 rfl ?_
    intro hl5 Kl5 zl5 Wl5
    have Ka : Keep h hl5 [] := kfresh Ka Kl5 f_Ka_yl
    have Kf : Keep hf7 hl5 [] := kfresh Kf Kl5 f_Kf_yl
    have Kg : Keep hg6 hl5 [] := kfresh Kg Kl5 f_Kg_yl
    have Wl5 : Arv Z hl5 yl kl .char (6 : Int32) [.int (97 : Int32), .int (100 : Int32), .int (109 : Int32), .int 0, .int 0, .int 0] (.int 0) := Wl5
    refine go_dup (q := 347) d0_346 rfl rfl ?_
    refine go_iconst (x := (3 : Int32)) (q := 348) d0_347 rfl rfl ?_
    refine go_bipush (x := (105 : Int32)) (q := 350) d0_348 rfl rfl ?_
    refine go_castore (i := 3) (y := (105 : Int32)) (q := 351) Wl5 (by decide) rfl (Nat.le_of_ble_eq_true rfl) (by simp) (nar_char ((by decide : ¬ (105 : Int32) < 0 ∧ ¬ 255 < (105 : Int32))).1 ((by decide : ¬ (105 : Int32) < 0 ∧ ¬ 255 < (105 : Int32))).2) d0_350 rfl ?_
    intro hl6 Kl6 zl6 Wl6
    have Ka : Keep h hl6 [] := kfresh Ka Kl6 f_Ka_yl
    have Kf : Keep hf7 hl6 [] := kfresh Kf Kl6 f_Kf_yl
    have Kg : Keep hg6 hl6 [] := kfresh Kg Kl6 f_Kg_yl
    have Wl6 : Arv Z hl6 yl kl .char (6 : Int32) [.int (97 : Int32), .int (100 : Int32), .int (109 : Int32), .int (105 : Int32), .int 0, .int 0] (.int 0) := Wl6
    refine go_dup (q := 352) d0_351 rfl rfl ?_
    refine go_iconst (x := (4 : Int32)) (q := 353) d0_352 rfl rfl ?_
    refine go_bipush (x := (110 : Int32)) (q := 355) d0_353 rfl rfl ?_
    refine go_castore (i := 4) (y := (110 : Int32)) (q := 356) Wl6 (by decide) rfl (Nat.le_of_ble_eq_true rfl) (by simp) (nar_char ((by decide : ¬ (110 : Int32) < 0 ∧ ¬ 255 < (110 : Int32))).1 ((by decide : ¬ (110 : Int32) < 0 ∧ ¬ 255 < (110 : Int32))).2) d0_355 rfl ?_
    intro hl7 Kl7 zl7 Wl7
    have Ka : Keep h hl7 [] := kfresh Ka Kl7 f_Ka_yl
    have Kf : Keep hf7 hl7 [] := kfresh Kf Kl7 f_Kf_yl
    have Kg : Keep hg6 hl7 [] := kfresh Kg Kl7 f_Kg_yl
    have Wl7 : Arv Z hl7 yl kl .char (6 : Int32) [.int (97 : Int32), .int (100 : Int32), .int (109 : Int32), .int (105 : Int32), .int (110 : Int32), .int 0] (.int 0) := Wl7
    refine go_dup (q := 357) d0_356 rfl rfl ?_
    refine go_iconst (x := (5 : Int32)) (q := 358) d0_357 rfl rfl ?_
    refine go_iloadN (v := c) (q := 359) d0_358 rfl rfl ?_
    refine go_castore (i := 5) (y := c) (q := 360) Wl7 (by decide) rfl (Nat.le_of_ble_eq_true rfl) (by simp) (nar_char (hc).1 (hc).2) d0_359 rfl ?_
    intro hl8 Kl8 zl8 Wl8
    have Ka : Keep h hl8 [] := kfresh Ka Kl8 f_Ka_yl
    have Kf : Keep hf7 hl8 [] := kfresh Kf Kl8 f_Kf_yl
    have Kg : Keep hg6 hl8 [] := kfresh Kg Kl8 f_Kg_yl
    have Wl8 : Arv Z hl8 yl kl .char (6 : Int32) [.int (97 : Int32), .int (100 : Int32), .int (109 : Int32), .int (105 : Int32), .int (110 : Int32), .int c] (.int 0) := Wl8
    refine go_astore (L' := #[.val (.int n), .val (.int v), .val (.int p), .val (.int c), .val (.int d), .val (.ref yf), .val (.ref yg), .val (.ref yl)]) (q := 362) d0_360 rfl rfl rfl ?_
    have Kl : Keep hl8 hl8 [] := Keep.refl _ _
    refine go_goto (q := 598) d0_362 (by decide) (by decide) ?_
    refine go_less (F' := (yf :: F)) (c' := 3) (s' := 42) (by intro y q; rcases List.mem_cons.mp q with rfl | q <;> simp_all) (by decide) (by decide) ?_
    exact j598 H (cf := [(97 : Int32), (100 : Int32), (109 : Int32), (105 : Int32), (110 : Int32)]) (cg := [(97 : Int32), (100 : Int32), (109 : Int32), (105 : Int32)]) (cl := [(97 : Int32), (100 : Int32), (109 : Int32), (105 : Int32), (110 : Int32), c]) Ka f_Ka_yf hFl hc (Wf7.keep Kf nin0) ⟨Nat.le_of_ble_eq_true rfl, (by intro c hc; simp only [List.mem_cons, List.not_mem_nil, or_false] at hc; rcases hc with rfl | rfl | rfl | rfl | rfl <;> first | exact (by decide : ¬ (97 : Int32) < 0 ∧ ¬ 255 < (97 : Int32)) | exact (by decide : ¬ (110 : Int32) < 0 ∧ ¬ 255 < (110 : Int32)) | exact (by decide : ¬ (109 : Int32) < 0 ∧ ¬ 255 < (109 : Int32)) | exact (by decide : ¬ (105 : Int32) < 0 ∧ ¬ 255 < (105 : Int32)) | exact (by decide : ¬ (100 : Int32) < 0 ∧ ¬ 255 < (100 : Int32)))⟩ (by simp) (Nat.le_of_ble_eq_true rfl) (Wg6.keep Kg nin0) ⟨Nat.le_of_ble_eq_true rfl, (by intro c hc; simp only [List.mem_cons, List.not_mem_nil, or_false] at hc; rcases hc with rfl | rfl | rfl | rfl <;> first | exact (by decide : ¬ (97 : Int32) < 0 ∧ ¬ 255 < (97 : Int32)) | exact (by decide : ¬ (109 : Int32) < 0 ∧ ¬ 255 < (109 : Int32)) | exact (by decide : ¬ (105 : Int32) < 0 ∧ ¬ 255 < (105 : Int32)) | exact (by decide : ¬ (100 : Int32) < 0 ∧ ¬ 255 < (100 : Int32)))⟩ (by simp) (Nat.le_of_ble_eq_true rfl) (Wl8.keep Kl nin0) ⟨Nat.le_of_ble_eq_true rfl, (by intro c hc; simp only [List.mem_cons, List.not_mem_nil, or_false] at hc; rcases hc with rfl | rfl | rfl | rfl | rfl | rfl <;> first | exact hc | exact (by decide : ¬ (97 : Int32) < 0 ∧ ¬ 255 < (97 : Int32)) | exact (by decide : ¬ (110 : Int32) < 0 ∧ ¬ 255 < (110 : Int32)) | exact (by decide : ¬ (109 : Int32) < 0 ∧ ¬ 255 < (109 : Int32)) | exact (by decide : ¬ (105 : Int32) < 0 ∧ ¬ 255 < (105 : Int32)) | exact (by decide : ¬ (100 : Int32) < 0 ∧ ¬ 255 < (100 : Int32)))⟩ (by simp) (Nat.le_of_ble_eq_true rfl)
  refine go_icY (q := 365) d0_269 q1 (by decide) (by decide) ?_
  refine go_bipush (x := (13 : Int32)) (q := 367) d0_365 rfl rfl ?_
  refine go_newarray (ty := .char) (dv := .int 0) (n := 13) (cap := 13) (ad := "[C") (c' := 1) (s' := 13) (q := 369) rfl rfl (by decide) (w_4 H) d0_367 (by decide) (by decide) (by decide) rfl rfl rfl rfl (by decide) (by decide) ?_
  intro hf2 yf kf gf2 Ef2 Wf2 Xf2
  have f_Ka_yf : h.size ≤ yf := by rw [gf2]; exact Ka.1
  have Ka : Keep h hf2 [] := Ka.ext Ef2
  have Wf2 : Arv Z hf2 yf kf .char (13 : Int32) [.int 0, .int 0, .int 0, .int 0, .int 0, .int 0, .int 0, .int 0, .int 0, .int 0, .int 0, .int 0, .int 0] (.int 0) := Wf2
  refine go_dup (q := 370) d0_369 rfl rfl ?_
  refine go_iconst (x := (0 : Int32)) (q := 371) d0_370 rfl rfl ?_
  refine go_bipush (x := (97 : Int32)) (q := 373) d0_371 rfl rfl ?_
  refine go_castore (i := 0) (y := (97 : Int32)) (q := 374) Wf2 (by decide) rfl (Nat.le_of_ble_eq_true rfl) (by simp) (nar_char ((by decide : ¬ (97 : Int32) < 0 ∧ ¬ 255 < (97 : Int32))).1 ((by decide : ¬ (97 : Int32) < 0 ∧ ¬ 255 < (97 : Int32))).2) d0_373 rfl ?_
  intro hf3 Kf3 zf3 Wf3
  have Ka : Keep h hf3 [] := kfresh Ka Kf3 f_Ka_yf
  have Wf3 : Arv Z hf3 yf kf .char (13 : Int32) [.int (97 : Int32), .int 0, .int 0, .int 0, .int 0, .int 0, .int 0, .int 0, .int 0, .int 0, .int 0, .int 0, .int 0] (.int 0) := Wf3
  refine go_dup (q := 375) d0_374 rfl rfl ?_
  refine go_iconst (x := (1 : Int32)) (q := 376) d0_375 rfl rfl ?_
  refine go_bipush (x := (100 : Int32)) (q := 378) d0_376 rfl rfl ?_
  refine go_castore (i := 1) (y := (100 : Int32)) (q := 379) Wf3 (by decide) rfl (Nat.le_of_ble_eq_true rfl) (by simp) (nar_char ((by decide : ¬ (100 : Int32) < 0 ∧ ¬ 255 < (100 : Int32))).1 ((by decide : ¬ (100 : Int32) < 0 ∧ ¬ 255 < (100 : Int32))).2) d0_378 rfl ?_
  intro hf4 Kf4 zf4 Wf4
  have Ka : Keep h hf4 [] := kfresh Ka Kf4 f_Ka_yf
  have Wf4 : Arv Z hf4 yf kf .char (13 : Int32) [.int (97 : Int32), .int (100 : Int32), .int 0, .int 0, .int 0, .int 0, .int 0, .int 0, .int 0, .int 0, .int 0, .int 0, .int 0] (.int 0) := Wf4
  refine go_dup (q := 380) d0_379 rfl rfl ?_
  refine go_iconst (x := (2 : Int32)) (q := 381) d0_380 rfl rfl ?_
  refine go_bipush (x := (109 : Int32)) (q := 383) d0_381 rfl rfl ?_
  refine go_castore (i := 2) (y := (109 : Int32)) (q := 384) Wf4 (by decide) rfl (Nat.le_of_ble_eq_true rfl) (by simp) (nar_char ((by decide : ¬ (109 : Int32) < 0 ∧ ¬ 255 < (109 : Int32))).1 ((by decide : ¬ (109 : Int32) < 0 ∧ ¬ 255 < (109 : Int32))).2) d0_383 rfl ?_
  intro hf5 Kf5 zf5 Wf5
  have Ka : Keep h hf5 [] := kfresh Ka Kf5 f_Ka_yf
  have Wf5 : Arv Z hf5 yf kf .char (13 : Int32) [.int (97 : Int32), .int (100 : Int32), .int (109 : Int32), .int 0, .int 0, .int 0, .int 0, .int 0, .int 0, .int 0, .int 0, .int 0, .int 0] (.int 0) := Wf5
  refine go_dup (q := 385) d0_384 rfl rfl ?_
  refine go_iconst (x := (3 : Int32)) (q := 386) d0_385 rfl rfl ?_
  refine go_bipush (x := (105 : Int32)) (q := 388) d0_386 rfl rfl ?_
  refine go_castore (i := 3) (y := (105 : Int32)) (q := 389) Wf5 (by decide) rfl (Nat.le_of_ble_eq_true rfl) (by simp) (nar_char ((by decide : ¬ (105 : Int32) < 0 ∧ ¬ 255 < (105 : Int32))).1 ((by decide : ¬ (105 : Int32) < 0 ∧ ¬ 255 < (105 : Int32))).2) d0_388 rfl ?_
  intro hf6 Kf6 zf6 Wf6
  have Ka : Keep h hf6 [] := kfresh Ka Kf6 f_Ka_yf
  have Wf6 : Arv Z hf6 yf kf .char (13 : Int32) [.int (97 : Int32), .int (100 : Int32), .int (109 : Int32), .int (105 : Int32), .int 0, .int 0, .int 0, .int 0, .int 0, .int 0, .int 0, .int 0, .int 0] (.int 0) := Wf6
  refine go_dup (q := 390) d0_389 rfl rfl ?_
  refine go_iconst (x := (4 : Int32)) (q := 391) d0_390 rfl rfl ?_
  refine go_bipush (x := (110 : Int32)) (q := 393) d0_391 rfl rfl ?_
  refine go_castore (i := 4) (y := (110 : Int32)) (q := 394) Wf6 (by decide) rfl (Nat.le_of_ble_eq_true rfl) (by simp) (nar_char ((by decide : ¬ (110 : Int32) < 0 ∧ ¬ 255 < (110 : Int32))).1 ((by decide : ¬ (110 : Int32) < 0 ∧ ¬ 255 < (110 : Int32))).2) d0_393 rfl ?_
  intro hf7 Kf7 zf7 Wf7
  have Ka : Keep h hf7 [] := kfresh Ka Kf7 f_Ka_yf
  have Wf7 : Arv Z hf7 yf kf .char (13 : Int32) [.int (97 : Int32), .int (100 : Int32), .int (109 : Int32), .int (105 : Int32), .int (110 : Int32), .int 0, .int 0, .int 0, .int 0, .int 0, .int 0, .int 0, .int 0] (.int 0) := Wf7
  refine go_dup (q := 395) d0_394 rfl rfl ?_
  refine go_iconst (x := (5 : Int32)) (q := 396) d0_395 rfl rfl ?_
  refine go_bipush (x := (115 : Int32)) (q := 398) d0_396 rfl rfl ?_
  refine go_castore (i := 5) (y := (115 : Int32)) (q := 399) Wf7 (by decide) rfl (Nat.le_of_ble_eq_true rfl) (by simp) (nar_char ((by decide : ¬ (115 : Int32) < 0 ∧ ¬ 255 < (115 : Int32))).1 ((by decide : ¬ (115 : Int32) < 0 ∧ ¬ 255 < (115 : Int32))).2) d0_398 rfl ?_
  intro hf8 Kf8 zf8 Wf8
  have Ka : Keep h hf8 [] := kfresh Ka Kf8 f_Ka_yf
  have Wf8 : Arv Z hf8 yf kf .char (13 : Int32) [.int (97 : Int32), .int (100 : Int32), .int (109 : Int32), .int (105 : Int32), .int (110 : Int32), .int (115 : Int32), .int 0, .int 0, .int 0, .int 0, .int 0, .int 0, .int 0] (.int 0) := Wf8
  refine go_dup (q := 400) d0_399 rfl rfl ?_
  refine go_bipush (x := (6 : Int32)) (q := 402) d0_400 rfl rfl ?_
  refine go_bipush (x := (58 : Int32)) (q := 404) d0_402 rfl rfl ?_
  refine go_castore (i := 6) (y := (58 : Int32)) (q := 405) Wf8 (by decide) rfl (Nat.le_of_ble_eq_true rfl) (by simp) (nar_char ((by decide : ¬ (58 : Int32) < 0 ∧ ¬ 255 < (58 : Int32))).1 ((by decide : ¬ (58 : Int32) < 0 ∧ ¬ 255 < (58 : Int32))).2) d0_404 rfl ?_
  intro hf9 Kf9 zf9 Wf9
  have Ka : Keep h hf9 [] := kfresh Ka Kf9 f_Ka_yf
  have Wf9 : Arv Z hf9 yf kf .char (13 : Int32) [.int (97 : Int32), .int (100 : Int32), .int (109 : Int32), .int (105 : Int32), .int (110 : Int32), .int (115 : Int32), .int (58 : Int32), .int 0, .int 0, .int 0, .int 0, .int 0, .int 0] (.int 0) := Wf9
  refine go_dup (q := 406) d0_405 rfl rfl ?_
  refine go_bipush (x := (7 : Int32)) (q := 408) d0_406 rfl rfl ?_
  refine go_bipush (x := (109 : Int32)) (q := 410) d0_408 rfl rfl ?_
  refine go_castore (i := 7) (y := (109 : Int32)) (q := 411) Wf9 (by decide) rfl (Nat.le_of_ble_eq_true rfl) (by simp) (nar_char ((by decide : ¬ (109 : Int32) < 0 ∧ ¬ 255 < (109 : Int32))).1 ((by decide : ¬ (109 : Int32) < 0 ∧ ¬ 255 < (109 : Int32))).2) d0_410 rfl ?_
  intro hf10 Kf10 zf10 Wf10
  have Ka : Keep h hf10 [] := kfresh Ka Kf10 f_Ka_yf
  have Wf10 : Arv Z hf10 yf kf .char (13 : Int32) [.int (97 : Int32), .int (100 : Int32), .int (109 : Int32), .int (105 : Int32), .int (110 : Int32), .int (115 : Int32), .int (58 : Int32), .int (109 : Int32), .int 0, .int 0, .int 0, .int 0, .int 0] (.int 0) := Wf10
  refine go_dup (q := 412) d0_411 rfl rfl ?_
  refine go_bipush (x := (8 : Int32)) (q := 414) d0_412 rfl rfl ?_
  refine go_bipush (x := (97 : Int32)) (q := 416) d0_414 rfl rfl ?_
  refine go_castore (i := 8) (y := (97 : Int32)) (q := 417) Wf10 (by decide) rfl (Nat.le_of_ble_eq_true rfl) (by simp) (nar_char ((by decide : ¬ (97 : Int32) < 0 ∧ ¬ 255 < (97 : Int32))).1 ((by decide : ¬ (97 : Int32) < 0 ∧ ¬ 255 < (97 : Int32))).2) d0_416 rfl ?_
  intro hf11 Kf11 zf11 Wf11
  have Ka : Keep h hf11 [] := kfresh Ka Kf11 f_Ka_yf
  have Wf11 : Arv Z hf11 yf kf .char (13 : Int32) [.int (97 : Int32), .int (100 : Int32), .int (109 : Int32), .int (105 : Int32), .int (110 : Int32), .int (115 : Int32), .int (58 : Int32), .int (109 : Int32), .int (97 : Int32), .int 0, .int 0, .int 0, .int 0] (.int 0) := Wf11
  refine go_dup (q := 418) d0_417 rfl rfl ?_
  refine go_bipush (x := (9 : Int32)) (q := 420) d0_418 rfl rfl ?_
  refine go_bipush (x := (110 : Int32)) (q := 422) d0_420 rfl rfl ?_
  refine go_castore (i := 9) (y := (110 : Int32)) (q := 423) Wf11 (by decide) rfl (Nat.le_of_ble_eq_true rfl) (by simp) (nar_char ((by decide : ¬ (110 : Int32) < 0 ∧ ¬ 255 < (110 : Int32))).1 ((by decide : ¬ (110 : Int32) < 0 ∧ ¬ 255 < (110 : Int32))).2) d0_422 rfl ?_
  intro hf12 Kf12 zf12 Wf12
  have Ka : Keep h hf12 [] := kfresh Ka Kf12 f_Ka_yf
  have Wf12 : Arv Z hf12 yf kf .char (13 : Int32) [.int (97 : Int32), .int (100 : Int32), .int (109 : Int32), .int (105 : Int32), .int (110 : Int32), .int (115 : Int32), .int (58 : Int32), .int (109 : Int32), .int (97 : Int32), .int (110 : Int32), .int 0, .int 0, .int 0] (.int 0) := Wf12
  refine go_dup (q := 424) d0_423 rfl rfl ?_
  refine go_bipush (x := (10 : Int32)) (q := 426) d0_424 rfl rfl ?_
  refine go_bipush (x := (97 : Int32)) (q := 428) d0_426 rfl rfl ?_
  refine go_castore (i := 10) (y := (97 : Int32)) (q := 429) Wf12 (by decide) rfl (Nat.le_of_ble_eq_true rfl) (by simp) (nar_char ((by decide : ¬ (97 : Int32) < 0 ∧ ¬ 255 < (97 : Int32))).1 ((by decide : ¬ (97 : Int32) < 0 ∧ ¬ 255 < (97 : Int32))).2) d0_428 rfl ?_
  intro hf13 Kf13 zf13 Wf13
  have Ka : Keep h hf13 [] := kfresh Ka Kf13 f_Ka_yf
  have Wf13 : Arv Z hf13 yf kf .char (13 : Int32) [.int (97 : Int32), .int (100 : Int32), .int (109 : Int32), .int (105 : Int32), .int (110 : Int32), .int (115 : Int32), .int (58 : Int32), .int (109 : Int32), .int (97 : Int32), .int (110 : Int32), .int (97 : Int32), .int 0, .int 0] (.int 0) := Wf13
  refine go_dup (q := 430) d0_429 rfl rfl ?_
  refine go_bipush (x := (11 : Int32)) (q := 432) d0_430 rfl rfl ?_
  refine go_bipush (x := (103 : Int32)) (q := 434) d0_432 rfl rfl ?_
  refine go_castore (i := 11) (y := (103 : Int32)) (q := 435) Wf13 (by decide) rfl (Nat.le_of_ble_eq_true rfl) (by simp) (nar_char ((by decide : ¬ (103 : Int32) < 0 ∧ ¬ 255 < (103 : Int32))).1 ((by decide : ¬ (103 : Int32) < 0 ∧ ¬ 255 < (103 : Int32))).2) d0_434 rfl ?_
  intro hf14 Kf14 zf14 Wf14
  have Ka : Keep h hf14 [] := kfresh Ka Kf14 f_Ka_yf
  have Wf14 : Arv Z hf14 yf kf .char (13 : Int32) [.int (97 : Int32), .int (100 : Int32), .int (109 : Int32), .int (105 : Int32), .int (110 : Int32), .int (115 : Int32), .int (58 : Int32), .int (109 : Int32), .int (97 : Int32), .int (110 : Int32), .int (97 : Int32), .int (103 : Int32), .int 0] (.int 0) := Wf14
  refine go_dup (q := 436) d0_435 rfl rfl ?_
  refine go_bipush (x := (12 : Int32)) (q := 438) d0_436 rfl rfl ?_
  refine go_bipush (x := (101 : Int32)) (q := 440) d0_438 rfl rfl ?_
  refine go_castore (i := 12) (y := (101 : Int32)) (q := 441) Wf14 (by decide) rfl (Nat.le_of_ble_eq_true rfl) (by simp) (nar_char ((by decide : ¬ (101 : Int32) < 0 ∧ ¬ 255 < (101 : Int32))).1 ((by decide : ¬ (101 : Int32) < 0 ∧ ¬ 255 < (101 : Int32))).2) d0_440 rfl ?_
  intro hf15 Kf15 zf15 Wf15
  have Ka : Keep h hf15 [] := kfresh Ka Kf15 f_Ka_yf
  have Wf15 : Arv Z hf15 yf kf .char (13 : Int32) [.int (97 : Int32), .int (100 : Int32), .int (109 : Int32), .int (105 : Int32), .int (110 : Int32), .int (115 : Int32), .int (58 : Int32), .int (109 : Int32), .int (97 : Int32), .int (110 : Int32), .int (97 : Int32), .int (103 : Int32), .int (101 : Int32)] (.int 0) := Wf15
  refine go_astore (L' := #[.val (.int n), .val (.int v), .val (.int p), .val (.int c), .val (.int d), .val (.ref yf), .unset, .unset]) (q := 443) d0_441 rfl rfl rfl ?_
  have Kf : Keep hf15 hf15 [] := Keep.refl _ _
  refine go_bipush (x := (12 : Int32)) (q := 445) d0_443 rfl rfl ?_
  refine go_newarray (ty := .char) (dv := .int 0) (n := 12) (cap := 12) (ad := "[C") (c' := 2) (s' := 25) (q := 447) rfl rfl (by decide) (w_4 H) d0_445 (by decide) (by decide) (by decide) rfl rfl rfl rfl (by decide) (by decide) ?_
  intro hg2 yg kg gg2 Eg2 Wg2 Xg2
  have f_Ka_yg : h.size ≤ yg := by rw [gg2]; exact Ka.1
  have f_Kf_yg : hf15.size ≤ yg := by rw [gg2]; exact Kf.1
  have Ka : Keep h hg2 [] := Ka.ext Eg2
  have Kf : Keep hf15 hg2 [] := Kf.ext Eg2
  have Wg2 : Arv Z hg2 yg kg .char (12 : Int32) [.int 0, .int 0, .int 0, .int 0, .int 0, .int 0, .int 0, .int 0, .int 0, .int 0, .int 0, .int 0] (.int 0) := Wg2
  refine go_dup (q := 448) d0_447 rfl rfl ?_
  refine go_iconst (x := (0 : Int32)) (q := 449) d0_448 rfl rfl ?_
  refine go_bipush (x := (97 : Int32)) (q := 451) d0_449 rfl rfl ?_
  refine go_castore (i := 0) (y := (97 : Int32)) (q := 452) Wg2 (by decide) rfl (Nat.le_of_ble_eq_true rfl) (by simp) (nar_char ((by decide : ¬ (97 : Int32) < 0 ∧ ¬ 255 < (97 : Int32))).1 ((by decide : ¬ (97 : Int32) < 0 ∧ ¬ 255 < (97 : Int32))).2) d0_451 rfl ?_
  intro hg3 Kg3 zg3 Wg3
  have Ka : Keep h hg3 [] := kfresh Ka Kg3 f_Ka_yg
  have Kf : Keep hf15 hg3 [] := kfresh Kf Kg3 f_Kf_yg
  have Wg3 : Arv Z hg3 yg kg .char (12 : Int32) [.int (97 : Int32), .int 0, .int 0, .int 0, .int 0, .int 0, .int 0, .int 0, .int 0, .int 0, .int 0, .int 0] (.int 0) := Wg3
  refine go_dup (q := 453) d0_452 rfl rfl ?_
  refine go_iconst (x := (1 : Int32)) (q := 454) d0_453 rfl rfl ?_
  refine go_bipush (x := (100 : Int32)) (q := 456) d0_454 rfl rfl ?_
  refine go_castore (i := 1) (y := (100 : Int32)) (q := 457) Wg3 (by decide) rfl (Nat.le_of_ble_eq_true rfl) (by simp) (nar_char ((by decide : ¬ (100 : Int32) < 0 ∧ ¬ 255 < (100 : Int32))).1 ((by decide : ¬ (100 : Int32) < 0 ∧ ¬ 255 < (100 : Int32))).2) d0_456 rfl ?_
  intro hg4 Kg4 zg4 Wg4
  have Ka : Keep h hg4 [] := kfresh Ka Kg4 f_Ka_yg
  have Kf : Keep hf15 hg4 [] := kfresh Kf Kg4 f_Kf_yg
  have Wg4 : Arv Z hg4 yg kg .char (12 : Int32) [.int (97 : Int32), .int (100 : Int32), .int 0, .int 0, .int 0, .int 0, .int 0, .int 0, .int 0, .int 0, .int 0, .int 0] (.int 0) := Wg4
  refine go_dup (q := 458) d0_457 rfl rfl ?_
  refine go_iconst (x := (2 : Int32)) (q := 459) d0_458 rfl rfl ?_
  refine go_bipush (x := (109 : Int32)) (q := 461) d0_459 rfl rfl ?_
  refine go_castore (i := 2) (y := (109 : Int32)) (q := 462) Wg4 (by decide) rfl (Nat.le_of_ble_eq_true rfl) (by simp) (nar_char ((by decide : ¬ (109 : Int32) < 0 ∧ ¬ 255 < (109 : Int32))).1 ((by decide : ¬ (109 : Int32) < 0 ∧ ¬ 255 < (109 : Int32))).2) d0_461 rfl ?_
  intro hg5 Kg5 zg5 Wg5
  have Ka : Keep h hg5 [] := kfresh Ka Kg5 f_Ka_yg
  have Kf : Keep hf15 hg5 [] := kfresh Kf Kg5 f_Kf_yg
  have Wg5 : Arv Z hg5 yg kg .char (12 : Int32) [.int (97 : Int32), .int (100 : Int32), .int (109 : Int32), .int 0, .int 0, .int 0, .int 0, .int 0, .int 0, .int 0, .int 0, .int 0] (.int 0) := Wg5
  refine go_dup (q := 463) d0_462 rfl rfl ?_
  refine go_iconst (x := (3 : Int32)) (q := 464) d0_463 rfl rfl ?_
  refine go_bipush (x := (105 : Int32)) (q := 466) d0_464 rfl rfl ?_
  refine go_castore (i := 3) (y := (105 : Int32)) (q := 467) Wg5 (by decide) rfl (Nat.le_of_ble_eq_true rfl) (by simp) (nar_char ((by decide : ¬ (105 : Int32) < 0 ∧ ¬ 255 < (105 : Int32))).1 ((by decide : ¬ (105 : Int32) < 0 ∧ ¬ 255 < (105 : Int32))).2) d0_466 rfl ?_
  intro hg6 Kg6 zg6 Wg6
  have Ka : Keep h hg6 [] := kfresh Ka Kg6 f_Ka_yg
  have Kf : Keep hf15 hg6 [] := kfresh Kf Kg6 f_Kf_yg
  have Wg6 : Arv Z hg6 yg kg .char (12 : Int32) [.int (97 : Int32), .int (100 : Int32), .int (109 : Int32), .int (105 : Int32), .int 0, .int 0, .int 0, .int 0, .int 0, .int 0, .int 0, .int 0] (.int 0) := Wg6
  refine go_dup (q := 468) d0_467 rfl rfl ?_
  refine go_iconst (x := (4 : Int32)) (q := 469) d0_468 rfl rfl ?_
  refine go_bipush (x := (110 : Int32)) (q := 471) d0_469 rfl rfl ?_
  refine go_castore (i := 4) (y := (110 : Int32)) (q := 472) Wg6 (by decide) rfl (Nat.le_of_ble_eq_true rfl) (by simp) (nar_char ((by decide : ¬ (110 : Int32) < 0 ∧ ¬ 255 < (110 : Int32))).1 ((by decide : ¬ (110 : Int32) < 0 ∧ ¬ 255 < (110 : Int32))).2) d0_471 rfl ?_
  intro hg7 Kg7 zg7 Wg7
  have Ka : Keep h hg7 [] := kfresh Ka Kg7 f_Ka_yg
  have Kf : Keep hf15 hg7 [] := kfresh Kf Kg7 f_Kf_yg
  have Wg7 : Arv Z hg7 yg kg .char (12 : Int32) [.int (97 : Int32), .int (100 : Int32), .int (109 : Int32), .int (105 : Int32), .int (110 : Int32), .int 0, .int 0, .int 0, .int 0, .int 0, .int 0, .int 0] (.int 0) := Wg7
  refine go_dup (q := 473) d0_472 rfl rfl ?_
  refine go_iconst (x := (5 : Int32)) (q := 474) d0_473 rfl rfl ?_
  refine go_bipush (x := (115 : Int32)) (q := 476) d0_474 rfl rfl ?_
  refine go_castore (i := 5) (y := (115 : Int32)) (q := 477) Wg7 (by decide) rfl (Nat.le_of_ble_eq_true rfl) (by simp) (nar_char ((by decide : ¬ (115 : Int32) < 0 ∧ ¬ 255 < (115 : Int32))).1 ((by decide : ¬ (115 : Int32) < 0 ∧ ¬ 255 < (115 : Int32))).2) d0_476 rfl ?_
  intro hg8 Kg8 zg8 Wg8
  have Ka : Keep h hg8 [] := kfresh Ka Kg8 f_Ka_yg
  have Kf : Keep hf15 hg8 [] := kfresh Kf Kg8 f_Kf_yg
  have Wg8 : Arv Z hg8 yg kg .char (12 : Int32) [.int (97 : Int32), .int (100 : Int32), .int (109 : Int32), .int (105 : Int32), .int (110 : Int32), .int (115 : Int32), .int 0, .int 0, .int 0, .int 0, .int 0, .int 0] (.int 0) := Wg8
  refine go_dup (q := 478) d0_477 rfl rfl ?_
  refine go_bipush (x := (6 : Int32)) (q := 480) d0_478 rfl rfl ?_
  refine go_bipush (x := (58 : Int32)) (q := 482) d0_480 rfl rfl ?_
  refine go_castore (i := 6) (y := (58 : Int32)) (q := 483) Wg8 (by decide) rfl (Nat.le_of_ble_eq_true rfl) (by simp) (nar_char ((by decide : ¬ (58 : Int32) < 0 ∧ ¬ 255 < (58 : Int32))).1 ((by decide : ¬ (58 : Int32) < 0 ∧ ¬ 255 < (58 : Int32))).2) d0_482 rfl ?_
  intro hg9 Kg9 zg9 Wg9
  have Ka : Keep h hg9 [] := kfresh Ka Kg9 f_Ka_yg
  have Kf : Keep hf15 hg9 [] := kfresh Kf Kg9 f_Kf_yg
  have Wg9 : Arv Z hg9 yg kg .char (12 : Int32) [.int (97 : Int32), .int (100 : Int32), .int (109 : Int32), .int (105 : Int32), .int (110 : Int32), .int (115 : Int32), .int (58 : Int32), .int 0, .int 0, .int 0, .int 0, .int 0] (.int 0) := Wg9
  refine go_dup (q := 484) d0_483 rfl rfl ?_
  refine go_bipush (x := (7 : Int32)) (q := 486) d0_484 rfl rfl ?_
  refine go_bipush (x := (109 : Int32)) (q := 488) d0_486 rfl rfl ?_
  refine go_castore (i := 7) (y := (109 : Int32)) (q := 489) Wg9 (by decide) rfl (Nat.le_of_ble_eq_true rfl) (by simp) (nar_char ((by decide : ¬ (109 : Int32) < 0 ∧ ¬ 255 < (109 : Int32))).1 ((by decide : ¬ (109 : Int32) < 0 ∧ ¬ 255 < (109 : Int32))).2) d0_488 rfl ?_
  intro hg10 Kg10 zg10 Wg10
  have Ka : Keep h hg10 [] := kfresh Ka Kg10 f_Ka_yg
  have Kf : Keep hf15 hg10 [] := kfresh Kf Kg10 f_Kf_yg
  have Wg10 : Arv Z hg10 yg kg .char (12 : Int32) [.int (97 : Int32), .int (100 : Int32), .int (109 : Int32), .int (105 : Int32), .int (110 : Int32), .int (115 : Int32), .int (58 : Int32), .int (109 : Int32), .int 0, .int 0, .int 0, .int 0] (.int 0) := Wg10
  refine go_dup (q := 490) d0_489 rfl rfl ?_
  refine go_bipush (x := (8 : Int32)) (q := 492) d0_490 rfl rfl ?_
  refine go_bipush (x := (97 : Int32)) (q := 494) d0_492 rfl rfl ?_
  refine go_castore (i := 8) (y := (97 : Int32)) (q := 495) Wg10 (by decide) rfl (Nat.le_of_ble_eq_true rfl) (by simp) (nar_char ((by decide : ¬ (97 : Int32) < 0 ∧ ¬ 255 < (97 : Int32))).1 ((by decide : ¬ (97 : Int32) < 0 ∧ ¬ 255 < (97 : Int32))).2) d0_494 rfl ?_
  intro hg11 Kg11 zg11 Wg11
  have Ka : Keep h hg11 [] := kfresh Ka Kg11 f_Ka_yg
  have Kf : Keep hf15 hg11 [] := kfresh Kf Kg11 f_Kf_yg
  have Wg11 : Arv Z hg11 yg kg .char (12 : Int32) [.int (97 : Int32), .int (100 : Int32), .int (109 : Int32), .int (105 : Int32), .int (110 : Int32), .int (115 : Int32), .int (58 : Int32), .int (109 : Int32), .int (97 : Int32), .int 0, .int 0, .int 0] (.int 0) := Wg11
  refine go_dup (q := 496) d0_495 rfl rfl ?_
  refine go_bipush (x := (9 : Int32)) (q := 498) d0_496 rfl rfl ?_
  refine go_bipush (x := (110 : Int32)) (q := 500) d0_498 rfl rfl ?_
  refine go_castore (i := 9) (y := (110 : Int32)) (q := 501) Wg11 (by decide) rfl (Nat.le_of_ble_eq_true rfl) (by simp) (nar_char ((by decide : ¬ (110 : Int32) < 0 ∧ ¬ 255 < (110 : Int32))).1 ((by decide : ¬ (110 : Int32) < 0 ∧ ¬ 255 < (110 : Int32))).2) d0_500 rfl ?_
  intro hg12 Kg12 zg12 Wg12
  have Ka : Keep h hg12 [] := kfresh Ka Kg12 f_Ka_yg
  have Kf : Keep hf15 hg12 [] := kfresh Kf Kg12 f_Kf_yg
  have Wg12 : Arv Z hg12 yg kg .char (12 : Int32) [.int (97 : Int32), .int (100 : Int32), .int (109 : Int32), .int (105 : Int32), .int (110 : Int32), .int (115 : Int32), .int (58 : Int32), .int (109 : Int32), .int (97 : Int32), .int (110 : Int32), .int 0, .int 0] (.int 0) := Wg12
  refine go_dup (q := 502) d0_501 rfl rfl ?_
  refine go_bipush (x := (10 : Int32)) (q := 504) d0_502 rfl rfl ?_
  refine go_bipush (x := (97 : Int32)) (q := 506) d0_504 rfl rfl ?_
  refine go_castore (i := 10) (y := (97 : Int32)) (q := 507) Wg12 (by decide) rfl (Nat.le_of_ble_eq_true rfl) (by simp) (nar_char ((by decide : ¬ (97 : Int32) < 0 ∧ ¬ 255 < (97 : Int32))).1 ((by decide : ¬ (97 : Int32) < 0 ∧ ¬ 255 < (97 : Int32))).2) d0_506 rfl ?_
  intro hg13 Kg13 zg13 Wg13
  have Ka : Keep h hg13 [] := kfresh Ka Kg13 f_Ka_yg
  have Kf : Keep hf15 hg13 [] := kfresh Kf Kg13 f_Kf_yg
  have Wg13 : Arv Z hg13 yg kg .char (12 : Int32) [.int (97 : Int32), .int (100 : Int32), .int (109 : Int32), .int (105 : Int32), .int (110 : Int32), .int (115 : Int32), .int (58 : Int32), .int (109 : Int32), .int (97 : Int32), .int (110 : Int32), .int (97 : Int32), .int 0] (.int 0) := Wg13
  refine go_dup (q := 508) d0_507 rfl rfl ?_
  refine go_bipush (x := (11 : Int32)) (q := 510) d0_508 rfl rfl ?_
  refine go_bipush (x := (103 : Int32)) (q := 512) d0_510 rfl rfl ?_
  refine go_castore (i := 11) (y := (103 : Int32)) (q := 513) Wg13 (by decide) rfl (Nat.le_of_ble_eq_true rfl) (by simp) (nar_char ((by decide : ¬ (103 : Int32) < 0 ∧ ¬ 255 < (103 : Int32))).1 ((by decide : ¬ (103 : Int32) < 0 ∧ ¬ 255 < (103 : Int32))).2) d0_512 rfl ?_
  intro hg14 Kg14 zg14 Wg14
  have Ka : Keep h hg14 [] := kfresh Ka Kg14 f_Ka_yg
  have Kf : Keep hf15 hg14 [] := kfresh Kf Kg14 f_Kf_yg
  have Wg14 : Arv Z hg14 yg kg .char (12 : Int32) [.int (97 : Int32), .int (100 : Int32), .int (109 : Int32), .int (105 : Int32), .int (110 : Int32), .int (115 : Int32), .int (58 : Int32), .int (109 : Int32), .int (97 : Int32), .int (110 : Int32), .int (97 : Int32), .int (103 : Int32)] (.int 0) := Wg14
  refine go_astore (L' := #[.val (.int n), .val (.int v), .val (.int p), .val (.int c), .val (.int d), .val (.ref yf), .val (.ref yg), .unset]) (q := 515) d0_513 rfl rfl rfl ?_
  have Kg : Keep hg14 hg14 [] := Keep.refl _ _
  refine go_bipush (x := (14 : Int32)) (q := 517) d0_515 rfl rfl ?_
  refine go_newarray (ty := .char) (dv := .int 0) (n := 14) (cap := 14) (ad := "[C") (c' := 3) (s' := 39) (q := 519) rfl rfl (by decide) (w_4 H) d0_517 (by decide) (by decide) (by decide) rfl rfl rfl rfl (by decide) (by decide) ?_
  intro hl2 yl kl gl2 El2 Wl2 Xl2
  have f_Ka_yl : h.size ≤ yl := by rw [gl2]; exact Ka.1
  have f_Kf_yl : hf15.size ≤ yl := by rw [gl2]; exact Kf.1
  have f_Kg_yl : hg14.size ≤ yl := by rw [gl2]; exact Kg.1
  have Ka : Keep h hl2 [] := Ka.ext El2
  have Kf : Keep hf15 hl2 [] := Kf.ext El2
  have Kg : Keep hg14 hl2 [] := Kg.ext El2
  have Wl2 : Arv Z hl2 yl kl .char (14 : Int32) [.int 0, .int 0, .int 0, .int 0, .int 0, .int 0, .int 0, .int 0, .int 0, .int 0, .int 0, .int 0, .int 0, .int 0] (.int 0) := Wl2
  refine go_dup (q := 520) d0_519 rfl rfl ?_
  refine go_iconst (x := (0 : Int32)) (q := 521) d0_520 rfl rfl ?_
  refine go_bipush (x := (97 : Int32)) (q := 523) d0_521 rfl rfl ?_
  refine go_castore (i := 0) (y := (97 : Int32)) (q := 524) Wl2 (by decide) rfl (Nat.le_of_ble_eq_true rfl) (by simp) (nar_char ((by decide : ¬ (97 : Int32) < 0 ∧ ¬ 255 < (97 : Int32))).1 ((by decide : ¬ (97 : Int32) < 0 ∧ ¬ 255 < (97 : Int32))).2) d0_523 rfl ?_
  intro hl3 Kl3 zl3 Wl3
  have Ka : Keep h hl3 [] := kfresh Ka Kl3 f_Ka_yl
  have Kf : Keep hf15 hl3 [] := kfresh Kf Kl3 f_Kf_yl
  have Kg : Keep hg14 hl3 [] := kfresh Kg Kl3 f_Kg_yl
  have Wl3 : Arv Z hl3 yl kl .char (14 : Int32) [.int (97 : Int32), .int 0, .int 0, .int 0, .int 0, .int 0, .int 0, .int 0, .int 0, .int 0, .int 0, .int 0, .int 0, .int 0] (.int 0) := Wl3
  refine go_dup (q := 525) d0_524 rfl rfl ?_
  refine go_iconst (x := (1 : Int32)) (q := 526) d0_525 rfl rfl ?_
  refine go_bipush (x := (100 : Int32)) (q := 528) d0_526 rfl rfl ?_
  refine go_castore (i := 1) (y := (100 : Int32)) (q := 529) Wl3 (by decide) rfl (Nat.le_of_ble_eq_true rfl) (by simp) (nar_char ((by decide : ¬ (100 : Int32) < 0 ∧ ¬ 255 < (100 : Int32))).1 ((by decide : ¬ (100 : Int32) < 0 ∧ ¬ 255 < (100 : Int32))).2) d0_528 rfl ?_
  intro hl4 Kl4 zl4 Wl4
  have Ka : Keep h hl4 [] := kfresh Ka Kl4 f_Ka_yl
  have Kf : Keep hf15 hl4 [] := kfresh Kf Kl4 f_Kf_yl
  have Kg : Keep hg14 hl4 [] := kfresh Kg Kl4 f_Kg_yl
  have Wl4 : Arv Z hl4 yl kl .char (14 : Int32) [.int (97 : Int32), .int (100 : Int32), .int 0, .int 0, .int 0, .int 0, .int 0, .int 0, .int 0, .int 0, .int 0, .int 0, .int 0, .int 0] (.int 0) := Wl4
  refine go_dup (q := 530) d0_529 rfl rfl ?_
  refine go_iconst (x := (2 : Int32)) (q := 531) d0_530 rfl rfl ?_
  refine go_bipush (x := (109 : Int32)) (q := 533) d0_531 rfl rfl ?_
  refine go_castore (i := 2) (y := (109 : Int32)) (q := 534) Wl4 (by decide) rfl (Nat.le_of_ble_eq_true rfl) (by simp) (nar_char ((by decide : ¬ (109 : Int32) < 0 ∧ ¬ 255 < (109 : Int32))).1 ((by decide : ¬ (109 : Int32) < 0 ∧ ¬ 255 < (109 : Int32))).2) d0_533 rfl ?_
  intro hl5 Kl5 zl5 Wl5
  have Ka : Keep h hl5 [] := kfresh Ka Kl5 f_Ka_yl
  have Kf : Keep hf15 hl5 [] := kfresh Kf Kl5 f_Kf_yl
  have Kg : Keep hg14 hl5 [] := kfresh Kg Kl5 f_Kg_yl
  have Wl5 : Arv Z hl5 yl kl .char (14 : Int32) [.int (97 : Int32), .int (100 : Int32), .int (109 : Int32), .int 0, .int 0, .int 0, .int 0, .int 0, .int 0, .int 0, .int 0, .int 0, .int 0, .int 0] (.int 0) := Wl5
  refine go_dup (q := 535) d0_534 rfl rfl ?_
  refine go_iconst (x := (3 : Int32)) (q := 536) d0_535 rfl rfl ?_
  refine go_bipush (x := (105 : Int32)) (q := 538) d0_536 rfl rfl ?_
  refine go_castore (i := 3) (y := (105 : Int32)) (q := 539) Wl5 (by decide) rfl (Nat.le_of_ble_eq_true rfl) (by simp) (nar_char ((by decide : ¬ (105 : Int32) < 0 ∧ ¬ 255 < (105 : Int32))).1 ((by decide : ¬ (105 : Int32) < 0 ∧ ¬ 255 < (105 : Int32))).2) d0_538 rfl ?_
  intro hl6 Kl6 zl6 Wl6
  have Ka : Keep h hl6 [] := kfresh Ka Kl6 f_Ka_yl
  have Kf : Keep hf15 hl6 [] := kfresh Kf Kl6 f_Kf_yl
  have Kg : Keep hg14 hl6 [] := kfresh Kg Kl6 f_Kg_yl
  have Wl6 : Arv Z hl6 yl kl .char (14 : Int32) [.int (97 : Int32), .int (100 : Int32), .int (109 : Int32), .int (105 : Int32), .int 0, .int 0, .int 0, .int 0, .int 0, .int 0, .int 0, .int 0, .int 0, .int 0] (.int 0) := Wl6
  refine go_dup (q := 540) d0_539 rfl rfl ?_
  refine go_iconst (x := (4 : Int32)) (q := 541) d0_540 rfl rfl ?_
  refine go_bipush (x := (110 : Int32)) (q := 543) d0_541 rfl rfl ?_
  refine go_castore (i := 4) (y := (110 : Int32)) (q := 544) Wl6 (by decide) rfl (Nat.le_of_ble_eq_true rfl) (by simp) (nar_char ((by decide : ¬ (110 : Int32) < 0 ∧ ¬ 255 < (110 : Int32))).1 ((by decide : ¬ (110 : Int32) < 0 ∧ ¬ 255 < (110 : Int32))).2) d0_543 rfl ?_
  intro hl7 Kl7 zl7 Wl7
  have Ka : Keep h hl7 [] := kfresh Ka Kl7 f_Ka_yl
  have Kf : Keep hf15 hl7 [] := kfresh Kf Kl7 f_Kf_yl
  have Kg : Keep hg14 hl7 [] := kfresh Kg Kl7 f_Kg_yl
  have Wl7 : Arv Z hl7 yl kl .char (14 : Int32) [.int (97 : Int32), .int (100 : Int32), .int (109 : Int32), .int (105 : Int32), .int (110 : Int32), .int 0, .int 0, .int 0, .int 0, .int 0, .int 0, .int 0, .int 0, .int 0] (.int 0) := Wl7
  refine go_dup (q := 545) d0_544 rfl rfl ?_
  refine go_iconst (x := (5 : Int32)) (q := 546) d0_545 rfl rfl ?_
  refine go_bipush (x := (115 : Int32)) (q := 548) d0_546 rfl rfl ?_
  refine go_castore (i := 5) (y := (115 : Int32)) (q := 549) Wl7 (by decide) rfl (Nat.le_of_ble_eq_true rfl) (by simp) (nar_char ((by decide : ¬ (115 : Int32) < 0 ∧ ¬ 255 < (115 : Int32))).1 ((by decide : ¬ (115 : Int32) < 0 ∧ ¬ 255 < (115 : Int32))).2) d0_548 rfl ?_
  intro hl8 Kl8 zl8 Wl8
  have Ka : Keep h hl8 [] := kfresh Ka Kl8 f_Ka_yl
  have Kf : Keep hf15 hl8 [] := kfresh Kf Kl8 f_Kf_yl
  have Kg : Keep hg14 hl8 [] := kfresh Kg Kl8 f_Kg_yl
  have Wl8 : Arv Z hl8 yl kl .char (14 : Int32) [.int (97 : Int32), .int (100 : Int32), .int (109 : Int32), .int (105 : Int32), .int (110 : Int32), .int (115 : Int32), .int 0, .int 0, .int 0, .int 0, .int 0, .int 0, .int 0, .int 0] (.int 0) := Wl8
  refine go_dup (q := 550) d0_549 rfl rfl ?_
  refine go_bipush (x := (6 : Int32)) (q := 552) d0_550 rfl rfl ?_
  refine go_bipush (x := (58 : Int32)) (q := 554) d0_552 rfl rfl ?_
  refine go_castore (i := 6) (y := (58 : Int32)) (q := 555) Wl8 (by decide) rfl (Nat.le_of_ble_eq_true rfl) (by simp) (nar_char ((by decide : ¬ (58 : Int32) < 0 ∧ ¬ 255 < (58 : Int32))).1 ((by decide : ¬ (58 : Int32) < 0 ∧ ¬ 255 < (58 : Int32))).2) d0_554 rfl ?_
  intro hl9 Kl9 zl9 Wl9
  have Ka : Keep h hl9 [] := kfresh Ka Kl9 f_Ka_yl
  have Kf : Keep hf15 hl9 [] := kfresh Kf Kl9 f_Kf_yl
  have Kg : Keep hg14 hl9 [] := kfresh Kg Kl9 f_Kg_yl
  have Wl9 : Arv Z hl9 yl kl .char (14 : Int32) [.int (97 : Int32), .int (100 : Int32), .int (109 : Int32), .int (105 : Int32), .int (110 : Int32), .int (115 : Int32), .int (58 : Int32), .int 0, .int 0, .int 0, .int 0, .int 0, .int 0, .int 0] (.int 0) := Wl9
  refine go_dup (q := 556) d0_555 rfl rfl ?_
  refine go_bipush (x := (7 : Int32)) (q := 558) d0_556 rfl rfl ?_
  refine go_bipush (x := (109 : Int32)) (q := 560) d0_558 rfl rfl ?_
  refine go_castore (i := 7) (y := (109 : Int32)) (q := 561) Wl9 (by decide) rfl (Nat.le_of_ble_eq_true rfl) (by simp) (nar_char ((by decide : ¬ (109 : Int32) < 0 ∧ ¬ 255 < (109 : Int32))).1 ((by decide : ¬ (109 : Int32) < 0 ∧ ¬ 255 < (109 : Int32))).2) d0_560 rfl ?_
  intro hl10 Kl10 zl10 Wl10
  have Ka : Keep h hl10 [] := kfresh Ka Kl10 f_Ka_yl
  have Kf : Keep hf15 hl10 [] := kfresh Kf Kl10 f_Kf_yl
  have Kg : Keep hg14 hl10 [] := kfresh Kg Kl10 f_Kg_yl
  have Wl10 : Arv Z hl10 yl kl .char (14 : Int32) [.int (97 : Int32), .int (100 : Int32), .int (109 : Int32), .int (105 : Int32), .int (110 : Int32), .int (115 : Int32), .int (58 : Int32), .int (109 : Int32), .int 0, .int 0, .int 0, .int 0, .int 0, .int 0] (.int 0) := Wl10
  refine go_dup (q := 562) d0_561 rfl rfl ?_
  refine go_bipush (x := (8 : Int32)) (q := 564) d0_562 rfl rfl ?_
  refine go_bipush (x := (97 : Int32)) (q := 566) d0_564 rfl rfl ?_
  refine go_castore (i := 8) (y := (97 : Int32)) (q := 567) Wl10 (by decide) rfl (Nat.le_of_ble_eq_true rfl) (by simp) (nar_char ((by decide : ¬ (97 : Int32) < 0 ∧ ¬ 255 < (97 : Int32))).1 ((by decide : ¬ (97 : Int32) < 0 ∧ ¬ 255 < (97 : Int32))).2) d0_566 rfl ?_
  intro hl11 Kl11 zl11 Wl11
  have Ka : Keep h hl11 [] := kfresh Ka Kl11 f_Ka_yl
  have Kf : Keep hf15 hl11 [] := kfresh Kf Kl11 f_Kf_yl
  have Kg : Keep hg14 hl11 [] := kfresh Kg Kl11 f_Kg_yl
  have Wl11 : Arv Z hl11 yl kl .char (14 : Int32) [.int (97 : Int32), .int (100 : Int32), .int (109 : Int32), .int (105 : Int32), .int (110 : Int32), .int (115 : Int32), .int (58 : Int32), .int (109 : Int32), .int (97 : Int32), .int 0, .int 0, .int 0, .int 0, .int 0] (.int 0) := Wl11
  refine go_dup (q := 568) d0_567 rfl rfl ?_
  refine go_bipush (x := (9 : Int32)) (q := 570) d0_568 rfl rfl ?_
  refine go_bipush (x := (110 : Int32)) (q := 572) d0_570 rfl rfl ?_
  refine go_castore (i := 9) (y := (110 : Int32)) (q := 573) Wl11 (by decide) rfl (Nat.le_of_ble_eq_true rfl) (by simp) (nar_char ((by decide : ¬ (110 : Int32) < 0 ∧ ¬ 255 < (110 : Int32))).1 ((by decide : ¬ (110 : Int32) < 0 ∧ ¬ 255 < (110 : Int32))).2) d0_572 rfl ?_
  intro hl12 Kl12 zl12 Wl12
  have Ka : Keep h hl12 [] := kfresh Ka Kl12 f_Ka_yl
  have Kf : Keep hf15 hl12 [] := kfresh Kf Kl12 f_Kf_yl
  have Kg : Keep hg14 hl12 [] := kfresh Kg Kl12 f_Kg_yl
  have Wl12 : Arv Z hl12 yl kl .char (14 : Int32) [.int (97 : Int32), .int (100 : Int32), .int (109 : Int32), .int (105 : Int32), .int (110 : Int32), .int (115 : Int32), .int (58 : Int32), .int (109 : Int32), .int (97 : Int32), .int (110 : Int32), .int 0, .int 0, .int 0, .int 0] (.int 0) := Wl12
  refine go_dup (q := 574) d0_573 rfl rfl ?_
  refine go_bipush (x := (10 : Int32)) (q := 576) d0_574 rfl rfl ?_
  refine go_bipush (x := (97 : Int32)) (q := 578) d0_576 rfl rfl ?_
  refine go_castore (i := 10) (y := (97 : Int32)) (q := 579) Wl12 (by decide) rfl (Nat.le_of_ble_eq_true rfl) (by simp) (nar_char ((by decide : ¬ (97 : Int32) < 0 ∧ ¬ 255 < (97 : Int32))).1 ((by decide : ¬ (97 : Int32) < 0 ∧ ¬ 255 < (97 : Int32))).2) d0_578 rfl ?_
  intro hl13 Kl13 zl13 Wl13
  have Ka : Keep h hl13 [] := kfresh Ka Kl13 f_Ka_yl
  have Kf : Keep hf15 hl13 [] := kfresh Kf Kl13 f_Kf_yl
  have Kg : Keep hg14 hl13 [] := kfresh Kg Kl13 f_Kg_yl
  have Wl13 : Arv Z hl13 yl kl .char (14 : Int32) [.int (97 : Int32), .int (100 : Int32), .int (109 : Int32), .int (105 : Int32), .int (110 : Int32), .int (115 : Int32), .int (58 : Int32), .int (109 : Int32), .int (97 : Int32), .int (110 : Int32), .int (97 : Int32), .int 0, .int 0, .int 0] (.int 0) := Wl13
  refine go_dup (q := 580) d0_579 rfl rfl ?_
  refine go_bipush (x := (11 : Int32)) (q := 582) d0_580 rfl rfl ?_
  refine go_bipush (x := (103 : Int32)) (q := 584) d0_582 rfl rfl ?_
  refine go_castore (i := 11) (y := (103 : Int32)) (q := 585) Wl13 (by decide) rfl (Nat.le_of_ble_eq_true rfl) (by simp) (nar_char ((by decide : ¬ (103 : Int32) < 0 ∧ ¬ 255 < (103 : Int32))).1 ((by decide : ¬ (103 : Int32) < 0 ∧ ¬ 255 < (103 : Int32))).2) d0_584 rfl ?_
  intro hl14 Kl14 zl14 Wl14
  have Ka : Keep h hl14 [] := kfresh Ka Kl14 f_Ka_yl
  have Kf : Keep hf15 hl14 [] := kfresh Kf Kl14 f_Kf_yl
  have Kg : Keep hg14 hl14 [] := kfresh Kg Kl14 f_Kg_yl
  have Wl14 : Arv Z hl14 yl kl .char (14 : Int32) [.int (97 : Int32), .int (100 : Int32), .int (109 : Int32), .int (105 : Int32), .int (110 : Int32), .int (115 : Int32), .int (58 : Int32), .int (109 : Int32), .int (97 : Int32), .int (110 : Int32), .int (97 : Int32), .int (103 : Int32), .int 0, .int 0] (.int 0) := Wl14
  refine go_dup (q := 586) d0_585 rfl rfl ?_
  refine go_bipush (x := (12 : Int32)) (q := 588) d0_586 rfl rfl ?_
  refine go_bipush (x := (101 : Int32)) (q := 590) d0_588 rfl rfl ?_
  refine go_castore (i := 12) (y := (101 : Int32)) (q := 591) Wl14 (by decide) rfl (Nat.le_of_ble_eq_true rfl) (by simp) (nar_char ((by decide : ¬ (101 : Int32) < 0 ∧ ¬ 255 < (101 : Int32))).1 ((by decide : ¬ (101 : Int32) < 0 ∧ ¬ 255 < (101 : Int32))).2) d0_590 rfl ?_
  intro hl15 Kl15 zl15 Wl15
  have Ka : Keep h hl15 [] := kfresh Ka Kl15 f_Ka_yl
  have Kf : Keep hf15 hl15 [] := kfresh Kf Kl15 f_Kf_yl
  have Kg : Keep hg14 hl15 [] := kfresh Kg Kl15 f_Kg_yl
  have Wl15 : Arv Z hl15 yl kl .char (14 : Int32) [.int (97 : Int32), .int (100 : Int32), .int (109 : Int32), .int (105 : Int32), .int (110 : Int32), .int (115 : Int32), .int (58 : Int32), .int (109 : Int32), .int (97 : Int32), .int (110 : Int32), .int (97 : Int32), .int (103 : Int32), .int (101 : Int32), .int 0] (.int 0) := Wl15
  refine go_dup (q := 592) d0_591 rfl rfl ?_
  refine go_bipush (x := (13 : Int32)) (q := 594) d0_592 rfl rfl ?_
  refine go_iloadN (v := c) (q := 595) d0_594 rfl rfl ?_
  refine go_castore (i := 13) (y := c) (q := 596) Wl15 (by decide) rfl (Nat.le_of_ble_eq_true rfl) (by simp) (nar_char (hc).1 (hc).2) d0_595 rfl ?_
  intro hl16 Kl16 zl16 Wl16
  have Ka : Keep h hl16 [] := kfresh Ka Kl16 f_Ka_yl
  have Kf : Keep hf15 hl16 [] := kfresh Kf Kl16 f_Kf_yl
  have Kg : Keep hg14 hl16 [] := kfresh Kg Kl16 f_Kg_yl
  have Wl16 : Arv Z hl16 yl kl .char (14 : Int32) [.int (97 : Int32), .int (100 : Int32), .int (109 : Int32), .int (105 : Int32), .int (110 : Int32), .int (115 : Int32), .int (58 : Int32), .int (109 : Int32), .int (97 : Int32), .int (110 : Int32), .int (97 : Int32), .int (103 : Int32), .int (101 : Int32), .int c] (.int 0) := Wl16
  refine go_astore (L' := #[.val (.int n), .val (.int v), .val (.int p), .val (.int c), .val (.int d), .val (.ref yf), .val (.ref yg), .val (.ref yl)]) (q := 598) d0_596 rfl rfl rfl ?_
  have Kl : Keep hl16 hl16 [] := Keep.refl _ _
  refine go_less (F' := (yf :: F)) (c' := 3) (s' := 42) (by intro y q; rcases List.mem_cons.mp q with rfl | q <;> simp_all) (by decide) (by decide) ?_
  exact j598 H (cf := [(97 : Int32), (100 : Int32), (109 : Int32), (105 : Int32), (110 : Int32), (115 : Int32), (58 : Int32), (109 : Int32), (97 : Int32), (110 : Int32), (97 : Int32), (103 : Int32), (101 : Int32)]) (cg := [(97 : Int32), (100 : Int32), (109 : Int32), (105 : Int32), (110 : Int32), (115 : Int32), (58 : Int32), (109 : Int32), (97 : Int32), (110 : Int32), (97 : Int32), (103 : Int32)]) (cl := [(97 : Int32), (100 : Int32), (109 : Int32), (105 : Int32), (110 : Int32), (115 : Int32), (58 : Int32), (109 : Int32), (97 : Int32), (110 : Int32), (97 : Int32), (103 : Int32), (101 : Int32), c]) Ka f_Ka_yf hFl hc (Wf15.keep Kf nin0) ⟨Nat.le_of_ble_eq_true rfl, (by intro c hc; simp only [List.mem_cons, List.not_mem_nil, or_false] at hc; rcases hc with rfl | rfl | rfl | rfl | rfl | rfl | rfl | rfl | rfl | rfl | rfl | rfl | rfl <;> first | exact (by decide : ¬ (97 : Int32) < 0 ∧ ¬ 255 < (97 : Int32)) | exact (by decide : ¬ (58 : Int32) < 0 ∧ ¬ 255 < (58 : Int32)) | exact (by decide : ¬ (115 : Int32) < 0 ∧ ¬ 255 < (115 : Int32)) | exact (by decide : ¬ (110 : Int32) < 0 ∧ ¬ 255 < (110 : Int32)) | exact (by decide : ¬ (109 : Int32) < 0 ∧ ¬ 255 < (109 : Int32)) | exact (by decide : ¬ (105 : Int32) < 0 ∧ ¬ 255 < (105 : Int32)) | exact (by decide : ¬ (103 : Int32) < 0 ∧ ¬ 255 < (103 : Int32)) | exact (by decide : ¬ (101 : Int32) < 0 ∧ ¬ 255 < (101 : Int32)) | exact (by decide : ¬ (100 : Int32) < 0 ∧ ¬ 255 < (100 : Int32)))⟩ (by simp) (Nat.le_of_ble_eq_true rfl) (Wg14.keep Kg nin0) ⟨Nat.le_of_ble_eq_true rfl, (by intro c hc; simp only [List.mem_cons, List.not_mem_nil, or_false] at hc; rcases hc with rfl | rfl | rfl | rfl | rfl | rfl | rfl | rfl | rfl | rfl | rfl | rfl <;> first | exact (by decide : ¬ (97 : Int32) < 0 ∧ ¬ 255 < (97 : Int32)) | exact (by decide : ¬ (58 : Int32) < 0 ∧ ¬ 255 < (58 : Int32)) | exact (by decide : ¬ (115 : Int32) < 0 ∧ ¬ 255 < (115 : Int32)) | exact (by decide : ¬ (110 : Int32) < 0 ∧ ¬ 255 < (110 : Int32)) | exact (by decide : ¬ (109 : Int32) < 0 ∧ ¬ 255 < (109 : Int32)) | exact (by decide : ¬ (105 : Int32) < 0 ∧ ¬ 255 < (105 : Int32)) | exact (by decide : ¬ (103 : Int32) < 0 ∧ ¬ 255 < (103 : Int32)) | exact (by decide : ¬ (100 : Int32) < 0 ∧ ¬ 255 < (100 : Int32)))⟩ (by simp) (Nat.le_of_ble_eq_true rfl) (Wl16.keep Kl nin0) ⟨Nat.le_of_ble_eq_true rfl, (by intro c hc; simp only [List.mem_cons, List.not_mem_nil, or_false] at hc; rcases hc with rfl | rfl | rfl | rfl | rfl | rfl | rfl | rfl | rfl | rfl | rfl | rfl | rfl | rfl <;> first | exact hc | exact (by decide : ¬ (97 : Int32) < 0 ∧ ¬ 255 < (97 : Int32)) | exact (by decide : ¬ (58 : Int32) < 0 ∧ ¬ 255 < (58 : Int32)) | exact (by decide : ¬ (115 : Int32) < 0 ∧ ¬ 255 < (115 : Int32)) | exact (by decide : ¬ (110 : Int32) < 0 ∧ ¬ 255 < (110 : Int32)) | exact (by decide : ¬ (109 : Int32) < 0 ∧ ¬ 255 < (109 : Int32)) | exact (by decide : ¬ (105 : Int32) < 0 ∧ ¬ 255 < (105 : Int32)) | exact (by decide : ¬ (103 : Int32) < 0 ∧ ¬ 255 < (103 : Int32)) | exact (by decide : ¬ (101 : Int32) < 0 ∧ ¬ 255 < (101 : Int32)) | exact (by decide : ¬ (100 : Int32) < 0 ∧ ¬ 255 < (100 : Int32)))⟩ (by simp) (Nat.le_of_ble_eq_true rfl)
set_option maxRecDepth 65536 in
set_option maxHeartbeats 4000000 in
theorem rm_eqN {l : Launch} {Z : State} {a0 : Array Value} (H : Wd Z a0) {h : Heap} {a : Addr}  : Met l Z (⟨"java/lang/String", "equals", "(Ljava/lang/Object;)Z"⟩ : MethodName) jdk_42_method_66_code 3 (some .boolean) ({ frames := 1, cells := 0, slots := 0, locals := 14 } : Room) h [] #[.ref a, .null] (fun v h' G => v = some (.int 0) ∧ h = h') := by
  refine Met.mk (L := #[.val (.ref a), .val (.null), .unset]) (by decide +kernel) (fun m => by first | (simp [entryFrame, mkF, argsToLocals, Value.category]; done) | rfl) (fun K => ?_)
  show Go _ _ K "java/lang/String" "equals" _ _ _ _ _ _ _ _ _ 0 _ _
  refine go_aloadN (v := .ref a) (q := 1) d8_0 rfl rfl rfl ?_
  refine go_aloadN (v := .null) (q := 2) d8_1 rfl rfl rfl ?_
  refine go_acY (q := 7) d8_2 rfl rfl (by simp [XT.acmp]) (by decide) (by decide) ?_
  refine go_aloadN (v := .null) (q := 8) d8_7 rfl rfl rfl ?_
  refine go_instNull (q := 11) d8_8 rfl ?_
  refine go_ifY (q := 54) d8_11 (by decide) (by decide) (by decide) ?_
  refine go_iconst (x := (0 : Int32)) (q := 55) d8_54 rfl rfl ?_
  exact go_ireturn H (G := []) (t := .boolean) rfl (by decide) rfl d8_55 (by decide) (by decide) (fun _ q => nomatch q) ⟨rfl, rfl⟩
set_option maxRecDepth 65536 in
set_option maxHeartbeats 4000000 in
theorem rm_refN {l : Launch} {Z : State} {a0 : Array Value} (H : Wd Z a0) {h : Heap}  : Met l Z (⟨"com/example/emendate/emendate/model/CapabilityByNamePinLaw", "reference", "(Ljava/lang/String;)Lcom/example/emendate/emendate/model/Capability;"⟩ : MethodName) method_3_code 1 (some (.object "com/example/emendate/emendate/model/Capability")) ({ frames := 2, cells := 0, slots := 0, locals := 28 } : Room) h [] #[.null] (fun v h' G => v = some .null ∧ h = h') := by
  refine Met.mk (L := #[.val (.null)]) (plainFor_of_name (by first | (simp [plainName, overriddenIn]; done) | decide +kernel)) (fun m => by first | (simp [entryFrame, mkF, argsToLocals, Value.category]; done) | rfl) (fun K => ?_)
  show Go _ _ K "com/example/emendate/emendate/model/CapabilityByNamePinLaw" "reference" _ _ _ _ _ _ _ _ _ 0 _ _
  refine go_aloadN (v := .null) (q := 1) d7_0 rfl rfl rfl ?_
  refine go_nnN (q := 4) d7_1 rfl ?_
  refine go_null (q := 5) d7_4 rfl ?_
  exact go_areturn H (G := []) (t := (.object "com/example/emendate/emendate/model/Capability")) rfl rfl rfl d7_5 (by decide) (by decide) (fun _ q => nomatch q) ⟨rfl, rfl⟩
set_option maxRecDepth 65536 in
set_option maxHeartbeats 4000000 in
theorem rm_refS {l : Launch} {Z : State} {a0 : Array Value} (H : Wd Z a0) {h : Heap} {F : List Addr} {u a m s : Addr} {cs : List Int32} (CA : Caps Z u a m) (S : Str Z h F s cs) : Met l Z (⟨"com/example/emendate/emendate/model/CapabilityByNamePinLaw", "reference", "(Ljava/lang/String;)Lcom/example/emendate/emendate/model/Capability;"⟩ : MethodName) method_3_code 1 (some (.object "com/example/emendate/emendate/model/Capability")) ({ frames := 2, cells := 6, slots := 124, locals := 28 } : Room) h [] #[.ref s] (fun v h' G => ∃ w, v = some w ∧ w = pickC u a m cs ∧ Keep h h' []) := by
  refine Met.mk (L := #[.val (.ref s)]) (plainFor_of_name (by first | (simp [plainName, overriddenIn]; done) | decide +kernel)) (fun m => by first | (simp [entryFrame, mkF, argsToLocals, Value.category]; done) | rfl) (fun K => ?_)
  show Go _ _ K "com/example/emendate/emendate/model/CapabilityByNamePinLaw" "reference" _ _ _ _ _ _ _ _ _ 0 _ _
  obtain ⟨⟨su, sa, sm⟩, -⟩ := CA
  have Ka : Keep h h [] := Keep.refl _ _
  refine go_aloadN (v := .ref s) (q := 1) d7_0 rfl rfl rfl ?_
  refine go_nnY (q := 6) d7_1 (by decide) (by decide) ?_
  refine go_aloadN (v := .ref s) (q := 7) d7_6 rfl rfl rfl ?_
  refine go_lit (cs := [117, 115, 101, 114, 115, 58, 101, 100, 105, 116]) (n := 40) (c' := 2) (s' := 44) (q := 9) H (w_37 H) (by decide) (by decide) (by decide) (by decide) (by decide) d7_7 (by decide) (by decide) rfl rfl rfl (by decide) (by decide) ?_
  intro h0 l0 E0 S0
  have Ka : Keep h h0 [] := Ka.ext E0
  have S := S.ext E0
  refine go_virtual (c' := 2) (s' := 44) (q := 12) (S := []) (argsL := [.ref l0]) H (C := "java/lang/String") (w_40 H) (w_41 H) (nf_self (w_43 H)) (w_43 H) (w_42 H) (w_7 H) (w_44 H) (by decide) S.exa (rm_eq H S S0) rfl rfl (lenOf pd_2 rfl) (fun _ q => nomatch q) rfl (by decide) (Nat.le_of_ble_eq_true rfl) rfl rfl (by decide) (by decide) d7_9 rfl ?_
  rintro _ _ G - ⟨rfl, rfl⟩
  refine nx_ (v := none) ?_
  show Go _ _ _ _ _ _ _ _ _ _ _ _ _ _ 12 #[.val (.ref s)] [.int (if cs = nU then 1 else 0)]
  by_cases q0 : cs = nU
  · rw [if_pos q0]
    show Go _ _ _ _ _ _ _ _ _ _ _ _ _ _ 12 #[.val (.ref s)] [.int 1]
    refine go_ifN (q := 15) d7_12 (by decide) rfl ?_
    refine go_getstatic (v := .ref u) (q := 18) (w_50 H) Via.refl su d7_15 rfl ?_
    exact go_areturn H (G := []) (t := (.object "com/example/emendate/emendate/model/Capability")) rfl rfl rfl d7_18 (by decide) (by decide) (fun _ q => nomatch q) ⟨_, rfl, (pickU q0).symm, Ka⟩
  rw [if_neg q0]
  show Go _ _ _ _ _ _ _ _ _ _ _ _ _ _ 12 #[.val (.ref s)] [.int 0]
  refine go_ifY (q := 19) d7_12 (by decide) (by decide) (by decide) ?_
  refine go_aloadN (v := .ref s) (q := 20) d7_19 rfl rfl rfl ?_
  refine go_lit (cs := [97, 100, 109, 105, 110]) (n := 20) (c' := 4) (s' := 68) (q := 22) H (w_111 H) (by decide) (by decide) (by decide) (by decide) (by decide) d7_20 (by decide) (by decide) rfl rfl rfl (by decide) (by decide) ?_
  intro h1 l1 E1 S1
  have Ka : Keep h h1 [] := Ka.ext E1
  have S := S.ext E1
  refine go_virtual (c' := 4) (s' := 68) (q := 25) (S := []) (argsL := [.ref l1]) H (C := "java/lang/String") (w_40 H) (w_41 H) (nf_self (w_43 H)) (w_43 H) (w_42 H) (w_7 H) (w_44 H) (by decide) S.exa (rm_eq H S S1) rfl rfl (lenOf pd_2 rfl) (fun _ q => nomatch q) rfl (by decide) (Nat.le_of_ble_eq_true rfl) rfl rfl (by decide) (by decide) d7_22 rfl ?_
  rintro _ _ G - ⟨rfl, rfl⟩
  refine nx_ (v := none) ?_
  show Go _ _ _ _ _ _ _ _ _ _ _ _ _ _ 25 #[.val (.ref s)] [.int (if cs = nA then 1 else 0)]
  by_cases q1 : cs = nA
  · rw [if_pos q1]
    show Go _ _ _ _ _ _ _ _ _ _ _ _ _ _ 25 #[.val (.ref s)] [.int 1]
    refine go_ifN (q := 28) d7_25 (by decide) rfl ?_
    refine go_getstatic (v := .ref a) (q := 31) (w_118 H) Via.refl sa d7_28 rfl ?_
    exact go_areturn H (G := []) (t := (.object "com/example/emendate/emendate/model/Capability")) rfl rfl rfl d7_31 (by decide) (by decide) (fun _ q => nomatch q) ⟨_, rfl, (pickA q0 q1).symm, Ka⟩
  rw [if_neg q1]
  show Go _ _ _ _ _ _ _ _ _ _ _ _ _ _ 25 #[.val (.ref s)] [.int 0]
  refine go_ifY (q := 32) d7_25 (by decide) (by decide) (by decide) ?_
  refine go_aloadN (v := .ref s) (q := 33) d7_32 rfl rfl rfl ?_
  refine go_lit (cs := [97, 100, 109, 105, 110, 115, 58, 109, 97, 110, 97, 103, 101]) (n := 52) (c' := 6) (s' := 124) (q := 35) H (w_112 H) (by decide) (by decide) (by decide) (by decide) (by decide) d7_33 (by decide) (by decide) rfl rfl rfl (by decide) (by decide) ?_
  intro h2 l2 E2 S2
  have Ka : Keep h h2 [] := Ka.ext E2
  have S := S.ext E2
  refine go_virtual (c' := 6) (s' := 124) (q := 38) (S := []) (argsL := [.ref l2]) H (C := "java/lang/String") (w_40 H) (w_41 H) (nf_self (w_43 H)) (w_43 H) (w_42 H) (w_7 H) (w_44 H) (by decide) S.exa (rm_eq H S S2) rfl rfl (lenOf pd_2 rfl) (fun _ q => nomatch q) rfl (by decide) (Nat.le_of_ble_eq_true rfl) rfl rfl (by decide) (by decide) d7_35 rfl ?_
  rintro _ _ G - ⟨rfl, rfl⟩
  refine nx_ (v := none) ?_
  show Go _ _ _ _ _ _ _ _ _ _ _ _ _ _ 38 #[.val (.ref s)] [.int (if cs = nM then 1 else 0)]
  by_cases q2 : cs = nM
  · rw [if_pos q2]
    show Go _ _ _ _ _ _ _ _ _ _ _ _ _ _ 38 #[.val (.ref s)] [.int 1]
    refine go_ifN (q := 41) d7_38 (by decide) rfl ?_
    refine go_getstatic (v := .ref m) (q := 44) (w_131 H) Via.refl sm d7_41 rfl ?_
    exact go_areturn H (G := []) (t := (.object "com/example/emendate/emendate/model/Capability")) rfl rfl rfl d7_44 (by decide) (by decide) (fun _ q => nomatch q) ⟨_, rfl, (pickM q0 q1 q2).symm, Ka⟩
  rw [if_neg q2]
  show Go _ _ _ _ _ _ _ _ _ _ _ _ _ _ 38 #[.val (.ref s)] [.int 0]
  refine go_ifY (q := 45) d7_38 (by decide) (by decide) (by decide) ?_
  refine go_null (q := 46) d7_45 rfl ?_
  exact go_areturn H (G := []) (t := (.object "com/example/emendate/emendate/model/Capability")) rfl rfl rfl d7_46 (by decide) (by decide) (fun _ q => nomatch q) ⟨_, rfl, (pickN q0 q1 q2).symm, Ka⟩
set_option maxRecDepth 65536 in
set_option maxHeartbeats 4000000 in
theorem rm_opI {l : Launch} {Z : State} {a0 : Array Value} (H : Wd Z a0) {h : Heap} {x c : Addr} (E : Exa Z h x OPN) (Fv : Fld Z h x OPN "value" "Ljava/lang/Object;" .null) : Met l Z (⟨"java/util/Optional", "<init>", "(Ljava/lang/Object;)V"⟩ : MethodName) jdk_32_method_2_code 2 none ({ frames := 1, cells := 0, slots := 0, locals := 12 } : Room) h [x] #[.ref x, .ref c] (fun v h' G => v = none ∧ Keep h h' [x] ∧ Fld Z h' x OPN "value" "Ljava/lang/Object;" (.ref c)) := by
  refine Met.mk (L := #[.val (.ref x), .val (.ref c)]) (by decide +kernel) (fun m => by first | (simp [entryFrame, mkF, argsToLocals, Value.category]; done) | rfl) (fun K => ?_)
  show Go _ _ K "java/util/Optional" "<init>" _ _ _ _ _ _ _ _ _ 0 _ _
  refine go_aloadN (v := .ref x) (q := 1) d14_0 rfl rfl rfl ?_
  refine go_initO (q := 4) (w_90 H) (w_16 H) (w_17 H) rfl d14_1 rfl (by decide) (Nat.le_of_ble_eq_true rfl) ?_
  refine go_aloadN (v := .ref x) (q := 5) d14_4 rfl rfl rfl ?_
  refine go_aloadN (v := .ref c) (q := 6) d14_5 rfl rfl rfl ?_
  refine go_putfield (q := 9) (w_91 H) Via.refl Fv E (Or.inr ⟨(w_92 H), rfl, rfl⟩) (w_81 H) (ty := (.object "java/lang/Object")) (by decide) rfl rfl (by simp) d14_6 rfl ?_
  intro h1 W1
  exact go_return H (G := []) rfl d14_9 (by decide) (by decide) (fun _ q => nomatch q) ⟨rfl, Keep.of_wr W1, Fv.same W1⟩
set_option maxRecDepth 65536 in
set_option maxHeartbeats 4000000 in
theorem rm_oof {l : Launch} {Z : State} {a0 : Array Value} (H : Wd Z a0) {h : Heap} {c : Addr}  : Met l Z (⟨"java/util/Optional", "of", "(Ljava/lang/Object;)Ljava/util/Optional;"⟩ : MethodName) jdk_32_method_3_code 1 (some (.object "java/util/Optional")) ({ frames := 2, cells := 1, slots := 1, locals := 28 } : Room) h [] #[.ref c] (fun v h' G => ∃ x, v = some (.ref x) ∧ Keep h h' [] ∧ Exa Z h' x OPN ∧ Fld Z h' x OPN "value" "Ljava/lang/Object;" (.ref c)) := by
  refine Met.mk (L := #[.val (.ref c)]) (by decide +kernel) (fun m => by first | (simp [entryFrame, mkF, argsToLocals, Value.category]; done) | rfl) (fun K => ?_)
  show Go _ _ K "java/util/Optional" "of" _ _ _ _ _ _ _ _ _ 0 _ _
  have Ka : Keep h h [] := Keep.refl _ _
  refine go_new (c' := 1) (s' := 1) (q := 3) (w_80 H) (w_81 H) (w_78 H) d12_0 rfl rfl rfl (by decide) (by decide) ?_
  intro h1 x g1 E1 A1 D1
  have f_Ka_x : h.size ≤ x := by rw [g1]; exact Ka.1
  have Ka : Keep h h1 [] := Ka.ext E1
  have F1 : Fld Z h1 x OPN "value" "Ljava/lang/Object;" .null := D1 (Or.inr (w_92 H)) (ty := .object "java/lang/Object") (by decide)
  refine go_dup (q := 4) d12_3 rfl rfl ?_
  refine go_aloadN (v := .ref c) (q := 5) d12_4 rfl rfl rfl ?_
  refine go_static (c' := 1) (s' := 1) (q := 8) (S := [.ref x, .ref x]) (argsL := [.ref c]) H (w_82 H) (w_83 H) (w_84 H) (w_85 H) (by decide) (rm_rn1 H) rfl rfl (lenOf pd_0 rfl) (fun _ q => nomatch q) rfl (by decide) (Nat.le_of_ble_eq_true rfl) rfl rfl (by decide) (by decide) d12_5 rfl ?_
  rintro _ _ G - ⟨rfl, rfl⟩
  refine nx_ (v := none) ?_
  show Go _ _ _ _ _ _ _ _ _ _ _ _ _ _ 8 #[.val (.ref c)] [.ref c, .ref x, .ref x]
  refine go_special (c' := 1) (s' := 1) (q := 11) (S := [.ref x]) (argsL := [.ref c]) H rfl (w_86 H) (w_87 H) (w_78 H) (w_89 H) (by decide) (rm_opI H A1 F1) rfl rfl (lenOf pd_1 rfl) (fun _ q => q) rfl (by decide) (Nat.le_of_ble_eq_true rfl) rfl rfl (by decide) (by decide) d12_8 rfl ?_
  rintro _ h2 G - ⟨rfl, K2, F2⟩
  refine nx_ (v := none) ?_
  have Ka : Keep h h2 [] := kfresh Ka K2 f_Ka_x
  show Go _ _ _ _ _ _ _ _ _ _ _ _ _ _ 11 #[.val (.ref c)] [.ref x]
  exact go_areturn H (G := []) (t := (.object "java/util/Optional")) rfl rfl rfl d12_11 (by decide) (by decide) (fun _ q => nomatch q) ⟨x, rfl, Ka, A1.keep K2, F2⟩
set_option maxRecDepth 65536 in
set_option maxHeartbeats 4000000 in
theorem rm_oem {l : Launch} {Z : State} {a0 : Array Value} (H : Wd Z a0) {h : Heap} {oe : Addr} (SO : Sta Z Z.heap OPN "EMPTY" "Ljava/util/Optional;" (.ref oe)) : Met l Z (⟨"java/util/Optional", "empty", "()Ljava/util/Optional;"⟩ : MethodName) jdk_32_method_1_code 1 (some (.object "java/util/Optional")) ({ frames := 0, cells := 0, slots := 0, locals := 0 } : Room) h [] #[] (fun v h' G => v = some (.ref oe) ∧ h = h') := by
  refine Met.mk (L := #[.unset]) (by decide +kernel) (fun m => by first | (simp [entryFrame, mkF, argsToLocals, Value.category]; done) | rfl) (fun K => ?_)
  show Go _ _ K "java/util/Optional" "empty" _ _ _ _ _ _ _ _ _ 0 _ _
  refine go_getstatic (v := .ref oe) (q := 3) (w_116 H) Via.refl SO d18_0 rfl ?_
  refine go_astoreN (L' := #[.val (.ref oe)]) (q := 4) d18_3 rfl rfl rfl ?_
  refine go_aloadN (v := .ref oe) (q := 5) d18_4 rfl rfl rfl ?_
  exact go_areturn H (G := []) (t := (.object "java/util/Optional")) rfl rfl rfl d18_5 (by decide) (by decide) (fun _ q => nomatch q) ⟨rfl, rfl⟩
set_option maxRecDepth 65536 in
set_option maxHeartbeats 4000000 in
theorem rm_ipN {l : Launch} {Z : State} {a0 : Array Value} (H : Wd Z a0) {h : Heap} {x : Addr} (Fv : Fld Z h x OPN "value" "Ljava/lang/Object;" (.null)) : Met l Z (⟨"java/util/Optional", "isPresent", "()Z"⟩ : MethodName) jdk_32_method_6_code 1 (some .boolean) ({ frames := 0, cells := 0, slots := 0, locals := 0 } : Room) h [] #[.ref x] (fun v h' G => v = some (.int 0) ∧ h = h') := by
  refine Met.mk (L := #[.val (.ref x)]) (by decide +kernel) (fun m => by first | (simp [entryFrame, mkF, argsToLocals, Value.category]; done) | rfl) (fun K => ?_)
  show Go _ _ K "java/util/Optional" "isPresent" _ _ _ _ _ _ _ _ _ 0 _ _
  refine go_aloadN (v := .ref x) (q := 1) d15_0 rfl rfl rfl ?_
  refine go_getfield (v := .null) (q := 4) (w_91 H) Via.refl Fv d15_1 rfl ?_
  refine go_nullY (q := 11) d15_4 (by decide) (by decide) ?_
  refine go_iconst (x := (0 : Int32)) (q := 12) d15_11 rfl rfl ?_
  exact go_ireturn H (G := []) (t := .boolean) rfl (by decide) rfl d15_12 (by decide) (by decide) (fun _ q => nomatch q) ⟨rfl, rfl⟩
set_option maxRecDepth 65536 in
set_option maxHeartbeats 4000000 in
theorem rm_ipY {l : Launch} {Z : State} {a0 : Array Value} (H : Wd Z a0) {h : Heap} {x c : Addr} (Fv : Fld Z h x OPN "value" "Ljava/lang/Object;" (.ref c)) : Met l Z (⟨"java/util/Optional", "isPresent", "()Z"⟩ : MethodName) jdk_32_method_6_code 1 (some .boolean) ({ frames := 0, cells := 0, slots := 0, locals := 0 } : Room) h [] #[.ref x] (fun v h' G => v = some (.int 1) ∧ h = h') := by
  refine Met.mk (L := #[.val (.ref x)]) (by decide +kernel) (fun m => by first | (simp [entryFrame, mkF, argsToLocals, Value.category]; done) | rfl) (fun K => ?_)
  show Go _ _ K "java/util/Optional" "isPresent" _ _ _ _ _ _ _ _ _ 0 _ _
  refine go_aloadN (v := .ref x) (q := 1) d15_0 rfl rfl rfl ?_
  refine go_getfield (v := .ref c) (q := 4) (w_91 H) Via.refl Fv d15_1 rfl ?_
  refine go_nullN (q := 7) d15_4 rfl ?_
  refine go_iconst (x := (1 : Int32)) (q := 8) d15_7 rfl rfl ?_
  refine go_goto (q := 12) d15_8 (by decide) (by decide) ?_
  exact go_ireturn H (G := []) (t := .boolean) rfl (by decide) rfl d15_12 (by decide) (by decide) (fun _ q => nomatch q) ⟨rfl, rfl⟩
set_option maxRecDepth 65536 in
set_option maxHeartbeats 4000000 in
theorem rm_og {l : Launch} {Z : State} {a0 : Array Value} (H : Wd Z a0) {h : Heap} {x c : Addr} (Fv : Fld Z h x OPN "value" "Ljava/lang/Object;" (.ref c)) : Met l Z (⟨"java/util/Optional", "get", "()Ljava/lang/Object;"⟩ : MethodName) jdk_32_method_5_code 1 (some (.object "java/lang/Object")) ({ frames := 0, cells := 0, slots := 0, locals := 0 } : Room) h [] #[.ref x] (fun v h' G => v = some (.ref c) ∧ h = h') := by
  refine Met.mk (L := #[.val (.ref x)]) (by decide +kernel) (fun m => by first | (simp [entryFrame, mkF, argsToLocals, Value.category]; done) | rfl) (fun K => ?_)
  show Go _ _ K "java/util/Optional" "get" _ _ _ _ _ _ _ _ _ 0 _ _
  refine go_aloadN (v := .ref x) (q := 1) d16_0 rfl rfl rfl ?_
  refine go_getfield (v := .ref c) (q := 4) (w_91 H) Via.refl Fv d16_1 rfl ?_
  refine go_nnY (q := 17) d16_4 (by decide) (by decide) ?_
  refine go_aloadN (v := .ref x) (q := 18) d16_17 rfl rfl rfl ?_
  refine go_getfield (v := .ref c) (q := 21) (w_91 H) Via.refl Fv d16_18 rfl ?_
  exact go_areturn H (G := []) (t := (.object "java/lang/Object")) rfl rfl rfl d16_21 (by decide) (by decide) (fun _ q => nomatch q) ⟨rfl, rfl⟩
set_option maxRecDepth 65536 in
set_option maxHeartbeats 4000000 in
theorem rm_vals {l : Launch} {Z : State} {a0 : Array Value} (H : Wd Z a0) {h : Heap} {u a m : Addr} (CA : Caps Z u a m) : Met l Z (⟨"com/example/emendate/emendate/model/Capability", "values", "()[Lcom/example/emendate/emendate/model/Capability;"⟩ : MethodName) prog_7_method_1_code 0 (some (.array (.object "com/example/emendate/emendate/model/Capability"))) ({ frames := 1, cells := 1, slots := 3, locals := 14 } : Room) h [] #[] (fun v h' G => ∃ d k, v = some (.ref d) ∧ Keep h h' [] ∧ Arv Z h' d k (.object CPN) 3 [.ref u, .ref a, .ref m] .null) := by
  refine Met.mk (L := #[]) (plainFor_of_name (by first | (simp [plainName, overriddenIn]; done) | decide +kernel)) (fun m => by first | (simp [entryFrame, mkF, argsToLocals, Value.category]; done) | rfl) (fun K => ?_)
  show Go _ _ K "com/example/emendate/emendate/model/Capability" "values" _ _ _ _ _ _ _ _ _ 0 _ _
  obtain ⟨-, -, va, k, sv, ev, av⟩ := CA
  have Ka : Keep h h [] := Keep.refl _ _
  refine go_mine fun _ hO => ?_
  refine go_getstatic (v := .ref va) (q := 3) (w_59 H) Via.refl sv d11_0 rfl ?_
  refine go_clone (cap := 3) (c' := 1) (s' := 3) (q := 6) (w_61 H) (w_62 H) (w_66 H) (w_64 H) (w_65 H) (w_67 H) (av.ext hO.2) (ev.ext hO.2) rfl (by decide) (Nat.le_of_ble_eq_true rfl) (by decide) d11_3 rfl rfl rfl (by decide) (by decide) ?_
  intro h1 d g1 E1 V1 X1
  have f_Ka_d : h.size ≤ d := by rw [g1]; exact Ka.1
  have Ka : Keep h h1 [] := Ka.ext E1
  refine go_checkcast (q := 9) (w_71 H) (Ins.self X1) d11_6 rfl ?_
  exact go_areturn H (G := []) (t := (.array (.object "com/example/emendate/emendate/model/Capability"))) rfl rfl rfl d11_9 (by decide) (by decide) (fun _ q => nomatch q) ⟨d, k, rfl, Ka, V1⟩
set_option maxRecDepth 65536 in
set_option maxHeartbeats 4000000 in
theorem rm_bnN {l : Launch} {Z : State} {a0 : Array Value} (H : Wd Z a0) {h : Heap} {u a m oe : Addr} (CA : Caps Z u a m) (EM : Emp Z oe) : Met l Z (⟨"com/example/emendate/emendate/model/Capability", "byName", "(Ljava/lang/String;)Ljava/util/Optional;"⟩ : MethodName) prog_7_method_4_code 5 (some (.object "java/util/Optional")) ({ frames := 3, cells := 1, slots := 3, locals := 48 } : Room) h [] #[.null] (fun v h' G => ∃ x, v = some (.ref x) ∧ Keep h h' [] ∧ Exa Z h' x OPN ∧ Fld Z h' x OPN "value" "Ljava/lang/Object;" .null) := by
  refine Met.mk (L := #[.val (.null), .unset, .unset, .unset, .unset]) (plainFor_of_name (by first | (simp [plainName, overriddenIn]; done) | decide +kernel)) (fun m => by first | (simp [entryFrame, mkF, argsToLocals, Value.category]; done) | rfl) (fun K => ?_)
  show Go _ _ K "com/example/emendate/emendate/model/Capability" "byName" _ _ _ _ _ _ _ _ _ 0 _ _
  obtain ⟨so, eo, fo⟩ := EM
  obtain ⟨⟨xu, nu, fu, tu⟩, ⟨xa, na, fa, ta⟩, ⟨xm, nm, fm, tm⟩⟩ := CA.2.1
  refine go_static (c' := 1) (s' := 3) (q := 3) (S := []) (argsL := []) H (w_56 H) (w_57 H) (w_51 H) (w_58 H) (by decide) (rm_vals H CA) rfl rfl (lenOf pd_3 rfl) (fun _ q => nomatch q) rfl (by decide) (Nat.le_of_ble_eq_true rfl) rfl rfl (by decide) (by decide) d10_0 rfl ?_
  rintro _ h1 G - ⟨d, k, rfl, Kv, V1⟩
  refine nx_ (v := none) ?_
  show Go _ _ _ _ _ _ _ _ _ _ _ _ _ _ 3 #[.val (.null), .unset, .unset, .unset, .unset] [.ref d]
  refine go_mine fun _ hO => ?_
  refine go_astoreN (L' := #[.val (.null), .val (.ref d), .unset, .unset, .unset]) (q := 4) d10_3 rfl rfl rfl ?_
  refine go_aloadN (v := .ref d) (q := 5) d10_4 rfl rfl rfl ?_
  refine go_arraylength (z := (3 : Int32)) (q := 6) V1 d10_5 rfl ?_
  refine go_istoreN (L' := #[.val (.null), .val (.ref d), .val (.int (3 : Int32)), .unset, .unset]) (q := 7) d10_6 rfl rfl ?_
  refine go_iconst (x := (0 : Int32)) (q := 8) d10_7 rfl rfl ?_
  refine go_istoreN (L' := #[.val (.null), .val (.ref d), .val (.int (3 : Int32)), .val (.int (0 : Int32)), .unset]) (q := 9) d10_8 rfl rfl ?_
  refine go_iloadN (v := (0 : Int32)) (q := 10) d10_9 rfl rfl ?_
  refine go_iloadN (v := (3 : Int32)) (q := 11) d10_10 rfl rfl ?_
  refine go_icN (q := 14) d10_11 (by decide) rfl ?_
  refine go_aloadN (v := .ref d) (q := 15) d10_14 rfl rfl rfl ?_
  refine go_iloadN (v := (0 : Int32)) (q := 16) d10_15 rfl rfl ?_
  refine go_aaload (v := .ref u) (q := 17) V1 rfl (by decide) rfl d10_16 rfl ?_
  refine go_astore (L' := #[.val (.null), .val (.ref d), .val (.int (3 : Int32)), .val (.int (0 : Int32)), .val (.ref u)]) (q := 19) d10_17 rfl rfl rfl ?_
  refine go_aload (v := .ref u) (q := 21) d10_19 rfl rfl rfl ?_
  refine go_getfield (v := .ref nu) (q := 24) (w_73 H) Via.refl (fu.ext hO.2) d10_21 rfl ?_
  refine go_aloadN (v := .null) (q := 25) d10_24 rfl rfl rfl ?_
  refine go_virtual (c' := 1) (s' := 3) (q := 28) (S := []) (argsL := [.null]) H (C := "java/lang/String") (w_75 H) (w_41 H) (nf_self (w_43 H)) (w_43 H) (w_42 H) (w_7 H) (w_44 H) (by decide) (tu.ext hO.2).exa (rm_eqN H) rfl rfl (lenOf pd_2 rfl) (fun _ q => nomatch q) rfl (by decide) (Nat.le_of_ble_eq_true rfl) rfl rfl (by decide) (by decide) d10_25 rfl ?_
  rintro _ _ G - ⟨rfl, rfl⟩
  refine nx_ (v := none) ?_
  show Go _ _ _ _ _ _ _ _ _ _ _ _ _ _ 28 #[.val (.null), .val (.ref d), .val (.int (3 : Int32)), .val (.int (0 : Int32)), .val (.ref u)] [.int 0]
  refine go_ifY (q := 37) d10_28 (by decide) (by decide) (by decide) ?_
  refine go_iinc (x := (0 : Int32)) (y := (1 : Int32)) (L' := #[.val (.null), .val (.ref d), .val (.int (3 : Int32)), .val (.int (1 : Int32)), .val (.ref u)]) (q := 40) d10_37 rfl (by decide) rfl rfl ?_
  refine go_goto (q := 9) d10_40 (by decide) (by decide) ?_
  refine go_iloadN (v := (1 : Int32)) (q := 10) d10_9 rfl rfl ?_
  refine go_iloadN (v := (3 : Int32)) (q := 11) d10_10 rfl rfl ?_
  refine go_icN (q := 14) d10_11 (by decide) rfl ?_
  refine go_aloadN (v := .ref d) (q := 15) d10_14 rfl rfl rfl ?_
  refine go_iloadN (v := (1 : Int32)) (q := 16) d10_15 rfl rfl ?_
  refine go_aaload (v := .ref a) (q := 17) V1 rfl (by decide) rfl d10_16 rfl ?_
  refine go_astore (L' := #[.val (.null), .val (.ref d), .val (.int (3 : Int32)), .val (.int (1 : Int32)), .val (.ref a)]) (q := 19) d10_17 rfl rfl rfl ?_
  refine go_aload (v := .ref a) (q := 21) d10_19 rfl rfl rfl ?_
  refine go_getfield (v := .ref na) (q := 24) (w_73 H) Via.refl (fa.ext hO.2) d10_21 rfl ?_
  refine go_aloadN (v := .null) (q := 25) d10_24 rfl rfl rfl ?_
  refine go_virtual (c' := 1) (s' := 3) (q := 28) (S := []) (argsL := [.null]) H (C := "java/lang/String") (w_75 H) (w_41 H) (nf_self (w_43 H)) (w_43 H) (w_42 H) (w_7 H) (w_44 H) (by decide) (ta.ext hO.2).exa (rm_eqN H) rfl rfl (lenOf pd_2 rfl) (fun _ q => nomatch q) rfl (by decide) (Nat.le_of_ble_eq_true rfl) rfl rfl (by decide) (by decide) d10_25 rfl ?_
  rintro _ _ G - ⟨rfl, rfl⟩
  refine nx_ (v := none) ?_
  show Go _ _ _ _ _ _ _ _ _ _ _ _ _ _ 28 #[.val (.null), .val (.ref d), .val (.int (3 : Int32)), .val (.int (1 : Int32)), .val (.ref a)] [.int 0]
  refine go_ifY (q := 37) d10_28 (by decide) (by decide) (by decide) ?_
  refine go_iinc (x := (1 : Int32)) (y := (2 : Int32)) (L' := #[.val (.null), .val (.ref d), .val (.int (3 : Int32)), .val (.int (2 : Int32)), .val (.ref a)]) (q := 40) d10_37 rfl (by decide) rfl rfl ?_
  refine go_goto (q := 9) d10_40 (by decide) (by decide) ?_
  refine go_iloadN (v := (2 : Int32)) (q := 10) d10_9 rfl rfl ?_
  refine go_iloadN (v := (3 : Int32)) (q := 11) d10_10 rfl rfl ?_
  refine go_icN (q := 14) d10_11 (by decide) rfl ?_
  refine go_aloadN (v := .ref d) (q := 15) d10_14 rfl rfl rfl ?_
  refine go_iloadN (v := (2 : Int32)) (q := 16) d10_15 rfl rfl ?_
  refine go_aaload (v := .ref m) (q := 17) V1 rfl (by decide) rfl d10_16 rfl ?_
  refine go_astore (L' := #[.val (.null), .val (.ref d), .val (.int (3 : Int32)), .val (.int (2 : Int32)), .val (.ref m)]) (q := 19) d10_17 rfl rfl rfl ?_
  refine go_aload (v := .ref m) (q := 21) d10_19 rfl rfl rfl ?_
  refine go_getfield (v := .ref nm) (q := 24) (w_73 H) Via.refl (fm.ext hO.2) d10_21 rfl ?_
  refine go_aloadN (v := .null) (q := 25) d10_24 rfl rfl rfl ?_
  refine go_virtual (c' := 1) (s' := 3) (q := 28) (S := []) (argsL := [.null]) H (C := "java/lang/String") (w_75 H) (w_41 H) (nf_self (w_43 H)) (w_43 H) (w_42 H) (w_7 H) (w_44 H) (by decide) (tm.ext hO.2).exa (rm_eqN H) rfl rfl (lenOf pd_2 rfl) (fun _ q => nomatch q) rfl (by decide) (Nat.le_of_ble_eq_true rfl) rfl rfl (by decide) (by decide) d10_25 rfl ?_
  rintro _ _ G - ⟨rfl, rfl⟩
  refine nx_ (v := none) ?_
  show Go _ _ _ _ _ _ _ _ _ _ _ _ _ _ 28 #[.val (.null), .val (.ref d), .val (.int (3 : Int32)), .val (.int (2 : Int32)), .val (.ref m)] [.int 0]
  refine go_ifY (q := 37) d10_28 (by decide) (by decide) (by decide) ?_
  refine go_iinc (x := (2 : Int32)) (y := (3 : Int32)) (L' := #[.val (.null), .val (.ref d), .val (.int (3 : Int32)), .val (.int (3 : Int32)), .val (.ref m)]) (q := 40) d10_37 rfl (by decide) rfl rfl ?_
  refine go_goto (q := 9) d10_40 (by decide) (by decide) ?_
  refine go_iloadN (v := (3 : Int32)) (q := 10) d10_9 rfl rfl ?_
  refine go_iloadN (v := (3 : Int32)) (q := 11) d10_10 rfl rfl ?_
  refine go_icY (q := 43) d10_11 (by decide) (by decide) (by decide) ?_
  refine go_static (c' := 1) (s' := 3) (q := 46) (S := []) (argsL := []) H (w_113 H) (w_114 H) (w_78 H) (w_115 H) (by decide) (rm_oem H so) rfl rfl (lenOf pd_4 rfl) (fun _ q => nomatch q) rfl (by decide) (Nat.le_of_ble_eq_true rfl) rfl rfl (by decide) (by decide) d10_43 rfl ?_
  rintro _ _ G - ⟨rfl, rfl⟩
  refine nx_ (v := none) ?_
  show Go _ _ _ _ _ _ _ _ _ _ _ _ _ _ 46 #[.val (.null), .val (.ref d), .val (.int (3 : Int32)), .val (.int (3 : Int32)), .val (.ref m)] [.ref oe]
  exact go_areturn H (G := []) (t := (.object "java/util/Optional")) rfl rfl rfl d10_46 (by decide) (by decide) (fun _ q => nomatch q) ⟨oe, rfl, Kv, eo.ext hO.2, fo.ext hO.2⟩
set_option maxRecDepth 65536 in
set_option maxHeartbeats 4000000 in
theorem rm_bnS {l : Launch} {Z : State} {a0 : Array Value} (H : Wd Z a0) {h : Heap} {F : List Addr} {u a m s oe : Addr} {cs : List Int32} (CA : Caps Z u a m) (EM : Emp Z oe) (S : Str Z h F s cs) : Met l Z (⟨"com/example/emendate/emendate/model/Capability", "byName", "(Ljava/lang/String;)Ljava/util/Optional;"⟩ : MethodName) prog_7_method_4_code 5 (some (.object "java/util/Optional")) ({ frames := 3, cells := 2, slots := 4, locals := 48 } : Room) h [] #[.ref s] (fun v h' G => ∃ x, v = some (.ref x) ∧ Keep h h' [] ∧ Exa Z h' x OPN ∧ Fld Z h' x OPN "value" "Ljava/lang/Object;" (pickC u a m cs)) := by
  refine Met.mk (L := #[.val (.ref s), .unset, .unset, .unset, .unset]) (plainFor_of_name (by first | (simp [plainName, overriddenIn]; done) | decide +kernel)) (fun m => by first | (simp [entryFrame, mkF, argsToLocals, Value.category]; done) | rfl) (fun K => ?_)
  show Go _ _ K "com/example/emendate/emendate/model/Capability" "byName" _ _ _ _ _ _ _ _ _ 0 _ _
  obtain ⟨so, eo, fo⟩ := EM
  obtain ⟨⟨xu, nu, fu, tu⟩, ⟨xa, na, fa, ta⟩, ⟨xm, nm, fm, tm⟩⟩ := CA.2.1
  refine go_static (c' := 1) (s' := 3) (q := 3) (S := []) (argsL := []) H (w_56 H) (w_57 H) (w_51 H) (w_58 H) (by decide) (rm_vals H CA) rfl rfl (lenOf pd_3 rfl) (fun _ q => nomatch q) rfl (by decide) (Nat.le_of_ble_eq_true rfl) rfl rfl (by decide) (by decide) d10_0 rfl ?_
  rintro _ h1 G - ⟨d, k, rfl, Kv, V1⟩
  refine nx_ (v := none) ?_
  show Go _ _ _ _ _ _ _ _ _ _ _ _ _ _ 3 #[.val (.ref s), .unset, .unset, .unset, .unset] [.ref d]
  have S := S.keep0 Kv
  refine go_mine fun _ hO => ?_
  refine go_astoreN (L' := #[.val (.ref s), .val (.ref d), .unset, .unset, .unset]) (q := 4) d10_3 rfl rfl rfl ?_
  refine go_aloadN (v := .ref d) (q := 5) d10_4 rfl rfl rfl ?_
  refine go_arraylength (z := (3 : Int32)) (q := 6) V1 d10_5 rfl ?_
  refine go_istoreN (L' := #[.val (.ref s), .val (.ref d), .val (.int (3 : Int32)), .unset, .unset]) (q := 7) d10_6 rfl rfl ?_
  refine go_iconst (x := (0 : Int32)) (q := 8) d10_7 rfl rfl ?_
  refine go_istoreN (L' := #[.val (.ref s), .val (.ref d), .val (.int (3 : Int32)), .val (.int (0 : Int32)), .unset]) (q := 9) d10_8 rfl rfl ?_
  refine go_iloadN (v := (0 : Int32)) (q := 10) d10_9 rfl rfl ?_
  refine go_iloadN (v := (3 : Int32)) (q := 11) d10_10 rfl rfl ?_
  refine go_icN (q := 14) d10_11 (by decide) rfl ?_
  refine go_aloadN (v := .ref d) (q := 15) d10_14 rfl rfl rfl ?_
  refine go_iloadN (v := (0 : Int32)) (q := 16) d10_15 rfl rfl ?_
  refine go_aaload (v := .ref u) (q := 17) V1 rfl (by decide) rfl d10_16 rfl ?_
  refine go_astore (L' := #[.val (.ref s), .val (.ref d), .val (.int (3 : Int32)), .val (.int (0 : Int32)), .val (.ref u)]) (q := 19) d10_17 rfl rfl rfl ?_
  refine go_aload (v := .ref u) (q := 21) d10_19 rfl rfl rfl ?_
  refine go_getfield (v := .ref nu) (q := 24) (w_73 H) Via.refl (fu.ext hO.2) d10_21 rfl ?_
  refine go_aloadN (v := .ref s) (q := 25) d10_24 rfl rfl rfl ?_
  refine go_virtual (c' := 1) (s' := 3) (q := 28) (S := []) (argsL := [.ref s]) H (C := "java/lang/String") (w_75 H) (w_41 H) (nf_self (w_43 H)) (w_43 H) (w_42 H) (w_7 H) (w_44 H) (by decide) (tu.ext hO.2).exa (rm_eq H (tu.ext hO.2) S) rfl rfl (lenOf pd_2 rfl) (fun _ q => nomatch q) rfl (by decide) (Nat.le_of_ble_eq_true rfl) rfl rfl (by decide) (by decide) d10_25 rfl ?_
  rintro _ _ G - ⟨rfl, rfl⟩
  refine nx_ (v := none) ?_
  show Go _ _ _ _ _ _ _ _ _ _ _ _ _ _ 28 #[.val (.ref s), .val (.ref d), .val (.int (3 : Int32)), .val (.int (0 : Int32)), .val (.ref u)] [.int (if nU = cs then 1 else 0)]
  by_cases q0 : cs = nU
  · rw [if_pos q0.symm]
    show Go _ _ _ _ _ _ _ _ _ _ _ _ _ _ 28 #[.val (.ref s), .val (.ref d), .val (.int (3 : Int32)), .val (.int (0 : Int32)), .val (.ref u)] [.int 1]
    refine go_ifN (q := 31) d10_28 (by decide) rfl ?_
    refine go_aload (v := .ref u) (q := 33) d10_31 rfl rfl rfl ?_
    refine go_static (c' := 2) (s' := 4) (q := 36) (S := []) (argsL := [.ref u]) H (w_76 H) (w_77 H) (w_78 H) (w_79 H) (by decide) (rm_oof H) rfl rfl (lenOf pd_5 rfl) (fun _ q => nomatch q) rfl (by decide) (Nat.le_of_ble_eq_true rfl) rfl rfl (by decide) (by decide) d10_33 rfl ?_
    rintro _ h2 G - ⟨x, rfl, K2, E2, F2⟩
    refine nx_ (v := none) ?_
    show Go _ _ _ _ _ _ _ _ _ _ _ _ _ _ 36 #[.val (.ref s), .val (.ref d), .val (.int (3 : Int32)), .val (.int (0 : Int32)), .val (.ref u)] [.ref x]
    exact go_areturn H (G := []) (t := (.object "java/util/Optional")) rfl rfl rfl d10_36 (by decide) (by decide) (fun _ q => nomatch q) ⟨x, rfl, Kv.trans K2 (fun _ q => nomatch q), E2, by rw [(pickU q0)]; exact F2⟩
  rw [if_neg (fun e => q0 e.symm)]
  show Go _ _ _ _ _ _ _ _ _ _ _ _ _ _ 28 #[.val (.ref s), .val (.ref d), .val (.int (3 : Int32)), .val (.int (0 : Int32)), .val (.ref u)] [.int 0]
  refine go_ifY (q := 37) d10_28 (by decide) (by decide) (by decide) ?_
  refine go_iinc (x := (0 : Int32)) (y := (1 : Int32)) (L' := #[.val (.ref s), .val (.ref d), .val (.int (3 : Int32)), .val (.int (1 : Int32)), .val (.ref u)]) (q := 40) d10_37 rfl (by decide) rfl rfl ?_
  refine go_goto (q := 9) d10_40 (by decide) (by decide) ?_
  refine go_iloadN (v := (1 : Int32)) (q := 10) d10_9 rfl rfl ?_
  refine go_iloadN (v := (3 : Int32)) (q := 11) d10_10 rfl rfl ?_
  refine go_icN (q := 14) d10_11 (by decide) rfl ?_
  refine go_aloadN (v := .ref d) (q := 15) d10_14 rfl rfl rfl ?_
  refine go_iloadN (v := (1 : Int32)) (q := 16) d10_15 rfl rfl ?_
  refine go_aaload (v := .ref a) (q := 17) V1 rfl (by decide) rfl d10_16 rfl ?_
  refine go_astore (L' := #[.val (.ref s), .val (.ref d), .val (.int (3 : Int32)), .val (.int (1 : Int32)), .val (.ref a)]) (q := 19) d10_17 rfl rfl rfl ?_
  refine go_aload (v := .ref a) (q := 21) d10_19 rfl rfl rfl ?_
  refine go_getfield (v := .ref na) (q := 24) (w_73 H) Via.refl (fa.ext hO.2) d10_21 rfl ?_
  refine go_aloadN (v := .ref s) (q := 25) d10_24 rfl rfl rfl ?_
  refine go_virtual (c' := 1) (s' := 3) (q := 28) (S := []) (argsL := [.ref s]) H (C := "java/lang/String") (w_75 H) (w_41 H) (nf_self (w_43 H)) (w_43 H) (w_42 H) (w_7 H) (w_44 H) (by decide) (ta.ext hO.2).exa (rm_eq H (ta.ext hO.2) S) rfl rfl (lenOf pd_2 rfl) (fun _ q => nomatch q) rfl (by decide) (Nat.le_of_ble_eq_true rfl) rfl rfl (by decide) (by decide) d10_25 rfl ?_
  rintro _ _ G - ⟨rfl, rfl⟩
  refine nx_ (v := none) ?_
  show Go _ _ _ _ _ _ _ _ _ _ _ _ _ _ 28 #[.val (.ref s), .val (.ref d), .val (.int (3 : Int32)), .val (.int (1 : Int32)), .val (.ref a)] [.int (if nA = cs then 1 else 0)]
  by_cases q1 : cs = nA
  · rw [if_pos q1.symm]
    show Go _ _ _ _ _ _ _ _ _ _ _ _ _ _ 28 #[.val (.ref s), .val (.ref d), .val (.int (3 : Int32)), .val (.int (1 : Int32)), .val (.ref a)] [.int 1]
    refine go_ifN (q := 31) d10_28 (by decide) rfl ?_
    refine go_aload (v := .ref a) (q := 33) d10_31 rfl rfl rfl ?_
    refine go_static (c' := 2) (s' := 4) (q := 36) (S := []) (argsL := [.ref a]) H (w_76 H) (w_77 H) (w_78 H) (w_79 H) (by decide) (rm_oof H) rfl rfl (lenOf pd_5 rfl) (fun _ q => nomatch q) rfl (by decide) (Nat.le_of_ble_eq_true rfl) rfl rfl (by decide) (by decide) d10_33 rfl ?_
    rintro _ h2 G - ⟨x, rfl, K2, E2, F2⟩
    refine nx_ (v := none) ?_
    show Go _ _ _ _ _ _ _ _ _ _ _ _ _ _ 36 #[.val (.ref s), .val (.ref d), .val (.int (3 : Int32)), .val (.int (1 : Int32)), .val (.ref a)] [.ref x]
    exact go_areturn H (G := []) (t := (.object "java/util/Optional")) rfl rfl rfl d10_36 (by decide) (by decide) (fun _ q => nomatch q) ⟨x, rfl, Kv.trans K2 (fun _ q => nomatch q), E2, by rw [(pickA q0 q1)]; exact F2⟩
  rw [if_neg (fun e => q1 e.symm)]
  show Go _ _ _ _ _ _ _ _ _ _ _ _ _ _ 28 #[.val (.ref s), .val (.ref d), .val (.int (3 : Int32)), .val (.int (1 : Int32)), .val (.ref a)] [.int 0]
  refine go_ifY (q := 37) d10_28 (by decide) (by decide) (by decide) ?_
  refine go_iinc (x := (1 : Int32)) (y := (2 : Int32)) (L' := #[.val (.ref s), .val (.ref d), .val (.int (3 : Int32)), .val (.int (2 : Int32)), .val (.ref a)]) (q := 40) d10_37 rfl (by decide) rfl rfl ?_
  refine go_goto (q := 9) d10_40 (by decide) (by decide) ?_
  refine go_iloadN (v := (2 : Int32)) (q := 10) d10_9 rfl rfl ?_
  refine go_iloadN (v := (3 : Int32)) (q := 11) d10_10 rfl rfl ?_
  refine go_icN (q := 14) d10_11 (by decide) rfl ?_
  refine go_aloadN (v := .ref d) (q := 15) d10_14 rfl rfl rfl ?_
  refine go_iloadN (v := (2 : Int32)) (q := 16) d10_15 rfl rfl ?_
  refine go_aaload (v := .ref m) (q := 17) V1 rfl (by decide) rfl d10_16 rfl ?_
  refine go_astore (L' := #[.val (.ref s), .val (.ref d), .val (.int (3 : Int32)), .val (.int (2 : Int32)), .val (.ref m)]) (q := 19) d10_17 rfl rfl rfl ?_
  refine go_aload (v := .ref m) (q := 21) d10_19 rfl rfl rfl ?_
  refine go_getfield (v := .ref nm) (q := 24) (w_73 H) Via.refl (fm.ext hO.2) d10_21 rfl ?_
  refine go_aloadN (v := .ref s) (q := 25) d10_24 rfl rfl rfl ?_
  refine go_virtual (c' := 1) (s' := 3) (q := 28) (S := []) (argsL := [.ref s]) H (C := "java/lang/String") (w_75 H) (w_41 H) (nf_self (w_43 H)) (w_43 H) (w_42 H) (w_7 H) (w_44 H) (by decide) (tm.ext hO.2).exa (rm_eq H (tm.ext hO.2) S) rfl rfl (lenOf pd_2 rfl) (fun _ q => nomatch q) rfl (by decide) (Nat.le_of_ble_eq_true rfl) rfl rfl (by decide) (by decide) d10_25 rfl ?_
  rintro _ _ G - ⟨rfl, rfl⟩
  refine nx_ (v := none) ?_
  show Go _ _ _ _ _ _ _ _ _ _ _ _ _ _ 28 #[.val (.ref s), .val (.ref d), .val (.int (3 : Int32)), .val (.int (2 : Int32)), .val (.ref m)] [.int (if nM = cs then 1 else 0)]
  by_cases q2 : cs = nM
  · rw [if_pos q2.symm]
    show Go _ _ _ _ _ _ _ _ _ _ _ _ _ _ 28 #[.val (.ref s), .val (.ref d), .val (.int (3 : Int32)), .val (.int (2 : Int32)), .val (.ref m)] [.int 1]
    refine go_ifN (q := 31) d10_28 (by decide) rfl ?_
    refine go_aload (v := .ref m) (q := 33) d10_31 rfl rfl rfl ?_
    refine go_static (c' := 2) (s' := 4) (q := 36) (S := []) (argsL := [.ref m]) H (w_76 H) (w_77 H) (w_78 H) (w_79 H) (by decide) (rm_oof H) rfl rfl (lenOf pd_5 rfl) (fun _ q => nomatch q) rfl (by decide) (Nat.le_of_ble_eq_true rfl) rfl rfl (by decide) (by decide) d10_33 rfl ?_
    rintro _ h2 G - ⟨x, rfl, K2, E2, F2⟩
    refine nx_ (v := none) ?_
    show Go _ _ _ _ _ _ _ _ _ _ _ _ _ _ 36 #[.val (.ref s), .val (.ref d), .val (.int (3 : Int32)), .val (.int (2 : Int32)), .val (.ref m)] [.ref x]
    exact go_areturn H (G := []) (t := (.object "java/util/Optional")) rfl rfl rfl d10_36 (by decide) (by decide) (fun _ q => nomatch q) ⟨x, rfl, Kv.trans K2 (fun _ q => nomatch q), E2, by rw [(pickM q0 q1 q2)]; exact F2⟩
  rw [if_neg (fun e => q2 e.symm)]
  show Go _ _ _ _ _ _ _ _ _ _ _ _ _ _ 28 #[.val (.ref s), .val (.ref d), .val (.int (3 : Int32)), .val (.int (2 : Int32)), .val (.ref m)] [.int 0]
  refine go_ifY (q := 37) d10_28 (by decide) (by decide) (by decide) ?_
  refine go_iinc (x := (2 : Int32)) (y := (3 : Int32)) (L' := #[.val (.ref s), .val (.ref d), .val (.int (3 : Int32)), .val (.int (3 : Int32)), .val (.ref m)]) (q := 40) d10_37 rfl (by decide) rfl rfl ?_
  refine go_goto (q := 9) d10_40 (by decide) (by decide) ?_
  refine go_iloadN (v := (3 : Int32)) (q := 10) d10_9 rfl rfl ?_
  refine go_iloadN (v := (3 : Int32)) (q := 11) d10_10 rfl rfl ?_
  refine go_icY (q := 43) d10_11 (by decide) (by decide) (by decide) ?_
  refine go_static (c' := 1) (s' := 3) (q := 46) (S := []) (argsL := []) H (w_113 H) (w_114 H) (w_78 H) (w_115 H) (by decide) (rm_oem H so) rfl rfl (lenOf pd_4 rfl) (fun _ q => nomatch q) rfl (by decide) (Nat.le_of_ble_eq_true rfl) rfl rfl (by decide) (by decide) d10_43 rfl ?_
  rintro _ _ G - ⟨rfl, rfl⟩
  refine nx_ (v := none) ?_
  show Go _ _ _ _ _ _ _ _ _ _ _ _ _ _ 46 #[.val (.ref s), .val (.ref d), .val (.int (3 : Int32)), .val (.int (3 : Int32)), .val (.ref m)] [.ref oe]
  exact go_areturn H (G := []) (t := (.object "java/util/Optional")) rfl rfl rfl d10_46 (by decide) (by decide) (fun _ q => nomatch q) ⟨oe, rfl, Kv, eo.ext hO.2, by rw [pickN q0 q1 q2]; exact fo.ext hO.2⟩
set_option maxRecDepth 65536 in
set_option maxHeartbeats 4000000 in
theorem rm_cn {l : Launch} {Z : State} {a0 : Array Value} (H : Wd Z a0) {h : Heap} {x : Addr} {v : Value} (Fv : Fld Z h x "com/example/emendate/emendate/model/Capability" "capabilityName" "Ljava/lang/String;" v) (hv : v.isRef = true) : Met l Z (⟨"com/example/emendate/emendate/model/Capability", "capabilityName", "()Ljava/lang/String;"⟩ : MethodName) prog_7_method_5_code 1 (some (.object "java/lang/String")) ({ frames := 0, cells := 0, slots := 0, locals := 0 } : Room) h [] #[.ref x] (fun u h' G => u = some v ∧ h = h') := by
  refine Met.mk (L := #[.val (.ref x)]) (plainFor_of_name (by first | (simp [plainName, overriddenIn]; done) | decide +kernel)) (fun m => by first | (simp [entryFrame, mkF, argsToLocals, Value.category]; done) | rfl) (fun K => ?_)
  show Go _ _ K "com/example/emendate/emendate/model/Capability" "capabilityName" _ _ _ _ _ _ _ _ _ 0 _ _
  refine go_aloadN (v := .ref x) (q := 1) d17_0 rfl rfl rfl ?_
  refine go_getfield (v := v) (q := 4) (w_73 H) Via.refl Fv d17_1 rfl ?_
  exact go_areturn H (G := []) (t := (.object "java/lang/String")) rfl rfl hv d17_4 (by decide) (by decide) (fun _ q => nomatch q) ⟨rfl, rfl⟩
abbrev GL (l : Launch) (Z : State) (K : Cx) (h : Heap) (F : List Addr) (c s pc : Nat) (L : Array Slot) (S : List Value) : Prop := Go l Z K "com/example/emendate/emendate/model/CapabilityByNamePinLaw" "law" code 12 ret ({ frames := 8, cells := 32, slots := 4352, locals := 192 } : Room) (fun v h' G => v = some (.int 1)) h F c s pc L S
set_option maxRecDepth 65536 in
set_option maxHeartbeats 8000000 in
theorem j57N {l : Launch} {Z : State} {a0 : Array Value} (H : Wd Z a0) {K : Cx} {h : Heap} {x : Addr} {i0 i1 i2 i3 : Int32} {s4 s5 s6 s7 s8 : Slot} (E : Exa Z h x OPN) (Fv : Fld Z h x OPN "value" "Ljava/lang/Object;" .null) : GL l Z K h [] 24 320 57 #[.val (.int i0), .val (.int i1), .val (.int i2), .val (.int i3), s4, s5, s6, s7, s8, .val (.null), .val (.ref x), .unset] [] := by
  refine go_aload (v := .ref x) (q := 59) at_57 rfl rfl rfl ?_
  refine go_nnY (q := 64) at_59 (by decide) (by decide) ?_
  refine go_aload (v := .ref x) (q := 66) at_64 rfl rfl rfl ?_
  refine go_virtual (c' := 24) (s' := 320) (q := 69) (S := []) (argsL := []) H (C := "java/util/Optional") (w_93 H) (w_94 H) (nf_self (w_96 H)) (w_96 H) (w_95 H) (w_78 H) (w_97 H) (by decide) E (rm_ipN H Fv) rfl rfl (lenOf pd_16 rfl) (fun _ q => nomatch q) rfl (by decide) (Nat.le_of_ble_eq_true rfl) rfl rfl (by decide) (by decide) at_66 rfl ?_
  rintro _ _ G - ⟨rfl, rfl⟩
  refine nx_ (v := none) ?_
  show Go _ _ _ _ _ _ _ _ _ _ _ _ _ _ 69 #[.val (.int i0), .val (.int i1), .val (.int i2), .val (.int i3), s4, s5, s6, s7, s8, .val (.null), .val (.ref x), .unset] [.int 0]
  refine go_ifN (q := 72) at_69 (by decide) rfl ?_
  refine go_aload (v := .null) (q := 74) at_72 rfl rfl rfl ?_
  refine go_nnN (q := 77) at_74 rfl ?_
  refine go_iconst (x := (1 : Int32)) (q := 78) at_77 rfl rfl ?_
  refine go_goto (q := 82) at_78 (by decide) (by decide) ?_
  exact go_ireturn H (G := []) (t := .boolean) rfl (by decide) rfl at_82 (by decide) (by decide) (fun _ q => nomatch q) rfl
set_option maxRecDepth 65536 in
set_option maxHeartbeats 8000000 in
theorem j57S {l : Launch} {Z : State} {a0 : Array Value} (H : Wd Z a0) {K : Cx} {h : Heap} {F : List Addr} {x c s : Addr} {cs : List Int32} {i0 i1 i2 i3 : Int32} {s4 s5 s6 s7 : Slot} (E : Exa Z h x OPN) (Fv : Fld Z h x OPN "value" "Ljava/lang/Object;" (.ref c)) (CC : Cap Z c cs) (S : Str Z h F s cs) : GL l Z K h [] 24 320 57 #[.val (.int i0), .val (.int i1), .val (.int i2), .val (.int i3), s4, s5, s6, s7, .val (.ref s), .val (.ref c), .val (.ref x), .unset] [] := by
  obtain ⟨xc, n, fc, tc⟩ := CC
  refine go_mine fun _ hO => ?_
  refine go_aload (v := .ref x) (q := 59) at_57 rfl rfl rfl ?_
  refine go_nnY (q := 64) at_59 (by decide) (by decide) ?_
  refine go_aload (v := .ref x) (q := 66) at_64 rfl rfl rfl ?_
  refine go_virtual (c' := 24) (s' := 320) (q := 69) (S := []) (argsL := []) H (C := "java/util/Optional") (w_93 H) (w_94 H) (nf_self (w_96 H)) (w_96 H) (w_95 H) (w_78 H) (w_97 H) (by decide) E (rm_ipY H Fv) rfl rfl (lenOf pd_16 rfl) (fun _ q => nomatch q) rfl (by decide) (Nat.le_of_ble_eq_true rfl) rfl rfl (by decide) (by decide) at_66 rfl ?_
  rintro _ _ G - ⟨rfl, rfl⟩
  refine nx_ (v := none) ?_
  show Go _ _ _ _ _ _ _ _ _ _ _ _ _ _ 69 #[.val (.int i0), .val (.int i1), .val (.int i2), .val (.int i3), s4, s5, s6, s7, .val (.ref s), .val (.ref c), .val (.ref x), .unset] [.int 1]
  refine go_ifY (q := 83) at_69 (by decide) (by decide) (by decide) ?_
  refine go_aload (v := .ref x) (q := 85) at_83 rfl rfl rfl ?_
  refine go_virtual (c' := 24) (s' := 320) (q := 88) (S := []) (argsL := []) H (C := "java/util/Optional") (w_98 H) (w_99 H) (nf_self (w_101 H)) (w_101 H) (w_100 H) (w_78 H) (w_102 H) (by decide) E (rm_og H Fv) rfl rfl (lenOf pd_17 rfl) (fun _ q => nomatch q) rfl (by decide) (Nat.le_of_ble_eq_true rfl) rfl rfl (by decide) (by decide) at_85 rfl ?_
  rintro _ _ G - ⟨rfl, rfl⟩
  refine nx_ (v := none) ?_
  show Go _ _ _ _ _ _ _ _ _ _ _ _ _ _ 88 #[.val (.int i0), .val (.int i1), .val (.int i2), .val (.int i3), s4, s5, s6, s7, .val (.ref s), .val (.ref c), .val (.ref x), .unset] [.ref c]
  refine go_checkcast (q := 91) (w_103 H) (Ins.self (xc.ext hO.2)) at_88 rfl ?_
  refine go_astore (L' := #[.val (.int i0), .val (.int i1), .val (.int i2), .val (.int i3), s4, s5, s6, s7, .val (.ref s), .val (.ref c), .val (.ref x), .val (.ref c)]) (q := 93) at_91 rfl rfl rfl ?_
  refine go_aload (v := .ref c) (q := 95) at_93 rfl rfl rfl ?_
  refine go_aload (v := .ref c) (q := 97) at_95 rfl rfl rfl ?_
  refine go_acN (q := 100) at_97 rfl rfl (by simp [XT.acmp]) rfl ?_
  refine go_aload (v := .ref c) (q := 102) at_100 rfl rfl rfl ?_
  refine go_virtual (c' := 24) (s' := 320) (q := 105) (S := []) (argsL := []) H (C := "com/example/emendate/emendate/model/Capability") (w_105 H) (w_106 H) (nf_self (w_108 H)) (w_108 H) (w_107 H) (w_51 H) (w_109 H) (by decide) (xc.ext hO.2) (rm_cn H (fc.ext hO.2) rfl) rfl rfl (lenOf pd_18 rfl) (fun _ q => nomatch q) rfl (by decide) (Nat.le_of_ble_eq_true rfl) rfl rfl (by decide) (by decide) at_102 rfl ?_
  rintro _ _ G - ⟨rfl, rfl⟩
  refine nx_ (v := none) ?_
  show Go _ _ _ _ _ _ _ _ _ _ _ _ _ _ 105 #[.val (.int i0), .val (.int i1), .val (.int i2), .val (.int i3), s4, s5, s6, s7, .val (.ref s), .val (.ref c), .val (.ref x), .val (.ref c)] [.ref n]
  refine go_aload (v := .ref s) (q := 107) at_105 rfl rfl rfl ?_
  refine go_virtual (c' := 24) (s' := 320) (q := 110) (S := []) (argsL := [.ref s]) H (C := "java/lang/String") (w_40 H) (w_41 H) (nf_self (w_43 H)) (w_43 H) (w_42 H) (w_7 H) (w_44 H) (by decide) (tc.ext hO.2).exa (rm_eq H (tc.ext hO.2) S) rfl rfl (lenOf pd_2 rfl) (fun _ q => nomatch q) rfl (by decide) (Nat.le_of_ble_eq_true rfl) rfl rfl (by decide) (by decide) at_107 rfl ?_
  rintro _ _ G - ⟨rfl, rfl⟩
  refine nx_ (v := none) ?_
  show Go _ _ _ _ _ _ _ _ _ _ _ _ _ _ 110 #[.val (.int i0), .val (.int i1), .val (.int i2), .val (.int i3), s4, s5, s6, s7, .val (.ref s), .val (.ref c), .val (.ref x), .val (.ref c)] [.int (if cs = cs then 1 else 0)]
  rw [if_pos rfl]
  show Go _ _ _ _ _ _ _ _ _ _ _ _ _ _ 110 #[.val (.int i0), .val (.int i1), .val (.int i2), .val (.int i3), s4, s5, s6, s7, .val (.ref s), .val (.ref c), .val (.ref x), .val (.ref c)] [.int 1]
  refine go_ifN (q := 113) at_110 (by decide) rfl ?_
  refine go_iconst (x := (1 : Int32)) (q := 114) at_113 rfl rfl ?_
  refine go_goto (q := 118) at_114 (by decide) (by decide) ?_
  exact go_ireturn H (G := []) (t := .boolean) rfl (by decide) rfl at_118 (by decide) (by decide) (fun _ q => nomatch q) rfl
set_option maxRecDepth 65536 in
set_option maxHeartbeats 8000000 in
theorem rm_law {l : Launch} {Z : State} {a0 : Array Value} (H : Wd Z a0) {i0 i1 i2 i3 : Int32} {u a m oe : Addr} (CA : Caps Z u a m) (EM : Emp Z oe) : MetL l Z x code maxLocals ret room_1 Z.heap [] #[.int i0, .int i1, .int i2, .int i3] (fun v h' G => v = some (.int 1)) := by
  refine MetL.mk (L := #[.val (.int i0), .val (.int i1), .val (.int i2), .val (.int i3), .unset, .unset, .unset, .unset, .unset, .unset, .unset, .unset]) (plainFor_of_name (by first | (simp [plainName, overriddenIn, x]; done) | decide +kernel)) (fun m => by first | (simp [entryFrame, mkF, argsToLocals, Value.category, maxLocals]; done) | rfl) (fun K => ?_)
  show Go _ _ K "com/example/emendate/emendate/model/CapabilityByNamePinLaw" "law" _ 12 _ ({ frames := 8, cells := 32, slots := 4352, locals := 192 } : Room) _ _ _ _ _ 0 _ _
  refine go_iloadN (v := i2) (q := 1) at_0 rfl rfl ?_
  refine go_sipush (x := (255 : Int32)) (q := 4) at_1 rfl rfl ?_
  refine go_iand (r := i2 &&& (255 : Int32)) (q := 5) at_4 rfl rfl ?_
  refine go_i2c (r := (i2 &&& 255)) (q := 6) at_5 (i2c_msk i2) rfl ?_
  refine go_istore (L' := #[.val (.int i0), .val (.int i1), .val (.int i2), .val (.int i3), .val (.int (i2 &&& 255)), .unset, .unset, .unset, .unset, .unset, .unset, .unset]) (q := 8) at_6 rfl rfl ?_
  refine go_iloadN (v := i3) (q := 9) at_8 rfl rfl ?_
  refine go_sipush (x := (255 : Int32)) (q := 12) at_9 rfl rfl ?_
  refine go_iand (r := i3 &&& (255 : Int32)) (q := 13) at_12 rfl rfl ?_
  refine go_i2c (r := (i3 &&& 255)) (q := 14) at_13 (i2c_msk i3) rfl ?_
  refine go_istore (L' := #[.val (.int i0), .val (.int i1), .val (.int i2), .val (.int i3), .val (.int (i2 &&& 255)), .val (.int (i3 &&& 255)), .unset, .unset, .unset, .unset, .unset, .unset]) (q := 16) at_14 rfl rfl ?_
  refine go_iloadN (v := i0) (q := 17) at_16 rfl rfl ?_
  refine go_bipush (x := (7 : Int32)) (q := 19) at_17 rfl rfl ?_
  refine go_iand (r := i0 &&& (7 : Int32)) (q := 20) at_19 rfl rfl ?_
  refine go_istore (L' := #[.val (.int i0), .val (.int i1), .val (.int i2), .val (.int i3), .val (.int (i2 &&& 255)), .val (.int (i3 &&& 255)), .val (.int (i0 &&& (7 : Int32))), .unset, .unset, .unset, .unset, .unset]) (q := 22) at_20 rfl rfl ?_
  refine go_iloadN (v := i0) (q := 23) at_22 rfl rfl ?_
  refine go_iconst (x := (3 : Int32)) (q := 24) at_23 rfl rfl ?_
  refine go_iushr (r := (XT.ushr i0 3)) (q := 25) at_24 rfl rfl ?_
  refine go_iconst (x := (3 : Int32)) (q := 26) at_25 rfl rfl ?_
  refine go_iand (r := (XT.ushr i0 3) &&& (3 : Int32)) (q := 27) at_26 rfl rfl ?_
  refine go_istore (L' := #[.val (.int i0), .val (.int i1), .val (.int i2), .val (.int i3), .val (.int (i2 &&& 255)), .val (.int (i3 &&& 255)), .val (.int (i0 &&& (7 : Int32))), .val (.int ((XT.ushr i0 3) &&& (3 : Int32))), .unset, .unset, .unset, .unset]) (q := 29) at_27 rfl rfl ?_
  refine go_iload (v := i0 &&& (7 : Int32)) (q := 31) at_29 rfl rfl ?_
  refine go_iload (v := (XT.ushr i0 3) &&& (3 : Int32)) (q := 33) at_31 rfl rfl ?_
  refine go_iloadN (v := i1) (q := 34) at_33 rfl rfl ?_
  refine go_iload (v := (i2 &&& 255)) (q := 36) at_34 rfl rfl ?_
  refine go_iload (v := (i3 &&& 255)) (q := 38) at_36 rfl rfl ?_
  refine go_static (c' := 10) (s' := 100) (q := 41) (S := []) (argsL := [.int (i0 &&& (7 : Int32)), .int ((XT.ushr i0 3) &&& (3 : Int32)), .int i1, .int (i2 &&& 255), .int (i3 &&& 255)]) H (w_0 H) (w_1 H) (w_2 H) (w_3 H) (by decide) (rm_draw H (F := []) (msk i2) (msk i3) (fun _ q => nomatch q)) rfl rfl (lenOf pd_19 rfl) (fun _ q => nomatch q) rfl (by decide) (Nat.le_of_ble_eq_true rfl) rfl rfl (by decide) (by decide) at_38 rfl ?_
  rintro _ h1 G - ⟨w, rfl, K1, N1⟩
  refine nx_ (v := none) ?_
  show Go _ _ _ _ _ _ _ _ _ _ _ _ _ _ 41 #[.val (.int i0), .val (.int i1), .val (.int i2), .val (.int i3), .val (.int (i2 &&& 255)), .val (.int (i3 &&& 255)), .val (.int (i0 &&& (7 : Int32))), .val (.int ((XT.ushr i0 3) &&& (3 : Int32))), .unset, .unset, .unset, .unset] [w]
  rcases N1 with rfl | ⟨s, cs, rfl, S1⟩
  · refine go_astore (L' := #[.val (.int i0), .val (.int i1), .val (.int i2), .val (.int i3), .val (.int (i2 &&& 255)), .val (.int (i3 &&& 255)), .val (.int (i0 &&& (7 : Int32))), .val (.int ((XT.ushr i0 3) &&& (3 : Int32))), .val (.null), .unset, .unset, .unset]) (q := 43) at_41 rfl rfl rfl ?_
    refine go_aload (v := .null) (q := 45) at_43 rfl rfl rfl ?_
    refine go_static (c' := 10) (s' := 100) (q := 48) (S := []) (argsL := [.null]) H (w_34 H) (w_35 H) (w_2 H) (w_36 H) (by decide) (rm_refN H) rfl rfl (lenOf pd_20 rfl) (fun _ q => nomatch q) rfl (by decide) (Nat.le_of_ble_eq_true rfl) rfl rfl (by decide) (by decide) at_45 rfl ?_
    rintro _ _ G - ⟨rfl, rfl⟩
    refine nx_ (v := none) ?_
    show Go _ _ _ _ _ _ _ _ _ _ _ _ _ _ 48 #[.val (.int i0), .val (.int i1), .val (.int i2), .val (.int i3), .val (.int (i2 &&& 255)), .val (.int (i3 &&& 255)), .val (.int (i0 &&& (7 : Int32))), .val (.int ((XT.ushr i0 3) &&& (3 : Int32))), .val (.null), .unset, .unset, .unset] [.null]
    refine go_astore (L' := #[.val (.int i0), .val (.int i1), .val (.int i2), .val (.int i3), .val (.int (i2 &&& 255)), .val (.int (i3 &&& 255)), .val (.int (i0 &&& (7 : Int32))), .val (.int ((XT.ushr i0 3) &&& (3 : Int32))), .val (.null), .val (.null), .unset, .unset]) (q := 50) at_48 rfl rfl rfl ?_
    refine go_aload (v := .null) (q := 52) at_50 rfl rfl rfl ?_
    refine go_static (c' := 11) (s' := 103) (q := 55) (S := []) (argsL := [.null]) H (w_53 H) (w_54 H) (w_51 H) (w_55 H) (by decide) (rm_bnN H CA EM) rfl rfl (lenOf pd_21 rfl) (fun _ q => nomatch q) rfl (by decide) (Nat.le_of_ble_eq_true rfl) rfl rfl (by decide) (by decide) at_52 rfl ?_
    rintro _ h2 G - ⟨x, rfl, K2, EO, FO⟩
    refine nx_ (v := none) ?_
    show Go _ _ _ _ _ _ _ _ _ _ _ _ _ _ 55 #[.val (.int i0), .val (.int i1), .val (.int i2), .val (.int i3), .val (.int (i2 &&& 255)), .val (.int (i3 &&& 255)), .val (.int (i0 &&& (7 : Int32))), .val (.int ((XT.ushr i0 3) &&& (3 : Int32))), .val (.null), .val (.null), .unset, .unset] [.ref x]
    refine go_astore (L' := #[.val (.int i0), .val (.int i1), .val (.int i2), .val (.int i3), .val (.int (i2 &&& 255)), .val (.int (i3 &&& 255)), .val (.int (i0 &&& (7 : Int32))), .val (.int ((XT.ushr i0 3) &&& (3 : Int32))), .val (.null), .val (.null), .val (.ref x), .unset]) (q := 57) at_55 rfl rfl rfl ?_
    refine go_less (F' := []) (c' := 24) (s' := 320) (fun _ q => nomatch q) (by decide) (by decide) ?_
    exact j57N H EO FO
  · rcases pick_cases u a m cs with e | ⟨rfl, e⟩ | ⟨rfl, e⟩ | ⟨rfl, e⟩
    · refine go_astore (L' := #[.val (.int i0), .val (.int i1), .val (.int i2), .val (.int i3), .val (.int (i2 &&& 255)), .val (.int (i3 &&& 255)), .val (.int (i0 &&& (7 : Int32))), .val (.int ((XT.ushr i0 3) &&& (3 : Int32))), .val (.ref s), .unset, .unset, .unset]) (q := 43) at_41 rfl rfl rfl ?_
      refine go_aload (v := .ref s) (q := 45) at_43 rfl rfl rfl ?_
      refine go_static (c' := 16) (s' := 224) (q := 48) (S := []) (argsL := [.ref s]) H (w_34 H) (w_35 H) (w_2 H) (w_36 H) (by decide) (rm_refS H CA S1) rfl rfl (lenOf pd_20 rfl) (fun _ q => nomatch q) rfl (by decide) (Nat.le_of_ble_eq_true rfl) rfl rfl (by decide) (by decide) at_45 rfl ?_
      rintro _ h2 G - ⟨w, rfl, hw, K2⟩
      obtain rfl := hw.trans e
      refine nx_ (v := none) ?_
      show Go _ _ _ _ _ _ _ _ _ _ _ _ _ _ 48 #[.val (.int i0), .val (.int i1), .val (.int i2), .val (.int i3), .val (.int (i2 &&& 255)), .val (.int (i3 &&& 255)), .val (.int (i0 &&& (7 : Int32))), .val (.int ((XT.ushr i0 3) &&& (3 : Int32))), .val (.ref s), .unset, .unset, .unset] [.null]
      refine go_astore (L' := #[.val (.int i0), .val (.int i1), .val (.int i2), .val (.int i3), .val (.int (i2 &&& 255)), .val (.int (i3 &&& 255)), .val (.int (i0 &&& (7 : Int32))), .val (.int ((XT.ushr i0 3) &&& (3 : Int32))), .val (.ref s), .val (.null), .unset, .unset]) (q := 50) at_48 rfl rfl rfl ?_
      refine go_aload (v := .ref s) (q := 52) at_50 rfl rfl rfl ?_
      refine go_static (c' := 18) (s' := 228) (q := 55) (S := []) (argsL := [.ref s]) H (w_53 H) (w_54 H) (w_51 H) (w_55 H) (by decide) (rm_bnS H CA EM (S1.keep0 K2)) rfl rfl (lenOf pd_21 rfl) (fun _ q => nomatch q) rfl (by decide) (Nat.le_of_ble_eq_true rfl) rfl rfl (by decide) (by decide) at_52 rfl ?_
      rintro _ h3 G - ⟨x, rfl, K3, EO, FO⟩
      refine nx_ (v := none) ?_
      show Go _ _ _ _ _ _ _ _ _ _ _ _ _ _ 55 #[.val (.int i0), .val (.int i1), .val (.int i2), .val (.int i3), .val (.int (i2 &&& 255)), .val (.int (i3 &&& 255)), .val (.int (i0 &&& (7 : Int32))), .val (.int ((XT.ushr i0 3) &&& (3 : Int32))), .val (.ref s), .val (.null), .unset, .unset] [.ref x]
      rw [e] at FO
      refine go_astore (L' := #[.val (.int i0), .val (.int i1), .val (.int i2), .val (.int i3), .val (.int (i2 &&& 255)), .val (.int (i3 &&& 255)), .val (.int (i0 &&& (7 : Int32))), .val (.int ((XT.ushr i0 3) &&& (3 : Int32))), .val (.ref s), .val (.null), .val (.ref x), .unset]) (q := 57) at_55 rfl rfl rfl ?_
      refine go_less (F' := []) (c' := 24) (s' := 320) (fun _ q => nomatch q) (by decide) (by decide) ?_
      exact j57N H EO FO
    · refine go_astore (L' := #[.val (.int i0), .val (.int i1), .val (.int i2), .val (.int i3), .val (.int (i2 &&& 255)), .val (.int (i3 &&& 255)), .val (.int (i0 &&& (7 : Int32))), .val (.int ((XT.ushr i0 3) &&& (3 : Int32))), .val (.ref s), .unset, .unset, .unset]) (q := 43) at_41 rfl rfl rfl ?_
      refine go_aload (v := .ref s) (q := 45) at_43 rfl rfl rfl ?_
      refine go_static (c' := 16) (s' := 224) (q := 48) (S := []) (argsL := [.ref s]) H (w_34 H) (w_35 H) (w_2 H) (w_36 H) (by decide) (rm_refS H CA S1) rfl rfl (lenOf pd_20 rfl) (fun _ q => nomatch q) rfl (by decide) (Nat.le_of_ble_eq_true rfl) rfl rfl (by decide) (by decide) at_45 rfl ?_
      rintro _ h2 G - ⟨w, rfl, hw, K2⟩
      obtain rfl := hw.trans e
      refine nx_ (v := none) ?_
      show Go _ _ _ _ _ _ _ _ _ _ _ _ _ _ 48 #[.val (.int i0), .val (.int i1), .val (.int i2), .val (.int i3), .val (.int (i2 &&& 255)), .val (.int (i3 &&& 255)), .val (.int (i0 &&& (7 : Int32))), .val (.int ((XT.ushr i0 3) &&& (3 : Int32))), .val (.ref s), .unset, .unset, .unset] [.ref u]
      refine go_astore (L' := #[.val (.int i0), .val (.int i1), .val (.int i2), .val (.int i3), .val (.int (i2 &&& 255)), .val (.int (i3 &&& 255)), .val (.int (i0 &&& (7 : Int32))), .val (.int ((XT.ushr i0 3) &&& (3 : Int32))), .val (.ref s), .val (.ref u), .unset, .unset]) (q := 50) at_48 rfl rfl rfl ?_
      refine go_aload (v := .ref s) (q := 52) at_50 rfl rfl rfl ?_
      refine go_static (c' := 18) (s' := 228) (q := 55) (S := []) (argsL := [.ref s]) H (w_53 H) (w_54 H) (w_51 H) (w_55 H) (by decide) (rm_bnS H CA EM (S1.keep0 K2)) rfl rfl (lenOf pd_21 rfl) (fun _ q => nomatch q) rfl (by decide) (Nat.le_of_ble_eq_true rfl) rfl rfl (by decide) (by decide) at_52 rfl ?_
      rintro _ h3 G - ⟨x, rfl, K3, EO, FO⟩
      refine nx_ (v := none) ?_
      show Go _ _ _ _ _ _ _ _ _ _ _ _ _ _ 55 #[.val (.int i0), .val (.int i1), .val (.int i2), .val (.int i3), .val (.int (i2 &&& 255)), .val (.int (i3 &&& 255)), .val (.int (i0 &&& (7 : Int32))), .val (.int ((XT.ushr i0 3) &&& (3 : Int32))), .val (.ref s), .val (.ref u), .unset, .unset] [.ref x]
      rw [e] at FO
      refine go_astore (L' := #[.val (.int i0), .val (.int i1), .val (.int i2), .val (.int i3), .val (.int (i2 &&& 255)), .val (.int (i3 &&& 255)), .val (.int (i0 &&& (7 : Int32))), .val (.int ((XT.ushr i0 3) &&& (3 : Int32))), .val (.ref s), .val (.ref u), .val (.ref x), .unset]) (q := 57) at_55 rfl rfl rfl ?_
      refine go_less (F' := []) (c' := 24) (s' := 320) (fun _ q => nomatch q) (by decide) (by decide) ?_
      exact j57S H EO FO CA.2.1.1 ((S1.keep0 K2).keep0 K3)
    · refine go_astore (L' := #[.val (.int i0), .val (.int i1), .val (.int i2), .val (.int i3), .val (.int (i2 &&& 255)), .val (.int (i3 &&& 255)), .val (.int (i0 &&& (7 : Int32))), .val (.int ((XT.ushr i0 3) &&& (3 : Int32))), .val (.ref s), .unset, .unset, .unset]) (q := 43) at_41 rfl rfl rfl ?_
      refine go_aload (v := .ref s) (q := 45) at_43 rfl rfl rfl ?_
      refine go_static (c' := 16) (s' := 224) (q := 48) (S := []) (argsL := [.ref s]) H (w_34 H) (w_35 H) (w_2 H) (w_36 H) (by decide) (rm_refS H CA S1) rfl rfl (lenOf pd_20 rfl) (fun _ q => nomatch q) rfl (by decide) (Nat.le_of_ble_eq_true rfl) rfl rfl (by decide) (by decide) at_45 rfl ?_
      rintro _ h2 G - ⟨w, rfl, hw, K2⟩
      obtain rfl := hw.trans e
      refine nx_ (v := none) ?_
      show Go _ _ _ _ _ _ _ _ _ _ _ _ _ _ 48 #[.val (.int i0), .val (.int i1), .val (.int i2), .val (.int i3), .val (.int (i2 &&& 255)), .val (.int (i3 &&& 255)), .val (.int (i0 &&& (7 : Int32))), .val (.int ((XT.ushr i0 3) &&& (3 : Int32))), .val (.ref s), .unset, .unset, .unset] [.ref a]
      refine go_astore (L' := #[.val (.int i0), .val (.int i1), .val (.int i2), .val (.int i3), .val (.int (i2 &&& 255)), .val (.int (i3 &&& 255)), .val (.int (i0 &&& (7 : Int32))), .val (.int ((XT.ushr i0 3) &&& (3 : Int32))), .val (.ref s), .val (.ref a), .unset, .unset]) (q := 50) at_48 rfl rfl rfl ?_
      refine go_aload (v := .ref s) (q := 52) at_50 rfl rfl rfl ?_
      refine go_static (c' := 18) (s' := 228) (q := 55) (S := []) (argsL := [.ref s]) H (w_53 H) (w_54 H) (w_51 H) (w_55 H) (by decide) (rm_bnS H CA EM (S1.keep0 K2)) rfl rfl (lenOf pd_21 rfl) (fun _ q => nomatch q) rfl (by decide) (Nat.le_of_ble_eq_true rfl) rfl rfl (by decide) (by decide) at_52 rfl ?_
      rintro _ h3 G - ⟨x, rfl, K3, EO, FO⟩
      refine nx_ (v := none) ?_
      show Go _ _ _ _ _ _ _ _ _ _ _ _ _ _ 55 #[.val (.int i0), .val (.int i1), .val (.int i2), .val (.int i3), .val (.int (i2 &&& 255)), .val (.int (i3 &&& 255)), .val (.int (i0 &&& (7 : Int32))), .val (.int ((XT.ushr i0 3) &&& (3 : Int32))), .val (.ref s), .val (.ref a), .unset, .unset] [.ref x]
      rw [e] at FO
      refine go_astore (L' := #[.val (.int i0), .val (.int i1), .val (.int i2), .val (.int i3), .val (.int (i2 &&& 255)), .val (.int (i3 &&& 255)), .val (.int (i0 &&& (7 : Int32))), .val (.int ((XT.ushr i0 3) &&& (3 : Int32))), .val (.ref s), .val (.ref a), .val (.ref x), .unset]) (q := 57) at_55 rfl rfl rfl ?_
      refine go_less (F' := []) (c' := 24) (s' := 320) (fun _ q => nomatch q) (by decide) (by decide) ?_
      exact j57S H EO FO CA.2.1.2.1 ((S1.keep0 K2).keep0 K3)
    · refine go_astore (L' := #[.val (.int i0), .val (.int i1), .val (.int i2), .val (.int i3), .val (.int (i2 &&& 255)), .val (.int (i3 &&& 255)), .val (.int (i0 &&& (7 : Int32))), .val (.int ((XT.ushr i0 3) &&& (3 : Int32))), .val (.ref s), .unset, .unset, .unset]) (q := 43) at_41 rfl rfl rfl ?_
      refine go_aload (v := .ref s) (q := 45) at_43 rfl rfl rfl ?_
      refine go_static (c' := 16) (s' := 224) (q := 48) (S := []) (argsL := [.ref s]) H (w_34 H) (w_35 H) (w_2 H) (w_36 H) (by decide) (rm_refS H CA S1) rfl rfl (lenOf pd_20 rfl) (fun _ q => nomatch q) rfl (by decide) (Nat.le_of_ble_eq_true rfl) rfl rfl (by decide) (by decide) at_45 rfl ?_
      rintro _ h2 G - ⟨w, rfl, hw, K2⟩
      obtain rfl := hw.trans e
      refine nx_ (v := none) ?_
      show Go _ _ _ _ _ _ _ _ _ _ _ _ _ _ 48 #[.val (.int i0), .val (.int i1), .val (.int i2), .val (.int i3), .val (.int (i2 &&& 255)), .val (.int (i3 &&& 255)), .val (.int (i0 &&& (7 : Int32))), .val (.int ((XT.ushr i0 3) &&& (3 : Int32))), .val (.ref s), .unset, .unset, .unset] [.ref m]
      refine go_astore (L' := #[.val (.int i0), .val (.int i1), .val (.int i2), .val (.int i3), .val (.int (i2 &&& 255)), .val (.int (i3 &&& 255)), .val (.int (i0 &&& (7 : Int32))), .val (.int ((XT.ushr i0 3) &&& (3 : Int32))), .val (.ref s), .val (.ref m), .unset, .unset]) (q := 50) at_48 rfl rfl rfl ?_
      refine go_aload (v := .ref s) (q := 52) at_50 rfl rfl rfl ?_
      refine go_static (c' := 18) (s' := 228) (q := 55) (S := []) (argsL := [.ref s]) H (w_53 H) (w_54 H) (w_51 H) (w_55 H) (by decide) (rm_bnS H CA EM (S1.keep0 K2)) rfl rfl (lenOf pd_21 rfl) (fun _ q => nomatch q) rfl (by decide) (Nat.le_of_ble_eq_true rfl) rfl rfl (by decide) (by decide) at_52 rfl ?_
      rintro _ h3 G - ⟨x, rfl, K3, EO, FO⟩
      refine nx_ (v := none) ?_
      show Go _ _ _ _ _ _ _ _ _ _ _ _ _ _ 55 #[.val (.int i0), .val (.int i1), .val (.int i2), .val (.int i3), .val (.int (i2 &&& 255)), .val (.int (i3 &&& 255)), .val (.int (i0 &&& (7 : Int32))), .val (.int ((XT.ushr i0 3) &&& (3 : Int32))), .val (.ref s), .val (.ref m), .unset, .unset] [.ref x]
      rw [e] at FO
      refine go_astore (L' := #[.val (.int i0), .val (.int i1), .val (.int i2), .val (.int i3), .val (.int (i2 &&& 255)), .val (.int (i3 &&& 255)), .val (.int (i0 &&& (7 : Int32))), .val (.int ((XT.ushr i0 3) &&& (3 : Int32))), .val (.ref s), .val (.ref m), .val (.ref x), .unset]) (q := 57) at_55 rfl rfl rfl ?_
      refine go_less (F' := []) (c' := 24) (s' := 320) (fun _ q => nomatch q) (by decide) (by decide) ?_
      exact j57S H EO FO CA.2.1.2.2 ((S1.keep0 K2).keep0 K3)
set_option maxRecDepth 65536 in
set_option maxHeartbeats 4000000 in
theorem comes_1 {Post : Tables → Env → Array Value → State → Outcome → State → Prop} (hpost : ∀ tb e args s v u, (limb_1_1.after args s (.returned v) u = true ∧ limb_1_2.after args s (.returned v) u = true ∧ True) → Jvm.D.FramedW s (.returned v) u (Jvm.fieldLocs frame_1_writes args s ++ Jvm.arrayLocs frame_1_arrays args s ++ Jvm.staticLocs frame_1_statics s) 32 4352 → Post tb e args s (.returned v) u) :
    Jvm.D.ArmFor flags0 classFile x code maxLocals ret World_1 tables_1 room_1 Calls_1 rest_1 Pre_1 Post := by
  intro l hfl _ _ p e ha hc hk s m args below hf hA hF happ hP
  obtain ⟨hcalls, hrest, hpre⟩ := hP
  obtain ⟨-, -, -, hnamed, -, -, -, hat⟩ := (Spec.applies_iff hf).mp happ
  obtain ⟨hg, hn⟩ := and_e (Cond.before_iff.mp (show (Jvm.Cond.and given_1 narrow_1).before args s = true from hpre))
  obtain ⟨g0, r0⟩ := and_e hg
  obtain ⟨g1, r1⟩ := and_e r0
  obtain ⟨g2, r2⟩ := and_e r1
  obtain ⟨g3, r3⟩ := and_e r2
  obtain ⟨w0, w1, w2, w3, rfl⟩ : ∃ w0 w1 w2 w3 : Value, args = #[w0, w1, w2, w3] := by
    have hs : args.size = 4 := by simpa [Cond.value, given_1] using g0
    obtain ⟨L⟩ := args
    match L, hs with
    | [w0, w1, w2, w3], _ => exact ⟨w0, w1, w2, w3, rfl⟩
  have hw := fun d (hd : d ∈ tables_1) => atoms_spec (ws := Jvm.Cond.code x code maxLocals ret :: tables_1) hat d (List.mem_cons_of_mem _ hd)
  obtain ⟨hsets, hown0⟩ := atoms_of _ (rest_1_c_eq ▸ (show rest_1_c.before _ s = true from hrest))
  have hfit : Fit s := fun {y c} hc i hi => by
    obtain ⟨ha, rfl⟩ := Array.getElem?_eq_some_iff.mp hc
    have q := List.all_eq_true.mp ((Array.all_eq_true_iff_forall_mem.mp hF) _ (Array.getElem_mem ha)) i (List.mem_range.mpr hi)
    simpa [Array.getElem?_eq_getElem hi] using q
  obtain ⟨i0, e0⟩ := is_v g1
  obtain rfl : w0 = (.int i0) := Option.some.inj e0
  obtain ⟨i1, e1⟩ := is_v g2
  obtain rfl : w1 = (.int i1) := Option.some.inj e1
  obtain ⟨i2, e2⟩ := is_v g3
  obtain rfl : w2 = (.int i2) := Option.some.inj e2
  obtain ⟨i3, e3⟩ := is_v r3
  obtain rfl : w3 = (.int i3) := Option.some.inj e3
  obtain ⟨cz, ecz⟩ := is_v (Cond.before_iff.mp (hsets _ (List.mem_of_getElem? (i := 1) rfl)))
  have Scz : Sta s s.heap "java/lang/String" "COMPACT_STRINGS" "Z" (.int cz) := Sta.start ecz (Or.inl (hsets _ (List.mem_of_getElem? (i := 0) rfl)))
  have ncz : ¬ cz = (0 : Int32) := gotF (Cond.eq_ints ecz (Term.int_eval (0))) (not_v (Cond.before_iff.mp (hsets _ (List.mem_of_getElem? (i := 2) rfl))))
  obtain ⟨fm, efm, rfm⟩ := isR_v (Cond.before_iff.mp (hsets _ (List.mem_of_getElem? (i := 8) rfl)))
  have Sfm : Sta s s.heap "jdk/internal/util/Preconditions" "SIOOBE_FORMATTER" "Ljava/util/function/BiFunction;" fm := Sta.start efm (Or.inl (hsets _ (List.mem_of_getElem? (i := 7) rfl)))
  have hS : ∀ d ∈ Bundle.stringAtoms, d.before #[.int i0, .int i1, .int i2, .int i3] s = true := by
    intro d hd
    simp only [Bundle.stringAtoms, List.mem_cons, List.not_mem_nil, or_false] at hd
    rcases hd with rfl | rfl | rfl | rfl | rfl | rfl | rfl
    · exact hw _ (List.mem_of_getElem? (i := 7) rfl)
    · exact hw _ (List.mem_of_getElem? (i := 6) rfl)
    · exact hw _ (List.mem_of_getElem? (i := 23) rfl)
    · exact hw _ (List.mem_of_getElem? (i := 33) rfl)
    · exact hw _ (List.mem_of_getElem? (i := 31) rfl)
    · exact hw _ (List.mem_of_getElem? (i := 38) rfl)
    · exact hw _ (List.mem_of_getElem? (i := 39) rfl)
  have hE : EW s #[.int i0, .int i1, .int i2, .int i3] consts_1 := (EW.cons (hw _ (List.mem_of_getElem? (i := 37) rfl)) (by decide) (EW.cons (hw _ (List.mem_of_getElem? (i := 111) rfl)) (by decide) (EW.cons (hw _ (List.mem_of_getElem? (i := 112) rfl)) (by decide) (EW.cons (hw _ (List.mem_of_getElem? (i := 110) rfl)) (by decide) EW.nil))))
  have H : Wd s #[.int i0, .int i1, .int i2, .int i3] := ⟨hw, hE, hS, ⟨cz, Scz, ncz⟩, ⟨fm, Sfm, rfm⟩, hsets⟩
  have hC : CHv s consts_1 s.vm s.heap := CHv.start hE (fun q hq => hcalls.1 q hq) (Cond.before_iff.mpr (Cond.before_iff.mp (hsets _ (List.mem_of_getElem? (i := 2) rfl)))) (hw _ (List.mem_of_getElem? (i := 23) rfl)) (hw _ (List.mem_of_getElem? (i := 6) rfl))
  obtain ⟨m0, r0n⟩ := and_e hn
  obtain ⟨m1, r1n⟩ := and_e r0n
  obtain ⟨m2, r2n⟩ := and_e r1n
  obtain ⟨m3, r3n⟩ := and_e r2n
  obtain ⟨m4, r4n⟩ := and_e r3n
  obtain ⟨m5, r5n⟩ := and_e r4n
  obtain ⟨m6, r6n⟩ := and_e r5n
  obtain ⟨m7, r7n⟩ := and_e r6n
  obtain ⟨m8, r8n⟩ := and_e r7n
  obtain ⟨m9, r9n⟩ := and_e r8n
  obtain ⟨m10, r10n⟩ := and_e r9n
  obtain ⟨m11, r11n⟩ := and_e r10n
  obtain ⟨m12, r12n⟩ := and_e r11n
  obtain ⟨m13, r13n⟩ := and_e r12n
  obtain ⟨m14, r14n⟩ := and_e r13n
  obtain ⟨m15, r15n⟩ := and_e r14n
  obtain ⟨m16, r16n⟩ := and_e r15n
  obtain ⟨m17, r17n⟩ := and_e r16n
  obtain ⟨m18, r18n⟩ := and_e r17n
  obtain ⟨m19, r19n⟩ := and_e r18n
  obtain ⟨m20, r20n⟩ := and_e r19n
  obtain ⟨m21, r21n⟩ := and_e r20n
  obtain ⟨m22, r22n⟩ := and_e r21n
  obtain ⟨m23, r23n⟩ := and_e r22n
  obtain ⟨m24, r24n⟩ := and_e r23n
  obtain ⟨m25, r25n⟩ := and_e r24n
  obtain ⟨m26, r26n⟩ := and_e r25n
  obtain ⟨m27, r27n⟩ := and_e r26n
  obtain ⟨m28, r28n⟩ := and_e r27n
  obtain ⟨m29, r29n⟩ := and_e r28n
  obtain ⟨m30, r30n⟩ := and_e r29n
  obtain ⟨m31, r31n⟩ := and_e r30n
  obtain ⟨m32, r32n⟩ := and_e r31n
  obtain ⟨m33, r33n⟩ := and_e r32n
  obtain ⟨m34, r34n⟩ := and_e r33n
  obtain ⟨m35, r35n⟩ := and_e r34n
  obtain ⟨m36, r36n⟩ := and_e r35n
  obtain ⟨m37, r37n⟩ := and_e r36n
  obtain ⟨m38, r38n⟩ := and_e r37n
  obtain ⟨m39, r39n⟩ := and_e r38n
  obtain ⟨m40, r40n⟩ := and_e r39n
  obtain ⟨m41, r41n⟩ := and_e r40n
  obtain ⟨m42, r42n⟩ := and_e r41n
  obtain ⟨m43, r43n⟩ := and_e r42n
  obtain ⟨m44, r44n⟩ := and_e r43n
  obtain ⟨m45, r45n⟩ := and_e r44n
  obtain ⟨m46, r46n⟩ := and_e r45n
  obtain ⟨m47, r47n⟩ := and_e r46n
  obtain ⟨cu, -, -, -, eu, -⟩ := Cond.exactly_spec (Cond.before_iff.mpr m0)
  have Xu := Exa.start eu m0
  have Zu : Sta s s.heap CPN "USERS_EDIT" CPD (.ref cu) := Sta.start eu (Or.inr ⟨(hw _ (List.mem_of_getElem? (i := 51) rfl)), (hw _ (List.mem_of_getElem? (i := 52) rfl))⟩)
  obtain ⟨nu, fu, tu⟩ := str_start (cs := nU) hfit m9 m10 m11 m12 (by decide) ⟨by decide, by decide⟩ (fun bb cl ev hat => ⟨el_int ev hat m21 (by decide) rfl (by decide), el_int ev hat m22 (by decide) rfl (by decide), el_int ev hat m23 (by decide) rfl (by decide), el_int ev hat m24 (by decide) rfl (by decide), el_int ev hat m25 (by decide) rfl (by decide), el_int ev hat m26 (by decide) rfl (by decide), el_int ev hat m27 (by decide) rfl (by decide), el_int ev hat m28 (by decide) rfl (by decide), el_int ev hat m29 (by decide) rfl (by decide), el_int ev hat m30 (by decide) rfl (by decide), trivial⟩)
  have Cu : Cap s cu nU := ⟨Xu, nu, Fld.start (field_ev eu fu), tu⟩
  obtain ⟨ca, -, -, -, ea, -⟩ := Cond.exactly_spec (Cond.before_iff.mpr m5)
  have Xa := Exa.start ea m5
  have Za : Sta s s.heap CPN "ADMIN" CPD (.ref ca) := Sta.start ea (Or.inr ⟨(hw _ (List.mem_of_getElem? (i := 51) rfl)), (hw _ (List.mem_of_getElem? (i := 68) rfl))⟩)
  obtain ⟨na, fa, ta⟩ := str_start (cs := nA) hfit m13 m14 m15 m16 (by decide) ⟨by decide, by decide⟩ (fun bb cl ev hat => ⟨el_int ev hat m31 (by decide) rfl (by decide), el_int ev hat m32 (by decide) rfl (by decide), el_int ev hat m33 (by decide) rfl (by decide), el_int ev hat m34 (by decide) rfl (by decide), el_int ev hat m35 (by decide) rfl (by decide), trivial⟩)
  have Ca : Cap s ca nA := ⟨Xa, na, Fld.start (field_ev ea fa), ta⟩
  obtain ⟨cm, -, -, -, em, -⟩ := Cond.exactly_spec (Cond.before_iff.mpr m7)
  have Xm := Exa.start em m7
  have Zm : Sta s s.heap CPN "ADMINS_MANAGE" CPD (.ref cm) := Sta.start em (Or.inr ⟨(hw _ (List.mem_of_getElem? (i := 51) rfl)), (hw _ (List.mem_of_getElem? (i := 69) rfl))⟩)
  obtain ⟨nm, fm, tm⟩ := str_start (cs := nM) hfit m17 m18 m19 m20 (by decide) ⟨by decide, by decide⟩ (fun bb cl ev hat => ⟨el_int ev hat m36 (by decide) rfl (by decide), el_int ev hat m37 (by decide) rfl (by decide), el_int ev hat m38 (by decide) rfl (by decide), el_int ev hat m39 (by decide) rfl (by decide), el_int ev hat m40 (by decide) rfl (by decide), el_int ev hat m41 (by decide) rfl (by decide), el_int ev hat m42 (by decide) rfl (by decide), el_int ev hat m43 (by decide) rfl (by decide), el_int ev hat m44 (by decide) rfl (by decide), el_int ev hat m45 (by decide) rfl (by decide), el_int ev hat m46 (by decide) rfl (by decide), el_int ev hat m47 (by decide) rfl (by decide), el_int ev hat r47n (by decide) rfl (by decide), trivial⟩)
  have Cm : Cap s cm nM := ⟨Xm, nm, Fld.start (field_ev em fm), tm⟩
  obtain ⟨va, vk, ev, av⟩ := arr_start (dv := .null) (vs := [.ref cu, .ref ca, .ref cm]) hfit m1 m3 (by decide) rfl (fun a cl ev hat => ⟨el_at ev hat m4 eu (by decide) rfl, el_at ev hat m6 ea (by decide) rfl, el_at ev hat m8 em (by decide) rfl, trivial⟩)
  have CA : Caps s cu ca cm := ⟨⟨Zu, Za, Zm⟩, ⟨Cu, Ca, Cm⟩, va, vk, Sta.start ev (Or.inl (hw _ (List.mem_of_getElem? (i := 70) rfl))), Exa.start ev m2, av⟩
  obtain ⟨oe, -, -, -, eoe, -⟩ := Cond.exactly_spec (hsets _ (List.mem_of_getElem? (i := 11) rfl))
  obtain ⟨wv, ew1, ew2⟩ := eq_v (Cond.before_iff.mp (hsets _ (List.mem_of_getElem? (i := 12) rfl)))
  obtain rfl : wv = .null := by simpa only [Term.eval, Option.some.injEq] using ew2.symm
  have EM : Emp s oe := ⟨Sta.start eoe (Or.inl (hsets _ (List.mem_of_getElem? (i := 10) rfl))), Exa.start eoe (Cond.before_iff.mp (hsets _ (List.mem_of_getElem? (i := 11) rfl))), Fld.start (field_ev eoe ew1)⟩
  obtain ⟨n, o, h1, h2, h3, v, L, G, rfl, hq, N, -, -, -, hE2⟩ := rm_law (l := l) H CA EM p e ha hc hk s m _ below hf ((Spec.applies_iff_loose hf).mp happ).1 ⟨rfl, State.Warmed39.refl s, rfl, hC, (fun _ q => nomatch q), Old.start s⟩ trivial
  subst hq
  refine ⟨n, _, h1, h2, h3, hpost _ _ _ _ _ _ ⟨Cond.after_iff.mpr rfl, Cond.after_iff.mpr (eq_i res_at (Term.int_eval (1)) rfl), trivial⟩ ⟨hE2.1, hE2.2.1, hE2.2.2.1, (hE2.2.2.2.sift fun y hy => Or.inr (N y hy)).mono (by decide) (by decide)⟩⟩
end Own
end Jvm.Pilot.@@N@@
namespace Jvm.Pilot.@@N@@
theorem main_1_1 : Claimed_1_1 := Own.comes_1 fun _ _ _ _ _ _ h hF => ⟨h.1, hF⟩
theorem main_1_2 : Claimed_1_2 := Own.comes_1 fun _ _ _ _ _ _ h hF => ⟨h.2.1, hF⟩
end Jvm.Pilot.@@N@@
namespace Jvm.Pilot.@@N@@
open Jvm Jvm.ClassFile Sem Op Lib Jvm.Free Jvm.Stand Jvm.Pilot.@@N@@.Jvm.D
/-! MADE BY PROGRAM (witnessworld.py) out of the Statement's table words and the real class files: 24 classes; the members and pool entries that the words name. The judged class is class 1, her method 1. -/
namespace start1
open Jvm.ClassFile
def u (s : String) : CpInfo := .utf8 (stringToUtf16 s)
/-- a pool by its gaps: so many unusable entries, then the entry; so many at the end -/
def gap : Nat → List CpInfo → List CpInfo
  | 0, r => r
  | n + 1, r => .unusable :: gap n r
def poolList (es : List (Nat × CpInfo)) (last : Nat) : List CpInfo := es.foldr (fun e r => gap e.1 (e.2 :: r)) (gap last [])
def pool (es : List (Nat × CpInfo)) (last : Nat) : Array CpInfo := ⟨poolList es last⟩
def fileOf (pool : Array CpInfo) (this : Nat) (attrs : Array Attribute := #[]) (ms : Array MethodInfo := #[]) (fl : Nat := 33) (sup : Nat := 0) (ifs : Array Nat := #[]) (fds : Array FieldInfo := #[]) : ClassFile where
  minorVersion := 0
  majorVersion := 65
  constantPool := pool
  accessFlags := fl
  thisClass := this
  superClass := sup
  interfaces := ifs
  fields := fds
  methods := ms
  attributes := attrs
def plain (name : String) (sup : Option ClassId) : Class where
  name := name
  kind := .ordinary
  loader := none
  accessFlags := 33
  super := sup
  interfaces := #[]
  cf := none
  fields := #[]
  methods := #[]
  instanceTypes := #[]
  staticTypes := #[]
  resolved := #[]
  callSites := []
  init := .initialized
  statics := none
  mirror := none

def pool0 : Array CpInfo := pool [(5, u "<init>"), (0, u "()V"), (1, .class_ 10), (1, u "java/lang/Object"), (85, u "clone"), (0, u "()Ljava/lang/Object;")] 26

def k0c0 : Code := { maxStack := 0, maxLocals := 1, code := object_method_1_code, exceptionTable := #[], attributes := #[] }
def k0m0 : Method := { name := "<init>", desc := "()V", sig := { parameters := [], returnType := none }, accessFlags := 1, code := some k0c0 }
def k0m1 : Method := { name := "clone", desc := "()Ljava/lang/Object;", sig := { parameters := [], returnType := some (.object "java/lang/Object") }, accessFlags := 260, code := none }
/-- java/lang/Object -/
def k0 : Class := { plain "java/lang/Object" none with
  accessFlags := 33
  interfaces := #[]
  cf := some (fileOf pool0 8 #[] #[{ accessFlags := 1, nameIndex := 5, descriptorIndex := 6, attributes := #[] }, { accessFlags := 260, nameIndex := 96, descriptorIndex := 97, attributes := #[] }] 33 0 #[] #[])
  fields := #[]
  methods := #[k0m0, k0m1]
  instanceTypes := #[]
  staticTypes := #[]
  resolved := Array.replicate 124 none
  statics := none }

def pool1 : Array CpInfo := pool [(2, .class_ 4), (1, u "java/lang/Object"), (0, u "<init>"), (0, u "()V"), (0, .methodref 8 9), (0, .class_ 10), (0, .nameAndType 11 12), (0, u "com/example/emendate/emendate/model/CapabilityByNamePinLaw"), (0, u "draw"), (0, u "(IIICC)Ljava/lang/String;"), (0, .methodref 8 14), (0, .nameAndType 15 16), (0, u "reference"), (0, u "(Ljava/lang/String;)Lcom/example/emendate/emendate/model/Capability;"), (0, .methodref 18 19), (0, .class_ 20), (0, .nameAndType 21 22), (0, u "com/example/emendate/emendate/model/Capability"), (0, u "byName"), (0, u "(Ljava/lang/String;)Ljava/util/Optional;"), (0, .methodref 24 25), (0, .class_ 26), (0, .nameAndType 27 28), (0, u "java/util/Optional"), (0, u "isPresent"), (0, u "()Z"), (0, .methodref 24 30), (0, .nameAndType 31 32), (0, u "get"), (0, u "()Ljava/lang/Object;"), (0, .methodref 18 34), (0, .nameAndType 35 36), (0, u "capabilityName"), (0, u "()Ljava/lang/String;"), (0, .methodref 38 39), (0, .class_ 40), (0, .nameAndType 41 42), (0, u "java/lang/String"), (0, u "equals"), (0, u "(Ljava/lang/Object;)Z"), (0, .string 44), (0, u "users:edit"), (0, .fieldref 18 46), (0, .nameAndType 47 48), (0, u "USERS_EDIT"), (0, u "Lcom/example/emendate/emendate/model/Capability;"), (0, .string 50), (0, u "admin"), (0, .fieldref 18 52), (0, .nameAndType 53 48), (0, u "ADMIN"), (0, .string 55), (0, u "admins:manage"), (0, .fieldref 18 57), (0, .nameAndType 58 48), (0, u "ADMINS_MANAGE"), (0, .string 60), (0, u ""), (0, .methodref 38 62), (0, .nameAndType 63 64), (0, u "valueOf"), (0, u "(C)Ljava/lang/String;"), (0, .methodref 38 66), (0, .nameAndType 5 67), (0, u "([C)V"), (0, .integer 2147483647), (2, u "law"), (0, u "(IIII)Z")] 5

def k1m0 : Method := { name := "<init>", desc := "()V", sig := { parameters := [], returnType := none }, accessFlags := 1, code := none }
def k1c1 : Code := { maxStack := 5, maxLocals := 12, code := code, exceptionTable := #[], attributes := #[] }
def k1m1 : Method := { name := "law", desc := "(IIII)Z", sig := { parameters := [.int, .int, .int, .int], returnType := some .boolean }, accessFlags := 9, code := some k1c1 }
def k1c2 : Code := { maxStack := 2, maxLocals := 1, code := method_3_code, exceptionTable := #[], attributes := #[] }
def k1m2 : Method := { name := "reference", desc := "(Ljava/lang/String;)Lcom/example/emendate/emendate/model/Capability;", sig := { parameters := [(.object "java/lang/String")], returnType := some (.object "com/example/emendate/emendate/model/Capability") }, accessFlags := 10, code := some k1c2 }
def k1c3 : Code := { maxStack := 6, maxLocals := 8, code := method_4_code, exceptionTable := #[], attributes := #[] }
def k1m3 : Method := { name := "draw", desc := "(IIICC)Ljava/lang/String;", sig := { parameters := [.int, .int, .int, .char, .char], returnType := some (.object "java/lang/String") }, accessFlags := 10, code := some k1c3 }
/-- com/example/emendate/emendate/model/CapabilityByNamePinLaw -/
def k1 : Class := { plain "com/example/emendate/emendate/model/CapabilityByNamePinLaw" (some 0) with
  accessFlags := 49
  interfaces := #[]
  cf := some (fileOf pool1 8 #[] #[{ accessFlags := 1, nameIndex := 5, descriptorIndex := 6, attributes := #[] }, { accessFlags := 9, nameIndex := 71, descriptorIndex := 72, attributes := #[] }, { accessFlags := 10, nameIndex := 15, descriptorIndex := 16, attributes := #[] }, { accessFlags := 10, nameIndex := 11, descriptorIndex := 12, attributes := #[] }] 49 2 #[] #[])
  fields := #[]
  methods := #[k1m0, k1m1, k1m2, k1m3]
  instanceTypes := #[]
  staticTypes := #[]
  resolved := Array.replicate 78 none
  statics := none }

def pool2 : Array CpInfo := pool [(1, .class_ 2), (0, u "java/io/Serializable"), (0, .class_ 4), (0, u "java/lang/Object")] 2

/-- java/io/Serializable -/
def k2 : Class := { plain "java/io/Serializable" (some 0) with
  accessFlags := 1537
  interfaces := #[]
  cf := some (fileOf pool2 1 #[] #[] 1537 3 #[] #[])
  fields := #[]
  methods := #[]
  instanceTypes := #[]
  staticTypes := #[]
  resolved := Array.replicate 7 none
  statics := none }

def pool3 : Array CpInfo := pool [(1, .class_ 2), (0, u "java/lang/Comparable"), (0, .class_ 4), (0, u "java/lang/Object")] 7

/-- java/lang/Comparable -/
def k3 : Class := { plain "java/lang/Comparable" (some 0) with
  accessFlags := 1537
  interfaces := #[]
  cf := some (fileOf pool3 1 #[] #[] 1537 3 #[] #[])
  fields := #[]
  methods := #[]
  instanceTypes := #[]
  staticTypes := #[]
  resolved := Array.replicate 12 none
  statics := none }

def pool4 : Array CpInfo := pool [(2, .class_ 4), (1, u "java/lang/CharSequence"), (42, .class_ 48), (0, u "java/lang/CharSequence$1CodePointIterator"), (10, .class_ 60), (0, u "java/lang/CharSequence$1CharIterator"), (5, .class_ 67), (0, u "java/lang/Object")] 63

/-- java/lang/CharSequence -/
def k4 : Class := { plain "java/lang/CharSequence" (some 0) with
  accessFlags := 1537
  interfaces := #[]
  cf := some (fileOf pool4 2 #[.nestMembers #[47, 59]] #[] 1537 66 #[] #[])
  fields := #[]
  methods := #[]
  instanceTypes := #[]
  staticTypes := #[]
  resolved := Array.replicate 131 none
  statics := none }

def pool5 : Array CpInfo := pool [(1, .class_ 2), (0, u "java/lang/constant/Constable"), (0, .class_ 4), (0, u "java/lang/Object")] 6

/-- java/lang/constant/Constable -/
def k5 : Class := { plain "java/lang/constant/Constable" (some 0) with
  accessFlags := 1537
  interfaces := #[]
  cf := some (fileOf pool5 1 #[] #[] 1537 3 #[] #[])
  fields := #[]
  methods := #[]
  instanceTypes := #[]
  staticTypes := #[]
  resolved := Array.replicate 11 none
  statics := none }

def pool6 : Array CpInfo := pool [(1, .class_ 2), (0, u "java/lang/constant/ConstantDesc"), (0, .class_ 4), (0, u "java/lang/Object")] 32

/-- java/lang/constant/ConstantDesc -/
def k6 : Class := { plain "java/lang/constant/ConstantDesc" (some 0) with
  accessFlags := 1537
  interfaces := #[]
  cf := some (fileOf pool6 1 #[] #[] 1537 3 #[] #[])
  fields := #[]
  methods := #[]
  instanceTypes := #[]
  staticTypes := #[]
  resolved := Array.replicate 37 none
  statics := none }

def pool7 : Array CpInfo := pool [(1, .methodref 2 3), (0, .class_ 4), (0, .nameAndType 5 6), (0, u "java/lang/Object"), (0, u "<init>"), (0, u "()V"), (2, .fieldref 10 11), (0, .class_ 12), (0, .nameAndType 13 14), (0, u "java/lang/String"), (0, u "value"), (0, u "[B"), (0, .fieldref 10 16), (0, .nameAndType 17 18), (0, u "coder"), (0, u "B"), (2, u "hash"), (0, u "I"), (2, u "hashIsZero"), (0, u "Z"), (0, .methodref 10 28), (0, .nameAndType 5 29), (0, u "([CIILjava/lang/Void;)V"), (8, .fieldref 10 39), (0, .nameAndType 40 26), (0, u "COMPACT_STRINGS"), (1, .class_ 44), (1, u "java/lang/StringUTF16"), (0, u "compress"), (1, .methodref 42 48), (0, .nameAndType 49 50), (0, u "coderFromArrayLen"), (0, u "([BI)B"), (2, u "toBytes"), (53, .class_ 109), (1, u "java/lang/StringLatin1"), (67, .methodref 42 178), (0, .nameAndType 45 179), (0, u "([CII)[B"), (29, .methodref 10 210), (0, .nameAndType 5 211), (0, u "([BB)V"), (157, u "(C)Z"), (171, .methodref 107 542), (0, .nameAndType 543 544), (0, u "equals"), (0, u "([B[B)Z"), (28, u "(Ljava/lang/Object;)Z"), (1, .class_ 576), (0, u "java/lang/CharSequence"), (22, u "CASE_INSENSITIVE_ORDER"), (0, u "Ljava/util/Comparator;"), (181, u "valueOf"), (0, u "(C)Ljava/lang/String;"), (226, u "([C)V"), (4, .methodref 107 1016), (0, .nameAndType 1017 369), (0, u "canEncode"), (0, .methodref 107 1019), (0, .nameAndType 53 1020), (0, u "(C)[B"), (80, u "serialPersistentFields"), (0, u "[Ljava/io/ObjectStreamField;"), (0, .class_ 1104), (0, u "java/lang/String$CaseInsensitiveComparator"), (1, .class_ 1107), (0, u "java/io/Serializable"), (0, .class_ 1109), (0, u "java/lang/Comparable"), (0, .class_ 1111), (0, u "java/lang/constant/Constable"), (0, .class_ 1113), (0, u "java/lang/constant/ConstantDesc"), (2, u "serialVersionUID"), (0, u "J"), (3, u "REPL"), (0, u "C"), (2, u "LATIN1"), (1, u "UTF16")] 323

def k7m0 : Method := { name := "<init>", desc := "()V", sig := { parameters := [], returnType := none }, accessFlags := 1, code := none }
def k7c1 : Code := { maxStack := 5, maxLocals := 2, code := jdk_42_method_3_code, exceptionTable := #[], attributes := #[] }
def k7m1 : Method := { name := "<init>", desc := "([C)V", sig := { parameters := [(.array .char)], returnType := none }, accessFlags := 1, code := some k7c1 }
def k7c2 : Code := { maxStack := 2, maxLocals := 3, code := jdk_42_method_66_code, exceptionTable := #[], attributes := #[] }
def k7m2 : Method := { name := "equals", desc := "(Ljava/lang/Object;)Z", sig := { parameters := [(.object "java/lang/Object")], returnType := some .boolean }, accessFlags := 1, code := some k7c2 }
def k7c3 : Code := { maxStack := 4, maxLocals := 1, code := jdk_42_method_139_code, exceptionTable := #[], attributes := #[] }
def k7m3 : Method := { name := "valueOf", desc := "(C)Ljava/lang/String;", sig := { parameters := [.char], returnType := some (.object "java/lang/String") }, accessFlags := 9, code := some k7c3 }
def k7c4 : Code := { maxStack := 4, maxLocals := 6, code := jdk_42_method_149_code, exceptionTable := #[], attributes := #[] }
def k7m4 : Method := { name := "<init>", desc := "([CIILjava/lang/Void;)V", sig := { parameters := [(.array .char), .int, .int, (.object "java/lang/Void")], returnType := none }, accessFlags := 2, code := some k7c4 }
def k7c5 : Code := { maxStack := 2, maxLocals := 3, code := jdk_42_method_151_code, exceptionTable := #[], attributes := #[] }
def k7m5 : Method := { name := "<init>", desc := "([BB)V", sig := { parameters := [(.array .byte), .byte], returnType := none }, accessFlags := 0, code := some k7c5 }
/-- java/lang/String -/
def k7 : Class := { plain "java/lang/String" (some 0) with
  accessFlags := 49
  interfaces := #[2, 3, 4, 5, 6]
  cf := some (fileOf pool7 10 #[.nestMembers #[1103]] #[{ accessFlags := 1, nameIndex := 5, descriptorIndex := 6, attributes := #[] }, { accessFlags := 1, nameIndex := 5, descriptorIndex := 1010, attributes := #[] }, { accessFlags := 1, nameIndex := 543, descriptorIndex := 573, attributes := #[] }, { accessFlags := 9, nameIndex := 782, descriptorIndex := 783, attributes := #[] }, { accessFlags := 2, nameIndex := 5, descriptorIndex := 29, attributes := #[] }, { accessFlags := 0, nameIndex := 5, descriptorIndex := 211, attributes := #[] }] 49 2 #[1106, 1108, 575, 1110, 1112] #[{ accessFlags := 18, nameIndex := 13, descriptorIndex := 14, attributes := #[] }, { accessFlags := 18, nameIndex := 17, descriptorIndex := 18, attributes := #[] }, { accessFlags := 2, nameIndex := 21, descriptorIndex := 22, attributes := #[] }, { accessFlags := 2, nameIndex := 25, descriptorIndex := 26, attributes := #[] }, { accessFlags := 26, nameIndex := 1116, descriptorIndex := 1117, attributes := #[] }, { accessFlags := 24, nameIndex := 40, descriptorIndex := 26, attributes := #[] }, { accessFlags := 26, nameIndex := 1101, descriptorIndex := 1102, attributes := #[] }, { accessFlags := 26, nameIndex := 1121, descriptorIndex := 1122, attributes := #[] }, { accessFlags := 25, nameIndex := 599, descriptorIndex := 600, attributes := #[] }, { accessFlags := 24, nameIndex := 1125, descriptorIndex := 18, attributes := #[] }, { accessFlags := 24, nameIndex := 1127, descriptorIndex := 18, attributes := #[] }])
  fields := #[{ name := "value", type := (.array .byte), accessFlags := 18, slot := 0, constantValue := 0 }, { name := "coder", type := .byte, accessFlags := 18, slot := 1, constantValue := 0 }, { name := "hash", type := .int, accessFlags := 2, slot := 2, constantValue := 0 }, { name := "hashIsZero", type := .boolean, accessFlags := 2, slot := 3, constantValue := 0 }, { name := "serialVersionUID", type := .long, accessFlags := 26, slot := 0, constantValue := 0 }, { name := "COMPACT_STRINGS", type := .boolean, accessFlags := 24, slot := 1, constantValue := 0 }, { name := "serialPersistentFields", type := (.array (.object "java/io/ObjectStreamField")), accessFlags := 26, slot := 2, constantValue := 0 }, { name := "REPL", type := .char, accessFlags := 26, slot := 3, constantValue := 0 }, { name := "CASE_INSENSITIVE_ORDER", type := (.object "java/util/Comparator"), accessFlags := 25, slot := 4, constantValue := 0 }, { name := "LATIN1", type := .byte, accessFlags := 24, slot := 5, constantValue := 0 }, { name := "UTF16", type := .byte, accessFlags := 24, slot := 6, constantValue := 0 }]
  methods := #[k7m0, k7m1, k7m2, k7m3, k7m4, k7m5]
  instanceTypes := #[(.array .byte), .byte, .int, .boolean]
  staticTypes := #[.long, .boolean, (.array (.object "java/io/ObjectStreamField")), .char, (.object "java/util/Comparator"), .byte, .byte]
  resolved := Array.replicate 1451 none
  statics := some 0 }

def pool8 : Array CpInfo := pool [(6, .class_ 8), (1, u "java/lang/Object"), (0, u "<init>"), (0, u "()V"), (1, .class_ 14), (1, u "java/lang/StringUTF16"), (31, u "$assertionsDisabled"), (0, u "Z"), (13, u "HI_BYTE_SHIFT"), (0, u "I"), (2, u "LO_BYTE_SHIFT"), (49, .methodref 12 116), (0, .nameAndType 117 118), (0, u "compress"), (0, u "([CI[BII)I"), (3, u "([CII)[B"), (138, u "coderFromArrayLen"), (0, u "([BI)B"), (106, .class_ 371), (1, u "java/lang/StringUTF16$LinesSpliterator"), (58, u "MAX_LENGTH"), (196, .class_ 628), (0, u "java/lang/StringUTF16$CodePointsSpliterator"), (0, .class_ 630), (0, u "java/lang/StringUTF16$CharsSpliterator")] 4

def k8m0 : Method := { name := "<init>", desc := "()V", sig := { parameters := [], returnType := none }, accessFlags := 0, code := none }
def k8c1 : Code := { maxStack := 2, maxLocals := 2, code := jdk_52_method_15_code, exceptionTable := #[], attributes := #[] }
def k8m1 : Method := { name := "coderFromArrayLen", desc := "([BI)B", sig := { parameters := [(.array .byte), .int], returnType := some .byte }, accessFlags := 8, code := some k8c1 }
def k8c2 : Code := { maxStack := 5, maxLocals := 6, code := jdk_52_method_16_code, exceptionTable := #[], attributes := #[] }
def k8m2 : Method := { name := "compress", desc := "([CII)[B", sig := { parameters := [(.array .char), .int, .int], returnType := some (.array .byte) }, accessFlags := 9, code := some k8c2 }
def k8c3 : Code := { maxStack := 3, maxLocals := 7, code := jdk_52_method_21_code, exceptionTable := #[], attributes := #[] }
def k8m3 : Method := { name := "compress", desc := "([CI[BII)I", sig := { parameters := [(.array .char), .int, (.array .byte), .int, .int], returnType := some .int }, accessFlags := 9, code := some k8c3 }
/-- java/lang/StringUTF16 -/
def k8 : Class := { plain "java/lang/StringUTF16" (some 0) with
  accessFlags := 48
  interfaces := #[]
  cf := some (fileOf pool8 12 #[.nestMembers #[627, 629, 369]] #[{ accessFlags := 0, nameIndex := 9, descriptorIndex := 10, attributes := #[] }, { accessFlags := 8, nameIndex := 261, descriptorIndex := 262, attributes := #[] }, { accessFlags := 9, nameIndex := 117, descriptorIndex := 122, attributes := #[] }, { accessFlags := 9, nameIndex := 117, descriptorIndex := 118, attributes := #[] }] 48 6 #[] #[{ accessFlags := 26, nameIndex := 61, descriptorIndex := 62, attributes := #[] }, { accessFlags := 26, nameIndex := 65, descriptorIndex := 62, attributes := #[] }, { accessFlags := 24, nameIndex := 430, descriptorIndex := 62, attributes := #[] }, { accessFlags := 4120, nameIndex := 46, descriptorIndex := 47, attributes := #[] }])
  fields := #[{ name := "HI_BYTE_SHIFT", type := .int, accessFlags := 26, slot := 0, constantValue := 0 }, { name := "LO_BYTE_SHIFT", type := .int, accessFlags := 26, slot := 1, constantValue := 0 }, { name := "MAX_LENGTH", type := .int, accessFlags := 24, slot := 2, constantValue := 0 }, { name := "$assertionsDisabled", type := .boolean, accessFlags := 4120, slot := 3, constantValue := 0 }]
  methods := #[k8m0, k8m1, k8m2, k8m3]
  instanceTypes := #[]
  staticTypes := #[.int, .int, .int, .boolean]
  resolved := Array.replicate 635 none
  statics := none }

def pool9 : Array CpInfo := pool [(4, .class_ 6), (1, u "java/lang/Object"), (0, u "<init>"), (0, u "()V"), (5, .class_ 16), (1, u "java/lang/StringLatin1"), (73, u "canEncode"), (14, u "(C)Z"), (15, u "$assertionsDisabled"), (0, u "Z"), (98, .class_ 223), (1, u "java/lang/StringLatin1$LinesSpliterator"), (57, u "equals"), (0, u "([B[B)Z"), (97, u "toBytes"), (1, u "(C)[B"), (7, .class_ 391), (0, u "java/lang/StringLatin1$CharsSpliterator")] 3

def k9m0 : Method := { name := "<init>", desc := "()V", sig := { parameters := [], returnType := none }, accessFlags := 0, code := none }
def k9c1 : Code := { maxStack := 2, maxLocals := 1, code := jdk_43_method_3_code, exceptionTable := #[], attributes := #[] }
def k9m1 : Method := { name := "canEncode", desc := "(C)Z", sig := { parameters := [.char], returnType := some .boolean }, accessFlags := 9, code := some k9c1 }
def k9c2 : Code := { maxStack := 3, maxLocals := 3, code := jdk_43_method_13_code, exceptionTable := #[], attributes := #[] }
def k9m2 : Method := { name := "equals", desc := "([B[B)Z", sig := { parameters := [(.array .byte), (.array .byte)], returnType := some .boolean }, accessFlags := 9, code := some k9c2 }
def k9c3 : Code := { maxStack := 4, maxLocals := 1, code := jdk_43_method_46_code, exceptionTable := #[], attributes := #[] }
def k9m3 : Method := { name := "toBytes", desc := "(C)[B", sig := { parameters := [.char], returnType := some (.array .byte) }, accessFlags := 9, code := some k9c3 }
/-- java/lang/StringLatin1 -/
def k9 : Class := { plain "java/lang/StringLatin1" (some 0) with
  accessFlags := 48
  interfaces := #[]
  cf := some (fileOf pool9 14 #[.nestMembers #[390, 221]] #[{ accessFlags := 0, nameIndex := 7, descriptorIndex := 8, attributes := #[] }, { accessFlags := 9, nameIndex := 90, descriptorIndex := 105, attributes := #[] }, { accessFlags := 9, nameIndex := 281, descriptorIndex := 282, attributes := #[] }, { accessFlags := 9, nameIndex := 380, descriptorIndex := 382, attributes := #[] }] 48 4 #[] #[{ accessFlags := 4120, nameIndex := 121, descriptorIndex := 122, attributes := #[] }])
  fields := #[{ name := "$assertionsDisabled", type := .boolean, accessFlags := 4120, slot := 0, constantValue := 0 }]
  methods := #[k9m0, k9m1, k9m2, k9m3]
  instanceTypes := #[]
  staticTypes := #[.boolean]
  resolved := Array.replicate 395 none
  statics := none }

def pool10 : Array CpInfo := pool [(2, .class_ 4), (1, u "java/lang/Enum"), (0, u "name"), (0, u "Ljava/lang/String;"), (2, u "ordinal"), (0, u "I"), (1, .class_ 14), (1, u "java/lang/Object"), (4, u "hash"), (86, .class_ 108), (1, u "java/lang/Enum$EnumDesc"), (2, .class_ 112), (0, u "java/lang/constant/Constable"), (0, .class_ 114), (0, u "java/lang/Comparable"), (0, .class_ 116), (0, u "java/io/Serializable")] 87

/-- java/lang/Enum -/
def k10 : Class := { plain "java/lang/Enum" (some 0) with
  accessFlags := 1057
  interfaces := #[5, 3, 2]
  cf := some (fileOf pool10 2 #[.nestMembers #[106]] #[] 1057 12 #[111, 113, 115] #[{ accessFlags := 18, nameIndex := 5, descriptorIndex := 6, attributes := #[] }, { accessFlags := 18, nameIndex := 9, descriptorIndex := 10, attributes := #[] }, { accessFlags := 2, nameIndex := 19, descriptorIndex := 10, attributes := #[] }])
  fields := #[{ name := "name", type := (.object "java/lang/String"), accessFlags := 18, slot := 0, constantValue := 0 }, { name := "ordinal", type := .int, accessFlags := 18, slot := 1, constantValue := 0 }, { name := "hash", type := .int, accessFlags := 2, slot := 2, constantValue := 0 }]
  methods := #[]
  instanceTypes := #[(.object "java/lang/String"), .int, .int]
  staticTypes := #[]
  resolved := Array.replicate 204 none
  statics := none }

def pool11 : Array CpInfo := pool [(1, .class_ 2), (0, u "com/example/emendate/emendate/model/Capability"), (2, u "USERS_EDIT"), (0, u "Lcom/example/emendate/emendate/model/Capability;"), (2, u "ADMIN"), (2, u "ADMINS_MANAGE"), (0, .fieldref 1 14), (0, .nameAndType 15 16), (0, u "$VALUES"), (0, u "[Lcom/example/emendate/emendate/model/Capability;"), (0, .methodref 18 19), (0, .class_ 16), (0, .nameAndType 20 21), (0, u "clone"), (0, u "()Ljava/lang/Object;"), (1, .class_ 25), (1, u "java/lang/Enum"), (6, .fieldref 1 33), (0, .nameAndType 34 35), (0, u "capabilityName"), (0, u "Ljava/lang/String;"), (0, .methodref 1 37), (0, .nameAndType 38 39), (0, u "values"), (0, u "()[Lcom/example/emendate/emendate/model/Capability;"), (0, .methodref 41 42), (0, .class_ 43), (0, .nameAndType 44 45), (0, u "java/lang/String"), (0, u "equals"), (0, u "(Ljava/lang/Object;)Z"), (0, .methodref 47 48), (0, .class_ 49), (0, .nameAndType 50 51), (0, u "java/util/Optional"), (0, u "of"), (0, u "(Ljava/lang/Object;)Ljava/util/Optional;"), (0, .methodref 47 53), (0, .nameAndType 54 55), (0, u "empty"), (0, u "()Ljava/util/Optional;"), (21, u "byName"), (0, u "(Ljava/lang/String;)Ljava/util/Optional;"), (2, u "()Ljava/lang/String;")] 5

def k11c0 : Code := { maxStack := 1, maxLocals := 0, code := prog_7_method_1_code, exceptionTable := #[], attributes := #[] }
def k11m0 : Method := { name := "values", desc := "()[Lcom/example/emendate/emendate/model/Capability;", sig := { parameters := [], returnType := some (.array (.object "com/example/emendate/emendate/model/Capability")) }, accessFlags := 9, code := some k11c0 }
def k11c1 : Code := { maxStack := 2, maxLocals := 5, code := prog_7_method_4_code, exceptionTable := #[], attributes := #[] }
def k11m1 : Method := { name := "byName", desc := "(Ljava/lang/String;)Ljava/util/Optional;", sig := { parameters := [(.object "java/lang/String")], returnType := some (.object "java/util/Optional") }, accessFlags := 9, code := some k11c1 }
def k11c2 : Code := { maxStack := 1, maxLocals := 1, code := prog_7_method_5_code, exceptionTable := #[], attributes := #[] }
def k11m2 : Method := { name := "capabilityName", desc := "()Ljava/lang/String;", sig := { parameters := [], returnType := some (.object "java/lang/String") }, accessFlags := 1, code := some k11c2 }
/-- com/example/emendate/emendate/model/Capability -/
def k11 : Class := { plain "com/example/emendate/emendate/model/Capability" (some 10) with
  accessFlags := 16433
  interfaces := #[]
  cf := some (fileOf pool11 1 #[] #[{ accessFlags := 9, nameIndex := 38, descriptorIndex := 39, attributes := #[] }, { accessFlags := 9, nameIndex := 77, descriptorIndex := 78, attributes := #[] }, { accessFlags := 1, nameIndex := 34, descriptorIndex := 81, attributes := #[] }] 16433 23 #[] #[{ accessFlags := 16409, nameIndex := 5, descriptorIndex := 6, attributes := #[] }, { accessFlags := 16409, nameIndex := 9, descriptorIndex := 6, attributes := #[] }, { accessFlags := 16409, nameIndex := 12, descriptorIndex := 6, attributes := #[] }, { accessFlags := 18, nameIndex := 34, descriptorIndex := 35, attributes := #[] }, { accessFlags := 4122, nameIndex := 15, descriptorIndex := 16, attributes := #[] }])
  fields := #[{ name := "USERS_EDIT", type := (.object "com/example/emendate/emendate/model/Capability"), accessFlags := 16409, slot := 0, constantValue := 0 }, { name := "ADMIN", type := (.object "com/example/emendate/emendate/model/Capability"), accessFlags := 16409, slot := 1, constantValue := 0 }, { name := "ADMINS_MANAGE", type := (.object "com/example/emendate/emendate/model/Capability"), accessFlags := 16409, slot := 2, constantValue := 0 }, { name := "capabilityName", type := (.object "java/lang/String"), accessFlags := 18, slot := 3, constantValue := 0 }, { name := "$VALUES", type := (.array (.object "com/example/emendate/emendate/model/Capability")), accessFlags := 4122, slot := 3, constantValue := 0 }]
  methods := #[k11m0, k11m1, k11m2]
  instanceTypes := #[(.object "java/lang/String"), .int, .int, (.object "java/lang/String")]
  staticTypes := #[(.object "com/example/emendate/emendate/model/Capability"), (.object "com/example/emendate/emendate/model/Capability"), (.object "com/example/emendate/emendate/model/Capability"), (.array (.object "com/example/emendate/emendate/model/Capability"))]
  resolved := Array.replicate 87 none
  statics := some 1 }

def pool12 : Array CpInfo := pool [(1, .class_ 2), (0, u "java/lang/Cloneable"), (0, .class_ 4), (0, u "java/lang/Object")] 2

/-- java/lang/Cloneable -/
def k12 : Class := { plain "java/lang/Cloneable" (some 0) with
  accessFlags := 1537
  interfaces := #[]
  cf := some (fileOf pool12 1 #[] #[] 1537 3 #[] #[])
  fields := #[]
  methods := #[]
  instanceTypes := #[]
  staticTypes := #[]
  resolved := Array.replicate 7 none
  statics := none }

def pool13 : Array CpInfo := pool [(1, .fieldref 2 3), (0, .class_ 4), (0, .nameAndType 5 6), (0, u "java/util/Optional"), (0, u "EMPTY"), (0, u "Ljava/util/Optional;"), (0, .methodref 8 9), (0, .class_ 10), (0, .nameAndType 11 12), (0, u "java/lang/Object"), (0, u "<init>"), (0, u "()V"), (0, .fieldref 2 14), (0, .nameAndType 15 16), (0, u "value"), (0, u "Ljava/lang/Object;"), (0, .methodref 18 19), (0, .class_ 20), (0, .nameAndType 21 22), (0, u "java/util/Objects"), (0, u "requireNonNull"), (0, u "(Ljava/lang/Object;)Ljava/lang/Object;"), (0, .methodref 2 24), (0, .nameAndType 11 25), (0, u "(Ljava/lang/Object;)V"), (20, u "()Z"), (8, u "empty"), (0, u "()Ljava/util/Optional;"), (8, u "(Ljava/lang/Object;)Ljava/util/Optional;"), (2, u "isPresent"), (4, u "get"), (0, u "()Ljava/lang/Object;"), (7, u "of")] 104

def k13c0 : Code := { maxStack := 1, maxLocals := 1, code := jdk_32_method_1_code, exceptionTable := #[], attributes := #[] }
def k13m0 : Method := { name := "empty", desc := "()Ljava/util/Optional;", sig := { parameters := [], returnType := some (.object "java/util/Optional") }, accessFlags := 9, code := some k13c0 }
def k13c1 : Code := { maxStack := 2, maxLocals := 2, code := jdk_32_method_2_code, exceptionTable := #[], attributes := #[] }
def k13m1 : Method := { name := "<init>", desc := "(Ljava/lang/Object;)V", sig := { parameters := [(.object "java/lang/Object")], returnType := none }, accessFlags := 2, code := some k13c1 }
def k13c2 : Code := { maxStack := 3, maxLocals := 1, code := jdk_32_method_3_code, exceptionTable := #[], attributes := #[] }
def k13m2 : Method := { name := "of", desc := "(Ljava/lang/Object;)Ljava/util/Optional;", sig := { parameters := [(.object "java/lang/Object")], returnType := some (.object "java/util/Optional") }, accessFlags := 9, code := some k13c2 }
def k13c3 : Code := { maxStack := 3, maxLocals := 1, code := jdk_32_method_5_code, exceptionTable := #[], attributes := #[] }
def k13m3 : Method := { name := "get", desc := "()Ljava/lang/Object;", sig := { parameters := [], returnType := some (.object "java/lang/Object") }, accessFlags := 1, code := some k13c3 }
def k13c4 : Code := { maxStack := 1, maxLocals := 1, code := jdk_32_method_6_code, exceptionTable := #[], attributes := #[] }
def k13m4 : Method := { name := "isPresent", desc := "()Z", sig := { parameters := [], returnType := some .boolean }, accessFlags := 1, code := some k13c4 }
/-- java/util/Optional -/
def k13 : Class := { plain "java/util/Optional" (some 0) with
  accessFlags := 49
  interfaces := #[]
  cf := some (fileOf pool13 2 #[] #[{ accessFlags := 9, nameIndex := 55, descriptorIndex := 56, attributes := #[] }, { accessFlags := 2, nameIndex := 11, descriptorIndex := 25, attributes := #[] }, { accessFlags := 9, nameIndex := 82, descriptorIndex := 65, attributes := #[] }, { accessFlags := 1, nameIndex := 73, descriptorIndex := 74, attributes := #[] }, { accessFlags := 1, nameIndex := 68, descriptorIndex := 46, attributes := #[] }] 49 8 #[] #[{ accessFlags := 26, nameIndex := 5, descriptorIndex := 6, attributes := #[] }, { accessFlags := 18, nameIndex := 15, descriptorIndex := 16, attributes := #[] }])
  fields := #[{ name := "EMPTY", type := (.object "java/util/Optional"), accessFlags := 26, slot := 0, constantValue := 0 }, { name := "value", type := (.object "java/lang/Object"), accessFlags := 18, slot := 0, constantValue := 0 }]
  methods := #[k13m0, k13m1, k13m2, k13m3, k13m4]
  instanceTypes := #[(.object "java/lang/Object")]
  staticTypes := #[(.object "java/util/Optional")]
  resolved := Array.replicate 187 none
  statics := some 2 }

def pool14 : Array CpInfo := pool [(2, .class_ 4), (1, u "java/lang/Object"), (0, u "<init>"), (0, u "()V"), (35, .class_ 44), (1, u "java/util/Objects"), (0, u "requireNonNull"), (0, u "(Ljava/lang/Object;)Ljava/lang/Object;")] 137

def k14m0 : Method := { name := "<init>", desc := "()V", sig := { parameters := [], returnType := none }, accessFlags := 2, code := none }
def k14c1 : Code := { maxStack := 2, maxLocals := 1, code := jdk_31_method_10_code, exceptionTable := #[], attributes := #[] }
def k14m1 : Method := { name := "requireNonNull", desc := "(Ljava/lang/Object;)Ljava/lang/Object;", sig := { parameters := [(.object "java/lang/Object")], returnType := some (.object "java/lang/Object") }, accessFlags := 9, code := some k14c1 }
/-- java/util/Objects -/
def k14 : Class := { plain "java/util/Objects" (some 0) with
  accessFlags := 49
  interfaces := #[]
  cf := some (fileOf pool14 42 #[] #[{ accessFlags := 2, nameIndex := 5, descriptorIndex := 6, attributes := #[] }, { accessFlags := 9, nameIndex := 45, descriptorIndex := 46, attributes := #[] }] 49 2 #[] #[])
  fields := #[]
  methods := #[k14m0, k14m1]
  instanceTypes := #[]
  staticTypes := #[]
  resolved := Array.replicate 184 none
  statics := none }

def pool15 : Array CpInfo := pool [(2, .class_ 4), (1, u "java/lang/Object"), (0, u "<init>"), (0, u "()V"), (17, .class_ 26), (1, u "jdk/internal/util/Preconditions"), (28, .class_ 56), (0, u "jdk/internal/util/Preconditions$4"), (57, .class_ 115), (0, u "jdk/internal/util/Preconditions$1"), (7, u "SIOOBE_FORMATTER"), (0, u "Ljava/util/function/BiFunction;"), (0, .class_ 126), (0, u "jdk/internal/util/Preconditions$2"), (3, u "AIOOBE_FORMATTER"), (0, .class_ 132), (0, u "jdk/internal/util/Preconditions$3"), (3, u "IOOBE_FORMATTER")] 57

def k15m0 : Method := { name := "<init>", desc := "()V", sig := { parameters := [], returnType := none }, accessFlags := 1, code := none }
/-- jdk/internal/util/Preconditions -/
def k15 : Class := { plain "jdk/internal/util/Preconditions" (some 0) with
  accessFlags := 33
  interfaces := #[]
  cf := some (fileOf pool15 24 #[.nestMembers #[55, 131, 125, 114]] #[{ accessFlags := 1, nameIndex := 5, descriptorIndex := 6, attributes := #[] }] 33 2 #[] #[{ accessFlags := 25, nameIndex := 123, descriptorIndex := 124, attributes := #[] }, { accessFlags := 25, nameIndex := 130, descriptorIndex := 124, attributes := #[] }, { accessFlags := 25, nameIndex := 136, descriptorIndex := 124, attributes := #[] }])
  fields := #[{ name := "SIOOBE_FORMATTER", type := (.object "java/util/function/BiFunction"), accessFlags := 25, slot := 0, constantValue := 0 }, { name := "AIOOBE_FORMATTER", type := (.object "java/util/function/BiFunction"), accessFlags := 25, slot := 1, constantValue := 0 }, { name := "IOOBE_FORMATTER", type := (.object "java/util/function/BiFunction"), accessFlags := 25, slot := 2, constantValue := 0 }]
  methods := #[k15m0]
  instanceTypes := #[]
  staticTypes := #[(.object "java/util/function/BiFunction"), (.object "java/util/function/BiFunction"), (.object "java/util/function/BiFunction")]
  resolved := Array.replicate 194 none
  statics := some 3 }

def pool16 : Array CpInfo := pool [(9, u "<init>"), (6, .class_ 18), (1, u "java/lang/Object"), (0, u "()V"), (1, .class_ 23), (1, u "jdk/internal/util/ArraysSupport"), (0, u "LOG2_ARRAY_LONG_INDEX_SCALE"), (0, u "I"), (2, u "U"), (0, u "Ljdk/internal/misc/Unsafe;"), (8, u "BIG_ENDIAN"), (0, u "Z"), (8, u "LOG2_BYTE_BIT_SIZE"), (4, u "LOG2_ARRAY_INT_INDEX_SCALE"), (54, u "JLA"), (0, u "Ljdk/internal/access/JavaLangAccess;"), (11, u "LOG2_ARRAY_BOOLEAN_INDEX_SCALE"), (9, u "LOG2_ARRAY_BYTE_INDEX_SCALE"), (5, u "LOG2_ARRAY_CHAR_INDEX_SCALE"), (5, u "LOG2_ARRAY_SHORT_INDEX_SCALE"), (18, u "LOG2_ARRAY_FLOAT_INDEX_SCALE"), (24, u "LOG2_ARRAY_DOUBLE_INDEX_SCALE"), (89, u "T_BOOLEAN"), (2, u "T_CHAR"), (1, u "T_FLOAT"), (1, u "T_DOUBLE"), (1, u "T_BYTE"), (1, u "T_SHORT"), (1, u "T_INT"), (1, u "T_LONG"), (1, u "SOFT_MAX_ARRAY_LENGTH")] 83

def k16m0 : Method := { name := "<init>", desc := "()V", sig := { parameters := [], returnType := none }, accessFlags := 2, code := none }
/-- jdk/internal/util/ArraysSupport -/
def k16 : Class := { plain "jdk/internal/util/ArraysSupport" (some 0) with
  accessFlags := 33
  interfaces := #[]
  cf := some (fileOf pool16 21 #[] #[{ accessFlags := 2, nameIndex := 9, descriptorIndex := 19, attributes := #[] }] 33 16 #[] #[{ accessFlags := 24, nameIndex := 28, descriptorIndex := 29, attributes := #[] }, { accessFlags := 26, nameIndex := 38, descriptorIndex := 39, attributes := #[] }, { accessFlags := 25, nameIndex := 121, descriptorIndex := 25, attributes := #[] }, { accessFlags := 25, nameIndex := 131, descriptorIndex := 25, attributes := #[] }, { accessFlags := 25, nameIndex := 137, descriptorIndex := 25, attributes := #[] }, { accessFlags := 25, nameIndex := 143, descriptorIndex := 25, attributes := #[] }, { accessFlags := 25, nameIndex := 53, descriptorIndex := 25, attributes := #[] }, { accessFlags := 25, nameIndex := 24, descriptorIndex := 25, attributes := #[] }, { accessFlags := 25, nameIndex := 162, descriptorIndex := 25, attributes := #[] }, { accessFlags := 25, nameIndex := 187, descriptorIndex := 25, attributes := #[] }, { accessFlags := 26, nameIndex := 48, descriptorIndex := 25, attributes := #[] }, { accessFlags := 25, nameIndex := 277, descriptorIndex := 25, attributes := #[] }, { accessFlags := 25, nameIndex := 280, descriptorIndex := 25, attributes := #[] }, { accessFlags := 25, nameIndex := 282, descriptorIndex := 25, attributes := #[] }, { accessFlags := 25, nameIndex := 284, descriptorIndex := 25, attributes := #[] }, { accessFlags := 25, nameIndex := 286, descriptorIndex := 25, attributes := #[] }, { accessFlags := 25, nameIndex := 288, descriptorIndex := 25, attributes := #[] }, { accessFlags := 25, nameIndex := 290, descriptorIndex := 25, attributes := #[] }, { accessFlags := 25, nameIndex := 292, descriptorIndex := 25, attributes := #[] }, { accessFlags := 26, nameIndex := 108, descriptorIndex := 109, attributes := #[] }, { accessFlags := 25, nameIndex := 294, descriptorIndex := 25, attributes := #[] }])
  fields := #[{ name := "U", type := (.object "jdk/internal/misc/Unsafe"), accessFlags := 24, slot := 0, constantValue := 0 }, { name := "BIG_ENDIAN", type := .boolean, accessFlags := 26, slot := 1, constantValue := 0 }, { name := "LOG2_ARRAY_BOOLEAN_INDEX_SCALE", type := .int, accessFlags := 25, slot := 2, constantValue := 0 }, { name := "LOG2_ARRAY_BYTE_INDEX_SCALE", type := .int, accessFlags := 25, slot := 3, constantValue := 0 }, { name := "LOG2_ARRAY_CHAR_INDEX_SCALE", type := .int, accessFlags := 25, slot := 4, constantValue := 0 }, { name := "LOG2_ARRAY_SHORT_INDEX_SCALE", type := .int, accessFlags := 25, slot := 5, constantValue := 0 }, { name := "LOG2_ARRAY_INT_INDEX_SCALE", type := .int, accessFlags := 25, slot := 6, constantValue := 0 }, { name := "LOG2_ARRAY_LONG_INDEX_SCALE", type := .int, accessFlags := 25, slot := 7, constantValue := 0 }, { name := "LOG2_ARRAY_FLOAT_INDEX_SCALE", type := .int, accessFlags := 25, slot := 8, constantValue := 0 }, { name := "LOG2_ARRAY_DOUBLE_INDEX_SCALE", type := .int, accessFlags := 25, slot := 9, constantValue := 0 }, { name := "LOG2_BYTE_BIT_SIZE", type := .int, accessFlags := 26, slot := 10, constantValue := 0 }, { name := "T_BOOLEAN", type := .int, accessFlags := 25, slot := 11, constantValue := 0 }, { name := "T_CHAR", type := .int, accessFlags := 25, slot := 12, constantValue := 0 }, { name := "T_FLOAT", type := .int, accessFlags := 25, slot := 13, constantValue := 0 }, { name := "T_DOUBLE", type := .int, accessFlags := 25, slot := 14, constantValue := 0 }, { name := "T_BYTE", type := .int, accessFlags := 25, slot := 15, constantValue := 0 }, { name := "T_SHORT", type := .int, accessFlags := 25, slot := 16, constantValue := 0 }, { name := "T_INT", type := .int, accessFlags := 25, slot := 17, constantValue := 0 }, { name := "T_LONG", type := .int, accessFlags := 25, slot := 18, constantValue := 0 }, { name := "JLA", type := (.object "jdk/internal/access/JavaLangAccess"), accessFlags := 26, slot := 19, constantValue := 0 }, { name := "SOFT_MAX_ARRAY_LENGTH", type := .int, accessFlags := 25, slot := 20, constantValue := 0 }]
  methods := #[k16m0]
  instanceTypes := #[]
  staticTypes := #[(.object "jdk/internal/misc/Unsafe"), .boolean, .int, .int, .int, .int, .int, .int, .int, .int, .int, .int, .int, .int, .int, .int, .int, .int, .int, (.object "jdk/internal/access/JavaLangAccess"), .int]
  resolved := Array.replicate 378 none
  statics := none }

/-- the primitive byte -/
def k17 : Class := { plain "byte" none with kind := .primitive 'B', accessFlags := 0x411 }
/-- [B -/
def k18 : Class := { plain "[B" (some 0) with kind := .array 17 .byte, interfaces := #[12, 2], accessFlags := 1041 }

/-- the primitive char -/
def k19 : Class := { plain "char" none with kind := .primitive 'C', accessFlags := 0x411 }
/-- [C -/
def k20 : Class := { plain "[C" (some 0) with kind := .array 19 .char, interfaces := #[12, 2], accessFlags := 1041 }

/-- the primitive int -/
def k21 : Class := { plain "int" none with kind := .primitive 'I', accessFlags := 0x411 }
/-- [I -/
def k22 : Class := { plain "[I" (some 0) with kind := .array 21 .int, interfaces := #[12, 2], accessFlags := 1041 }

/-- [Lcom/example/emendate/emendate/model/Capability; -/
def k23 : Class := { plain "[Lcom/example/emendate/emendate/model/Capability;" (some 0) with kind := .array 11 (.object "com/example/emendate/emendate/model/Capability"), interfaces := #[12, 2], accessFlags := 1041 }

def heap : Heap := #[{ cls := 7, slots := #[.long 0, .int 1, .null, .int 0, .null, .int 0, .int 0], vm := .statics 7 },
  { cls := 11, slots := #[.ref 5, .ref 6, .ref 7, .ref 4], vm := .statics 11 },
  { cls := 13, slots := #[.ref 14], vm := .statics 13 },
  { cls := 15, slots := #[.null, .null, .null], vm := .statics 15 },
  { cls := 23, slots := #[.ref 5, .ref 6, .ref 7], vm := .none },
  { cls := 11, slots := #[.null, .int 0, .int 0, .ref 8], vm := .none },
  { cls := 11, slots := #[.null, .int 0, .int 0, .ref 9], vm := .none },
  { cls := 11, slots := #[.null, .int 0, .int 0, .ref 10], vm := .none },
  { cls := 7, slots := #[.ref 11, .int 0, .int 0, .int 0], vm := .none },
  { cls := 7, slots := #[.ref 12, .int 0, .int 0, .int 0], vm := .none },
  { cls := 7, slots := #[.ref 13, .int 0, .int 0, .int 0], vm := .none },
  { cls := 18, slots := #[.int 117, .int 115, .int 101, .int 114, .int 115, .int 58, .int 101, .int 100, .int 105, .int 116], vm := .none },
  { cls := 18, slots := #[.int 97, .int 100, .int 109, .int 105, .int 110], vm := .none },
  { cls := 18, slots := #[.int 97, .int 100, .int 109, .int 105, .int 110, .int 115, .int 58, .int 109, .int 97, .int 110, .int 97, .int 103, .int 101], vm := .none },
  { cls := 13, slots := #[.null], vm := .none }]
def classes : Array Class := #[k0, k1, k2, k3, k4, k5, k6, k7, k8, k9, k10, k11, k12, k13, k14, k15, k16, k17, k18, k19, k20, k21, k22, k23]
def interned : List (Array UInt16 × Addr) := []
def slotsUsed : Nat := 71
def theMethod : MethodId := ⟨1, 1⟩
def args0 : Array Value := #[.int 5, .int 5, .int 5, .int 5]
def aboutOver (below : List Frame) : State where
  vm := { classes := classes, interned := interned.toArray }
  heap := heap
  slotsUsed := slotsUsed
  threads := #[{ frames := .invoking theMethod args0 :: below }]
def below0 : List Frame := [.native { method := ⟨0, 0⟩, args := #[] }]
def about1 : State := aboutOver below0
def p0 : Program := .bare "" "" ""
def e0 : Env := launch0.env 0 0 0
theorem w_frames : about1.frames = Frame.invoking theMethod args0 :: below0 := rfl
set_option maxRecDepth 65536 in
theorem w_args : argsFit about1.vm theMethod args0 = true := by decide +kernel
set_option maxRecDepth 65536 in
theorem w_heap : heapFits about1 = true := by decide +kernel
set_option maxRecDepth 65536 in
theorem w_runnable : about1.curStatus? = some .runnable := by decide +kernel
set_option maxRecDepth 65536 in
theorem w_alone : about1.alone = true := by decide +kernel
set_option maxRecDepth 65536 in
theorem w_named : about1.methodNamed? x = some theMethod := by decide +kernel
set_option maxRecDepth 65536 in
theorem w_hears : about1.hears theMethod below0 = true := by decide +kernel
set_option maxRecDepth 65536 in
theorem w_ripe : about1.ripe theMethod args0 below0 = true := by decide +kernel
theorem w_running : about1.status = .running := rfl
set_option maxRecDepth 65536 in
theorem w_room : about1.hasRoom e0.platform room_1 = true :=
  launch0.hasRoom_least _ room_1 (by decide +kernel) (by decide +kernel) (by decide +kernel) (by decide +kernel) (by decide +kernel) (by decide +kernel)
theorem allAtoms_all (ts : List Jvm.Cond) (a : Array Jvm.Value) (st : Jvm.State) : (allAtoms ts).before a st = ts.all (fun c => c.before a st) := by
  induction ts with
  | nil => rfl
  | cons c t ih =>
    show (Jvm.Cond.and c (allAtoms t)).before a st = _
    rw [Jvm.Cond.before_and, ih, List.all_cons]
def words1 : List Jvm.Cond := Jvm.Cond.code x code maxLocals ret :: tables_1
/-- a 'code' word, met by the world's own term for the bytes: nothing is compared byte by byte -/
theorem code_word {y : MethodName} {bytes : ByteArray} {mx : Nat} {rt : Option FieldType} {a : Array Value} {s : State} {m : MethodId} {meth : Method} {c : Code} (h1 : s.methodNamed? y = some m) (h2 : s.vm.method? m = some meth) (h3 : meth.code = some c) (h4 : c.code = bytes)
    (h5 : (c.maxLocals == mx && c.exceptionTable.isEmpty && decide (c.maxStack ≤ mostOperands) && decide (meth.sig.returnType = rt) && !meth.locks && decide (parseMethodDescriptor y.desc = some meth.sig)) = true) : (Jvm.Cond.code y bytes mx rt).before a s = true := by
  simp only [Bool.and_eq_true, beq_iff_eq, Bool.not_eq_true', decide_eq_true_eq] at h5
  obtain ⟨⟨⟨⟨⟨g1, g2⟩, g3⟩, g4⟩, g5⟩, g6⟩ := h5
  simp [Cond.before, Cond.holds, Cond.value, h1, h2, h3, h4, g1, g2, g3, g4, g5, g6]
def isCode : Jvm.Cond → Bool
  | .code _ _ _ _ => true
  | _ => false
theorem all_split {L : List Jvm.Cond} {P : Jvm.Cond → Bool} (h1 : L.all (fun c => isCode c || P c) = true) (h2 : ∀ c ∈ L.filter isCode, P c = true) : L.all P = true := by
  refine List.all_eq_true.mpr fun c hc => ?_
  have h := List.all_eq_true.mp h1 c hc
  rcases Bool.eq_false_or_eq_true (isCode c) with hi | hi
  · exact h2 c (List.mem_filter.mpr ⟨hc, hi⟩)
  · simpa [hi] using h
set_option maxRecDepth 65536 in
theorem w_c0 : (Jvm.Cond.code x code maxLocals ret).before args0 about1 = true := code_word (m := ⟨1, 1⟩) (meth := k1m1) (c := k1c1) (by decide +kernel) rfl rfl rfl (by decide +kernel)
set_option maxRecDepth 65536 in
theorem w_c1 : (Jvm.Cond.code ({ cls := "com/example/emendate/emendate/model/CapabilityByNamePinLaw", name := "draw", desc := "(IIICC)Ljava/lang/String;" } : Jvm.MethodName) method_4_code (8 : Nat) (Option.some (Jvm.ClassFile.FieldType.object "java/lang/String"))).before args0 about1 = true := code_word (m := ⟨1, 3⟩) (meth := k1m3) (c := k1c3) (by decide +kernel) rfl rfl rfl (by decide +kernel)
set_option maxRecDepth 65536 in
theorem w_c2 : (Jvm.Cond.code ({ cls := "java/lang/String", name := "<init>", desc := "([C)V" } : Jvm.MethodName) jdk_42_method_3_code (2 : Nat) (Option.none : Option Jvm.ClassFile.FieldType)).before args0 about1 = true := code_word (m := ⟨7, 1⟩) (meth := k7m1) (c := k7c1) (by decide +kernel) rfl rfl rfl (by decide +kernel)
set_option maxRecDepth 65536 in
theorem w_c3 : (Jvm.Cond.code ({ cls := "java/lang/String", name := "<init>", desc := "([CIILjava/lang/Void;)V" } : Jvm.MethodName) jdk_42_method_149_code (6 : Nat) (Option.none : Option Jvm.ClassFile.FieldType)).before args0 about1 = true := code_word (m := ⟨7, 4⟩) (meth := k7m4) (c := k7c4) (by decide +kernel) rfl rfl rfl (by decide +kernel)
set_option maxRecDepth 65536 in
theorem w_c4 : (Jvm.Cond.code ({ cls := "java/lang/Object", name := "<init>", desc := "()V" } : Jvm.MethodName) object_method_1_code (1 : Nat) (Option.none : Option Jvm.ClassFile.FieldType)).before args0 about1 = true := code_word (m := ⟨0, 0⟩) (meth := k0m0) (c := k0c0) (by decide +kernel) rfl rfl rfl (by decide +kernel)
set_option maxRecDepth 65536 in
theorem w_c5 : (Jvm.Cond.code ({ cls := "java/lang/StringUTF16", name := "compress", desc := "([CII)[B" } : Jvm.MethodName) jdk_52_method_16_code (6 : Nat) (Option.some (Jvm.ClassFile.FieldType.array Jvm.ClassFile.FieldType.byte))).before args0 about1 = true := code_word (m := ⟨8, 2⟩) (meth := k8m2) (c := k8c2) (by decide +kernel) rfl rfl rfl (by decide +kernel)
set_option maxRecDepth 65536 in
theorem w_c6 : (Jvm.Cond.code ({ cls := "java/lang/StringUTF16", name := "compress", desc := "([CI[BII)I" } : Jvm.MethodName) jdk_52_method_21_code (7 : Nat) (Option.some Jvm.ClassFile.FieldType.int)).before args0 about1 = true := code_word (m := ⟨8, 3⟩) (meth := k8m3) (c := k8c3) (by decide +kernel) rfl rfl rfl (by decide +kernel)
set_option maxRecDepth 65536 in
theorem w_c7 : (Jvm.Cond.code ({ cls := "java/lang/StringUTF16", name := "coderFromArrayLen", desc := "([BI)B" } : Jvm.MethodName) jdk_52_method_15_code (2 : Nat) (Option.some Jvm.ClassFile.FieldType.byte)).before args0 about1 = true := code_word (m := ⟨8, 1⟩) (meth := k8m1) (c := k8c1) (by decide +kernel) rfl rfl rfl (by decide +kernel)
set_option maxRecDepth 65536 in
theorem w_c8 : (Jvm.Cond.code ({ cls := "com/example/emendate/emendate/model/CapabilityByNamePinLaw", name := "reference", desc := "(Ljava/lang/String;)Lcom/example/emendate/emendate/model/Capability;" } : Jvm.MethodName) method_3_code (1 : Nat) (Option.some (Jvm.ClassFile.FieldType.object "com/example/emendate/emendate/model/Capability"))).before args0 about1 = true := code_word (m := ⟨1, 2⟩) (meth := k1m2) (c := k1c2) (by decide +kernel) rfl rfl rfl (by decide +kernel)
set_option maxRecDepth 65536 in
theorem w_c9 : (Jvm.Cond.code ({ cls := "java/lang/String", name := "equals", desc := "(Ljava/lang/Object;)Z" } : Jvm.MethodName) jdk_42_method_66_code (3 : Nat) (Option.some Jvm.ClassFile.FieldType.boolean)).before args0 about1 = true := code_word (m := ⟨7, 2⟩) (meth := k7m2) (c := k7c2) (by decide +kernel) rfl rfl rfl (by decide +kernel)
set_option maxRecDepth 65536 in
theorem w_c10 : (Jvm.Cond.code ({ cls := "java/lang/StringLatin1", name := "equals", desc := "([B[B)Z" } : Jvm.MethodName) jdk_43_method_13_code (3 : Nat) (Option.some Jvm.ClassFile.FieldType.boolean)).before args0 about1 = true := code_word (m := ⟨9, 2⟩) (meth := k9m2) (c := k9c2) (by decide +kernel) rfl rfl rfl (by decide +kernel)
set_option maxRecDepth 65536 in
theorem w_c11 : (Jvm.Cond.code ({ cls := "com/example/emendate/emendate/model/Capability", name := "byName", desc := "(Ljava/lang/String;)Ljava/util/Optional;" } : Jvm.MethodName) prog_7_method_4_code (5 : Nat) (Option.some (Jvm.ClassFile.FieldType.object "java/util/Optional"))).before args0 about1 = true := code_word (m := ⟨11, 1⟩) (meth := k11m1) (c := k11c1) (by decide +kernel) rfl rfl rfl (by decide +kernel)
set_option maxRecDepth 65536 in
theorem w_c12 : (Jvm.Cond.code ({ cls := "com/example/emendate/emendate/model/Capability", name := "values", desc := "()[Lcom/example/emendate/emendate/model/Capability;" } : Jvm.MethodName) prog_7_method_1_code (0 : Nat) (Option.some (Jvm.ClassFile.FieldType.array (Jvm.ClassFile.FieldType.object "com/example/emendate/emendate/model/Capability")))).before args0 about1 = true := code_word (m := ⟨11, 0⟩) (meth := k11m0) (c := k11c0) (by decide +kernel) rfl rfl rfl (by decide +kernel)
set_option maxRecDepth 65536 in
theorem w_c13 : (Jvm.Cond.code ({ cls := "java/util/Optional", name := "of", desc := "(Ljava/lang/Object;)Ljava/util/Optional;" } : Jvm.MethodName) jdk_32_method_3_code (1 : Nat) (Option.some (Jvm.ClassFile.FieldType.object "java/util/Optional"))).before args0 about1 = true := code_word (m := ⟨13, 2⟩) (meth := k13m2) (c := k13c2) (by decide +kernel) rfl rfl rfl (by decide +kernel)
set_option maxRecDepth 65536 in
theorem w_c14 : (Jvm.Cond.code ({ cls := "java/util/Objects", name := "requireNonNull", desc := "(Ljava/lang/Object;)Ljava/lang/Object;" } : Jvm.MethodName) jdk_31_method_10_code (1 : Nat) (Option.some (Jvm.ClassFile.FieldType.object "java/lang/Object"))).before args0 about1 = true := code_word (m := ⟨14, 1⟩) (meth := k14m1) (c := k14c1) (by decide +kernel) rfl rfl rfl (by decide +kernel)
set_option maxRecDepth 65536 in
theorem w_c15 : (Jvm.Cond.code ({ cls := "java/util/Optional", name := "<init>", desc := "(Ljava/lang/Object;)V" } : Jvm.MethodName) jdk_32_method_2_code (2 : Nat) (Option.none : Option Jvm.ClassFile.FieldType)).before args0 about1 = true := code_word (m := ⟨13, 1⟩) (meth := k13m1) (c := k13c1) (by decide +kernel) rfl rfl rfl (by decide +kernel)
set_option maxRecDepth 65536 in
theorem w_c16 : (Jvm.Cond.code ({ cls := "java/util/Optional", name := "isPresent", desc := "()Z" } : Jvm.MethodName) jdk_32_method_6_code (1 : Nat) (Option.some Jvm.ClassFile.FieldType.boolean)).before args0 about1 = true := code_word (m := ⟨13, 4⟩) (meth := k13m4) (c := k13c4) (by decide +kernel) rfl rfl rfl (by decide +kernel)
set_option maxRecDepth 65536 in
theorem w_c17 : (Jvm.Cond.code ({ cls := "java/util/Optional", name := "get", desc := "()Ljava/lang/Object;" } : Jvm.MethodName) jdk_32_method_5_code (1 : Nat) (Option.some (Jvm.ClassFile.FieldType.object "java/lang/Object"))).before args0 about1 = true := code_word (m := ⟨13, 3⟩) (meth := k13m3) (c := k13c3) (by decide +kernel) rfl rfl rfl (by decide +kernel)
set_option maxRecDepth 65536 in
theorem w_c18 : (Jvm.Cond.code ({ cls := "com/example/emendate/emendate/model/Capability", name := "capabilityName", desc := "()Ljava/lang/String;" } : Jvm.MethodName) prog_7_method_5_code (1 : Nat) (Option.some (Jvm.ClassFile.FieldType.object "java/lang/String"))).before args0 about1 = true := code_word (m := ⟨11, 2⟩) (meth := k11m2) (c := k11c2) (by decide +kernel) rfl rfl rfl (by decide +kernel)
set_option maxRecDepth 65536 in
theorem w_c19 : (Jvm.Cond.code ({ cls := "java/util/Optional", name := "empty", desc := "()Ljava/util/Optional;" } : Jvm.MethodName) jdk_32_method_1_code (1 : Nat) (Option.some (Jvm.ClassFile.FieldType.object "java/util/Optional"))).before args0 about1 = true := code_word (m := ⟨13, 0⟩) (meth := k13m0) (c := k13c0) (by decide +kernel) rfl rfl rfl (by decide +kernel)
set_option maxRecDepth 65536 in
theorem w_c20 : (Jvm.Cond.code ({ cls := "java/lang/String", name := "valueOf", desc := "(C)Ljava/lang/String;" } : Jvm.MethodName) jdk_42_method_139_code (1 : Nat) (Option.some (Jvm.ClassFile.FieldType.object "java/lang/String"))).before args0 about1 = true := code_word (m := ⟨7, 3⟩) (meth := k7m3) (c := k7c3) (by decide +kernel) rfl rfl rfl (by decide +kernel)
set_option maxRecDepth 65536 in
theorem w_c21 : (Jvm.Cond.code ({ cls := "java/lang/StringLatin1", name := "canEncode", desc := "(C)Z" } : Jvm.MethodName) jdk_43_method_3_code (1 : Nat) (Option.some Jvm.ClassFile.FieldType.boolean)).before args0 about1 = true := code_word (m := ⟨9, 1⟩) (meth := k9m1) (c := k9c1) (by decide +kernel) rfl rfl rfl (by decide +kernel)
set_option maxRecDepth 65536 in
theorem w_c22 : (Jvm.Cond.code ({ cls := "java/lang/StringLatin1", name := "toBytes", desc := "(C)[B" } : Jvm.MethodName) jdk_43_method_46_code (1 : Nat) (Option.some (Jvm.ClassFile.FieldType.array Jvm.ClassFile.FieldType.byte))).before args0 about1 = true := code_word (m := ⟨9, 3⟩) (meth := k9m3) (c := k9c3) (by decide +kernel) rfl rfl rfl (by decide +kernel)
set_option maxRecDepth 65536 in
theorem w_c23 : (Jvm.Cond.code ({ cls := "java/lang/String", name := "<init>", desc := "([BB)V" } : Jvm.MethodName) jdk_42_method_151_code (3 : Nat) (Option.none : Option Jvm.ClassFile.FieldType)).before args0 about1 = true := code_word (m := ⟨7, 5⟩) (meth := k7m5) (c := k7c5) (by decide +kernel) rfl rfl rfl (by decide +kernel)
def codes1 : List Jvm.Cond := [Jvm.Cond.code x code maxLocals ret, Jvm.Cond.code ({ cls := "com/example/emendate/emendate/model/CapabilityByNamePinLaw", name := "draw", desc := "(IIICC)Ljava/lang/String;" } : Jvm.MethodName) method_4_code (8 : Nat) (Option.some (Jvm.ClassFile.FieldType.object "java/lang/String")), Jvm.Cond.code ({ cls := "java/lang/String", name := "<init>", desc := "([C)V" } : Jvm.MethodName) jdk_42_method_3_code (2 : Nat) (Option.none : Option Jvm.ClassFile.FieldType), Jvm.Cond.code ({ cls := "java/lang/String", name := "<init>", desc := "([CIILjava/lang/Void;)V" } : Jvm.MethodName) jdk_42_method_149_code (6 : Nat) (Option.none : Option Jvm.ClassFile.FieldType), Jvm.Cond.code ({ cls := "java/lang/Object", name := "<init>", desc := "()V" } : Jvm.MethodName) object_method_1_code (1 : Nat) (Option.none : Option Jvm.ClassFile.FieldType), Jvm.Cond.code ({ cls := "java/lang/StringUTF16", name := "compress", desc := "([CII)[B" } : Jvm.MethodName) jdk_52_method_16_code (6 : Nat) (Option.some (Jvm.ClassFile.FieldType.array Jvm.ClassFile.FieldType.byte)), Jvm.Cond.code ({ cls := "java/lang/StringUTF16", name := "compress", desc := "([CI[BII)I" } : Jvm.MethodName) jdk_52_method_21_code (7 : Nat) (Option.some Jvm.ClassFile.FieldType.int), Jvm.Cond.code ({ cls := "java/lang/StringUTF16", name := "coderFromArrayLen", desc := "([BI)B" } : Jvm.MethodName) jdk_52_method_15_code (2 : Nat) (Option.some Jvm.ClassFile.FieldType.byte), Jvm.Cond.code ({ cls := "com/example/emendate/emendate/model/CapabilityByNamePinLaw", name := "reference", desc := "(Ljava/lang/String;)Lcom/example/emendate/emendate/model/Capability;" } : Jvm.MethodName) method_3_code (1 : Nat) (Option.some (Jvm.ClassFile.FieldType.object "com/example/emendate/emendate/model/Capability")), Jvm.Cond.code ({ cls := "java/lang/String", name := "equals", desc := "(Ljava/lang/Object;)Z" } : Jvm.MethodName) jdk_42_method_66_code (3 : Nat) (Option.some Jvm.ClassFile.FieldType.boolean), Jvm.Cond.code ({ cls := "java/lang/StringLatin1", name := "equals", desc := "([B[B)Z" } : Jvm.MethodName) jdk_43_method_13_code (3 : Nat) (Option.some Jvm.ClassFile.FieldType.boolean), Jvm.Cond.code ({ cls := "com/example/emendate/emendate/model/Capability", name := "byName", desc := "(Ljava/lang/String;)Ljava/util/Optional;" } : Jvm.MethodName) prog_7_method_4_code (5 : Nat) (Option.some (Jvm.ClassFile.FieldType.object "java/util/Optional")), Jvm.Cond.code ({ cls := "com/example/emendate/emendate/model/Capability", name := "values", desc := "()[Lcom/example/emendate/emendate/model/Capability;" } : Jvm.MethodName) prog_7_method_1_code (0 : Nat) (Option.some (Jvm.ClassFile.FieldType.array (Jvm.ClassFile.FieldType.object "com/example/emendate/emendate/model/Capability"))), Jvm.Cond.code ({ cls := "java/util/Optional", name := "of", desc := "(Ljava/lang/Object;)Ljava/util/Optional;" } : Jvm.MethodName) jdk_32_method_3_code (1 : Nat) (Option.some (Jvm.ClassFile.FieldType.object "java/util/Optional")), Jvm.Cond.code ({ cls := "java/util/Objects", name := "requireNonNull", desc := "(Ljava/lang/Object;)Ljava/lang/Object;" } : Jvm.MethodName) jdk_31_method_10_code (1 : Nat) (Option.some (Jvm.ClassFile.FieldType.object "java/lang/Object")), Jvm.Cond.code ({ cls := "java/util/Optional", name := "<init>", desc := "(Ljava/lang/Object;)V" } : Jvm.MethodName) jdk_32_method_2_code (2 : Nat) (Option.none : Option Jvm.ClassFile.FieldType), Jvm.Cond.code ({ cls := "java/util/Optional", name := "isPresent", desc := "()Z" } : Jvm.MethodName) jdk_32_method_6_code (1 : Nat) (Option.some Jvm.ClassFile.FieldType.boolean), Jvm.Cond.code ({ cls := "java/util/Optional", name := "get", desc := "()Ljava/lang/Object;" } : Jvm.MethodName) jdk_32_method_5_code (1 : Nat) (Option.some (Jvm.ClassFile.FieldType.object "java/lang/Object")), Jvm.Cond.code ({ cls := "com/example/emendate/emendate/model/Capability", name := "capabilityName", desc := "()Ljava/lang/String;" } : Jvm.MethodName) prog_7_method_5_code (1 : Nat) (Option.some (Jvm.ClassFile.FieldType.object "java/lang/String")), Jvm.Cond.code ({ cls := "java/util/Optional", name := "empty", desc := "()Ljava/util/Optional;" } : Jvm.MethodName) jdk_32_method_1_code (1 : Nat) (Option.some (Jvm.ClassFile.FieldType.object "java/util/Optional")), Jvm.Cond.code ({ cls := "java/lang/String", name := "valueOf", desc := "(C)Ljava/lang/String;" } : Jvm.MethodName) jdk_42_method_139_code (1 : Nat) (Option.some (Jvm.ClassFile.FieldType.object "java/lang/String")), Jvm.Cond.code ({ cls := "java/lang/StringLatin1", name := "canEncode", desc := "(C)Z" } : Jvm.MethodName) jdk_43_method_3_code (1 : Nat) (Option.some Jvm.ClassFile.FieldType.boolean), Jvm.Cond.code ({ cls := "java/lang/StringLatin1", name := "toBytes", desc := "(C)[B" } : Jvm.MethodName) jdk_43_method_46_code (1 : Nat) (Option.some (Jvm.ClassFile.FieldType.array Jvm.ClassFile.FieldType.byte)), Jvm.Cond.code ({ cls := "java/lang/String", name := "<init>", desc := "([BB)V" } : Jvm.MethodName) jdk_42_method_151_code (3 : Nat) (Option.none : Option Jvm.ClassFile.FieldType)]
set_option maxRecDepth 65536 in
theorem codes_eq : words1.filter isCode = codes1 := rfl
theorem w_codes : ∀ c ∈ words1.filter isCode, c.before args0 about1 = true := by
  rw [codes_eq]
  intro c hc
  simp only [codes1, List.mem_cons, List.not_mem_nil, or_false] at hc
  rcases hc with rfl | rfl | rfl | rfl | rfl | rfl | rfl | rfl | rfl | rfl | rfl | rfl | rfl | rfl | rfl | rfl | rfl | rfl | rfl | rfl | rfl | rfl | rfl | rfl
  · exact w_c0
  · exact w_c1
  · exact w_c2
  · exact w_c3
  · exact w_c4
  · exact w_c5
  · exact w_c6
  · exact w_c7
  · exact w_c8
  · exact w_c9
  · exact w_c10
  · exact w_c11
  · exact w_c12
  · exact w_c13
  · exact w_c14
  · exact w_c15
  · exact w_c16
  · exact w_c17
  · exact w_c18
  · exact w_c19
  · exact w_c20
  · exact w_c21
  · exact w_c22
  · exact w_c23
set_option maxRecDepth 65536 in
theorem w_t1 : (words1.take 24).all (fun c => isCode c || c.before args0 about1) = true := by decide +kernel
set_option maxRecDepth 65536 in
theorem w_t2 : ((words1.drop 24).take 24).all (fun c => isCode c || c.before args0 about1) = true := by decide +kernel
set_option maxRecDepth 65536 in
theorem w_t3 : (((words1.drop 24).drop 24).take 24).all (fun c => isCode c || c.before args0 about1) = true := by decide +kernel
set_option maxRecDepth 65536 in
theorem w_t4 : ((((words1.drop 24).drop 24).drop 24).take 24).all (fun c => isCode c || c.before args0 about1) = true := by decide +kernel
set_option maxRecDepth 65536 in
theorem w_t5 : (((((words1.drop 24).drop 24).drop 24).drop 24).take 24).all (fun c => isCode c || c.before args0 about1) = true := by decide +kernel
set_option maxRecDepth 65536 in
theorem w_t6 : (((((words1.drop 24).drop 24).drop 24).drop 24).drop 24).all (fun c => isCode c || c.before args0 about1) = true := by decide +kernel
theorem w_tables : (allAtoms (Jvm.Cond.code x code maxLocals ret :: tables_1)).before args0 about1 = true := by
  rw [allAtoms_all]
  show words1.all (fun c => c.before args0 about1) = true
  refine all_split ?_ w_codes
  rw [← List.take_append_drop 24 words1, List.all_append, w_t1, ← List.take_append_drop 24 (words1.drop 24), List.all_append, w_t2, ← List.take_append_drop 24 ((words1.drop 24).drop 24), List.all_append, w_t3, ← List.take_append_drop 24 (((words1.drop 24).drop 24).drop 24), List.all_append, w_t4, ← List.take_append_drop 24 ((((words1.drop 24).drop 24).drop 24).drop 24), List.all_append, w_t5, w_t6]
  rfl
set_option maxRecDepth 65536 in
theorem w_rest : rest_1_c.before args0 about1 = true := by decide +kernel
set_option maxRecDepth 65536 in
theorem w_case : (Jvm.Cond.and given_1 narrow_1).before args0 about1 = true := by decide +kernel
set_option maxRecDepth 65536 in
theorem w_consts : constsHeld consts_1 about1 := Jvm.Lit.constsHeldB_iff.mp (by decide +kernel)
theorem w_applies : (headSpec (Jvm.Cond.code x code maxLocals ret :: tables_1) room_1).applies x e0.platform about1 = true :=
  (Spec.applies_iff w_frames).mpr ⟨w_running, w_runnable, w_alone, w_named, w_hears, w_ripe, w_room, w_tables⟩
theorem atStart : AtStart classFile x code maxLocals ret World_1 tables_1 room_1 Calls_1 rest_1 Pre_1 launch0 p0 e0 about1 theMethod args0 below0 :=
  ⟨lists_1, trivial, launch0.admits_env _ _ _, launch0.least_env, fairChoices_fair.cas, fairChoices_fair.clock, w_frames, w_args, w_heap, w_applies, ⟨w_consts, trivial⟩, w_rest, w_case⟩
end start1
theorem witness_1 : WitnessClaimed_1 := ⟨start1.p0, start1.e0, start1.about1, start1.theMethod, start1.args0, start1.below0, start1.atStart⟩
end Jvm.Pilot.@@N@@
