import JvmDerived
import JvmDerived.Pilot.@@N@@Statement
import JvmDerived.Pilot.@@N@@Code
set_option linter.unusedVariables false
set_option linter.unusedSimpArgs false
/-! OWN FRAMEWORK, part 1: a walk as one predicate 'Go' (the machine's state hidden), contracts 'Met'. -/
namespace Jvm.Pilot.@@N@@
namespace Own
open Jvm Jvm.ClassFile Sem Op Lib Jvm.Free Jvm.Stand Jvm.LawKit Jvm.RoadKit
/-- what one run of a body fixes: program, env, start, method id, arguments, frames below, method, code -/
abbrev Cx := Program × Env × State × MethodId × Array Value × List Frame × Method × Code
abbrev QT := Option Value → Heap → List Addr → Prop
/-- the words of the sheet, of the start Z -/
def Wd (Z : State) (a0 : Array Value) : Prop := (∀ d ∈ tables_1, d.before a0 Z = true) ∧ EW Z a0 consts_1 ∧ (∀ a ∈ Bundle.stringAtoms, a.before a0 Z = true) ∧ (∃ cz : Int32, Sta Z Z.heap "java/lang/String" "COMPACT_STRINGS" "Z" (.int cz) ∧ ¬ cz = 0) ∧ (∃ fm : Value, Sta Z Z.heap "jdk/internal/util/Preconditions" "SIOOBE_FORMATTER" "Ljava/util/function/BiFunction;" fm ∧ fm.isRef = true) ∧ (∀ d ∈ jdkStatics_1, d.before a0 Z = true)
/-- made since the law began, and no cell of a booked literal -/
def Mine (Z : State) (vm : Vm) (h : Heap) (x : Addr) : Prop := Z.heap.size ≤ x ∧ x < h.size ∧ Safe Z consts_1 vm h x
def St (l : Launch) (Z : State) (K : Cx) (own mn : String) (b : ByteArray) (ml : Nat) (rt : Option FieldType) (R : Room) (T : State) (h : Heap) (F : List Addr) (c s : Nat) : Prop :=
  ∃ (vm : Vm) (k : Nat) (locs : List Loc), Stand K.1 l K.2.1 R (K.2.2.1.setVm vm) K.2.2.2.1 K.2.2.2.2.1 K.2.2.2.2.2.1 K.2.2.2.2.2.2.1 K.2.2.2.2.2.2.2 T locs c s ∧ T.heap = h ∧
    K.2.2.1.Since vm k ∧ k ≤ h.size ∧ Z.Warmed39 vm ∧ vm.findClass own = some K.2.2.2.1.cls ∧ Fr Z.heap.size locs ∧ CHr Z consts_1 K.2.2.1.vm K.2.2.1.heap vm h ∧ (∀ x ∈ F, Mine Z vm h x) ∧ Old Z Z.heap.size h ∧
    K.1.tables.exec = Jvm.exec ∧ K.2.2.2.2.2.2.2.code = b ∧ K.2.2.2.2.2.2.2.maxLocals = ml ∧ K.2.2.2.2.2.2.1.sig.returnType = rt ∧ K.2.2.2.2.2.2.1.name = mn ∧ K.2.2.2.2.2.2.1.locks = false
def End (Z : State) (s : State) (R : Room) (Q : QT) (o : Outcome) (U : State) : Prop :=
  ∃ v L G, o = .returned v ∧ Q v U.heap G ∧ Fr Z.heap.size L ∧ (∀ x ∈ G, Mine Z U.vm U.heap x) ∧ CHr Z consts_1 s.vm s.heap U.vm U.heap ∧ Old Z Z.heap.size U.heap ∧ ReturnedEndW s o U L R.cells R.slots
def Go (l : Launch) (Z : State) (K : Cx) (own mn : String) (b : ByteArray) (ml : Nat) (rt : Option FieldType) (R : Room) (Q : QT) (h : Heap) (F : List Addr) (c s : Nat) (pc : Nat) (L : Array Slot) (S : List Value) : Prop :=
  ∀ T, St l Z K own mn b ml rt R T h F c s → ∃ s₂ o, Steps K.1.tables K.2.1 K.2.2.2.2.2.1 (T.setTop (mkF K.2.2.2.1 pc L S)) s₂ ∧ s₂.status = .running ∧ Ended s₂ K.2.2.2.2.2.1 o ∧ End Z K.2.2.1 R Q o s₂
/-- a body's contract -/
def Met (l : Launch) (Z : State) (y : MethodName) (b : ByteArray) (ml : Nat) (rt : Option FieldType) (R : Room) (h0 : Heap) (F : List Addr) (as : Array Value) (Q : QT) : Prop :=
  MetFree l y (head1 [Cond.code y b ml rt] R) (fun a U => a = as ∧ Z.Warmed39 U.vm ∧ U.heap = h0 ∧ CHv Z consts_1 U.vm h0 ∧ (∀ x ∈ F, Mine Z U.vm h0 x) ∧ Old Z Z.heap.size h0) (fun _ _ _ _ _ => True) (fun _ U o U' => End Z U R Q o U')
section G
variable {l : Launch} {Z : State} {a0 : Array Value} {K : Cx} {own mn : String} {b : ByteArray} {ml : Nat} {rt : Option FieldType} {R : Room} {Q : QT} {h h' : Heap} {F : List Addr} {c s pc q : Nat} {L L' : Array Slot} {S S' : List Value}
theorem Met.mk {y : MethodName} {as : Array Value} (hp : plainFor y = true) (he : ∀ m, entryFrame m as ml = mkF m 0 L []) (w : ∀ K, Go l Z K y.cls y.name b ml rt R Q h F 0 0 0 L []) : Met l Z y b ml rt R h F as Q := by
  refine MetFree.of_bodySF hp hisR ?_
  intro p e s m args below meth c s₁ Bd hml hP hK
  obtain ⟨rfl, hZ, hh, hC, hF, hO⟩ := hP
  have hst : s₁.heap = h := by rw [← hh, Bd.state]; rfl
  have X0 : Stand p l e R s m args below meth c s₁ [] 0 0 := Stand.of_body Bd
  obtain ⟨s₂, o, h1, h2, h3, h4⟩ := w (p, e, s, m, args, below, meth, c) s₁ ⟨s.vm, 0, [], X0, hst, ⟨State.Warmed39.refl _, (State.WarmedH.refl s).no_new_pair _⟩, Nat.zero_le _, hZ, findClass_of_methodNamed Bd.named, Fr.nil _, by
    show CHr Z consts_1 s.vm s.heap s.vm h
    rw [hh]; exact CHr.refl hC, hF, hO, Bd.exec, Bd.bytes, hml, Bd.returns, (name_of_methodNamed Bd.named Bd.method).1, Bd.notSynchronized⟩
  exact ⟨s₂, o, by rw [he]; exact h1, h2, h3, h4⟩
/-- the law's own contract, over the sheet's words -/
def MetL (l : Launch) (Z : State) (y : MethodName) (b : ByteArray) (ml : Nat) (rt : Option FieldType) (R : Room) (h0 : Heap) (F : List Addr) (as : Array Value) (Q : QT) : Prop :=
  MetFree l y (head1 (Cond.code y b ml rt :: tables_1) R) (fun a U => a = as ∧ Z.Warmed39 U.vm ∧ U.heap = h0 ∧ CHv Z consts_1 U.vm h0 ∧ (∀ x ∈ F, Mine Z U.vm h0 x) ∧ Old Z Z.heap.size h0) (fun _ _ _ _ _ => True) (fun _ U o U' => End Z U R Q o U')
theorem MetL.mk {y : MethodName} {as : Array Value} (hp : plainFor y = true) (he : ∀ m, entryFrame m as ml = mkF m 0 L []) (w : ∀ K, Go l Z K y.cls y.name b ml rt R Q h F 0 0 0 L []) : MetL l Z y b ml rt R h F as Q := by
  refine MetFree.of_bodySF hp hisR ?_
  intro p e s m args below meth c s₁ Bd hml hP hK
  obtain ⟨rfl, hZ, hh, hC, hF, hO⟩ := hP
  have hst : s₁.heap = h := by rw [← hh, Bd.state]; rfl
  have X0 : Stand p l e R s m args below meth c s₁ [] 0 0 := Stand.of_body Bd
  obtain ⟨s₂, o, h1, h2, h3, h4⟩ := w (p, e, s, m, args, below, meth, c) s₁ ⟨s.vm, 0, [], X0, hst, ⟨State.Warmed39.refl _, (State.WarmedH.refl s).no_new_pair _⟩, Nat.zero_le _, hZ, findClass_of_methodNamed Bd.named, Fr.nil _, by
    show CHr Z consts_1 s.vm s.heap s.vm h
    rw [hh]; exact CHr.refl hC, hF, hO, Bd.exec, Bd.bytes, hml, Bd.returns, (name_of_methodNamed Bd.named Bd.method).1, Bd.notSynchronized⟩
  exact ⟨s₂, o, by rw [he]; exact h1, h2, h3, h4⟩
theorem go_of (st : ∀ T, St l Z K own mn b ml rt R T h F c s → ∀ t, Steps K.1.tables K.2.1 K.2.2.2.2.2.1 (T.setTop (mkF K.2.2.2.1 q L' S')) t → Steps K.1.tables K.2.1 K.2.2.2.2.2.1 (T.setTop (mkF K.2.2.2.1 pc L S)) t)
    (n : Go l Z K own mn b ml rt R Q h F c s q L' S') : Go l Z K own mn b ml rt R Q h F c s pc L S := fun T X => by
  obtain ⟨s₂, o, a, r⟩ := n T X
  exact ⟨s₂, o, st T X _ a, r⟩
/-- the facts at hand may be fewer; the counts higher -/
theorem go_less {F' : List Addr} {c' s' : Nat} (hF : ∀ x ∈ F', x ∈ F) (hc : c ≤ c') (hs : s ≤ s') (n : Go l Z K own mn b ml rt R Q h F' c' s' pc L S) : Go l Z K own mn b ml rt R Q h F c s pc L S := fun T X => by
  obtain ⟨vm, k, locs, Y, r1, r2, r3, r4, r5, r6, r7, r8, r9⟩ := X
  exact n T ⟨vm, k, locs, Y.mono hc hs, r1, r2, r3, r4, r5, r6, r7, fun x hx => r8 x (hF x hx), r9⟩
/-- an object of a class of its own, made since the law began, may be written -/
theorem go_claim {x : Addr} {C : String} (E : Exa Z h x C) (hC : C ≠ "java/lang/String" ∧ C ≠ "[B") (hx : Z.heap.size ≤ x) (n : Go l Z K own mn b ml rt R Q h (x :: F) c s pc L S) : Go l Z K own mn b ml rt R Q h F c s pc L S := fun T X => by
  obtain ⟨vm, k, locs, Y, r1, r2, r3, r4, r5, r6, r7, r8, r9⟩ := X
  exact n T ⟨vm, k, locs, Y, r1, r2, r3, r4, r5, r6, r7, allS ⟨hx, E.lt, Safe.exa r4.alike E hC.1 hC.2⟩ r8, r9⟩
theorem go_claimA {x : Addr} {k : ClassId} {ty : FieldType} {z : Int32} {vs : List Value} {dv : Value} (E : Arv Z h x k ty z vs dv) (hC : ty ≠ .byte) (hx : Z.heap.size ≤ x) (n : Go l Z K own mn b ml rt R Q h (x :: F) c s pc L S) : Go l Z K own mn b ml rt R Q h F c s pc L S := fun T X => by
  obtain ⟨vm, k, locs, Y, r1, r2, r3, r4, r5, r6, r7, r8, r9⟩ := X
  obtain ⟨cl, A, -⟩ := id E
  exact n T ⟨vm, k, locs, Y, r1, r2, r3, r4, r5, r6, r7, allS ⟨hx, E.lt, Safe.arr r4.alike A hC⟩ r8, r9⟩
/-- what is mine lies in the heap and above the start -/
theorem go_mine (n : (∀ x ∈ F, Z.heap.size ≤ x ∧ x < h.size) → Old Z Z.heap.size h → Go l Z K own mn b ml rt R Q h F c s pc L S) : Go l Z K own mn b ml rt R Q h F c s pc L S := fun T X => by
  obtain ⟨vm, k, locs, Y, r1, r2, r3, r4, r5, r6, r7, r8, r9⟩ := id X
  exact n (fun x hx => ⟨(r8 x hx).1, (r8 x hx).2.1⟩) r9.1 T X
/-! ### the plain steps -/
theorem go_aloadN {k : Fin 4} {v : Value} (hd : decode b pc = .ok (.aload_n k, 1)) (hl : L[k.val]? = some (.val v)) (hv : v.isRef = true) (hq : pc + 1 = q) (n : Go l Z K own mn b ml rt R Q h F c s q L (v :: S)) : Go l Z K own mn b ml rt R Q h F c s pc L S := by
  subst hq; exact go_of (fun T X t st => by obtain ⟨vm, k, locs, Y, r1, r2, r3, r4, r5, r6, r7, r8, r9, hx, hb', r⟩ := X; exact XS.aloadN Y.here hx rfl (hb hb' hd) hl hv st) n
theorem go_aload {k : Nat} {v : Value} (hd : decode b pc = .ok (.aload k, 2)) (hl : L[k]? = some (.val v)) (hv : v.isRef = true) (hq : pc + 2 = q) (n : Go l Z K own mn b ml rt R Q h F c s q L (v :: S)) : Go l Z K own mn b ml rt R Q h F c s pc L S := by
  subst hq; exact go_of (fun T X t st => by obtain ⟨vm, k, locs, Y, r1, r2, r3, r4, r5, r6, r7, r8, r9, hx, hb', r⟩ := X; exact XS.aload Y.here hx rfl (hb hb' hd) hl hv st) n
theorem go_iloadN {k : Fin 4} {v : Int32} (hd : decode b pc = .ok (.iload_n k, 1)) (hl : L[k.val]? = some (.val (.int v))) (hq : pc + 1 = q) (n : Go l Z K own mn b ml rt R Q h F c s q L (.int v :: S)) : Go l Z K own mn b ml rt R Q h F c s pc L S := by
  subst hq; exact go_of (fun T X t st => by obtain ⟨vm, k, locs, Y, r1, r2, r3, r4, r5, r6, r7, r8, r9, hx, hb', r⟩ := X; exact XS.iloadN Y.here hx rfl (hb hb' hd) hl st) n
theorem go_iload {k : Nat} {v : Int32} (hd : decode b pc = .ok (.iload k, 2)) (hl : L[k]? = some (.val (.int v))) (hq : pc + 2 = q) (n : Go l Z K own mn b ml rt R Q h F c s q L (.int v :: S)) : Go l Z K own mn b ml rt R Q h F c s pc L S := by
  subst hq; exact go_of (fun T X t st => by obtain ⟨vm, k, locs, Y, r1, r2, r3, r4, r5, r6, r7, r8, r9, hx, hb', r⟩ := X; exact XS.iload Y.here hx rfl (hb hb' hd) hl st) n
theorem go_lloadN {k : Fin 4} {v : Int64} (hd : decode b pc = .ok (.lload_n k, 1)) (hl : L[k.val]? = some (.val (.long v))) (hq : pc + 1 = q) (n : Go l Z K own mn b ml rt R Q h F c s q L (.long v :: S)) : Go l Z K own mn b ml rt R Q h F c s pc L S := by
  subst hq; exact go_of (fun T X t st => by obtain ⟨vm, k, locs, Y, r1, r2, r3, r4, r5, r6, r7, r8, r9, hx, hb', r⟩ := X; exact XS.lloadN Y.here hx rfl (hb hb' hd) hl st) n
theorem go_lload {k : Nat} {v : Int64} (hd : decode b pc = .ok (.lload k, 2)) (hl : L[k]? = some (.val (.long v))) (hq : pc + 2 = q) (n : Go l Z K own mn b ml rt R Q h F c s q L (.long v :: S)) : Go l Z K own mn b ml rt R Q h F c s pc L S := by
  subst hq; exact go_of (fun T X t st => by obtain ⟨vm, k, locs, Y, r1, r2, r3, r4, r5, r6, r7, r8, r9, hx, hb', r⟩ := X; exact XS.lload Y.here hx rfl (hb hb' hd) hl st) n
theorem go_iconst {i : Int} {x : Int32} (hd : decode b pc = .ok (.iconst i, 1)) (hv : Int32.ofInt i = x) (hq : pc + 1 = q) (n : Go l Z K own mn b ml rt R Q h F c s q L (.int x :: S)) : Go l Z K own mn b ml rt R Q h F c s pc L S := by
  subst hq hv; exact go_of (fun T X t st => by obtain ⟨vm, k, locs, Y, r1, r2, r3, r4, r5, r6, r7, r8, r9, hx, hb', r⟩ := X; exact XS.iconst Y.here hx rfl (hb hb' hd) st) n
theorem go_bipush {i : Int} {x : Int32} (hd : decode b pc = .ok (.bipush i, 2)) (hv : (Int8.ofInt i).toInt32 = x) (hq : pc + 2 = q) (n : Go l Z K own mn b ml rt R Q h F c s q L (.int x :: S)) : Go l Z K own mn b ml rt R Q h F c s pc L S := by
  subst hq hv; exact go_of (fun T X t st => by obtain ⟨vm, k, locs, Y, r1, r2, r3, r4, r5, r6, r7, r8, r9, hx, hb', r⟩ := X; exact XS.bipush Y.here hx rfl (hb hb' hd) st) n
theorem go_sipush {i : Int} {x : Int32} (hd : decode b pc = .ok (.sipush i, 3)) (hv : (Int16.ofInt i).toInt32 = x) (hq : pc + 3 = q) (n : Go l Z K own mn b ml rt R Q h F c s q L (.int x :: S)) : Go l Z K own mn b ml rt R Q h F c s pc L S := by
  subst hq hv; exact go_of (fun T X t st => by obtain ⟨vm, k, locs, Y, r1, r2, r3, r4, r5, r6, r7, r8, r9, hx, hb', r⟩ := X; exact XS.sipush Y.here hx rfl (hb hb' hd) st) n
theorem go_lconst {k : Fin 2} {x : Int64} (hd : decode b pc = .ok (.lconst k, 1)) (hv : Int64.ofNat k = x) (hq : pc + 1 = q) (n : Go l Z K own mn b ml rt R Q h F c s q L (.long x :: S)) : Go l Z K own mn b ml rt R Q h F c s pc L S := by
  subst hq hv; exact go_of (fun T X t st => by obtain ⟨vm, k, locs, Y, r1, r2, r3, r4, r5, r6, r7, r8, r9, hx, hb', r⟩ := X; exact XS.lconst Y.here hx rfl (hb hb' hd) st) n
theorem go_null (hd : decode b pc = .ok (.aconst_null, 1)) (hq : pc + 1 = q) (n : Go l Z K own mn b ml rt R Q h F c s q L (.null :: S)) : Go l Z K own mn b ml rt R Q h F c s pc L S := by
  subst hq; exact go_of (fun T X t st => by obtain ⟨vm, k, locs, Y, r1, r2, r3, r4, r5, r6, r7, r8, r9, hx, hb', r⟩ := X; exact XS.aconstNull Y.here hx rfl (hb hb' hd) st) n
theorem go_iadd {x : Int32} {y : Int32} {r : Int32} (hd : decode b pc = .ok (.iadd, 1)) (hr : x + y = r) (hq : pc + 1 = q) (n : Go l Z K own mn b ml rt R Q h F c s q L (.int r :: S)) : Go l Z K own mn b ml rt R Q h F c s pc L (.int y :: .int x :: S) := by
  subst hq hr; exact go_of (fun T X t st => by obtain ⟨vm, k, locs, Y, r1, r2, r3, r4, r5, r6, r7, r8, r9, hx, hb', rr⟩ := X; exact XS.iadd Y.here hx rfl (hb hb' hd) rfl st) n
theorem go_isub {x : Int32} {y : Int32} {r : Int32} (hd : decode b pc = .ok (.isub, 1)) (hr : x - y = r) (hq : pc + 1 = q) (n : Go l Z K own mn b ml rt R Q h F c s q L (.int r :: S)) : Go l Z K own mn b ml rt R Q h F c s pc L (.int y :: .int x :: S) := by
  subst hq hr; exact go_of (fun T X t st => by obtain ⟨vm, k, locs, Y, r1, r2, r3, r4, r5, r6, r7, r8, r9, hx, hb', rr⟩ := X; exact XS.isub Y.here hx rfl (hb hb' hd) rfl st) n
theorem go_iand {x : Int32} {y : Int32} {r : Int32} (hd : decode b pc = .ok (.iand, 1)) (hr : x &&& y = r) (hq : pc + 1 = q) (n : Go l Z K own mn b ml rt R Q h F c s q L (.int r :: S)) : Go l Z K own mn b ml rt R Q h F c s pc L (.int y :: .int x :: S) := by
  subst hq hr; exact go_of (fun T X t st => by obtain ⟨vm, k, locs, Y, r1, r2, r3, r4, r5, r6, r7, r8, r9, hx, hb', rr⟩ := X; exact XS.iand Y.here hx rfl (hb hb' hd) rfl st) n
theorem go_imul {x : Int32} {y : Int32} {r : Int32} (hd : decode b pc = .ok (.imul, 1)) (hr : x * y = r) (hq : pc + 1 = q) (n : Go l Z K own mn b ml rt R Q h F c s q L (.int r :: S)) : Go l Z K own mn b ml rt R Q h F c s pc L (.int y :: .int x :: S) := by
  subst hq hr; exact go_of (fun T X t st => by obtain ⟨vm, k, locs, Y, r1, r2, r3, r4, r5, r6, r7, r8, r9, hx, hb', rr⟩ := X; exact XS.imul Y.here hx rfl (hb hb' hd) rfl st) n
theorem go_ixor {x : Int32} {y : Int32} {r : Int32} (hd : decode b pc = .ok (.ixor, 1)) (hr : x ^^^ y = r) (hq : pc + 1 = q) (n : Go l Z K own mn b ml rt R Q h F c s q L (.int r :: S)) : Go l Z K own mn b ml rt R Q h F c s pc L (.int y :: .int x :: S) := by
  subst hq hr; exact go_of (fun T X t st => by obtain ⟨vm, k, locs, Y, r1, r2, r3, r4, r5, r6, r7, r8, r9, hx, hb', rr⟩ := X; exact XT.ixor Y.here hx rfl (hb hb' hd) rfl st) n
theorem go_ior {x : Int32} {y : Int32} {r : Int32} (hd : decode b pc = .ok (.ior, 1)) (hr : x ||| y = r) (hq : pc + 1 = q) (n : Go l Z K own mn b ml rt R Q h F c s q L (.int r :: S)) : Go l Z K own mn b ml rt R Q h F c s pc L (.int y :: .int x :: S) := by
  subst hq hr; exact go_of (fun T X t st => by obtain ⟨vm, k, locs, Y, r1, r2, r3, r4, r5, r6, r7, r8, r9, hx, hb', rr⟩ := X; exact XT.ior Y.here hx rfl (hb hb' hd) rfl st) n
theorem go_ishl {x : Int32} {y : Int32} {r : Int32} (hd : decode b pc = .ok (.ishl, 1)) (hr : x <<< (y &&& 31) = r) (hq : pc + 1 = q) (n : Go l Z K own mn b ml rt R Q h F c s q L (.int r :: S)) : Go l Z K own mn b ml rt R Q h F c s pc L (.int y :: .int x :: S) := by
  subst hq hr; exact go_of (fun T X t st => by obtain ⟨vm, k, locs, Y, r1, r2, r3, r4, r5, r6, r7, r8, r9, hx, hb', rr⟩ := X; exact XT.ishl Y.here hx rfl (hb hb' hd) rfl st) n
theorem go_ishr {x : Int32} {y : Int32} {r : Int32} (hd : decode b pc = .ok (.ishr, 1)) (hr : x >>> (y &&& 31) = r) (hq : pc + 1 = q) (n : Go l Z K own mn b ml rt R Q h F c s q L (.int r :: S)) : Go l Z K own mn b ml rt R Q h F c s pc L (.int y :: .int x :: S) := by
  subst hq hr; exact go_of (fun T X t st => by obtain ⟨vm, k, locs, Y, r1, r2, r3, r4, r5, r6, r7, r8, r9, hx, hb', rr⟩ := X; exact XT.ishr Y.here hx rfl (hb hb' hd) rfl st) n
theorem go_iushr {x : Int32} {y : Int32} {r : Int32} (hd : decode b pc = .ok (.iushr, 1)) (hr : XT.ushr x y = r) (hq : pc + 1 = q) (n : Go l Z K own mn b ml rt R Q h F c s q L (.int r :: S)) : Go l Z K own mn b ml rt R Q h F c s pc L (.int y :: .int x :: S) := by
  subst hq hr; exact go_of (fun T X t st => by obtain ⟨vm, k, locs, Y, r1, r2, r3, r4, r5, r6, r7, r8, r9, hx, hb', rr⟩ := X; exact XT.iushr Y.here hx rfl (hb hb' hd) rfl st) n
theorem go_idiv {x : Int32} {y : Int32} {r : Int32} (hd : decode b pc = .ok (.idiv, 1)) (hy : y ≠ 0) (hr : x / y = r) (hq : pc + 1 = q) (n : Go l Z K own mn b ml rt R Q h F c s q L (.int r :: S)) : Go l Z K own mn b ml rt R Q h F c s pc L (.int y :: .int x :: S) := by
  subst hq hr; exact go_of (fun T X t st => by obtain ⟨vm, k, locs, Y, r1, r2, r3, r4, r5, r6, r7, r8, r9, hx, hb', rr⟩ := X; exact XS.idiv Y.here hx rfl (hb hb' hd) rfl hy st) n
theorem go_irem0 {x : Int32} {y : Int32} {r : Int32} (hd : decode b pc = .ok (.irem, 1)) (hy : y ≠ 0) (hr : x - (x / y) * y = r) (hq : pc + 1 = q) (n : Go l Z K own mn b ml rt R Q h F c s q L (.int r :: S)) : Go l Z K own mn b ml rt R Q h F c s pc L (.int y :: .int x :: S) := by
  subst hq hr; exact go_of (fun T X t st => by obtain ⟨vm, k, locs, Y, r1, r2, r3, r4, r5, r6, r7, r8, r9, hx, hb', rr⟩ := X; exact XS.irem Y.here hx rfl (hb hb' hd) rfl hy st) n
theorem go_ladd {x : Int64} {y : Int64} {r : Int64} (hd : decode b pc = .ok (.ladd, 1)) (hr : x + y = r) (hq : pc + 1 = q) (n : Go l Z K own mn b ml rt R Q h F c s q L (.long r :: S)) : Go l Z K own mn b ml rt R Q h F c s pc L (.long y :: .long x :: S) := by
  subst hq hr; exact go_of (fun T X t st => by obtain ⟨vm, k, locs, Y, r1, r2, r3, r4, r5, r6, r7, r8, r9, hx, hb', rr⟩ := X; exact XT.ladd Y.here hx rfl (hb hb' hd) rfl st) n
theorem go_lsub {x : Int64} {y : Int64} {r : Int64} (hd : decode b pc = .ok (.lsub, 1)) (hr : x - y = r) (hq : pc + 1 = q) (n : Go l Z K own mn b ml rt R Q h F c s q L (.long r :: S)) : Go l Z K own mn b ml rt R Q h F c s pc L (.long y :: .long x :: S) := by
  subst hq hr; exact go_of (fun T X t st => by obtain ⟨vm, k, locs, Y, r1, r2, r3, r4, r5, r6, r7, r8, r9, hx, hb', rr⟩ := X; exact XT.lsub Y.here hx rfl (hb hb' hd) rfl st) n
theorem go_lmul {x : Int64} {y : Int64} {r : Int64} (hd : decode b pc = .ok (.lmul, 1)) (hr : x * y = r) (hq : pc + 1 = q) (n : Go l Z K own mn b ml rt R Q h F c s q L (.long r :: S)) : Go l Z K own mn b ml rt R Q h F c s pc L (.long y :: .long x :: S) := by
  subst hq hr; exact go_of (fun T X t st => by obtain ⟨vm, k, locs, Y, r1, r2, r3, r4, r5, r6, r7, r8, r9, hx, hb', rr⟩ := X; exact XT.lmul Y.here hx rfl (hb hb' hd) rfl st) n
theorem go_land {x : Int64} {y : Int64} {r : Int64} (hd : decode b pc = .ok (.land, 1)) (hr : x &&& y = r) (hq : pc + 1 = q) (n : Go l Z K own mn b ml rt R Q h F c s q L (.long r :: S)) : Go l Z K own mn b ml rt R Q h F c s pc L (.long y :: .long x :: S) := by
  subst hq hr; exact go_of (fun T X t st => by obtain ⟨vm, k, locs, Y, r1, r2, r3, r4, r5, r6, r7, r8, r9, hx, hb', rr⟩ := X; exact XT.land Y.here hx rfl (hb hb' hd) rfl st) n
theorem go_lor {x : Int64} {y : Int64} {r : Int64} (hd : decode b pc = .ok (.lor, 1)) (hr : x ||| y = r) (hq : pc + 1 = q) (n : Go l Z K own mn b ml rt R Q h F c s q L (.long r :: S)) : Go l Z K own mn b ml rt R Q h F c s pc L (.long y :: .long x :: S) := by
  subst hq hr; exact go_of (fun T X t st => by obtain ⟨vm, k, locs, Y, r1, r2, r3, r4, r5, r6, r7, r8, r9, hx, hb', rr⟩ := X; exact XT.lor Y.here hx rfl (hb hb' hd) rfl st) n
theorem go_lxor {x : Int64} {y : Int64} {r : Int64} (hd : decode b pc = .ok (.lxor, 1)) (hr : x ^^^ y = r) (hq : pc + 1 = q) (n : Go l Z K own mn b ml rt R Q h F c s q L (.long r :: S)) : Go l Z K own mn b ml rt R Q h F c s pc L (.long y :: .long x :: S) := by
  subst hq hr; exact go_of (fun T X t st => by obtain ⟨vm, k, locs, Y, r1, r2, r3, r4, r5, r6, r7, r8, r9, hx, hb', rr⟩ := X; exact XT.lxor Y.here hx rfl (hb hb' hd) rfl st) n
theorem go_ldiv {x : Int64} {y : Int64} {r : Int64} (hd : decode b pc = .ok (.ldiv, 1)) (hy : y ≠ 0) (hr : x / y = r) (hq : pc + 1 = q) (n : Go l Z K own mn b ml rt R Q h F c s q L (.long r :: S)) : Go l Z K own mn b ml rt R Q h F c s pc L (.long y :: .long x :: S) := by
  subst hq hr; exact go_of (fun T X t st => by obtain ⟨vm, k, locs, Y, r1, r2, r3, r4, r5, r6, r7, r8, r9, hx, hb', rr⟩ := X; exact XT.ldiv Y.here hx rfl (hb hb' hd) rfl hy st) n
theorem go_lrem0 {x : Int64} {y : Int64} {r : Int64} (hd : decode b pc = .ok (.lrem, 1)) (hy : y ≠ 0) (hr : x - (x / y) * y = r) (hq : pc + 1 = q) (n : Go l Z K own mn b ml rt R Q h F c s q L (.long r :: S)) : Go l Z K own mn b ml rt R Q h F c s pc L (.long y :: .long x :: S) := by
  subst hq hr; exact go_of (fun T X t st => by obtain ⟨vm, k, locs, Y, r1, r2, r3, r4, r5, r6, r7, r8, r9, hx, hb', rr⟩ := X; exact XT.lrem Y.here hx rfl (hb hb' hd) rfl hy st) n
theorem go_lcmp {x : Int64} {y : Int64} {r : Int32} (hd : decode b pc = .ok (.lcmp, 1)) (hr : XT.cmpL x y = r) (hq : pc + 1 = q) (n : Go l Z K own mn b ml rt R Q h F c s q L (.int r :: S)) : Go l Z K own mn b ml rt R Q h F c s pc L (.long y :: .long x :: S) := by
  subst hq hr; exact go_of (fun T X t st => by obtain ⟨vm, k, locs, Y, r1, r2, r3, r4, r5, r6, r7, r8, r9, hx, hb', rr⟩ := X; exact XT.lcmp Y.here hx rfl (hb hb' hd) rfl st) n
theorem go_lshl {x : Int64} {y : Int32} {r : Int64} (hd : decode b pc = .ok (.lshl, 1)) (hr : x <<< (y.toInt64 &&& 63) = r) (hq : pc + 1 = q) (n : Go l Z K own mn b ml rt R Q h F c s q L (.long r :: S)) : Go l Z K own mn b ml rt R Q h F c s pc L (.int y :: .long x :: S) := by
  subst hq hr; exact go_of (fun T X t st => by obtain ⟨vm, k, locs, Y, r1, r2, r3, r4, r5, r6, r7, r8, r9, hx, hb', rr⟩ := X; exact XT.lshl Y.here hx rfl (hb hb' hd) rfl st) n
theorem go_lshr {x : Int64} {y : Int32} {r : Int64} (hd : decode b pc = .ok (.lshr, 1)) (hr : x >>> (y.toInt64 &&& 63) = r) (hq : pc + 1 = q) (n : Go l Z K own mn b ml rt R Q h F c s q L (.long r :: S)) : Go l Z K own mn b ml rt R Q h F c s pc L (.int y :: .long x :: S) := by
  subst hq hr; exact go_of (fun T X t st => by obtain ⟨vm, k, locs, Y, r1, r2, r3, r4, r5, r6, r7, r8, r9, hx, hb', rr⟩ := X; exact XT.lshr Y.here hx rfl (hb hb' hd) rfl st) n
theorem go_lushr {x : Int64} {y : Int32} {r : Int64} (hd : decode b pc = .ok (.lushr, 1)) (hr : XT.ushrL x y = r) (hq : pc + 1 = q) (n : Go l Z K own mn b ml rt R Q h F c s q L (.long r :: S)) : Go l Z K own mn b ml rt R Q h F c s pc L (.int y :: .long x :: S) := by
  subst hq hr; exact go_of (fun T X t st => by obtain ⟨vm, k, locs, Y, r1, r2, r3, r4, r5, r6, r7, r8, r9, hx, hb', rr⟩ := X; exact XT.lushr Y.here hx rfl (hb hb' hd) rfl st) n
theorem go_ineg {x : Int32} {r : Int32} (hd : decode b pc = .ok (.ineg, 1)) (hr : -x = r) (hq : pc + 1 = q) (n : Go l Z K own mn b ml rt R Q h F c s q L (.int r :: S)) : Go l Z K own mn b ml rt R Q h F c s pc L (.int x :: S) := by
  subst hq hr; exact go_of (fun T X t st => by obtain ⟨vm, k, locs, Y, r1, r2, r3, r4, r5, r6, r7, r8, r9, hx, hb', rr⟩ := X; exact XS.ineg Y.here hx rfl (hb hb' hd) rfl st) n
theorem go_lneg {x : Int64} {r : Int64} (hd : decode b pc = .ok (.lneg, 1)) (hr : -x = r) (hq : pc + 1 = q) (n : Go l Z K own mn b ml rt R Q h F c s q L (.long r :: S)) : Go l Z K own mn b ml rt R Q h F c s pc L (.long x :: S) := by
  subst hq hr; exact go_of (fun T X t st => by obtain ⟨vm, k, locs, Y, r1, r2, r3, r4, r5, r6, r7, r8, r9, hx, hb', rr⟩ := X; exact XT.lneg Y.here hx rfl (hb hb' hd) rfl st) n
theorem go_i2l {x : Int32} {r : Int64} (hd : decode b pc = .ok (.i2l, 1)) (hr : x.toInt64 = r) (hq : pc + 1 = q) (n : Go l Z K own mn b ml rt R Q h F c s q L (.long r :: S)) : Go l Z K own mn b ml rt R Q h F c s pc L (.int x :: S) := by
  subst hq hr; exact go_of (fun T X t st => by obtain ⟨vm, k, locs, Y, r1, r2, r3, r4, r5, r6, r7, r8, r9, hx, hb', rr⟩ := X; exact XT.i2l Y.here hx rfl (hb hb' hd) rfl st) n
theorem go_l2i {x : Int64} {r : Int32} (hd : decode b pc = .ok (.l2i, 1)) (hr : x.toInt32 = r) (hq : pc + 1 = q) (n : Go l Z K own mn b ml rt R Q h F c s q L (.int r :: S)) : Go l Z K own mn b ml rt R Q h F c s pc L (.long x :: S) := by
  subst hq hr; exact go_of (fun T X t st => by obtain ⟨vm, k, locs, Y, r1, r2, r3, r4, r5, r6, r7, r8, r9, hx, hb', rr⟩ := X; exact XT.l2i Y.here hx rfl (hb hb' hd) rfl st) n
theorem go_i2b {x : Int32} {r : Int32} (hd : decode b pc = .ok (.i2b, 1)) (hr : x.toInt8.toInt32 = r) (hq : pc + 1 = q) (n : Go l Z K own mn b ml rt R Q h F c s q L (.int r :: S)) : Go l Z K own mn b ml rt R Q h F c s pc L (.int x :: S) := by
  subst hq hr; exact go_of (fun T X t st => by obtain ⟨vm, k, locs, Y, r1, r2, r3, r4, r5, r6, r7, r8, r9, hx, hb', rr⟩ := X; exact XT.i2b Y.here hx rfl (hb hb' hd) rfl st) n
theorem go_i2c {x : Int32} {r : Int32} (hd : decode b pc = .ok (.i2c, 1)) (hr : x.toUInt32.toUInt16.toUInt32.toInt32 = r) (hq : pc + 1 = q) (n : Go l Z K own mn b ml rt R Q h F c s q L (.int r :: S)) : Go l Z K own mn b ml rt R Q h F c s pc L (.int x :: S) := by
  subst hq hr; exact go_of (fun T X t st => by obtain ⟨vm, k, locs, Y, r1, r2, r3, r4, r5, r6, r7, r8, r9, hx, hb', rr⟩ := X; exact XT.i2c Y.here hx rfl (hb hb' hd) rfl st) n
theorem go_i2s {x : Int32} {r : Int32} (hd : decode b pc = .ok (.i2s, 1)) (hr : x.toInt16.toInt32 = r) (hq : pc + 1 = q) (n : Go l Z K own mn b ml rt R Q h F c s q L (.int r :: S)) : Go l Z K own mn b ml rt R Q h F c s pc L (.int x :: S) := by
  subst hq hr; exact go_of (fun T X t st => by obtain ⟨vm, k, locs, Y, r1, r2, r3, r4, r5, r6, r7, r8, r9, hx, hb', rr⟩ := X; exact XT.i2s Y.here hx rfl (hb hb' hd) rfl st) n
theorem go_istoreN {k : Fin 4} {x : Int32} (hd : decode b pc = .ok (.istore_n k, 1)) (hl : storeLocals L k.val (.int x) = some L') (hq : pc + 1 = q) (n : Go l Z K own mn b ml rt R Q h F c s q L' S) : Go l Z K own mn b ml rt R Q h F c s pc L (.int x :: S) := by
  subst hq; exact go_of (fun T X t st => by obtain ⟨vm, k, locs, Y, r1, r2, r3, r4, r5, r6, r7, r8, r9, hx, hb', rr⟩ := X; exact XS.istoreN Y.here hx rfl (hb hb' hd) rfl hl st) n
theorem go_istore {k : Nat} {x : Int32} (hd : decode b pc = .ok (.istore k, 2)) (hl : storeLocals L k (.int x) = some L') (hq : pc + 2 = q) (n : Go l Z K own mn b ml rt R Q h F c s q L' S) : Go l Z K own mn b ml rt R Q h F c s pc L (.int x :: S) := by
  subst hq; exact go_of (fun T X t st => by obtain ⟨vm, k, locs, Y, r1, r2, r3, r4, r5, r6, r7, r8, r9, hx, hb', rr⟩ := X; exact XS.istore Y.here hx rfl (hb hb' hd) rfl hl st) n
theorem go_lstoreN {k : Fin 4} {x : Int64} (hd : decode b pc = .ok (.lstore_n k, 1)) (hl : storeLocals L k.val (.long x) = some L') (hq : pc + 1 = q) (n : Go l Z K own mn b ml rt R Q h F c s q L' S) : Go l Z K own mn b ml rt R Q h F c s pc L (.long x :: S) := by
  subst hq; exact go_of (fun T X t st => by obtain ⟨vm, k, locs, Y, r1, r2, r3, r4, r5, r6, r7, r8, r9, hx, hb', rr⟩ := X; exact XT.lstoreN Y.here hx rfl (hb hb' hd) rfl hl st) n
theorem go_lstore {k : Nat} {x : Int64} (hd : decode b pc = .ok (.lstore k, 2)) (hl : storeLocals L k (.long x) = some L') (hq : pc + 2 = q) (n : Go l Z K own mn b ml rt R Q h F c s q L' S) : Go l Z K own mn b ml rt R Q h F c s pc L (.long x :: S) := by
  subst hq; exact go_of (fun T X t st => by obtain ⟨vm, k, locs, Y, r1, r2, r3, r4, r5, r6, r7, r8, r9, hx, hb', rr⟩ := X; exact XT.lstore Y.here hx rfl (hb hb' hd) rfl hl st) n
theorem go_astoreN {k : Fin 4} {x : Value} (hd : decode b pc = .ok (.astore_n k, 1)) (hv : x.isRef = true) (hl : storeLocals L k.val (x) = some L') (hq : pc + 1 = q) (n : Go l Z K own mn b ml rt R Q h F c s q L' S) : Go l Z K own mn b ml rt R Q h F c s pc L (x :: S) := by
  subst hq; exact go_of (fun T X t st => by obtain ⟨vm, k, locs, Y, r1, r2, r3, r4, r5, r6, r7, r8, r9, hx, hb', rr⟩ := X; exact XS.astoreN Y.here hx rfl (hb hb' hd) rfl hv hl st) n
theorem go_astore {k : Nat} {x : Value} (hd : decode b pc = .ok (.astore k, 2)) (hv : x.isRef = true) (hl : storeLocals L k (x) = some L') (hq : pc + 2 = q) (n : Go l Z K own mn b ml rt R Q h F c s q L' S) : Go l Z K own mn b ml rt R Q h F c s pc L (x :: S) := by
  subst hq; exact go_of (fun T X t st => by obtain ⟨vm, k, locs, Y, r1, r2, r3, r4, r5, r6, r7, r8, r9, hx, hb', rr⟩ := X; exact XS.astore Y.here hx rfl (hb hb' hd) rfl hv hl st) n
theorem go_iinc {k : Nat} {i : Int} {x y : Int32} (hd : decode b pc = .ok (.iinc k i, 3)) (hl : L[k]? = some (.val (.int x))) (hy : x + Int32.ofInt i = y) (hl' : storeLocals L k (.int y) = some L') (hq : pc + 3 = q) (n : Go l Z K own mn b ml rt R Q h F c s q L' S) : Go l Z K own mn b ml rt R Q h F c s pc L S := by
  subst hq hy; exact go_of (fun T X t st => by obtain ⟨vm, k, locs, Y, r1, r2, r3, r4, r5, r6, r7, r8, r9, hx, hb', rr⟩ := X; exact XS.iinc Y.here hx rfl (hb hb' hd) hl hl' st) n
theorem go_dup {x : Value} (hd : decode b pc = .ok (.dup, 1)) (hc : x.category = 1) (hq : pc + 1 = q) (n : Go l Z K own mn b ml rt R Q h F c s q L (x :: x :: S)) : Go l Z K own mn b ml rt R Q h F c s pc L (x :: S) := by
  subst hq; exact go_of (fun T X t st => by obtain ⟨vm, k, locs, Y, r1, r2, r3, r4, r5, r6, r7, r8, r9, hx, hb', rr⟩ := X; exact XS.dup Y.here hx rfl (hb hb' hd) rfl hc st) n
theorem go_pop {x : Value} (hd : decode b pc = .ok (.pop, 1)) (hc : x.category = 1) (hq : pc + 1 = q) (n : Go l Z K own mn b ml rt R Q h F c s q L S) : Go l Z K own mn b ml rt R Q h F c s pc L (x :: S) := by
  subst hq; exact go_of (fun T X t st => by obtain ⟨vm, k, locs, Y, r1, r2, r3, r4, r5, r6, r7, r8, r9, hx, hb', rr⟩ := X; exact XT.pop Y.here hx rfl (hb hb' hd) rfl hc st) n
theorem go_dupX1 {x y : Value} (hd : decode b pc = .ok (.dup_x1, 1)) (hc : x.category = 1) (hc' : y.category = 1) (hq : pc + 1 = q) (n : Go l Z K own mn b ml rt R Q h F c s q L (x :: y :: x :: S)) : Go l Z K own mn b ml rt R Q h F c s pc L (x :: y :: S) := by
  subst hq; exact go_of (fun T X t st => by obtain ⟨vm, k, locs, Y, r1, r2, r3, r4, r5, r6, r7, r8, r9, hx, hb', rr⟩ := X; exact XT.dupX1 Y.here hx rfl (hb hb' hd) rfl hc hc' st) n
theorem go_dup2 {x y : Value} (hd : decode b pc = .ok (.dup2, 1)) (hc : x.category = 1) (hc' : y.category = 1) (hq : pc + 1 = q) (n : Go l Z K own mn b ml rt R Q h F c s q L (x :: y :: x :: y :: S)) : Go l Z K own mn b ml rt R Q h F c s pc L (x :: y :: S) := by
  subst hq; exact go_of (fun T X t st => by obtain ⟨vm, k, locs, Y, r1, r2, r3, r4, r5, r6, r7, r8, r9, hx, hb', rr⟩ := X; exact XT.dup2 Y.here hx rfl (hb hb' hd) rfl hc hc' st) n
theorem go_goto {o : Int} (hd : decode b pc = .ok (.goto o, 3)) (ho : 0 ≤ (pc : Int) + o) (hp : ((pc : Int) + o).toNat = q) (n : Go l Z K own mn b ml rt R Q h F c s q L S) : Go l Z K own mn b ml rt R Q h F c s pc L S := by
  exact go_of (fun T X t st => by obtain ⟨vm, k, locs, Y, r1, r2, r3, r4, r5, r6, r7, r8, r9, hx, hb', rr⟩ := X; exact XS.goto Y.here hx rfl rfl (hb hb' hd) ho hp st) n
/-- the condition as a plain proposition: taken, not taken -/
abbrev cY : ClassFile.Cond → Int32 → Int32 → Prop
  | .eq, x, y => x = y
  | .ne, x, y => ¬ x = y
  | .lt, x, y => x < y
  | .ge, x, y => ¬ x < y
  | .gt, x, y => y < x
  | .le, x, y => ¬ y < x
abbrev cN : ClassFile.Cond → Int32 → Int32 → Prop
  | .eq, x, y => ¬ x = y
  | .ne, x, y => x = y
  | .lt, x, y => ¬ x < y
  | .ge, x, y => x < y
  | .gt, x, y => ¬ y < x
  | .le, x, y => y < x
theorem cY_holds {cd : ClassFile.Cond} {x y : Int32} (h : cY cd x y) : if_icmp.holds cd x y = true := by
  cases cd with
  | eq => exact (teq h).1
  | ne => exact (feq h).2
  | lt => exact (tlt h).1
  | ge => exact (flt h).2.1
  | gt => exact (tlt h).2.2.1
  | le => exact (flt h).2.2.2
theorem cN_holds {cd : ClassFile.Cond} {x y : Int32} (h : cN cd x y) : if_icmp.holds cd x y = false := by
  cases cd with
  | eq => exact (feq h).1
  | ne => exact (teq h).2
  | lt => exact (flt h).1
  | ge => exact (tlt h).2.1
  | gt => exact (flt h).2.2.1
  | le => exact (tlt h).2.2.2
theorem go_ifY {cd : ClassFile.Cond} {x : Int32} {o : Int} (hd : decode b pc = .ok (.ifCond cd o, 3)) (hc : cY cd x 0) (ho : 0 ≤ (pc : Int) + o) (hp : ((pc : Int) + o).toNat = q) (n : Go l Z K own mn b ml rt R Q h F c s q L S) : Go l Z K own mn b ml rt R Q h F c s pc L (.int x :: S) := by
  exact go_of (fun T X t st => by obtain ⟨vm, k, locs, Y, r1, r2, r3, r4, r5, r6, r7, r8, r9, hx, hb', rr⟩ := X; exact XS.ifYes Y.here hx rfl rfl (hb hb' hd) rfl ((if0 _ _).trans (cY_holds hc)) ho hp st) n
theorem go_ifN {cd : ClassFile.Cond} {x : Int32} {o : Int} (hd : decode b pc = .ok (.ifCond cd o, 3)) (hc : cN cd x 0) (hq : pc + 3 = q) (n : Go l Z K own mn b ml rt R Q h F c s q L S) : Go l Z K own mn b ml rt R Q h F c s pc L (.int x :: S) := by
  subst hq; exact go_of (fun T X t st => by obtain ⟨vm, k, locs, Y, r1, r2, r3, r4, r5, r6, r7, r8, r9, hx, hb', rr⟩ := X; exact XS.ifNo Y.here hx rfl (hb hb' hd) rfl ((if0 _ _).trans (cN_holds hc)) st) n
theorem go_icY {cd : ClassFile.Cond} {x y : Int32} {o : Int} (hd : decode b pc = .ok (.if_icmp cd o, 3)) (hc : cY cd x y) (ho : 0 ≤ (pc : Int) + o) (hp : ((pc : Int) + o).toNat = q) (n : Go l Z K own mn b ml rt R Q h F c s q L S) : Go l Z K own mn b ml rt R Q h F c s pc L (.int y :: .int x :: S) := by
  exact go_of (fun T X t st => by obtain ⟨vm, k, locs, Y, r1, r2, r3, r4, r5, r6, r7, r8, r9, hx, hb', rr⟩ := X; exact XS.icmpYes Y.here hx rfl rfl (hb hb' hd) rfl (cY_holds hc) ho hp st) n
theorem go_icN {cd : ClassFile.Cond} {x y : Int32} {o : Int} (hd : decode b pc = .ok (.if_icmp cd o, 3)) (hc : cN cd x y) (hq : pc + 3 = q) (n : Go l Z K own mn b ml rt R Q h F c s q L S) : Go l Z K own mn b ml rt R Q h F c s pc L (.int y :: .int x :: S) := by
  subst hq; exact go_of (fun T X t st => by obtain ⟨vm, k, locs, Y, r1, r2, r3, r4, r5, r6, r7, r8, r9, hx, hb', rr⟩ := X; exact XS.icmpNo Y.here hx rfl (hb hb' hd) rfl (cN_holds hc) st) n
theorem go_nullY {o : Int} (hd : decode b pc = .ok (.ifnull o, 3)) (ho : 0 ≤ (pc : Int) + o) (hp : ((pc : Int) + o).toNat = q) (n : Go l Z K own mn b ml rt R Q h F c s q L S) : Go l Z K own mn b ml rt R Q h F c s pc L (.null :: S) := by
  exact go_of (fun T X t st => by obtain ⟨vm, k, locs, Y, r1, r2, r3, r4, r5, r6, r7, r8, r9, hx, hb', rr⟩ := X; exact XS.ifnullYes Y.here hx rfl rfl (hb hb' hd) rfl ho hp st) n
theorem go_nullN {a : Addr} {o : Int} (hd : decode b pc = .ok (.ifnull o, 3)) (hq : pc + 3 = q) (n : Go l Z K own mn b ml rt R Q h F c s q L S) : Go l Z K own mn b ml rt R Q h F c s pc L (.ref a :: S) := by
  subst hq; exact go_of (fun T X t st => by obtain ⟨vm, k, locs, Y, r1, r2, r3, r4, r5, r6, r7, r8, r9, hx, hb', rr⟩ := X; exact XS.ifnullNo Y.here hx rfl (hb hb' hd) rfl st) n
theorem go_nnY {a : Addr} {o : Int} (hd : decode b pc = .ok (.ifnonnull o, 3)) (ho : 0 ≤ (pc : Int) + o) (hp : ((pc : Int) + o).toNat = q) (n : Go l Z K own mn b ml rt R Q h F c s q L S) : Go l Z K own mn b ml rt R Q h F c s pc L (.ref a :: S) := by
  exact go_of (fun T X t st => by obtain ⟨vm, k, locs, Y, r1, r2, r3, r4, r5, r6, r7, r8, r9, hx, hb', rr⟩ := X; exact XT.ifnonnullYes Y.here hx rfl rfl (hb hb' hd) rfl ho hp st) n
theorem go_nnN {o : Int} (hd : decode b pc = .ok (.ifnonnull o, 3)) (hq : pc + 3 = q) (n : Go l Z K own mn b ml rt R Q h F c s q L S) : Go l Z K own mn b ml rt R Q h F c s pc L (.null :: S) := by
  subst hq; exact go_of (fun T X t st => by obtain ⟨vm, k, locs, Y, r1, r2, r3, r4, r5, r6, r7, r8, r9, hx, hb', rr⟩ := X; exact XT.ifnonnullNo Y.here hx rfl (hb hb' hd) rfl st) n
theorem go_acY {cd : ClassFile.ACond} {x y : Value} {o : Int} (hd : decode b pc = .ok (.if_acmp cd o, 3)) (h1 : x.isRef = true) (h2 : y.isRef = true) (hc : XT.acmp cd x y = true) (ho : 0 ≤ (pc : Int) + o) (hp : ((pc : Int) + o).toNat = q) (n : Go l Z K own mn b ml rt R Q h F c s q L S) : Go l Z K own mn b ml rt R Q h F c s pc L (y :: x :: S) := by
  exact go_of (fun T X t st => by obtain ⟨vm, k, locs, Y, r1, r2, r3, r4, r5, r6, r7, r8, r9, hx, hb', rr⟩ := X; exact XT.acmpYes Y.here hx rfl rfl (hb hb' hd) rfl h1 h2 hc ho hp st) n
theorem go_acN {cd : ClassFile.ACond} {x y : Value} {o : Int} (hd : decode b pc = .ok (.if_acmp cd o, 3)) (h1 : x.isRef = true) (h2 : y.isRef = true) (hc : XT.acmp cd x y = false) (hq : pc + 3 = q) (n : Go l Z K own mn b ml rt R Q h F c s q L S) : Go l Z K own mn b ml rt R Q h F c s pc L (y :: x :: S) := by
  subst hq; exact go_of (fun T X t st => by obtain ⟨vm, k, locs, Y, r1, r2, r3, r4, r5, r6, r7, r8, r9, hx, hb', rr⟩ := X; exact XT.acmpNo Y.here hx rfl (hb hb' hd) rfl h1 h2 hc st) n
theorem go_irem {x y r : Int32} (hd : decode b pc = .ok (.irem, 1)) (hy : y ≠ 0) (hr : x % y = r) (hq : pc + 1 = q) (n : Go l Z K own mn b ml rt R Q h F c s q L (.int r :: S)) : Go l Z K own mn b ml rt R Q h F c s pc L (.int y :: .int x :: S) := by
  subst hq hr; exact go_of (fun T X t st => by obtain ⟨vm, k, locs, Y, r1, r2, r3, r4, r5, r6, r7, r8, r9, hx, hb', r⟩ := X; exact iremM Y hx rfl (hb hb' hd) rfl hy st) n
theorem go_lrem {x y r : Int64} (hd : decode b pc = .ok (.lrem, 1)) (hy : y ≠ 0) (hr : x % y = r) (hq : pc + 1 = q) (n : Go l Z K own mn b ml rt R Q h F c s q L (.long r :: S)) : Go l Z K own mn b ml rt R Q h F c s pc L (.long y :: .long x :: S) := go_lrem0 hd hy ((lrem_mod x y).trans hr) hq n
end G
end Own
end Jvm.Pilot.@@N@@
/-! OWN FRAMEWORK, part 2: steps that touch the heap, returns, calls. -/
namespace Jvm.Pilot.@@N@@
namespace Own
open Jvm Jvm.ClassFile Sem Op Lib Jvm.Free Jvm.Stand Jvm.LawKit Jvm.RoadKit
section G
variable {l : Launch} {Z : State} {a0 : Array Value} {K : Cx} {own mn : String} {b : ByteArray} {ml : Nat} {rt : Option FieldType} {R : Room} {Q : QT} {h h' : Heap} {F : List Addr} {c s pc q c' s' : Nat} {L L' : Array Slot} {S S' : List Value}
theorem go_getfield {index : Nat} {R0 O n d : String} {a : Addr} {v : Value} (w : (Cond.fieldLink own index R0 n d).before a0 Z = true) (via : Via Z R0 O n d) (Fv : Fld Z h a O n d v) (hd : decode b pc = .ok (.getfield index, 3)) (hq : pc + 3 = q)
    (nx : Go l Z K own mn b ml rt R Q h F c s q L (v :: S)) : Go l Z K own mn b ml rt R Q h F c s pc L (.ref a :: S) := fun T X => by
  subst hq
  obtain ⟨vm, k, locs, Y, eT, hS, hk, hZ, hown, N, C, M, O, hx, hb', r⟩ := X
  obtain ⟨T', Y', e', st⟩ := getF Y hx hZ hown (host := "") (Or.inl w) via eT Fv (g := mkF K.2.2.2.1 pc L (.ref a :: S)) rfl rfl (hb hb' hd)
  obtain ⟨s₂, o, x, r'⟩ := nx T' ⟨vm, k, locs, Y', e', hS, hk, hZ, hown, N, C, M, O, hx, hb', r⟩
  exact ⟨s₂, o, st _ x, r'⟩
theorem go_getstatic {index : Nat} {R0 O n d : String} {v : Value} (w : (Cond.fieldLink own index R0 n d).before a0 Z = true) (via : Via Z R0 O n d) (Fv : Sta Z Z.heap O n d v) (hd : decode b pc = .ok (.getstatic index, 3)) (hq : pc + 3 = q)
    (nx : Go l Z K own mn b ml rt R Q h F c s q L (v :: S)) : Go l Z K own mn b ml rt R Q h F c s pc L S := fun T X => by
  subst hq
  obtain ⟨vm, k, locs, Y, eT, hS, hk, hZ, hown, N, C, M, O, hx, hb', r⟩ := X
  obtain ⟨T', Y', e', st⟩ := getS2 Y hx hZ hown (host := "") (Or.inl w) via eT (Fv.ext O.2) (g := mkF K.2.2.2.1 pc L S) rfl (hb hb' hd)
  obtain ⟨s₂, o, x, r'⟩ := nx T' ⟨vm, k, locs, Y', e', hS, hk, hZ, hown, N, C, M, O, hx, hb', r⟩
  exact ⟨s₂, o, st _ x, r'⟩
theorem St.wrote {vm : Vm} {k sl : Nat} {locs : List Loc} {T' : State} {a : Addr} {v : Value} (W : Wr h h' a sl v) (ha : a ∈ F) (Y : Stand K.1 l K.2.1 R (K.2.2.1.setVm vm) K.2.2.2.1 K.2.2.2.2.1 K.2.2.2.2.2.1 K.2.2.2.2.2.2.1 K.2.2.2.2.2.2.2 T' (locs ++ [⟨a, sl⟩]) c s) (e' : T'.heap = h')
    (hS : K.2.2.1.Since vm k) (hk : k ≤ h.size) (hZ : Z.Warmed39 vm) (hown : vm.findClass own = some K.2.2.2.1.cls) (N : Fr Z.heap.size locs) (C : CHr Z consts_1 K.2.2.1.vm K.2.2.1.heap vm h) (M : ∀ x ∈ F, Mine Z vm h x) (O : Old Z Z.heap.size h)
    (r : K.1.tables.exec = Jvm.exec ∧ K.2.2.2.2.2.2.2.code = b ∧ K.2.2.2.2.2.2.2.maxLocals = ml ∧ K.2.2.2.2.2.2.1.sig.returnType = rt ∧ K.2.2.2.2.2.2.1.name = mn ∧ K.2.2.2.2.2.2.1.locks = false) : St l Z K own mn b ml rt R T' h' F c s :=
  ⟨vm, k, _, Y, e', hS, by rw [W.size]; exact hk, hZ, hown, Fr.snoc Y N (M a ha).1, C.trans (CHr.wr W (M a ha).2.2 C.1), fun x hx => ⟨(M x hx).1, by rw [W.size]; exact (M x hx).2.1, Safe.wr W (M a ha).2.2 C.1 (M x hx).2.2⟩, O.wr W (M a ha).1, r⟩
theorem go_putfield {index kk : Nat} {R0 O n d C : String} {ty : FieldType} {a : Addr} {v old : Value} (w : (Cond.fieldLink own index R0 n d).before a0 Z = true) (via : Via Z R0 O n d) (Fv : Fld Z h a O n d old) (E : Exa Z h a C)
    (Ly : (Cond.lays C O n d).before a0 Z = true ∨ ((Cond.laysFinal C O n d).before a0 Z = true ∧ own = O ∧ mn = "<init>")) (wi : (Cond.instantiable C kk).before a0 Z = true) (hty : parseFieldDescriptor d = some ty) (hn : narrow ty v = v) (hf : fits ty v = true) (ha : a ∈ F)
    (hd : decode b pc = .ok (.putfield index, 3)) (hq : pc + 3 = q) (nx : ∀ h', Wr h h' a (RoadKit.slotOf Z O n d) v → Go l Z K own mn b ml rt R Q h' F c s q L S) : Go l Z K own mn b ml rt R Q h F c s pc L (v :: .ref a :: S) := fun T X => by
  subst hq
  obtain ⟨vm, k, locs, Y, eT, hS, hk, hZ, hown, N, C, M, O, hx, hb', r1, r2, r3, r4⟩ := X
  obtain ⟨T', h', Y', e', W, st⟩ := putF Y hx hZ hown (host := "") (Or.inl w) via eT Fv E (Ly.imp id fun z => ⟨z.1, z.2.1, r3.trans z.2.2⟩) wi hty hn hf (g := mkF K.2.2.2.1 pc L (v :: .ref a :: S)) rfl rfl (hb hb' hd)
  obtain ⟨s₂, o, x, r'⟩ := nx h' W T' (St.wrote W ha Y' e' hS hk hZ hown N C M O ⟨hx, hb', r1, r2, r3, r4⟩)
  exact ⟨s₂, o, st _ x, r'⟩
theorem St.grew {vm : Vm} {k : Nat} {locs : List Loc} {T' : State} (E : Ext h h') {F' : List Addr} (hF : ∀ x ∈ F', x ∈ F ∨ (h.size ≤ x ∧ x < h'.size)) (Y : Stand K.1 l K.2.1 R (K.2.2.1.setVm vm) K.2.2.2.1 K.2.2.2.2.1 K.2.2.2.2.2.1 K.2.2.2.2.2.2.1 K.2.2.2.2.2.2.2 T' locs c s) (e' : T'.heap = h')
    (hS : K.2.2.1.Since vm k) (hk : k ≤ h.size) (hZ : Z.Warmed39 vm) (hown : vm.findClass own = some K.2.2.2.1.cls) (N : Fr Z.heap.size locs) (C : CHr Z consts_1 K.2.2.1.vm K.2.2.1.heap vm h) (M : ∀ x ∈ F, Mine Z vm h x) (O : Old Z Z.heap.size h)
    (r : K.1.tables.exec = Jvm.exec ∧ K.2.2.2.2.2.2.2.code = b ∧ K.2.2.2.2.2.2.2.maxLocals = ml ∧ K.2.2.2.2.2.2.1.sig.returnType = rt ∧ K.2.2.2.2.2.2.1.name = mn ∧ K.2.2.2.2.2.2.1.locks = false) : St l Z K own mn b ml rt R T' h' F' c s :=
  ⟨vm, k, _, Y, e', hS, Nat.le_trans hk E.1, hZ, hown, N, C.trans (CHr.ext E C.1), fun x hx => by
    rcases hF x hx with q | ⟨q1, q2⟩
    · exact ⟨(M x q).1, Nat.lt_of_lt_of_le (M x q).2.1 E.1, Safe.ext E C.1 (M x q).2.2⟩
    · exact ⟨Nat.le_trans O.2.1 q1, q2, Safe.ext E C.1 (Safe.new q1)⟩, O.ext E, r⟩
theorem go_new {index n : Nat} {C : String} (w : (Cond.classLink own index C).before a0 Z = true) (wi : (Cond.instantiable C n).before a0 Z = true) (wz : (Cond.initialized C).before a0 Z = true) (hd : decode b pc = .ok (.new index, 3)) (hq : pc + 3 = q) (hc : c + 1 = c') (hs : s + n = s') (hc' : c' ≤ R.cells) (hs' : s' ≤ R.slots)
    (nx : ∀ h' a, a = h.size → Ext h h' → Exa Z h' a C → (∀ {O nm d : String} {ty : FieldType}, Laid Z a0 C O nm d → parseFieldDescriptor d = some ty → Fld Z h' a O nm d (defaultValue ty)) → Go l Z K own mn b ml rt R Q h' (a :: F) c' s' q L (.ref a :: S)) : Go l Z K own mn b ml rt R Q h F c s pc L S := fun T X => by
  subst hq hc hs
  obtain ⟨vm, k, locs, Y, eT, hS, hk, hZ, hown, N, C, M, O, r⟩ := X
  obtain ⟨T', h', Y', e', E, A, D, -, st⟩ := newO Y r.1 hZ hown w wi wz eT (g := mkF K.2.2.2.1 pc L S) rfl (hb r.2.1 hd) hc' hs'
  obtain ⟨s₂, o, x, r'⟩ := nx h' _ rfl E A D T' (St.grew E (fun x hx => by rcases List.mem_cons.mp hx with rfl | hx; exact Or.inr ⟨Nat.le_refl _, A.lt⟩; exact Or.inl hx) Y' e' hS hk hZ hown N C M O r)
  exact ⟨s₂, o, st _ x, r'⟩
/-- 'new', and the fresh cell as the exception laws want it -/
theorem go_newU {index n : Nat} {C : String} (w : (Cond.classLink own index C).before a0 Z = true) (wi : (Cond.instantiable C n).before a0 Z = true) (wz : (Cond.initialized C).before a0 Z = true) (hd : decode b pc = .ok (.new index, 3)) (hq : pc + 3 = q) (hc : c + 1 = c') (hs : s + n = s') (hc' : c' ≤ R.cells) (hs' : s' ≤ R.slots)
    (nx : ∀ h' a, a = h.size → Ext h h' → Exa Z h' a C → Unt h' a → (∀ {O nm d : String} {ty : FieldType}, Laid Z a0 C O nm d → parseFieldDescriptor d = some ty → Fld Z h' a O nm d (defaultValue ty)) → Go l Z K own mn b ml rt R Q h' (a :: F) c' s' q L (.ref a :: S)) : Go l Z K own mn b ml rt R Q h F c s pc L S := fun T X => by
  subst hq hc hs
  obtain ⟨vm, k, locs, Y, eT, hS, hk, hZ, hown, N, C, M, O, r⟩ := X
  obtain ⟨T', h', Y', e', E, A, D, U, st⟩ := newO Y r.1 hZ hown w wi wz eT (g := mkF K.2.2.2.1 pc L S) rfl (hb r.2.1 hd) hc' hs'
  obtain ⟨s₂, o, x, r'⟩ := nx h' _ rfl E A U D T' (St.grew E (fun x hx => by rcases List.mem_cons.mp hx with rfl | hx; exact Or.inr ⟨Nat.le_refl _, A.lt⟩; exact Or.inl hx) Y' e' hS hk hZ hown N C M O r)
  exact ⟨s₂, o, st _ x, r'⟩
theorem go_newarray {aty : ArrayType} {z : Int32} {cap n : Nat} {ad : String} {ty : FieldType} {dv : Value} (hty : newarray.typeOf aty = ty) (hdv : defaultValue ty = dv) (hzn : z.toNatClampNeg = n) (w : (Cond.arrayClass ty).before a0 Z = true) (hd : decode b pc = .ok (.newarray aty, 2)) (hz : ¬ z < 0) (hcap : n ≤ cap) (hbig : cap * 8 ≤ 536870912) (had : "[" ++ ty.toString = ad) (hq : pc + 2 = q) (hc : c + 1 = c') (hs : s + cap = s') (hc' : c' ≤ R.cells) (hs' : s' ≤ R.slots)
    (nx : ∀ h' a k, a = h.size → Ext h h' → Arv Z h' a k ty z (List.replicate n dv) dv → Exa Z h' a ad → Go l Z K own mn b ml rt R Q h' (a :: F) c' s' q L (.ref a :: S)) : Go l Z K own mn b ml rt R Q h F c s pc L (.int z :: S) := fun T X => by
  subst hq hc hs hty hdv hzn
  obtain ⟨vm, k, locs, Y, eT, hS, hk, hZ, hown, N, C, M, O, r⟩ := X
  obtain ⟨T', h', cA, Y', e', E, A, Ex, st⟩ := newPE Y r.1 hZ w eT (g := mkF K.2.2.2.1 pc L (.int z :: S)) rfl (hb r.2.1 hd) rfl hz hcap hbig hc' hs' had
  have V := (Arv.new A hz).pad (vs' := List.replicate z.toNatClampNeg (defaultValue (newarray.typeOf aty))) (fun i => by
    have := pad_rep [] (defaultValue (newarray.typeOf aty)) z.toNatClampNeg i
    simpa using this)
  obtain ⟨s₂, o, x, r'⟩ := nx h' _ _ rfl E V Ex T' (St.grew E (fun x hx => by rcases List.mem_cons.mp hx with rfl | hx; exact Or.inr ⟨Nat.le_refl _, A.lt⟩; exact Or.inl hx) Y' e' hS hk hZ hown N C M O r)
  exact ⟨s₂, o, st _ x, r'⟩
theorem go_anewarray {index : Nat} {C : String} {z : Int32} {cap : Nat} {ad : String} (w : (Cond.classLink own index C).before a0 Z = true) (w2 : (Cond.arrayOver (.object C)).before a0 Z = true) (hd : decode b pc = .ok (.anewarray index, 3)) (hz : ¬ z < 0) (hcap : z.toNatClampNeg ≤ cap) (hbig : cap * 8 ≤ 536870912) (had : "[" ++ (FieldType.object C).toString = ad) (hq : pc + 3 = q) (hc : c + 1 = c') (hs : s + cap = s') (hc' : c' ≤ R.cells) (hs' : s' ≤ R.slots)
    (nx : ∀ h' a k, a = h.size → Ext h h' → Arv Z h' a k (.object C) z (List.replicate z.toNatClampNeg .null) .null → Exa Z h' a ad → Ovr Z k C → Go l Z K own mn b ml rt R Q h' (a :: F) c' s' q L (.ref a :: S)) : Go l Z K own mn b ml rt R Q h F c s pc L (.int z :: S) := fun T X => by
  subst hq hc hs
  obtain ⟨vm, k, locs, Y, eT, hS, hk, hZ, hown, N, C, M, O, r⟩ := X
  obtain ⟨T', h', cA, Y', e', E, A, Ex, Ov, st⟩ := newRE Y r.1 hZ hown w w2 eT (g := mkF K.2.2.2.1 pc L (.int z :: S)) rfl (hb r.2.1 hd) rfl hz hcap hbig hc' hs' had
  have V0 : Arv Z h' h.size cA (.object _) z [] .null := Arv.new A hz
  have V := V0.pad (vs' := List.replicate z.toNatClampNeg .null) (fun i => by
    have := pad_rep [] .null z.toNatClampNeg i
    simpa using this)
  obtain ⟨s₂, o, x, r'⟩ := nx h' _ _ rfl E V Ex Ov T' (St.grew E (fun x hx => by rcases List.mem_cons.mp hx with rfl | hx; exact Or.inr ⟨Nat.le_refl _, A.lt⟩; exact Or.inl hx) Y' e' hS hk hZ hown N C M O r)
  exact ⟨s₂, o, st _ x, r'⟩
theorem fits_nar_byte (x : Int32) : fits .byte (.int (nar .byte x)) = true := Jvm.Free.SBG.fits_of_int8 _
theorem go_castore {a : Addr} {k : ClassId} {z j x y : Int32} {vs : List Value} {dv : Value} {i : Nat} (A : Arv Z h a k .char z vs dv) (hj : ¬ j < 0 ∧ j < z) (hi : j.toNatClampNeg = i) (hl : i < vs.length) (ha : a ∈ F) (hy : nar .char x = y) (hd : decode b pc = .ok (.castore, 1)) (hq : pc + 1 = q)
    (nx : ∀ h', Keep h h' [a] → h'.size = h.size → Arv Z h' a k .char z (vs.set i (.int y)) dv → Go l Z K own mn b ml rt R Q h' F c s q L S) : Go l Z K own mn b ml rt R Q h F c s pc L (.int x :: .int j :: .ref a :: S) := fun T X => by
  subst hq hy
  obtain ⟨vm, k, locs, Y, eT, hS, hk, hZ, hown, N, C, M, O, r⟩ := X
  obtain ⟨cl, Ar, q1, q2, q3, q4, q5⟩ := A
  have hin := inb_of q2 hj
  obtain ⟨T', h', Y', e', W, st⟩ := stC Y r.1 hZ eT Ar hin (g := mkF K.2.2.2.1 pc L (.int x :: .int j :: .ref a :: S)) rfl rfl (hb r.2.1 hd)
  obtain ⟨s₂, o, x, r'⟩ := nx h' (Keep.of_wr W) W.size (Arv.set Ar q1 q2 q3 q4 q5 (fits_nar_char x) W i hi hl) T' (St.wrote W ha Y' e' hS hk hZ hown N C M O r)
  exact ⟨s₂, o, st _ x, r'⟩
theorem go_bastore {a : Addr} {k : ClassId} {z j x y : Int32} {vs : List Value} {dv : Value} {i : Nat} (A : Arv Z h a k .byte z vs dv) (hj : ¬ j < 0 ∧ j < z) (hi : j.toNatClampNeg = i) (hl : i < vs.length) (ha : a ∈ F) (hy : nar .byte x = y) (hd : decode b pc = .ok (.bastore, 1)) (hq : pc + 1 = q)
    (nx : ∀ h', Keep h h' [a] → h'.size = h.size → Arv Z h' a k .byte z (vs.set i (.int y)) dv → Go l Z K own mn b ml rt R Q h' F c s q L S) : Go l Z K own mn b ml rt R Q h F c s pc L (.int x :: .int j :: .ref a :: S) := fun T X => by
  subst hq hy
  obtain ⟨vm, k, locs, Y, eT, hS, hk, hZ, hown, N, C, M, O, r⟩ := X
  obtain ⟨cl, Ar, q1, q2, q3, q4, q5⟩ := A
  have hin := inb_of q2 hj
  obtain ⟨T', h', Y', e', W, st⟩ := stB Y r.1 hZ eT Ar hin (g := mkF K.2.2.2.1 pc L (.int x :: .int j :: .ref a :: S)) rfl rfl (hb r.2.1 hd)
  obtain ⟨s₂, o, x, r'⟩ := nx h' (Keep.of_wr W) W.size (Arv.set Ar q1 q2 q3 q4 q5 (fits_nar_byte x) W i hi hl) T' (St.wrote W ha Y' e' hS hk hZ hown N C M O r)
  exact ⟨s₂, o, st _ x, r'⟩
theorem go_lastore {a : Addr} {k : ClassId} {z j : Int32} {x : Int64} {vs : List Value} {dv : Value} {i : Nat} (A : Arv Z h a k .long z vs dv) (hj : ¬ j < 0 ∧ j < z) (hi : j.toNatClampNeg = i) (hl : i < vs.length) (ha : a ∈ F) (hd : decode b pc = .ok (.lastore, 1)) (hq : pc + 1 = q)
    (nx : ∀ h', Keep h h' [a] → h'.size = h.size → Arv Z h' a k .long z (vs.set i (.long x)) dv → Go l Z K own mn b ml rt R Q h' F c s q L S) : Go l Z K own mn b ml rt R Q h F c s pc L (.long x :: .int j :: .ref a :: S) := fun T X => by
  subst hq
  obtain ⟨vm, k, locs, Y, eT, hS, hk, hZ, hown, N, C, M, O, r⟩ := X
  obtain ⟨cl, Ar, q1, q2, q3, q4, q5⟩ := A
  have hin := inb_of q2 hj
  obtain ⟨T', h', Y', e', W, st⟩ := stJ Y r.1 hZ eT Ar hin (g := mkF K.2.2.2.1 pc L (.long x :: .int j :: .ref a :: S)) rfl rfl (hb r.2.1 hd)
  obtain ⟨s₂, o, x, r'⟩ := nx h' (Keep.of_wr W) W.size (Arv.set Ar q1 q2 q3 q4 q5 rfl W i hi hl) T' (St.wrote W ha Y' e' hS hk hZ hown N C M O r)
  exact ⟨s₂, o, st _ x, r'⟩
theorem go_arraylength {a : Addr} {k : ClassId} {ty : FieldType} {z : Int32} {vs : List Value} {dv : Value} (A : Arv Z h a k ty z vs dv) (hd : decode b pc = .ok (.arraylength, 1)) (hq : pc + 1 = q)
    (nx : Go l Z K own mn b ml rt R Q h F c s q L (.int z :: S)) : Go l Z K own mn b ml rt R Q h F c s pc L (.ref a :: S) := by
  subst hq
  exact go_of (fun T X t st => by
    obtain ⟨vm, k, locs, Y, eT, hS, hk, hZ, hown, N, C, M, O, r⟩ := X
    obtain ⟨cl, Ar, q1, q2, q3, q4, q5⟩ := A
    refine Y.arraylength r.1 (by rw [eT]; exact Ar.1) (State.isArrayOf_alike hZ.alike Ar.2.1) (g := mkF K.2.2.2.1 pc L (.ref a :: S)) rfl rfl (hb r.2.1 hd) _ ?_
    rw [len_of q2 q3]; exact st) nx
theorem go_caload {a : Addr} {k : ClassId} {z j : Int32} {vs : List Value} {dv v : Value} (A : Arv Z h a k .char z vs dv) (hj : ¬ j < 0 ∧ j < z) (hv : vs.getD j.toNatClampNeg dv = v) (hd : decode b pc = .ok (.caload, 1)) (hq : pc + 1 = q)
    (nx : Go l Z K own mn b ml rt R Q h F c s q L (v :: S)) : Go l Z K own mn b ml rt R Q h F c s pc L (.int j :: .ref a :: S) := by
  subst hq
  exact go_of (fun T X t st => by
    obtain ⟨vm, k, locs, Y, eT, hS, hk, hZ, hown, N, C, M, O, r⟩ := X
    obtain ⟨cl, Ar, q1, q2, q3, q4, q5⟩ := A
    exact Y.caload r.1 (by rw [eT]; exact Ar.1) (State.isArrayOf_alike hZ.alike Ar.2.1) Ar.2.2 (inb_of q2 hj) (q4.at (inb_of q2 hj) hv) (g := mkF K.2.2.2.1 pc L (.int j :: .ref a :: S)) rfl rfl (hb r.2.1 hd) _ st) nx
theorem go_baload {a : Addr} {k : ClassId} {z j : Int32} {vs : List Value} {dv v : Value} (A : Arv Z h a k .byte z vs dv) (hj : ¬ j < 0 ∧ j < z) (hv : vs.getD j.toNatClampNeg dv = v) (hd : decode b pc = .ok (.baload, 1)) (hq : pc + 1 = q)
    (nx : Go l Z K own mn b ml rt R Q h F c s q L (v :: S)) : Go l Z K own mn b ml rt R Q h F c s pc L (.int j :: .ref a :: S) := by
  subst hq
  exact go_of (fun T X t st => by
    obtain ⟨vm, k, locs, Y, eT, hS, hk, hZ, hown, N, C, M, O, r⟩ := X
    obtain ⟨cl, Ar, q1, q2, q3, q4, q5⟩ := A
    exact Y.baloadBytes r.1 (by rw [eT]; exact Ar.1) (State.isArrayOf_alike hZ.alike Ar.2.1) Ar.2.2 (inb_of q2 hj) (q4.at (inb_of q2 hj) hv) (g := mkF K.2.2.2.1 pc L (.int j :: .ref a :: S)) rfl rfl (hb r.2.1 hd) _ st) nx
theorem go_laload {a : Addr} {k : ClassId} {z j : Int32} {vs : List Value} {dv v : Value} (A : Arv Z h a k .long z vs dv) (hj : ¬ j < 0 ∧ j < z) (hv : vs.getD j.toNatClampNeg dv = v) (hd : decode b pc = .ok (.laload, 1)) (hq : pc + 1 = q)
    (nx : Go l Z K own mn b ml rt R Q h F c s q L (v :: S)) : Go l Z K own mn b ml rt R Q h F c s pc L (.int j :: .ref a :: S) := by
  subst hq
  exact go_of (fun T X t st => by
    obtain ⟨vm, k, locs, Y, eT, hS, hk, hZ, hown, N, C, M, O, r⟩ := X
    obtain ⟨cl, Ar, q1, q2, q3, q4, q5⟩ := A
    exact Y.laload r.1 (by rw [eT]; exact Ar.1) (State.isArrayOf_alike hZ.alike Ar.2.1) Ar.2.2 (inb_of q2 hj) (q4.at (inb_of q2 hj) hv) (g := mkF K.2.2.2.1 pc L (.int j :: .ref a :: S)) rfl rfl (hb r.2.1 hd) _ st) nx
theorem go_aaload {a : Addr} {k : ClassId} {ty : FieldType} {z j : Int32} {vs : List Value} {dv v : Value} (A : Arv Z h a k ty z vs dv) (hty : ty.isReference = true) (hj : ¬ j < 0 ∧ j < z) (hv : vs.getD j.toNatClampNeg dv = v) (hd : decode b pc = .ok (.aaload, 1)) (hq : pc + 1 = q)
    (nx : Go l Z K own mn b ml rt R Q h F c s q L (v :: S)) : Go l Z K own mn b ml rt R Q h F c s pc L (.int j :: .ref a :: S) := by
  subst hq
  exact go_of (fun T X t st => by
    obtain ⟨vm, k, locs, Y, eT, hS, hk, hZ, hown, N, C, M, O, r⟩ := X
    obtain ⟨cl, Ar, q1, q2, q3, q4, q5⟩ := A
    exact Y.aaload r.1 (by rw [eT]; exact Ar.1) (State.isArrayOf_alike hZ.alike Ar.2.1) hty Ar.2.2 (inb_of q2 hj) (q4.at (inb_of q2 hj) hv) (g := mkF K.2.2.2.1 pc L (.int j :: .ref a :: S)) rfl rfl (hb r.2.1 hd) _ st) nx
theorem go_checkcast {index : Nat} {C : String} {a : Addr} (w : (Cond.classLink own index C).before a0 Z = true) (I : Ins Z h a C true) (hd : decode b pc = .ok (.checkcast index, 3)) (hq : pc + 3 = q)
    (nx : Go l Z K own mn b ml rt R Q h F c s q L (.ref a :: S)) : Go l Z K own mn b ml rt R Q h F c s pc L (.ref a :: S) := fun T X => by
  subst hq
  obtain ⟨vm, k, locs, Y, eT, hS, hk, hZ, hown, N, C, M, O, r⟩ := X
  obtain ⟨T', Y', e', st⟩ := castY Y r.1 hZ hown w eT I (g := mkF K.2.2.2.1 pc L (.ref a :: S)) rfl rfl (hb r.2.1 hd)
  obtain ⟨s₂, o, x, r'⟩ := nx T' ⟨vm, k, locs, Y', e', hS, hk, hZ, hown, N, C, M, O, r⟩
  exact ⟨s₂, o, st _ x, r'⟩
theorem go_instY {index : Nat} {C : String} {a : Addr} (w : (Cond.classLink own index C).before a0 Z = true) (I : Ins Z h a C true) (hd : decode b pc = .ok (.instanceof index, 3)) (hq : pc + 3 = q)
    (nx : Go l Z K own mn b ml rt R Q h F c s q L (.int 1 :: S)) : Go l Z K own mn b ml rt R Q h F c s pc L (.ref a :: S) := fun T X => by
  subst hq
  obtain ⟨vm, k, locs, Y, eT, hS, hk, hZ, hown, N, C, M, O, r⟩ := X
  obtain ⟨T', Y', e', st⟩ := instY Y r.1 hZ hown w eT I (g := mkF K.2.2.2.1 pc L (.ref a :: S)) rfl rfl (hb r.2.1 hd)
  obtain ⟨s₂, o, x, r'⟩ := nx T' ⟨vm, k, locs, Y', e', hS, hk, hZ, hown, N, C, M, O, r⟩
  exact ⟨s₂, o, st _ x, r'⟩
theorem go_instNo {index : Nat} {C D : String} {a : Addr} (w : (Cond.classLink own index D).before a0 Z = true) (E : Exa Z h a C) (Fn : ∃ c t, Z.vm.findClass C = some c ∧ Z.vm.findClass D = some t ∧ Z.vm.assignable c t = false) (hd : decode b pc = .ok (.instanceof index, 3)) (hq : pc + 3 = q)
    (nx : Go l Z K own mn b ml rt R Q h F c s q L (.int 0 :: S)) : Go l Z K own mn b ml rt R Q h F c s pc L (.ref a :: S) := fun T X => by
  subst hq
  obtain ⟨vm, k, locs, Y, eT, hS, hk, hZ, hown, N, C, M, O, r⟩ := X
  obtain ⟨T', Y', e', st⟩ := instNo Y r.1 hZ hown w eT E Fn (g := mkF K.2.2.2.1 pc L (.ref a :: S)) rfl rfl (hb r.2.1 hd)
  obtain ⟨s₂, o, x, r'⟩ := nx T' ⟨vm, k, locs, Y', e', hS, hk, hZ, hown, N, C, M, O, r⟩
  exact ⟨s₂, o, st _ x, r'⟩
theorem go_ldcInt {index : Nat} {v : Int32} (w : (Cond.constant own index v).before a0 Z = true) (hd : decode b pc = .ok (.ldc index, 2)) (hq : pc + 2 = q) (nx : Go l Z K own mn b ml rt R Q h F c s q L (.int v :: S)) : Go l Z K own mn b ml rt R Q h F c s pc L S := by
  subst hq
  exact go_of (fun T X t st => by
    obtain ⟨vm, k, locs, Y, eT, hS, hk, hZ, hown, N, C, M, O, r⟩ := X
    exact Y.ldcInt r.1 hown (mvT (s := K.2.2.1.setVm vm) hZ w) (g := mkF K.2.2.2.1 pc L S) rfl (hb r.2.1 hd) _ st) nx
theorem go_ldc2 {index : Nat} {v : Int64} (w : (Cond.constantLong own index v).before a0 Z = true) (hd : decode b pc = .ok (.ldc2_w index, 3)) (hq : pc + 3 = q) (nx : Go l Z K own mn b ml rt R Q h F c s q L (.long v :: S)) : Go l Z K own mn b ml rt R Q h F c s pc L S := by
  subst hq
  exact go_of (fun T X t st => by
    obtain ⟨vm, k, locs, Y, eT, hS, hk, hZ, hown, N, C, M, O, r⟩ := X
    exact Y.ldc2Long r.1 hown (mvT (s := K.2.2.1.setVm vm) hZ w) (g := mkF K.2.2.2.1 pc L S) rfl (hb r.2.1 hd) _ st) nx
/-- ldc of a String constant, read -/
theorem go_ldcS (H : Wd Z a0) {index : Nat} {text : String} (w : (Cond.stringLink own index text).before a0 Z = true) (hm : (own, index) ∈ consts_1) {vs : List Value} {z : Int32} (ht : (∀ c ∈ text.toList, c.toNat < 256) ∧ text.toList.map (fun c => Value.int (Jvm.Lit.byteI c.toNat.toUInt16)) = vs) (hz : ¬ z < 0) (hl : z.toNatClampNeg = vs.length)
    (hd : decode b pc = .ok (.ldc index, 2)) {n : Nat} (hn : 4 * text.toList.length ≤ n) (hbig : n ≤ 536870912) (hq : pc + 2 = q) (hc : c + 2 = c') (hs : s + (n + 4) = s') (hc' : c' ≤ R.cells) (hs' : s' ≤ R.slots)
    (nx : ∀ h' a bb k, Ext h h' → Exa Z h' a "java/lang/String" → Fld Z h' a "java/lang/String" "coder" "B" (.int 0) → Fld Z h' a "java/lang/String" "value" "[B" (.ref bb) → Arv Z h' bb k .byte z vs (.int 0) → (∀ x ∈ F, x ≠ a ∧ x ≠ bb) → Go l Z K own mn b ml rt R Q h' F c' s' q L (.ref a :: S)) : Go l Z K own mn b ml rt R Q h F c s pc L S := fun T X => by
  subst hq hc hs
  obtain ⟨vm, k, locs, Y, eT, hS, hk, hZ, hown, N, C, M, O, r⟩ := X
  obtain ⟨a, T', h', k1, bb, kc, Y', e', E, hS', hk', hZ', hown', A, Fc, Fv, V, -, -, C', -, Sf, st⟩ := ldcCH Y r.1 hZ hown w H.2.2.1 eT hS hk H.2.1 hm C.1 ht hz hl (g := mkF K.2.2.2.1 pc L S) rfl (hb r.2.1 hd) hn hbig hc' hs'
  have M' : ∀ x ∈ F, Mine Z T'.vm h' x := fun x hx => ⟨(M x hx).1, Nat.lt_of_lt_of_le (M x hx).2.1 E.1, C'.safe (M x hx).2.1 (M x hx).2.2⟩
  obtain ⟨s₂, o, x, r'⟩ := nx h' a bb kc E A Fc Fv V (fun x hx => Sf x (M' x hx).2.2) T' ⟨T'.vm, k1, locs, Y', e', hS', hk', hZ', hown', N, C.trans C', M', O.ext E, r⟩
  exact ⟨s₂, o, st _ x, r'⟩
theorem go_initO {index : Nat} {a : Addr} (w1 : (Cond.methodLink own index Lib.objectInit).before a0 Z = true) (w2 : (Cond.instanceMethod Lib.objectInit).before a0 Z = true) (w3 : (Cond.code Lib.objectInit ⟨#[0xb1]⟩ 1 none).before a0 Z = true) (hL : L.size = ml) (hd : decode b pc = .ok (.invokespecial index, 3)) (hq : pc + 3 = q) (hf : 1 ≤ R.frames) (hlo : (S.map fun v => v.category).sum + 12 ≤ R.locals)
    (nx : Go l Z K own mn b ml rt R Q h F c s q L S) : Go l Z K own mn b ml rt R Q h F c s pc L (.ref a :: S) := fun T X => by
  subst hq
  obtain ⟨vm, k, locs, Y, eT, hS, hk, hZ, hown, N, C, M, O, r⟩ := X
  obtain ⟨T', Y', e', st⟩ := initO Y r.1 hZ hown w1 w2 w3 eT (g := mkF K.2.2.2.1 pc L (.ref a :: S)) rfl (by rw [r.2.2.1]; exact hL) rfl (hb r.2.1 hd) hf (W := (S.map fun v => v.category).sum) (by show 2 * 0 + _ ≤ _; omega) hlo
  obtain ⟨s₂, o, x, r'⟩ := nx T' ⟨vm, k, locs, Y', e', hS, hk, hZ, hown, N, C, M, O, r⟩
  exact ⟨s₂, o, st _ x, r'⟩
/-! ### returns -/
theorem St.end_ (H : Wd Z a0) {T : State} (X : St l Z K own mn b ml rt R T h F c s) {G : List Addr} {v : Option Value} (hq : Q v h G) (hG : ∀ x ∈ G, x ∈ F) (hc : c ≤ R.cells) (hs : s ≤ R.slots) (hv : rt = none → v = none) :
    ∃ fs, (∀ (f : JFrame) (acts : List Action), f.method = K.2.2.2.1 → f.locked = none → f.entered = [] → (doReturn K.2.1 (T.setTop f) acts v).1 = T.setFrames fs) ∧ (T.setFrames fs).status = .running ∧ Ended (T.setFrames fs) K.2.2.2.2.2.1 (.returned v) ∧ End Z K.2.2.1 R Q (.returned v) (T.setFrames fs) := by
  obtain ⟨vm, k, locs, Y, eT, hS, hk, hZ, hown, N, C, M, O, hx, hb', r1, r2, r3, r4⟩ := X
  obtain ⟨fs, h1, h2, h3, h4⟩ := Y.leaveW hS (by rw [eT]; exact hk) (v := v) (fun e => hv (r2.symm.trans e)) r4
  have A := CHv.at Y hZ H.2.1 C.1
  refine ⟨fs, h1, h2, h3, v, locs, G, rfl, by show Q v T.heap G; rw [eT]; exact hq, N, fun x hx => ?_, by show CHr Z consts_1 _ _ T.vm T.heap; rw [eT]; exact C.trans A, by show Old Z _ T.heap; rw [eT]; exact O, h4.1, h4.2.1, h4.2.2.1, h4.2.2.2.mono hc hs⟩
  have m := M x (hG x hx)
  exact ⟨m.1, by show x < T.heap.size; rw [eT]; exact m.2.1, by show Safe Z consts_1 T.vm T.heap x; rw [eT]; exact A.safe m.2.1 m.2.2⟩
theorem go_return (H : Wd Z a0) {G : List Addr} (hr : rt = none) (hd : decode b pc = .ok (.return_, 1)) (hc : c ≤ R.cells) (hs : s ≤ R.slots) (hG : ∀ x ∈ G, x ∈ F) (hq : Q none h G) : Go l Z K own mn b ml rt R Q h F c s pc L [] := fun T X => by
  obtain ⟨fs, h1, h2, h3, h4⟩ := X.end_ H hq hG hc hs (fun _ => rfl)
  obtain ⟨vm, k, locs, Y, eT, hS, hk, hZ, hown, N, C, M, O, hx, hb', r1, r2, r3, r4⟩ := X
  exact ⟨_, _, Y.returnOut hx (r2.trans hr) (hb hb' hd) h1, h2, h3, h4⟩
theorem go_areturn (H : Wd Z a0) {G : List Addr} {w : Value} {t : FieldType} (hr : rt = some t) (ht : t.isReference = true) (hw : w.isRef = true) (hd : decode b pc = .ok (.areturn, 1)) (hc : c ≤ R.cells) (hs : s ≤ R.slots) (hG : ∀ x ∈ G, x ∈ F) (hq : Q (some w) h G) : Go l Z K own mn b ml rt R Q h F c s pc L (w :: S) := fun T X => by
  obtain ⟨fs, h1, h2, h3, h4⟩ := X.end_ H hq hG hc hs (fun e => by rw [hr] at e; cases e)
  obtain ⟨vm, k, locs, Y, eT, hS, hk, hZ, hown, N, C, M, O, hx, hb', r1, r2, r3, r4⟩ := X
  have hn : narrow t w = w := by cases t <;> cases w <;> simp_all [narrow, Value.isRef, FieldType.isReference]
  exact ⟨_, _, retOut Y hx (r2.trans hr) hn (Or.inr (Or.inr (Or.inr (Or.inr ⟨rfl, ht, hw⟩)))) (hb hb' hd) h1, h2, h3, h4⟩
theorem go_ireturn (H : Wd Z a0) {G : List Addr} {x : Int32} {t : FieldType} (hr : rt = some t) (ht : t = .int ∨ t = .boolean ∨ t = .byte ∨ t = .char ∨ t = .short) (hn : narrow t (.int x) = .int x) (hd : decode b pc = .ok (.ireturn, 1)) (hc : c ≤ R.cells) (hs : s ≤ R.slots) (hG : ∀ x ∈ G, x ∈ F) (hq : Q (some (.int x)) h G) : Go l Z K own mn b ml rt R Q h F c s pc L (.int x :: S) := fun T X => by
  obtain ⟨fs, h1, h2, h3, h4⟩ := X.end_ H hq hG hc hs (fun e => by rw [hr] at e; cases e)
  obtain ⟨vm, k, locs, Y, eT, hS, hk, hZ, hown, N, C, M, O, hx, hb', r1, r2, r3, r4⟩ := X
  exact ⟨_, _, retOut Y hx (r2.trans hr) hn (Or.inl ⟨rfl, ht, x, rfl⟩) (hb hb' hd) h1, h2, h3, h4⟩
theorem go_lreturn (H : Wd Z a0) {G : List Addr} {x : Int64} (hr : rt = some .long) (hd : decode b pc = .ok (.lreturn, 1)) (hc : c ≤ R.cells) (hs : s ≤ R.slots) (hG : ∀ x ∈ G, x ∈ F) (hq : Q (some (.long x)) h G) : Go l Z K own mn b ml rt R Q h F c s pc L (.long x :: S) := fun T X => by
  obtain ⟨fs, h1, h2, h3, h4⟩ := X.end_ H hq hG hc hs (fun e => by rw [hr] at e; cases e)
  obtain ⟨vm, k, locs, Y, eT, hS, hk, hZ, hown, N, C, M, O, hx, hb', r1, r2, r3, r4⟩ := X
  exact ⟨_, _, retOut Y hx (r2.trans hr) rfl (Or.inr (Or.inl ⟨rfl, rfl, x, rfl⟩)) (hb hb' hd) h1, h2, h3, h4⟩
/-! ### calls -/
/-- what a callee leaves, as the caller's law sees it -/
def Left (Z : State) (vm0 : Vm) (h : Heap) (R' : Room) (Q' : QT) (A : Pt) (v : Option Value) (B : Pt) : Prop :=
  ∃ L G, Q' v B.U.heap G ∧ Fr Z.heap.size L ∧ (∀ x ∈ G, Mine Z B.U.vm B.U.heap x) ∧ CHr Z consts_1 vm0 h B.U.vm B.U.heap ∧ Old Z Z.heap.size B.U.heap ∧ B.locs = A.locs ++ L ∧ B.cells = A.cells + R'.cells ∧ B.slots = A.slots + R'.slots
theorem Met.back {y : MethodName} {b' : ByteArray} {ml' : Nat} {rt' : Option FieldType} {R' : Room} {F' : List Addr} {as : Array Value} {Q' : QT} {len W : Nat} {vm0 : Vm} {p : Program} {e : Env} {below : List Frame} {s : State} {args : Array Value} (H : Wd Z a0) (M : Met l Z y b' ml' rt' R' h F' as Q') (hZ : Z.Warmed39 vm0)
    (wc : (Cond.code y b' ml' rt').before a0 Z = true) (wz : (Cond.initialized y.cls).before a0 Z = true) (hf : R'.frames + 1 ≤ R.frames) (hl : W + (ml' + 11) + R'.locals ≤ R.locals) (C : CHv Z consts_1 vm0 h) (hM : ∀ x ∈ F', Mine Z vm0 h x) (hO : Old Z Z.heap.size h) :
    BackS l R p e below (s.setVm vm0) args y len W (fun A a => a = as ∧ A.U.heap = h ∧ A.cells + R'.cells ≤ R.cells ∧ A.slots + R'.slots ≤ R.slots) (fun A _ v B => Left Z vm0 h R' Q' A v B) :=
  BackS.of_freeW (bytes := b') (maxL := ml') (ret := rt') (E := fun _ first o t L k n => k = R'.cells ∧ n = R'.slots ∧ ∃ v G, o = .returned v ∧ Q' v t.heap G ∧ Fr Z.heap.size L ∧ (∀ x ∈ G, Mine Z t.vm t.heap x) ∧ CHr Z consts_1 first.vm first.heap t.vm t.heap ∧ Old Z Z.heap.size t.heap) M hf hl
    (fun m meth c A a Y hp => have hU : Z.Warmed39 A.U.vm := wtrans (s := s.setVm vm0) hZ Y.warmed
      ⟨by show (Cond.and _ .tt).before a A.U = true; rw [Cond.before_and, mv hU wc]; rfl, mv hU wc, mv hU wz, hp.2.2.1, hp.2.2.2⟩)
    (fun m meth c A a g mk Y hp => ⟨hp.1, wtrans (s := s.setVm vm0) hZ Y.warmed, hp.2.1, (CHv.at Y hZ H.2.1 C).1, fun x hx => ⟨(hM x hx).1, (hM x hx).2.1, (CHv.at Y hZ H.2.1 C).safe (hM x hx).2.1 (hM x hx).2.2⟩, hO⟩) (fun _ _ _ _ _ _ _ _ _ => trivial)
    (fun _ _ _ _ ⟨v, L, G, h1, h2, h3, h4, h5, h6, h7⟩ => ⟨L, _, _, h7, rfl, rfl, v, G, h1, h2, h3, h4, h5, h6⟩)
    (fun m meth c A a g mk v t L k n Y hp _ _ ⟨e1, e2, v', G, e3, e4, e5, e6, e7, e8⟩ => by
      cases e3; subst e1 e2
      refine ⟨L, G, e4, e5, e6, (CHv.at Y hZ H.2.1 C).trans ?_, e8, rfl, rfl, rfl⟩
      rw [← hp.2.1]; exact e7)
/-- behind a call -/
theorem St.came {vm : Vm} {k : Nat} {locs : List Loc} {T : State} {R' : Room} {Q' : QT} {v : Option Value} {vm₁ : Vm} {B : Pt} (Y : Stand K.1 l K.2.1 R (K.2.2.1.setVm vm) K.2.2.2.1 K.2.2.2.2.1 K.2.2.2.2.2.1 K.2.2.2.2.2.2.1 K.2.2.2.2.2.2.2 T locs c s) (eT : T.heap = h) (hS : K.2.2.1.Since vm k) (hk : k ≤ h.size)
    (hZ : Z.Warmed39 vm) (hown : vm.findClass own = some K.2.2.2.1.cls) (N : Fr Z.heap.size locs) (C : CHr Z consts_1 K.2.2.1.vm K.2.2.1.heap vm h) (M : ∀ x ∈ F, Mine Z vm h x)
    (r : K.1.tables.exec = Jvm.exec ∧ K.2.2.2.2.2.2.2.code = b ∧ K.2.2.2.2.2.2.2.maxLocals = ml ∧ K.2.2.2.2.2.2.1.sig.returnType = rt ∧ K.2.2.2.2.2.2.1.name = mn ∧ K.2.2.2.2.2.2.1.locks = false)
    (Y' : Stand K.1 l K.2.1 R ((K.2.2.1.setVm vm).setVm B.U.vm) K.2.2.2.1 K.2.2.2.2.1 K.2.2.2.2.2.1 K.2.2.2.2.2.2.1 K.2.2.2.2.2.2.2 B.U B.locs B.cells B.slots) (hS' : (K.2.2.1.setVm vm).Since B.U.vm B.U.heap.size) (hg : T.heap.size ≤ B.U.heap.size) (P : Left Z vm h R' Q' ⟨T.setVm vm₁, locs, c, s⟩ v B) :
    ∃ G, Q' v B.U.heap G ∧ (∀ F2, (∀ x ∈ F2, x ∈ G ∨ x ∈ F) → St l Z K own mn b ml rt R B.U B.U.heap F2 (c + R'.cells) (s + R'.slots)) := by
  obtain ⟨Lc, G, q1, q2, q3, q4, q5, q6, q7, q8⟩ := P
  have hkT : k ≤ T.heap.size := by rw [eT]; exact hk
  obtain ⟨w1, w2, w3, w4⟩ := rebS hS hkT Y' hS' hg hZ hown
  try dsimp only at q6 q7 q8
  rw [q6, q7, q8] at w1
  exact ⟨G, q1, fun F2 hF => ⟨B.U.vm, _, _, w1, rfl, w2, Nat.le_refl _, w3, w4, N.app q2, C.trans q4, fun x hx => by
    rcases hF x hx with z | z
    · exact q3 x z
    · have m := M x z
      exact ⟨m.1, Nat.lt_of_lt_of_le m.2.1 (by rw [← eT]; exact hg), q4.safe m.2.1 m.2.2⟩, q5, r⟩⟩
theorem decl_of {y : MethodName} {b' : ByteArray} {ml' : Nat} {rt' : Option FieldType} (w1 : (Cond.instanceMethod y).before a0 Z = true) (w2 : (Cond.code y b' ml' rt').before a0 Z = true) : (Cond.declares y).before a0 Z = true := by
  obtain ⟨mk, methM, hn, hm, hst, -⟩ := Cond.instanceMethod_spec w1
  obtain ⟨m2, cM, q1, -, -, -, -, -, -, hsig⟩ := Cond.code_spec hn w2
  cases hm.symm.trans q1
  simp [Cond.before, Cond.holds, Cond.value, hn, hm, hst, hsig]
theorem nf_mate {y w : MethodName} {C : String} (hc : w.cls = y.cls) (hs : (Cond.selects C w w).before a0 Z = true) : ∀ s : State, Z.Warmed39 s.vm → NotFace s y := fun s hZ r0 h0 => by
  obtain ⟨c, r, m, q1, q2, q3, q4, mk, q5, q6⟩ := Cond.selects_spec (mvT (s := s) (args := #[]) hZ hs)
  have e1 := findClass_of_methodNamed q3
  have e2 := findClass_of_methodNamed h0
  rw [hc] at e1
  have e3 : m.cls = r0.cls := Option.some.inj (e1.symm.trans e2)
  exact ⟨mk, by rw [← e3]; exact q5, q6⟩
theorem same_of {y w : MethodName} {C : String} (hc : w.cls = y.cls) (hs : (Cond.selects C w w).before a0 Z = true) (hd : (Cond.declares y).before a0 Z = true) (hy : y.cls ≠ "java/lang/invoke/MethodHandle" ∧ y.cls ≠ "java/lang/invoke/VarHandle") : (Cond.sameMethod y.cls y.cls y.name y.desc).before a0 Z = true := by
  obtain ⟨r0, r, hn, hrm, -, -⟩ := Cond.declares_spec hd
  obtain ⟨k, hk, hi⟩ := nf_mate hc hs Z (State.Warmed39.refl Z) r0 hn
  have hf := State.methodFound?_of_named hn hy
  have hcn := findClass_of_methodNamed hn
  have hn' : Z.methodNamed? ⟨y.cls, y.name, y.desc⟩ = some r0 := hn
  simp [Cond.before, Cond.holds, Cond.value, hcn, hf, hn', hk, hi]
section Calls
variable {index : Nat} {y : MethodName} {b' : ByteArray} {ml' : Nat} {rt' : Option FieldType} {R' : Room} {F' : List Addr} {as : Array Value} {Q' : QT} {argsL : List Value}
theorem go_static (H : Wd Z a0) (w1 : (Cond.methodLink own index y).before a0 Z = true) (w2 : (Cond.static y).before a0 Z = true) (w3 : (Cond.initialized y.cls).before a0 Z = true) (w4 : (Cond.code y b' ml' rt').before a0 Z = true) (hy : y.cls ≠ "java/lang/invoke/MethodHandle" ∧ y.cls ≠ "java/lang/invoke/VarHandle") (M' : Met l Z y b' ml' rt' R' h F' as Q')
    (ha : argsL.toArray = as) (hst : S' = argsL.reverse ++ S) (hlen : ∀ sig, parseMethodDescriptor y.desc = some sig → argsL.length = sig.parameters.length) (hF : ∀ x ∈ F', x ∈ F) (hL : L.size = ml) (hfr : R'.frames + 1 ≤ R.frames) (hlo : (S.map fun v => v.category).sum + (ml' + 11) + R'.locals ≤ R.locals) (hc : c + R'.cells = c') (hs : s + R'.slots = s') (hc' : c' ≤ R.cells) (hs' : s' ≤ R.slots)
    (hd : decode b pc = .ok (.invokestatic index, 3)) (hq : pc + 3 = q) (nx : ∀ v h' G, h.size ≤ h'.size → Q' v h' G → ∃ F2, (∀ x ∈ F2, x ∈ G ∨ x ∈ F) ∧ Go l Z K own mn b ml rt R Q h' F2 c' s' q L (v.toList ++ S)) : Go l Z K own mn b ml rt R Q h F c s pc L S' := fun T X => by
  subst hq hc hs hst ha
  obtain ⟨vm, k, locs, Y, eT, hS, hk, hZ, hown, N, C, M, O, r⟩ := X
  obtain ⟨v, vm₁, B, -, Y', hS', hg, P, st⟩ := callSS Y r.1 hown (mvT (s := K.2.2.1.setVm vm) hZ w1) (mvT (s := K.2.2.1.setVm vm) hZ w2) (mvT (s := K.2.2.1.setVm vm) hZ w3) (mvT (s := K.2.2.1.setVm vm) hZ w4) hy (W := (S.map fun v => v.category).sum) (M'.back H hZ w4 w3 hfr hlo C.1 (fun x hx => M x (hF x hx)) O) (g := mkF K.2.2.2.1 pc L (argsL.reverse ++ S)) rfl (by rw [r.2.2.1]; exact hL) (argsL := argsL) (rest := S) hlen rfl (by show 2 * 0 + _ ≤ _; omega) (hb r.2.1 hd) (fun _ _ => ⟨rfl, eT, hc', hs'⟩)
  obtain ⟨G, q1, q2⟩ := St.came Y eT hS hk hZ hown N C M r Y' hS' hg P
  obtain ⟨F2, f1, f2⟩ := nx v B.U.heap G (by rw [← eT]; exact hg) q1
  obtain ⟨s₂, o, x, r'⟩ := f2 B.U (q2 F2 f1)
  exact ⟨s₂, o, st.trans x, r'⟩
theorem go_special (H : Wd Z a0) {a : Addr} (hy1 : y.name = "<init>") (w1 : (Cond.methodLink own index y).before a0 Z = true) (w2 : (Cond.instanceMethod y).before a0 Z = true) (w3 : (Cond.initialized y.cls).before a0 Z = true) (w4 : (Cond.code y b' ml' none).before a0 Z = true) (hy : y.cls ≠ "java/lang/invoke/MethodHandle" ∧ y.cls ≠ "java/lang/invoke/VarHandle") (M' : Met l Z y b' ml' none R' h F' as Q')
    (ha : (.ref a :: argsL).toArray = as) (hst : S' = argsL.reverse ++ .ref a :: S) (hlen : ∀ sig, parseMethodDescriptor y.desc = some sig → argsL.length = sig.parameters.length) (hF : ∀ x ∈ F', x ∈ F) (hL : L.size = ml) (hfr : R'.frames + 1 ≤ R.frames) (hlo : (S.map fun v => v.category).sum + (ml' + 11) + R'.locals ≤ R.locals) (hc : c + R'.cells = c') (hs : s + R'.slots = s') (hc' : c' ≤ R.cells) (hs' : s' ≤ R.slots)
    (hd : decode b pc = .ok (.invokespecial index, 3)) (hq : pc + 3 = q) (nx : ∀ v h' G, h.size ≤ h'.size → Q' v h' G → ∃ F2, (∀ x ∈ F2, x ∈ G ∨ x ∈ F) ∧ Go l Z K own mn b ml rt R Q h' F2 c' s' q L (v.toList ++ S)) : Go l Z K own mn b ml rt R Q h F c s pc L S' := fun T X => by
  subst hq hc hs hst ha
  obtain ⟨vm, k, locs, Y, eT, hS, hk, hZ, hown, N, C, M, O, r⟩ := X
  obtain ⟨v, vm₁, B, -, Y', hS', hg, P, st⟩ := Y.specialBackS r.1 hy1 hown (mvT (s := K.2.2.1.setVm vm) hZ w1) (mvT (s := K.2.2.1.setVm vm) hZ w2) (mvT (s := K.2.2.1.setVm vm) hZ w4) hy (W := (S.map fun v => v.category).sum) (M'.back H hZ w4 w3 hfr hlo C.1 (fun x hx => M x (hF x hx)) O) (g := mkF K.2.2.2.1 pc L (argsL.reverse ++ .ref a :: S)) rfl (by rw [r.2.2.1]; exact hL) (Steps.refl _) (argsL := argsL) (rest := S) hlen rfl (by show 2 * 0 + _ ≤ _; omega) (hb r.2.1 hd) (fun _ _ => ⟨rfl, eT, hc', hs'⟩)
  obtain ⟨G, q1, q2⟩ := St.came Y eT hS hk hZ hown N C M r Y' hS' hg P
  obtain ⟨F2, f1, f2⟩ := nx v B.U.heap G (by rw [← eT]; exact hg) q1
  obtain ⟨s₂, o, x, r'⟩ := f2 B.U (q2 F2 f1)
  exact ⟨s₂, o, st.trans x, r'⟩
/-- invokevirtual of y on an object exactly of class C: the body is z's -/
theorem go_virtual (H : Wd Z a0) {a : Addr} {C : String} {z : MethodName} (w1 : (Cond.methodLink own index y).before a0 Z = true) (w2 : (Cond.declares y).before a0 Z = true) (wnf : ∀ s : State, Z.Warmed39 s.vm → NotFace s y) (w3 : (Cond.selects C y z).before a0 Z = true) (w4 : (Cond.instanceMethod z).before a0 Z = true) (w5 : (Cond.initialized z.cls).before a0 Z = true) (w6 : (Cond.code z b' ml' rt').before a0 Z = true)
    (hy : y.cls ≠ "java/lang/invoke/MethodHandle" ∧ y.cls ≠ "java/lang/invoke/VarHandle") (E : Exa Z h a C) (M' : Met l Z z b' ml' rt' R' h F' as Q')
    (ha : (.ref a :: argsL).toArray = as) (hst : S' = argsL.reverse ++ .ref a :: S) (hlen : ∀ sig, parseMethodDescriptor y.desc = some sig → argsL.length = sig.parameters.length) (hF : ∀ x ∈ F', x ∈ F) (hL : L.size = ml) (hfr : R'.frames + 1 ≤ R.frames) (hlo : (S.map fun v => v.category).sum + (ml' + 11) + R'.locals ≤ R.locals) (hc : c + R'.cells = c') (hs : s + R'.slots = s') (hc' : c' ≤ R.cells) (hs' : s' ≤ R.slots)
    (hd : decode b pc = .ok (.invokevirtual index, 3)) (hq : pc + 3 = q) (nx : ∀ v h' G, h.size ≤ h'.size → Q' v h' G → ∃ F2, (∀ x ∈ F2, x ∈ G ∨ x ∈ F) ∧ Go l Z K own mn b ml rt R Q h' F2 c' s' q L (v.toList ++ S)) : Go l Z K own mn b ml rt R Q h F c s pc L S' := fun T X => by
  subst hq hc hs hst ha
  obtain ⟨vm, k, locs, Y, eT, hS, hk, hZ, hown, N, C, M, O, r⟩ := X
  obtain ⟨cB, kB, g1, g2, g3⟩ := isOf (s := K.2.2.1.setVm vm) hZ eT E
  obtain ⟨v, vm₁, B, -, Y', hS', hg, P, st⟩ := Y.virtualBackS r.1 hown (mvT (s := K.2.2.1.setVm vm) hZ w1) (mvT (s := K.2.2.1.setVm vm) hZ w2) (wnf (K.2.2.1.setVm vm) hZ) (mvT (s := K.2.2.1.setVm vm) hZ w3) (mvT (s := K.2.2.1.setVm vm) hZ w4) hy (W := (S.map fun v => v.category).sum) (M'.back H hZ w6 w5 hfr hlo C.1 (fun x hx => M x (hF x hx)) O) g1 g3 (g := mkF K.2.2.2.1 pc L (argsL.reverse ++ .ref a :: S)) rfl (by rw [r.2.2.1]; exact hL) (Steps.refl _) (argsL := argsL) (rest := S) hlen rfl (by show 2 * 0 + _ ≤ _; omega) (hb r.2.1 hd) (fun _ _ => ⟨rfl, eT, hc', hs'⟩)
  obtain ⟨G, q1, q2⟩ := St.came Y eT hS hk hZ hown N C M r Y' hS' hg P
  obtain ⟨F2, f1, f2⟩ := nx v B.U.heap G (by rw [← eT]; exact hg) q1
  obtain ⟨s₂, o, x, r'⟩ := f2 B.U (q2 F2 f1)
  exact ⟨s₂, o, st.trans x, r'⟩
theorem go_interface (H : Wd Z a0) {a : Addr} {C : String} {z : MethodName} {count : Nat} (w1 : (Cond.methodLink own index y).before a0 Z = true) (w2 : (Cond.declares y).before a0 Z = true) (w3 : ∀ (s : State) (args : Array Value), Z.Warmed39 s.vm → (Cond.interfaceMethod y.cls y.cls y.name y.desc).before args s = true) (w4 : (Cond.selects C y z).before a0 Z = true) (w5 : (Cond.instanceMethod z).before a0 Z = true) (w6 : (Cond.publicMethod z).before a0 Z = true) (w7 : (Cond.unhidden C y.name y.desc).before a0 Z = true) (w8 : (Cond.castable C y.cls).before a0 Z = true) (w9 : (Cond.initialized z.cls).before a0 Z = true) (w10 : (Cond.code z b' ml' rt').before a0 Z = true)
    (hy : y.cls ≠ "java/lang/invoke/MethodHandle" ∧ y.cls ≠ "java/lang/invoke/VarHandle") (E : Exa Z h a C) (M' : Met l Z z b' ml' rt' R' h F' as Q')
    (ha : (.ref a :: argsL).toArray = as) (hst : S' = argsL.reverse ++ .ref a :: S) (hlen : ∀ sig, parseMethodDescriptor y.desc = some sig → argsL.length = sig.parameters.length) (hF : ∀ x ∈ F', x ∈ F) (hL : L.size = ml) (hfr : R'.frames + 1 ≤ R.frames) (hlo : (S.map fun v => v.category).sum + (ml' + 11) + R'.locals ≤ R.locals) (hc : c + R'.cells = c') (hs : s + R'.slots = s') (hc' : c' ≤ R.cells) (hs' : s' ≤ R.slots)
    (hd : decode b pc = .ok (.invokeinterface index count, 5)) (hq : pc + 5 = q) (nx : ∀ v h' G, h.size ≤ h'.size → Q' v h' G → ∃ F2, (∀ x ∈ F2, x ∈ G ∨ x ∈ F) ∧ Go l Z K own mn b ml rt R Q h' F2 c' s' q L (v.toList ++ S)) : Go l Z K own mn b ml rt R Q h F c s pc L S' := fun T X => by
  subst hq hc hs hst ha
  obtain ⟨vm, k, locs, Y, eT, hS, hk, hZ, hown, N, C, M, O, r⟩ := X
  obtain ⟨cB, kB, g1, g2, g3⟩ := isOf (s := K.2.2.1.setVm vm) hZ eT E
  obtain ⟨v, vm₁, B, -, Y', hS', hg, P, st⟩ := Y.interfaceBackS r.1 hown (mvT (s := K.2.2.1.setVm vm) hZ w1) (mvT (s := K.2.2.1.setVm vm) hZ w2) (w3 (K.2.2.1.setVm vm) _ hZ) (mvT (s := K.2.2.1.setVm vm) hZ w4) (mvT (s := K.2.2.1.setVm vm) hZ w5) (mvT (s := K.2.2.1.setVm vm) hZ w6) (mvT (s := K.2.2.1.setVm vm) hZ w7) (mvT (s := K.2.2.1.setVm vm) hZ w8) hy (W := (S.map fun v => v.category).sum) (M'.back H hZ w10 w9 hfr hlo C.1 (fun x hx => M x (hF x hx)) O) g1 g2 g3 (g := mkF K.2.2.2.1 pc L (argsL.reverse ++ .ref a :: S)) rfl (by rw [r.2.2.1]; exact hL) (Steps.refl _) (argsL := argsL) (rest := S) hlen rfl (by show 2 * 0 + _ ≤ _; omega) (hb r.2.1 hd) (fun _ _ => ⟨rfl, eT, hc', hs'⟩)
  obtain ⟨G, q1, q2⟩ := St.came Y eT hS hk hZ hown N C M r Y' hS' hg P
  obtain ⟨F2, f1, f2⟩ := nx v B.U.heap G (by rw [← eT]; exact hg) q1
  obtain ⟨s₂, o, x, r'⟩ := f2 B.U (q2 F2 f1)
  exact ⟨s₂, o, st.trans x, r'⟩
/-- invokespecial of the superclass's own method -/
theorem go_super (H : Wd Z a0) {a : Addr} {C : String} (w1 : (Cond.methodLink own index y).before a0 Z = true) (w2 : (Cond.sameMethod y.cls y.cls y.name y.desc).before a0 Z = true) (w3 : (Cond.instanceMethod y).before a0 Z = true) (w4 : (Cond.superclass own y.cls).before a0 Z = true) (w5 : (Cond.initialized y.cls).before a0 Z = true) (w6 : (Cond.code y b' ml' rt').before a0 Z = true) (hni : y.name ≠ "<init>") (E : Exa Z h a C) (M' : Met l Z y b' ml' rt' R' h F' as Q')
    (ha : (.ref a :: argsL).toArray = as) (hst : S' = argsL.reverse ++ .ref a :: S) (hlen : ∀ sig, parseMethodDescriptor y.desc = some sig → argsL.length = sig.parameters.length) (hF : ∀ x ∈ F', x ∈ F) (hL : L.size = ml) (hfr : R'.frames + 1 ≤ R.frames) (hlo : (S.map fun v => v.category).sum + (ml' + 11) + R'.locals ≤ R.locals) (hc : c + R'.cells = c') (hs : s + R'.slots = s') (hc' : c' ≤ R.cells) (hs' : s' ≤ R.slots)
    (hd : decode b pc = .ok (.invokespecial index, 3)) (hq : pc + 3 = q) (nx : ∀ v h' G, h.size ≤ h'.size → Q' v h' G → ∃ F2, (∀ x ∈ F2, x ∈ G ∨ x ∈ F) ∧ Go l Z K own mn b ml rt R Q h' F2 c' s' q L (v.toList ++ S)) : Go l Z K own mn b ml rt R Q h F c s pc L S' := fun T X => by
  subst hq hc hs hst ha
  obtain ⟨vm, k, locs, Y, eT, hS, hk, hZ, hown, N, C, M, O, r⟩ := X
  obtain ⟨v, vm₁, B, -, Y', hS', hg, P, st⟩ := superBackS Y r.1 (show Z.Warmed39 (K.2.2.1.setVm vm).vm from hZ) hown w1 w2 w3 w4 hni (W := (S.map fun v => v.category).sum) (M'.back H hZ w6 w5 hfr hlo C.1 (fun x hx => M x (hF x hx)) O) eT (Ins.self E) (g := mkF K.2.2.2.1 pc L (argsL.reverse ++ .ref a :: S)) rfl (by rw [r.2.2.1]; exact hL) w6 (argsL := argsL) (rest := S) hlen rfl (by show 2 * 0 + _ ≤ _; omega) (hb r.2.1 hd) (fun _ _ => ⟨rfl, eT, hc', hs'⟩)
  obtain ⟨G, q1, q2⟩ := St.came Y eT hS hk hZ hown N C M r Y' hS' hg P
  obtain ⟨F2, f1, f2⟩ := nx v B.U.heap G (by rw [← eT]; exact hg) q1
  obtain ⟨s₂, o, x, r'⟩ := f2 B.U (q2 F2 f1)
  exact ⟨s₂, o, st.trans x, r'⟩
/-- System.arraycopy of bytes -/
theorem go_arraycopy {a d : Addr} {ka kd : ClassId} {ty : FieldType} {z z' sp dp nn : Int32} {vs vd us : List Value} {dv dd : Value} (w1 : (Cond.methodLink own index Jvm.Stand.acN).before a0 Z = true) (w2 : (Cond.native Jvm.Stand.acN).before a0 Z = true) (w3 : (Cond.static Jvm.Stand.acN).before a0 Z = true) (w4 : (Cond.initialized "java/lang/System").before a0 Z = true)
    (A : Arv Z h a ka ty z vs dv) (B : Arv Z h d kd ty z' vd dd) (hty : refKind ty = false) (h1 : ¬ sp < 0) (h2 : ¬ dp < 0) (h3 : ¬ nn < 0) (h4 : sp.toNatClampNeg + nn.toNatClampNeg ≤ z.toNatClampNeg) (h5 : dp.toNatClampNeg + nn.toNatClampNeg ≤ z'.toNatClampNeg) (hus : us = (List.range nn.toNatClampNeg).map fun i => vs.getD (sp.toNatClampNeg + i) dv) (hl : dp.toNatClampNeg + nn.toNatClampNeg ≤ vd.length) (ha : d ∈ F)
    (hL : L.size = ml) (hfr : 1 ≤ R.frames) (hlo : (S.map fun v => v.category).sum + (nativeFrameWords "java/lang/System" "arraycopy" 5 + 11) ≤ R.locals) (hd : decode b pc = .ok (.invokestatic index, 3)) (hq : pc + 3 = q)
    (nx : ∀ h', Keep h h' [d] → Arv Z h' d kd ty z' (vd.take dp.toNatClampNeg ++ us ++ vd.drop (dp.toNatClampNeg + nn.toNatClampNeg)) dd → Go l Z K own mn b ml rt R Q h' F c s q L S) : Go l Z K own mn b ml rt R Q h F c s pc L (.int nn :: .int dp :: .ref d :: .int sp :: .ref a :: S) := fun T X => by
  subst hq
  obtain ⟨vm, k, locs, Y, eT, hS, hk, hZ, hown, N, C, M, O, r⟩ := X
  obtain ⟨T', h', L', Y', e', N', Kp, V, st⟩ := cpA Y r.1 (show Z.Warmed39 (K.2.2.1.setVm vm).vm from hZ) hown w1 w2 w3 w4 eT A B (Or.inl ⟨rfl, hty⟩) h1 h2 h3 h4 h5 hus hl N (M d ha).1 (g := mkF K.2.2.2.1 pc L (.int nn :: .int dp :: .ref d :: .int sp :: .ref a :: S)) rfl (by rw [r.2.2.1]; exact hL) (rest := S) rfl (hb r.2.1 hd) hfr (W := (S.map fun v => v.category).sum) (by show 2 * 0 + _ ≤ _; omega) hlo
  have hsf : ∀ x ∈ [d], Safe Z consts_1 vm h x := fun x hx => by cases List.mem_singleton.mp hx; exact (M d ha).2.2
  obtain ⟨s₂, o, x, r'⟩ := nx h' Kp V T' ⟨vm, k, L', Y', e', hS, Nat.le_trans hk Kp.1, hZ, hown, N', C.trans (CHr.keep Kp hsf C.1), fun x hx => ⟨(M x hx).1, Nat.lt_of_lt_of_le (M x hx).2.1 Kp.1, Safe.keep Kp hsf C.1 (M x hx).2.2⟩, O.keep Kp (fun x hx => by cases List.mem_singleton.mp hx; exact (M d ha).1), r⟩
  exact ⟨s₂, o, st _ x, r'⟩
theorem nf_self {C : String} (w3 : (Cond.selects C y y).before a0 Z = true) : ∀ s : State, Z.Warmed39 s.vm → NotFace s y := fun s hZ => notFace_of_selects (args := #[]) (mvT hZ w3)
/-- the plain end of a call: nothing more to write -/
theorem nx_ {v : Option Value} {G : List Addr} (n : Go l Z K own mn b ml rt R Q h F c s pc L S) : ∃ F2, (∀ x ∈ F2, x ∈ G ∨ x ∈ F) ∧ Go l Z K own mn b ml rt R Q h F2 c s pc L S := ⟨F, fun _ q => Or.inr q, n⟩
end Calls
end G
end Own
end Jvm.Pilot.@@N@@
/-! OWN FRAMEWORK, part 3: Strings of Latin-1 chars. -/
namespace Jvm.Pilot.@@N@@
namespace Own
open Jvm Jvm.ClassFile Sem Op Lib Jvm.Free Jvm.Stand Jvm.LawKit Jvm.RoadKit
abbrev ST : String := "java/lang/String"
abbrev bts (cs : List Int32) : List Value := cs.map fun c => .int c.toInt8.toInt32
abbrev ints (cs : List Int32) : List Value := cs.map fun c => .int c
def Lat (cs : List Int32) : Prop := cs.length ≤ 4096 ∧ ∀ c ∈ cs, ¬ c < 0 ∧ ¬ 255 < c
/-- the String at a spells cs; its cells are none of F -/
def Str (Z : State) (h : Heap) (F : List Addr) (a : Addr) (cs : List Int32) : Prop :=
  Exa Z h a ST ∧ Fld Z h a ST "coder" "B" (.int 0) ∧ a ∉ F ∧ Lat cs ∧ ∃ bb k, bb ∉ F ∧ Fld Z h a ST "value" "[B" (.ref bb) ∧ Arv Z h bb k .byte (Int32.ofNat cs.length) (bts cs) (.int 0)
theorem toInt_ofNat {n : Nat} (h : n < 2147483648) : (Int32.ofNat n).toInt = n := by
  rw [Int32.toInt_ofNat_of_lt (by simpa using h)]
theorem cl_ofNat {n : Nat} (h : n < 2147483648) : (Int32.ofNat n).toNatClampNeg = n := by
  simp only [Int32.toNatClampNeg, toInt_ofNat h]; omega
theorem nn_ofNat {n : Nat} (h : n < 2147483648) : ¬ Int32.ofNat n < 0 := by
  rw [Int32.lt_iff_toInt_lt, toInt_ofNat h, show (0 : Int32).toInt = 0 from rfl]; omega
theorem lt_ofNat {i n : Nat} (hi : i < 2147483648) (hn : n < 2147483648) : Int32.ofNat i < Int32.ofNat n ↔ i < n := by
  rw [Int32.lt_iff_toInt_lt, toInt_ofNat hi, toInt_ofNat hn]; omega
theorem eq_ofNat {i n : Nat} (hi : i < 2147483648) (hn : n < 2147483648) : Int32.ofNat i = Int32.ofNat n ↔ i = n := by
  rw [← Int32.toInt_inj, toInt_ofNat hi, toInt_ofNat hn]; omega
theorem add1_ofNat {i : Nat} : Int32.ofNat i + Int32.ofInt 1 = Int32.ofNat (i + 1) := by
  rw [Int32.ofNat_add]; rfl
section
variable {Z : State} {h h' : Heap} {F F' : List Addr} {a : Addr} {cs : List Int32} {ws : List Addr}
theorem Str.exa (S : Str Z h F a cs) : Exa Z h a ST := S.1
theorem Str.lat (S : Str Z h F a cs) : Lat cs := S.2.2.2.1
theorem Str.lt (S : Str Z h F a cs) : a < h.size := S.1.lt
theorem Str.keep (S : Str Z h F a cs) (K : Keep h h' ws) (hw : ∀ x ∈ ws, x ∈ F ∨ h.size ≤ x) : Str Z h' F a cs := by
  obtain ⟨E, C, ha, hl, bb, k, hb, V, A⟩ := S
  have na : a ∉ ws := fun q => (hw a q).elim ha fun z => absurd E.lt (Nat.not_lt.mpr z)
  have nb : bb ∉ ws := fun q => (hw bb q).elim hb fun z => absurd A.lt (Nat.not_lt.mpr z)
  exact ⟨E.keep K, C.keep K na, ha, hl, bb, k, hb, V.keep K na, A.keep K nb⟩
theorem Str.keep0 (S : Str Z h F a cs) (K : Keep h h' []) : Str Z h' F a cs := S.keep K (fun _ q => nomatch q)
theorem Str.ext (S : Str Z h F a cs) (E : Ext h h') : Str Z h' F a cs := S.keep0 ((Keep.refl h []).ext E)
theorem Str.grow (S : Str Z h F a cs) (hF : ∀ x ∈ F', x ∈ F ∨ h.size ≤ x) : Str Z h F' a cs := by
  obtain ⟨E, C, ha, hl, bb, k, hb, V, A⟩ := S
  exact ⟨E, C, fun q => (hF a q).elim ha fun z => absurd E.lt (Nat.not_lt.mpr z), hl, bb, k, fun q => (hF bb q).elim hb fun z => absurd A.lt (Nat.not_lt.mpr z), V, A⟩
theorem Str.less (S : Str Z h F a cs) (hF : ∀ x ∈ F', x ∈ F) : Str Z h F' a cs := S.grow fun x q => Or.inl (hF x q)
theorem Str.nil (S : Str Z h F a cs) : Str Z h [] a cs := S.less (fun _ q => nomatch q)
theorem Str.ins (S : Str Z h F a cs) : Ins Z h a ST true := Ins.self S.1
end
theorem kless {h h' : Heap} {ws ws' : List Addr} (K : Keep h h' ws) (q : ∀ x ∈ ws, x ∈ ws') : Keep h h' ws' := ⟨K.1, fun x c e n => K.2.1 x c e fun m => n (q x m), K.2.2⟩
theorem kfresh {h h1 h2 : Heap} {a : Addr} (K : Keep h h1 []) (K' : Keep h1 h2 [a]) (q : h.size ≤ a) : Keep h h2 [] := K.trans K' fun x e => by cases List.mem_singleton.mp e; exact Or.inr q
theorem nref {t : FieldType} {v : Value} (ht : t.isReference = true) (hv : v.isRef = true) : narrow t v = v := by cases t <;> cases v <;> simp_all [narrow, Value.isRef, FieldType.isReference]
theorem fref {t : FieldType} {v : Value} (ht : t.isReference = true) (hv : v.isRef = true) : fits t v = true := by cases t <;> cases v <;> simp_all [fits, Value.isRef, FieldType.isReference]
theorem shr0 (z : Int32) : z >>> ((0 : Int32) &&& 31) = z := by
  rw [← Int32.toInt_inj, c_ishr z 0 0 rfl]; simp
theorem nar_char {x : Int32} (h0 : ¬ x < 0) (h1 : ¬ 255 < x) : nar .char x = x := by
  have h := c_i2c x
  rw [Int32.lt_iff_toInt_lt] at h0 h1
  have e0 : (0 : Int32).toInt = 0 := rfl
  have e1 : (255 : Int32).toInt = 255 := rfl
  rw [← Int32.toInt_inj]
  show x.toUInt32.toUInt16.toUInt32.toInt32.toInt = _
  omega
theorem msk (x : Int32) : ¬ (x &&& 255) < 0 ∧ ¬ 255 < (x &&& 255) := by
  have h := c_and x 255 (by decide)
  rw [Int32.lt_iff_toInt_lt, Int32.lt_iff_toInt_lt]
  have e0 : (0 : Int32).toInt = 0 := rfl
  have e1 : (255 : Int32).toInt = 255 := rfl
  omega
theorem i2c_msk (x : Int32) : (x &&& 255).toUInt32.toUInt16.toUInt32.toInt32 = x &&& 255 := nar_char (msk x).1 (msk x).2
theorem b_inj {x y : Int32} (hx : ¬ x < 0 ∧ ¬ 255 < x) (hy : ¬ y < 0 ∧ ¬ 255 < y) (h : x.toInt8.toInt32 = y.toInt8.toInt32) : x = y := by
  have h1 := c_i2b x; have h2 := c_i2b y
  rw [h] at h1
  rw [Int32.lt_iff_toInt_lt, Int32.lt_iff_toInt_lt] at hx hy
  have e0 : (0 : Int32).toInt = 0 := rfl
  have e1 : (255 : Int32).toInt = 255 := rfl
  rw [← Int32.toInt_inj]; omega
theorem b_and {x : Int32} (hx : ¬ x < 0 ∧ ¬ 255 < x) : x.toInt8.toInt32 &&& 255 = x := by
  have h1 := c_i2b x
  have h2 := c_mask (x.toInt8.toInt32) 255 8 (by decide) (by decide)
  rw [Int32.lt_iff_toInt_lt, Int32.lt_iff_toInt_lt] at hx
  have e0 : (0 : Int32).toInt = 0 := rfl
  have e1 : (255 : Int32).toInt = 255 := rfl
  rw [← Int32.toInt_inj, h2]; omega
theorem bts_at {cs : List Int32} {i : Nat} (hi : i < cs.length) : (bts cs).getD i (.int 0) = .int (cs[i].toInt8.toInt32) := by simp [bts, hi]
theorem Str.same {Z : State} {h : Heap} {F F' : List Addr} {a : Addr} {cs ds : List Int32} (S : Str Z h F a cs) (S2 : Str Z h F' a ds) : cs = ds := by
  obtain ⟨E, C, ha, hl, bb, k, hb, V, A⟩ := S
  obtain ⟨E2, C2, ha2, hl2, bb2, k2, hb2, V2, A2⟩ := S2
  obtain rfl : bb = bb2 := by
    by_cases e : bb = bb2
    · exact e
    · exact absurd rfl (V.ne V2 (by simpa using e))
  obtain ⟨c1, r1, q1, s1, n1, H1, G1⟩ := A
  obtain ⟨c2, r2, q2, s2, n2, H2, G2⟩ := A2
  obtain rfl : c1 = c2 := Option.some.inj (r1.1.symm.trans r2.1)
  have l1 := hl.1; have l2 := hl2.1
  rw [cl_ofNat (by omega)] at s1 s2
  have hlen : cs.length = ds.length := s1.symm.trans s2
  refine List.ext_getElem hlen fun i h1 h2 => ?_
  have e1 := H1 i (by omega)
  have e2 := H2 i (by omega)
  rw [bts_at h1] at e1; rw [bts_at h2] at e2
  have e3 := e1.symm.trans e2
  simp only [Option.some.injEq, Value.int.injEq] at e3
  exact b_inj (hl.2 _ (List.getElem_mem h1)) (hl2.2 _ (List.getElem_mem h2)) e3
section G
variable {l : Launch} {Z : State} {a0 : Array Value} {K : Cx} {own mn : String} {b : ByteArray} {ml : Nat} {rt : Option FieldType} {R : Room} {Q : QT} {h h' : Heap} {F : List Addr} {c s pc q c' s' : Nat} {L L' : Array Slot} {S S' : List Value}
theorem go_istoreO {k : Nat} {x : Int32} {o : Slot} (hd : decode b pc = .ok (.istore k, 2)) (hold : L[k]? = some o) (ho : One o) (hL : L.setIfInBounds k (.val (.int x)) = L') (hq : pc + 2 = q) (n : Go l Z K own mn b ml rt R Q h F c s q L' S) : Go l Z K own mn b ml rt R Q h F c s pc L (.int x :: S) := by
  subst hq hL; exact go_of (fun T X t st => by obtain ⟨vm, k, locs, Y, r1, r2, r3, r4, r5, r6, r7, r8, r9, hx, hb', rr⟩ := X; exact XS.istoreS Y.here hx rfl (hb hb' hd) rfl hold ho st) n
theorem go_istoreNO {k : Fin 4} {x : Int32} {o : Slot} (hd : decode b pc = .ok (.istore_n k, 1)) (hold : L[k.val]? = some o) (ho : One o) (hL : L.setIfInBounds k.val (.val (.int x)) = L') (hq : pc + 1 = q) (n : Go l Z K own mn b ml rt R Q h F c s q L' S) : Go l Z K own mn b ml rt R Q h F c s pc L (.int x :: S) := by
  subst hq hL; exact go_of (fun T X t st => by obtain ⟨vm, k, locs, Y, r1, r2, r3, r4, r5, r6, r7, r8, r9, hx, hb', rr⟩ := X; exact XS.istoreNS Y.here hx rfl (hb hb' hd) rfl hold ho st) n
/-- ldc of a Latin-1 constant -/
theorem go_lit (H : Wd Z a0) {index : Nat} {text : String} {cs : List Int32} {n : Nat} (w : (Cond.stringLink own index text).before a0 Z = true) (hm : (own, index) ∈ consts_1) (ht1 : ∀ c ∈ text.toList, c.toNat < 256) (ht2 : text.toList.map (fun c => Value.int (Jvm.Lit.byteI c.toNat.toUInt16)) = bts cs) (h1 : cs.length ≤ 4096) (h2 : ∀ c ∈ cs, ¬ c < 0 ∧ ¬ 255 < c)
    (hd : decode b pc = .ok (.ldc index, 2)) (hn : 4 * text.toList.length ≤ n) (hbig : n ≤ 536870912) (hq : pc + 2 = q) (hc : c + 2 = c') (hs : s + (n + 4) = s') (hc' : c' ≤ R.cells) (hs' : s' ≤ R.slots)
    (nx : ∀ h' a, Ext h h' → Str Z h' F a cs → Go l Z K own mn b ml rt R Q h' F c' s' q L (.ref a :: S)) : Go l Z K own mn b ml rt R Q h F c s pc L S :=
  go_ldcS H w hm ⟨ht1, ht2⟩ (nn_ofNat (n := cs.length) (by omega)) (by rw [cl_ofNat (by omega)]; simp) hd hn hbig hq hc hs hc' hs' fun h' a bb k E A Fc Fv V ne => nx h' a E ⟨A, Fc, fun q => (ne a q).1 rfl, ⟨h1, h2⟩, bb, k, fun q => (ne bb q).2 rfl, Fv, V⟩
end G
end Own
end Jvm.Pilot.@@N@@
/-! OWN FRAMEWORK, part 4: StringBuilder. -/
namespace Jvm.Pilot.@@N@@
namespace Own
open Jvm Jvm.ClassFile Sem Op Lib Jvm.Free Jvm.Stand Jvm.LawKit Jvm.RoadKit
abbrev SBN : String := "java/lang/StringBuilder"
abbrev ABN : String := "java/lang/AbstractStringBuilder"
abbrev zs (n : Nat) : List Value := List.replicate n (.int 0)
/-- the builder x, whose array is v (cap bytes), spells cs -/
def SBd (Z : State) (h : Heap) (x v : Addr) (cap : Nat) (cs : List Int32) : Prop :=
  Exa Z h x SBN ∧ Fld Z h x ABN "value" "[B" (.ref v) ∧ Fld Z h x ABN "coder" "B" (.int 0) ∧ Fld Z h x ABN "count" "I" (.int (Int32.ofNat cs.length)) ∧ Lat cs ∧ cs.length ≤ cap ∧ cap ≤ 4096 ∧ ∃ k, Arv Z h v k .byte (Int32.ofNat cap) (bts cs ++ zs (cap - cs.length)) (.int 0)
section
variable {Z : State} {h h' : Heap} {x v : Addr} {cap : Nat} {cs ds : List Int32} {ws : List Addr}
theorem SBd.keep (S : SBd Z h x v cap cs) (K : Keep h h' ws) (nx : x ∉ ws) (nv : v ∉ ws) : SBd Z h' x v cap cs := by
  obtain ⟨E, V, C, N, L, l1, l2, k, A⟩ := S
  exact ⟨E.keep K, V.keep K nx, C.keep K nx, N.keep K nx, L, l1, l2, k, A.keep K nv⟩
theorem SBd.keep0 (S : SBd Z h x v cap cs) (K : Keep h h' []) : SBd Z h' x v cap cs := S.keep K nin0 nin0
theorem SBd.ext (S : SBd Z h x v cap cs) (E : Ext h h') : SBd Z h' x v cap cs := S.keep0 ((Keep.refl h []).ext E)
theorem SBd.exa (S : SBd Z h x v cap cs) : Exa Z h x SBN := S.1
theorem SBd.lat (S : SBd Z h x v cap cs) : Lat cs := S.2.2.2.2.1
theorem SBd.le (S : SBd Z h x v cap cs) : cs.length ≤ cap := S.2.2.2.2.2.1
theorem bts_len (cs : List Int32) : (bts cs).length = cs.length := by simp [bts]
theorem us_eq (ds : List Int32) : (List.range ds.length).map (fun i => (bts ds).getD i (.int 0)) = bts ds := by
  refine List.ext_getElem (by simp [bts]) fun i h1 h2 => ?_
  simp only [bts_len] at h2
  simp [bts, h2]
theorem cat_eq {n : Nat} (h1 : cs.length + ds.length ≤ n) : (bts cs ++ zs (n - cs.length)).take cs.length ++ bts ds ++ (bts cs ++ zs (n - cs.length)).drop (cs.length + ds.length) = bts (cs ++ ds) ++ zs (n - (cs ++ ds).length) := by
  have e1 : (bts cs ++ zs (n - cs.length)).take cs.length = bts cs := by
    rw [List.take_append_of_le_length (by rw [bts_len]; exact Nat.le_refl _), List.take_of_length_le (by rw [bts_len]; exact Nat.le_refl _)]
  have e2 : (bts cs ++ zs (n - cs.length)).drop (cs.length + ds.length) = zs (n - (cs ++ ds).length) := by
    rw [List.drop_append, List.drop_of_length_le (by rw [bts_len]; omega), List.nil_append, bts_len, List.drop_replicate, List.length_append]
    congr 1; omega
  rw [e1, e2]
  simp [bts]
theorem Lat.app (h1 : Lat cs) (h2 : Lat ds) (h : cs.length + ds.length ≤ 4096) : Lat (cs ++ ds) := ⟨by simpa using h, fun c hc => (List.mem_append.mp hc).elim (h1.2 c) (h2.2 c)⟩
theorem add_ofNat (i j : Nat) : Int32.ofNat i + Int32.ofNat j = Int32.ofNat (i + j) := (Int32.ofNat_add i j).symm
theorem shl0 (z : Int32) : z <<< ((0 : Int32) &&& 31) = z := by
  rw [show (0 : Int32) &&& 31 = 0 from by decide]; exact Int32.shiftLeft_zero
theorem sub_ofNat {i j : Nat} (hi : i < 2147483648) (hj : j < 2147483648) : (Int32.ofNat i - Int32.ofNat j).toInt = (i : Int) - j := by
  have h := c_isub (Int32.ofNat i) (Int32.ofNat j)
  rw [toInt_ofNat hi, toInt_ofNat hj] at h
  have h3 := (Int32.ofNat i - Int32.ofNat j).le_toInt; have h4 := (Int32.ofNat i - Int32.ofNat j).toInt_lt
  omega
theorem subNat {i j : Nat} (hj : j ≤ i) (hi : i < 2147483648) : Int32.ofNat i - Int32.ofNat j = Int32.ofNat (i - j) := by
  rw [← Int32.toInt_inj, sub_ofNat hi (by omega), toInt_ofNat (by omega)]; omega
theorem not_pos_sub {i j : Nat} (h : i ≤ j) (hj : j < 2147483648) : ¬ (0 : Int32) < Int32.ofNat i - Int32.ofNat j := by
  rw [Int32.lt_iff_toInt_lt, sub_ofNat (by omega) hj, show (0 : Int32).toInt = 0 from rfl]; omega
end
end Own
end Jvm.Pilot.@@N@@
/-! OWN FRAMEWORK, part 5: arrays of references, ArrayList. -/
namespace Jvm.Pilot.@@N@@
namespace Own
open Jvm Jvm.ClassFile Sem Op Lib Jvm.Free Jvm.Stand Jvm.LawKit Jvm.RoadKit
section G
variable {l : Launch} {Z : State} {a0 : Array Value} {K : Cx} {own mn : String} {b : ByteArray} {ml : Nat} {rt : Option FieldType} {R : Room} {Q : QT} {h h' : Heap} {F : List Addr} {c s pc q c' s' : Nat} {L L' : Array Slot} {S S' : List Value}
theorem go_aastore {a y : Addr} {k : ClassId} {C : String} {z j : Int32} {vs : List Value} {dv : Value} {i : Nat} (A : Arv Z h a k (.object C) z vs dv) (Ov : Ovr Z k C) (I : Ins Z h y C true) (hj : ¬ j < 0 ∧ j < z) (hi : j.toNatClampNeg = i) (hl : i < vs.length) (ha : a ∈ F) (hd : decode b pc = .ok (.aastore, 1)) (hq : pc + 1 = q)
    (nx : ∀ h', Keep h h' [a] → h'.size = h.size → Arv Z h' a k (.object C) z (vs.set i (.ref y)) dv → Go l Z K own mn b ml rt R Q h' F c s q L S) : Go l Z K own mn b ml rt R Q h F c s pc L (.ref y :: .int j :: .ref a :: S) := fun T X => by
  subst hq
  obtain ⟨vm, k, locs, Y, eT, hS, hk, hZ, hown, N, C, M, O, r⟩ := X
  obtain ⟨cl, Ar, q1, q2, q3, q4, q5⟩ := A
  have hin := inb_of q2 hj
  obtain ⟨T', h', Y', e', W, st⟩ := stR Y r.1 hZ eT Ar hin rfl (Sto.ofV Ar q1 Ov I) (g := mkF K.2.2.2.1 pc L (.ref y :: .int j :: .ref a :: S)) rfl rfl (hb r.2.1 hd)
  obtain ⟨s₂, o, x, r'⟩ := nx h' (Keep.of_wr W) W.size (Arv.set Ar q1 q2 q3 q4 q5 rfl W i hi hl) T' (St.wrote W ha Y' e' hS hk hZ hown N C M O r)
  exact ⟨s₂, o, st _ x, r'⟩
theorem go_getstaticN {index : Nat} {R0 O n d host : String} {v : Value} (w : (Cond.fieldLinkNest own index R0 n d host).before a0 Z = true) (via : Via Z R0 O n d) (Fv : Sta Z Z.heap O n d v) (hd : decode b pc = .ok (.getstatic index, 3)) (hq : pc + 3 = q)
    (nx : Go l Z K own mn b ml rt R Q h F c s q L (v :: S)) : Go l Z K own mn b ml rt R Q h F c s pc L S := fun T X => by
  subst hq
  obtain ⟨vm, k, locs, Y, eT, hS, hk, hZ, hown, N, C, M, O, hx, hb', r⟩ := X
  obtain ⟨T', Y', e', st⟩ := getS2 Y hx hZ hown (host := host) (Or.inr w) via eT (Fv.ext O.2) (g := mkF K.2.2.2.1 pc L S) rfl (hb hb' hd)
  obtain ⟨s₂, o, x, r'⟩ := nx T' ⟨vm, k, locs, Y', e', hS, hk, hZ, hown, N, C, M, O, hx, hb', r⟩
  exact ⟨s₂, o, st _ x, r'⟩
/-- clone of an array -/
theorem go_clone {index cap : Nat} {a : Addr} {ad : String} {k : ClassId} {ty : FieldType} {z : Int32} {vs : List Value} {dv : Value} (w1 : (Cond.methodLink own index ⟨ad, "clone", "()Ljava/lang/Object;"⟩).before a0 Z = true) (w2 : (Cond.sameMethod ad "java/lang/Object" "clone" "()Ljava/lang/Object;").before a0 Z = true) (w3 : (Cond.native ⟨"java/lang/Object", "clone", "()Ljava/lang/Object;"⟩).before a0 Z = true)
    (w4 : (Cond.instanceMethod ⟨"java/lang/Object", "clone", "()Ljava/lang/Object;"⟩).before a0 Z = true) (w5 : (Cond.selects ad ⟨ad, "clone", "()Ljava/lang/Object;"⟩ ⟨"java/lang/Object", "clone", "()Ljava/lang/Object;"⟩).before a0 Z = true) (w6 : (Cond.castable ad "java/lang/Cloneable").before a0 Z = true)
    (V : Arv Z h a k ty z vs dv) (E : Exa Z h a ad) (hL : L.size = ml) (hfr : 1 ≤ R.frames) (hlo : (S.map fun v => v.category).sum + 14 ≤ R.locals) (hcap : z.toNatClampNeg ≤ cap) (hd : decode b pc = .ok (.invokevirtual index, 3)) (hq : pc + 3 = q) (hc : c + 1 = c') (hs : s + cap = s') (hc' : c' ≤ R.cells) (hs' : s' ≤ R.slots)
    (nx : ∀ h' d, d = h.size → Ext h h' → Arv Z h' d k ty z vs dv → Exa Z h' d ad → Go l Z K own mn b ml rt R Q h' (d :: F) c' s' q L (.ref d :: S)) : Go l Z K own mn b ml rt R Q h F c s pc L (.ref a :: S) := fun T X => by
  subst hq hc hs
  obtain ⟨vm, k, locs, Y, eT, hS, hk, hZ, hown, N, C, M, O, r⟩ := X
  obtain ⟨cl, A, q1, q2, q3, H, G⟩ := V
  have FC : FitC Z cl := fitC_of A fun i hi v hv => by rw [H i hi] at hv; cases hv; exact G i hi
  obtain ⟨T', h', Y', e', Ex, A', E', st⟩ := cloneA Y r.1 (show Z.Warmed39 (K.2.2.1.setVm vm).vm from hZ) hown w1 w2 w3 w4 w5 w6 eT A E FC (g := mkF K.2.2.2.1 pc L (.ref a :: S)) rfl (by rw [r.2.2.1]; exact hL) (rest := S) rfl (hb r.2.1 hd) hfr (W := (S.map fun v => v.category).sum) (by show 2 * 0 + _ ≤ _; omega) hlo (by rw [q2]; exact hcap) hc' hs'
  obtain ⟨s₂, o, x, r'⟩ := nx h' _ rfl Ex ⟨cloneOf cl, A', q1, q2, q3, H, G⟩ E' T' (St.grew Ex (fun x hx => by rcases List.mem_cons.mp hx with rfl | hx; exact Or.inr ⟨Nat.le_refl _, A'.lt⟩; exact Or.inl hx) Y' e' hS hk hZ hown N C M O r)
  exact ⟨s₂, o, st _ x, r'⟩
section Calls
variable {index : Nat} {y : MethodName} {b' : ByteArray} {ml' : Nat} {rt' : Option FieldType} {R' : Room} {F' : List Addr} {as : Array Value} {Q' : QT} {argsL : List Value}
/-- invokevirtual of a method that the named class inherits -/
theorem go_virtualUp (H : Wd Z a0) {a : Addr} {C owner : String} {z : MethodName} (w1 : (Cond.methodLink own index y).before a0 Z = true) (w2 : (Cond.sameMethod y.cls owner y.name y.desc).before a0 Z = true) (w2' : (Cond.declares ⟨owner, y.name, y.desc⟩).before a0 Z = true) (how : owner ≠ "java/lang/invoke/MethodHandle" ∧ owner ≠ "java/lang/invoke/VarHandle") (w3 : (Cond.selects C y z).before a0 Z = true) (w4 : (Cond.instanceMethod z).before a0 Z = true) (w5 : (Cond.initialized z.cls).before a0 Z = true) (w6 : (Cond.code z b' ml' rt').before a0 Z = true)
    (E : Exa Z h a C) (M' : Met l Z z b' ml' rt' R' h F' as Q')
    (ha : (.ref a :: argsL).toArray = as) (hst : S' = argsL.reverse ++ .ref a :: S) (hlen : ∀ sig, parseMethodDescriptor y.desc = some sig → argsL.length = sig.parameters.length) (hF : ∀ x ∈ F', x ∈ F) (hL : L.size = ml) (hfr : R'.frames + 1 ≤ R.frames) (hlo : (S.map fun v => v.category).sum + (ml' + 11) + R'.locals ≤ R.locals) (hc : c + R'.cells = c') (hs : s + R'.slots = s') (hc' : c' ≤ R.cells) (hs' : s' ≤ R.slots)
    (hd : decode b pc = .ok (.invokevirtual index, 3)) (hq : pc + 3 = q) (nx : ∀ v h' G, h.size ≤ h'.size → Q' v h' G → ∃ F2, (∀ x ∈ F2, x ∈ G ∨ x ∈ F) ∧ Go l Z K own mn b ml rt R Q h' F2 c' s' q L (v.toList ++ S)) : Go l Z K own mn b ml rt R Q h F c s pc L S' := fun T X => by
  subst hq hc hs hst ha
  obtain ⟨vm, k, locs, Y, eT, hS, hk, hZ, hown, N, C, M, O, r⟩ := X
  obtain ⟨cB, kB, g1, g2, g3⟩ := isOf (s := K.2.2.1.setVm vm) hZ eT E
  obtain ⟨v, vm₁, B, -, Y', hS', hg, P, st⟩ := Y.virtualBackUpS r.1 hown (mvT (s := K.2.2.1.setVm vm) hZ w1) (mvT (s := K.2.2.1.setVm vm) hZ w2) (mvT (s := K.2.2.1.setVm vm) hZ w2') how (mvT (s := K.2.2.1.setVm vm) hZ w3) (mvT (s := K.2.2.1.setVm vm) hZ w4) (W := (S.map fun v => v.category).sum) (M'.back H hZ w6 w5 hfr hlo C.1 (fun x hx => M x (hF x hx)) O) g1 g3 (g := mkF K.2.2.2.1 pc L (argsL.reverse ++ .ref a :: S)) rfl (by rw [r.2.2.1]; exact hL) (Steps.refl _) (argsL := argsL) (rest := S) hlen rfl (by show 2 * 0 + _ ≤ _; omega) (hb r.2.1 hd) (fun _ _ => ⟨rfl, eT, hc', hs'⟩)
  obtain ⟨G, q1, q2⟩ := St.came Y eT hS hk hZ hown N C M r Y' hS' hg P
  obtain ⟨F2, f1, f2⟩ := nx v B.U.heap G (by rw [← eT]; exact hg) q1
  obtain ⟨s₂, o, x, r'⟩ := f2 B.U (q2 F2 f1)
  exact ⟨s₂, o, st.trans x, r'⟩
end Calls
end G
abbrev ALN : String := "java/util/ArrayList"
abbrev ABL : String := "java/util/AbstractList"
abbrev OBJ : String := "java/lang/Object"
abbrev OA : String := "[Ljava/lang/Object;"
/-- the shared empty array of a new ArrayList -/
def Dfl (Z : State) (de : Addr) : Prop := Sta Z Z.heap ALN "DEFAULTCAPACITY_EMPTY_ELEMENTDATA" OA (.ref de) ∧ ∃ k, Arv Z Z.heap de k (.object OBJ) 0 [] .null
/-- the ArrayList x: its array, size, modCount -/
def ALf (Z : State) (h : Heap) (x : Addr) (d : Value) (n m : Int32) : Prop := Exa Z h x ALN ∧ Fld Z h x ALN "elementData" OA d ∧ Fld Z h x ALN "size" "I" (.int n) ∧ Fld Z h x ABL "modCount" "I" (.int m)
/-- an array of ten references -/
def Ten (Z : State) (h : Heap) (d : Addr) (vs : List Value) : Prop := vs.length = 10 ∧ ∃ k, Ovr Z k OBJ ∧ Arv Z h d k (.object OBJ) 10 vs .null
section
variable {Z : State} {h h' : Heap} {x d : Addr} {v : Value} {n m : Int32} {vs : List Value} {ws : List Addr}
theorem ALf.keep (A : ALf Z h x v n m) (K : Keep h h' ws) (q : x ∉ ws) : ALf Z h' x v n m := ⟨A.1.keep K, A.2.1.keep K q, A.2.2.1.keep K q, A.2.2.2.keep K q⟩
theorem ALf.ext (A : ALf Z h x v n m) (E : Ext h h') : ALf Z h' x v n m := A.keep ((Keep.refl h []).ext E) nin0
theorem Ten.keep (A : Ten Z h d vs) (K : Keep h h' ws) (q : d ∉ ws) : Ten Z h' d vs := by
  obtain ⟨h1, k, O, V⟩ := A; exact ⟨h1, k, O, V.keep K q⟩
theorem Ten.ext (A : Ten Z h d vs) (E : Ext h h') : Ten Z h' d vs := A.keep ((Keep.refl h []).ext E) nin0
end
end Own
end Jvm.Pilot.@@N@@
namespace Jvm.Pilot.@@N@@
namespace Own
open Jvm Jvm.ClassFile Sem Op Lib Jvm.Free Jvm.Stand Jvm.LawKit Jvm.RoadKit
/-- draw's answer -/
def Dr (n a b c : Int32) (cs : List Int32) : Prop := (n = 0 ∧ cs = []) ∨ (n = 1 ∧ cs = [a]) ∨ (n = 2 ∧ cs = [a, b]) ∨ (n = 3 ∧ cs = [a, b, c])
theorem Dr.len {n a b c : Int32} {cs : List Int32} (D : Dr n a b c cs) : Int32.ofNat cs.length = n := by
  rcases D with ⟨rfl, rfl⟩ | ⟨rfl, rfl⟩ | ⟨rfl, rfl⟩ | ⟨rfl, rfl⟩ <;> rfl
theorem and3 (x : Int32) : x &&& 3 = 0 ∨ x &&& 3 = 1 ∨ x &&& 3 = 2 ∨ x &&& 3 = 3 := by
  have h := c_and x 3 (by decide)
  have e : ∀ k : Int32, x &&& 3 = k ↔ (x &&& 3).toInt = k.toInt := fun k => Int32.toInt_inj.symm
  rw [e, e, e, e]
  have e0 : (0 : Int32).toInt = 0 := rfl
  have e1 : (1 : Int32).toInt = 1 := rfl
  have e2 : (2 : Int32).toInt = 2 := rfl
  have e3 : (3 : Int32).toInt = 3 := rfl
  omega
theorem Dr.any (x a b c : Int32) : ∃ cs, Dr (x &&& 3) a b c cs := by
  rcases and3 x with h | h | h | h <;> rw [h]
  · exact ⟨_, Or.inl ⟨rfl, rfl⟩⟩
  · exact ⟨_, Or.inr (Or.inl ⟨rfl, rfl⟩)⟩
  · exact ⟨_, Or.inr (Or.inr (Or.inl ⟨rfl, rfl⟩))⟩
  · exact ⟨_, Or.inr (Or.inr (Or.inr ⟨rfl, rfl⟩))⟩
abbrev ECS : String := "com/example/emendate/emendate/model/ErrorCode"
def ECs (Z : State) : Prop := (∃ a, Sta Z Z.heap ECS "USER_INVALID" "Lcom/example/emendate/emendate/model/ErrorCode;" (.ref a)) ∧ (∃ a, Sta Z Z.heap ECS "USER_FORBIDDEN" "Lcom/example/emendate/emendate/model/ErrorCode;" (.ref a)) ∧ (∃ a, Sta Z Z.heap ECS "USER_CONFLICT" "Lcom/example/emendate/emendate/model/ErrorCode;" (.ref a)) ∧ (∃ a, Sta Z Z.heap ECS "PATCH_MALFORMED" "Lcom/example/emendate/emendate/model/ErrorCode;" (.ref a)) ∧ (∃ a, Sta Z Z.heap ECS "PATCH_TEST_FAILED" "Lcom/example/emendate/emendate/model/ErrorCode;" (.ref a)) ∧ (∃ a, Sta Z Z.heap ECS "PATCH_CANNOT_APPLY" "Lcom/example/emendate/emendate/model/ErrorCode;" (.ref a)) ∧ (∃ a, Sta Z Z.heap ECS "USER_EMAIL_INVALID" "Lcom/example/emendate/emendate/model/ErrorCode;" (.ref a)) ∧ (∃ a, Sta Z Z.heap ECS "USER_BUILTIN_IMMUTABLE" "Lcom/example/emendate/emendate/model/ErrorCode;" (.ref a))
theorem w_0 {Z : State} {a0 : Array Value} (H : Wd Z a0) : ((Jvm.Cond.methodLink "com/example/emendate/emendate/model/ProblemOfPinLaw" (39 : Nat) ({ cls := "com/example/emendate/emendate/model/ProblemOfPinLaw", name := "pick", desc := "(I)Lcom/example/emendate/emendate/model/ErrorCode;" } : Jvm.MethodName)) : Jvm.Cond).before a0 Z = true := H.1 _ (List.mem_of_getElem? (i := 0) rfl)
theorem w_1 {Z : State} {a0 : Array Value} (H : Wd Z a0) : ((Jvm.Cond.static ({ cls := "com/example/emendate/emendate/model/ProblemOfPinLaw", name := "pick", desc := "(I)Lcom/example/emendate/emendate/model/ErrorCode;" } : Jvm.MethodName)) : Jvm.Cond).before a0 Z = true := H.1 _ (List.mem_of_getElem? (i := 1) rfl)
theorem w_2 {Z : State} {a0 : Array Value} (H : Wd Z a0) : ((Jvm.Cond.initialized "com/example/emendate/emendate/model/ProblemOfPinLaw") : Jvm.Cond).before a0 Z = true := H.1 _ (List.mem_of_getElem? (i := 2) rfl)
theorem w_3 {Z : State} {a0 : Array Value} (H : Wd Z a0) : ((Jvm.Cond.code ({ cls := "com/example/emendate/emendate/model/ProblemOfPinLaw", name := "pick", desc := "(I)Lcom/example/emendate/emendate/model/ErrorCode;" } : Jvm.MethodName) method_3_code (2 : Nat) (Option.some (Jvm.ClassFile.FieldType.object "com/example/emendate/emendate/model/ErrorCode"))) : Jvm.Cond).before a0 Z = true := H.1 _ (List.mem_of_getElem? (i := 3) rfl)
theorem w_4 {Z : State} {a0 : Array Value} (H : Wd Z a0) : ((Jvm.Cond.fieldLink "com/example/emendate/emendate/model/ProblemOfPinLaw" (12 : Nat) "com/example/emendate/emendate/model/ErrorCode" "USER_INVALID" "Lcom/example/emendate/emendate/model/ErrorCode;") : Jvm.Cond).before a0 Z = true := H.1 _ (List.mem_of_getElem? (i := 4) rfl)
theorem w_5 {Z : State} {a0 : Array Value} (H : Wd Z a0) : ((Jvm.Cond.initialized "com/example/emendate/emendate/model/ErrorCode") : Jvm.Cond).before a0 Z = true := H.1 _ (List.mem_of_getElem? (i := 5) rfl)
theorem w_6 {Z : State} {a0 : Array Value} (H : Wd Z a0) : ((Jvm.Cond.laysStatic "com/example/emendate/emendate/model/ErrorCode" "USER_INVALID" "Lcom/example/emendate/emendate/model/ErrorCode;") : Jvm.Cond).before a0 Z = true := H.1 _ (List.mem_of_getElem? (i := 6) rfl)
theorem w_7 {Z : State} {a0 : Array Value} (H : Wd Z a0) : ((Jvm.Cond.methodLink "com/example/emendate/emendate/model/ProblemOfPinLaw" (45 : Nat) ({ cls := "com/example/emendate/emendate/model/ProblemOfPinLaw", name := "str", desc := "(I)Ljava/lang/String;" } : Jvm.MethodName)) : Jvm.Cond).before a0 Z = true := H.1 _ (List.mem_of_getElem? (i := 7) rfl)
theorem w_8 {Z : State} {a0 : Array Value} (H : Wd Z a0) : ((Jvm.Cond.static ({ cls := "com/example/emendate/emendate/model/ProblemOfPinLaw", name := "str", desc := "(I)Ljava/lang/String;" } : Jvm.MethodName)) : Jvm.Cond).before a0 Z = true := H.1 _ (List.mem_of_getElem? (i := 8) rfl)
theorem w_9 {Z : State} {a0 : Array Value} (H : Wd Z a0) : ((Jvm.Cond.code ({ cls := "com/example/emendate/emendate/model/ProblemOfPinLaw", name := "str", desc := "(I)Ljava/lang/String;" } : Jvm.MethodName) method_2_code (5 : Nat) (Option.some (Jvm.ClassFile.FieldType.object "java/lang/String"))) : Jvm.Cond).before a0 Z = true := H.1 _ (List.mem_of_getElem? (i := 9) rfl)
theorem w_10 {Z : State} {a0 : Array Value} (H : Wd Z a0) : ((Jvm.Cond.classLink "com/example/emendate/emendate/model/ProblemOfPinLaw" (7 : Nat) "java/lang/String") : Jvm.Cond).before a0 Z = true := H.1 _ (List.mem_of_getElem? (i := 10) rfl)
theorem w_11 {Z : State} {a0 : Array Value} (H : Wd Z a0) : ((Jvm.Cond.instantiable "java/lang/String" (4 : Nat)) : Jvm.Cond).before a0 Z = true := H.1 _ (List.mem_of_getElem? (i := 11) rfl)
theorem w_12 {Z : State} {a0 : Array Value} (H : Wd Z a0) : ((Jvm.Cond.initialized "java/lang/String") : Jvm.Cond).before a0 Z = true := H.1 _ (List.mem_of_getElem? (i := 12) rfl)
theorem w_13 {Z : State} {a0 : Array Value} (H : Wd Z a0) : ((Jvm.Cond.arrayClass Jvm.ClassFile.FieldType.char) : Jvm.Cond).before a0 Z = true := H.1 _ (List.mem_of_getElem? (i := 13) rfl)
theorem w_14 {Z : State} {a0 : Array Value} (H : Wd Z a0) : ((Jvm.Cond.methodLink "com/example/emendate/emendate/model/ProblemOfPinLaw" (9 : Nat) ({ cls := "java/lang/String", name := "<init>", desc := "([C)V" } : Jvm.MethodName)) : Jvm.Cond).before a0 Z = true := H.1 _ (List.mem_of_getElem? (i := 14) rfl)
theorem w_15 {Z : State} {a0 : Array Value} (H : Wd Z a0) : ((Jvm.Cond.instanceMethod ({ cls := "java/lang/String", name := "<init>", desc := "([C)V" } : Jvm.MethodName)) : Jvm.Cond).before a0 Z = true := H.1 _ (List.mem_of_getElem? (i := 15) rfl)
theorem w_16 {Z : State} {a0 : Array Value} (H : Wd Z a0) : ((Jvm.Cond.code ({ cls := "java/lang/String", name := "<init>", desc := "([C)V" } : Jvm.MethodName) jdk_42_method_3_code (2 : Nat) (Option.none : Option Jvm.ClassFile.FieldType)) : Jvm.Cond).before a0 Z = true := H.1 _ (List.mem_of_getElem? (i := 16) rfl)
theorem w_17 {Z : State} {a0 : Array Value} (H : Wd Z a0) : ((Jvm.Cond.methodLink "java/lang/String" (27 : Nat) ({ cls := "java/lang/String", name := "<init>", desc := "([CIILjava/lang/Void;)V" } : Jvm.MethodName)) : Jvm.Cond).before a0 Z = true := H.1 _ (List.mem_of_getElem? (i := 17) rfl)
theorem w_18 {Z : State} {a0 : Array Value} (H : Wd Z a0) : ((Jvm.Cond.instanceMethod ({ cls := "java/lang/String", name := "<init>", desc := "([CIILjava/lang/Void;)V" } : Jvm.MethodName)) : Jvm.Cond).before a0 Z = true := H.1 _ (List.mem_of_getElem? (i := 18) rfl)
theorem w_20 {Z : State} {a0 : Array Value} (H : Wd Z a0) : ((Jvm.Cond.code ({ cls := "java/lang/String", name := "<init>", desc := "([CIILjava/lang/Void;)V" } : Jvm.MethodName) jdk_42_method_149_code (6 : Nat) (Option.none : Option Jvm.ClassFile.FieldType)) : Jvm.Cond).before a0 Z = true := H.1 _ (List.mem_of_getElem? (i := 20) rfl)
theorem w_21 {Z : State} {a0 : Array Value} (H : Wd Z a0) : ((Jvm.Cond.methodLink "java/lang/String" (1 : Nat) ({ cls := "java/lang/Object", name := "<init>", desc := "()V" } : Jvm.MethodName)) : Jvm.Cond).before a0 Z = true := H.1 _ (List.mem_of_getElem? (i := 21) rfl)
theorem w_22 {Z : State} {a0 : Array Value} (H : Wd Z a0) : ((Jvm.Cond.instanceMethod ({ cls := "java/lang/Object", name := "<init>", desc := "()V" } : Jvm.MethodName)) : Jvm.Cond).before a0 Z = true := H.1 _ (List.mem_of_getElem? (i := 22) rfl)
theorem w_23 {Z : State} {a0 : Array Value} (H : Wd Z a0) : ((Jvm.Cond.code ({ cls := "java/lang/Object", name := "<init>", desc := "()V" } : Jvm.MethodName) object_method_1_code (1 : Nat) (Option.none : Option Jvm.ClassFile.FieldType)) : Jvm.Cond).before a0 Z = true := H.1 _ (List.mem_of_getElem? (i := 23) rfl)
theorem w_24 {Z : State} {a0 : Array Value} (H : Wd Z a0) : ((Jvm.Cond.stringLink "java/lang/String" (7 : Nat) "") : Jvm.Cond).before a0 Z = true := H.1 _ (List.mem_of_getElem? (i := 24) rfl)
theorem w_25 {Z : State} {a0 : Array Value} (H : Wd Z a0) : ((Jvm.Cond.arrayClass Jvm.ClassFile.FieldType.byte) : Jvm.Cond).before a0 Z = true := H.1 _ (List.mem_of_getElem? (i := 25) rfl)
theorem w_26 {Z : State} {a0 : Array Value} (H : Wd Z a0) : ((Jvm.Cond.laysFinal "java/lang/String" "java/lang/String" "value" "[B") : Jvm.Cond).before a0 Z = true := H.1 _ (List.mem_of_getElem? (i := 26) rfl)
theorem w_27 {Z : State} {a0 : Array Value} (H : Wd Z a0) : ((Jvm.Cond.laysFinal "java/lang/String" "java/lang/String" "coder" "B") : Jvm.Cond).before a0 Z = true := H.1 _ (List.mem_of_getElem? (i := 27) rfl)
theorem w_28 {Z : State} {a0 : Array Value} (H : Wd Z a0) : ((Jvm.Cond.soleField "java/lang/String" "value") : Jvm.Cond).before a0 Z = true := H.1 _ (List.mem_of_getElem? (i := 28) rfl)
theorem w_29 {Z : State} {a0 : Array Value} (H : Wd Z a0) : ((Jvm.Cond.soleField "java/lang/String" "coder") : Jvm.Cond).before a0 Z = true := H.1 _ (List.mem_of_getElem? (i := 29) rfl)
theorem w_30 {Z : State} {a0 : Array Value} (H : Wd Z a0) : ((Jvm.Cond.fieldLink "java/lang/String" (9 : Nat) "java/lang/String" "value" "[B") : Jvm.Cond).before a0 Z = true := H.1 _ (List.mem_of_getElem? (i := 30) rfl)
theorem w_31 {Z : State} {a0 : Array Value} (H : Wd Z a0) : ((Jvm.Cond.fieldLink "java/lang/String" (15 : Nat) "java/lang/String" "coder" "B") : Jvm.Cond).before a0 Z = true := H.1 _ (List.mem_of_getElem? (i := 31) rfl)
theorem w_32 {Z : State} {a0 : Array Value} (H : Wd Z a0) : ((Jvm.Cond.classLink "com/example/emendate/emendate/model/ProblemOfPinLaw" (49 : Nat) "com/example/emendate/emendate/model/FieldError") : Jvm.Cond).before a0 Z = true := H.1 _ (List.mem_of_getElem? (i := 32) rfl)
theorem w_33 {Z : State} {a0 : Array Value} (H : Wd Z a0) : ((Jvm.Cond.instantiable "com/example/emendate/emendate/model/FieldError" (4 : Nat)) : Jvm.Cond).before a0 Z = true := H.1 _ (List.mem_of_getElem? (i := 33) rfl)
theorem w_34 {Z : State} {a0 : Array Value} (H : Wd Z a0) : ((Jvm.Cond.initialized "com/example/emendate/emendate/model/FieldError") : Jvm.Cond).before a0 Z = true := H.1 _ (List.mem_of_getElem? (i := 34) rfl)
theorem w_35 {Z : State} {a0 : Array Value} (H : Wd Z a0) : ((Jvm.Cond.methodLink "com/example/emendate/emendate/model/ProblemOfPinLaw" (51 : Nat) ({ cls := "com/example/emendate/emendate/model/FieldError", name := "<init>", desc := "(Lcom/example/emendate/emendate/model/ErrorCode;Ljava/lang/String;Ljava/lang/String;)V" } : Jvm.MethodName)) : Jvm.Cond).before a0 Z = true := H.1 _ (List.mem_of_getElem? (i := 35) rfl)
theorem w_36 {Z : State} {a0 : Array Value} (H : Wd Z a0) : ((Jvm.Cond.instanceMethod ({ cls := "com/example/emendate/emendate/model/FieldError", name := "<init>", desc := "(Lcom/example/emendate/emendate/model/ErrorCode;Ljava/lang/String;Ljava/lang/String;)V" } : Jvm.MethodName)) : Jvm.Cond).before a0 Z = true := H.1 _ (List.mem_of_getElem? (i := 36) rfl)
theorem w_37 {Z : State} {a0 : Array Value} (H : Wd Z a0) : ((Jvm.Cond.code ({ cls := "com/example/emendate/emendate/model/FieldError", name := "<init>", desc := "(Lcom/example/emendate/emendate/model/ErrorCode;Ljava/lang/String;Ljava/lang/String;)V" } : Jvm.MethodName) prog_9_method_1_code (4 : Nat) (Option.none : Option Jvm.ClassFile.FieldType)) : Jvm.Cond).before a0 Z = true := H.1 _ (List.mem_of_getElem? (i := 37) rfl)
theorem w_38 {Z : State} {a0 : Array Value} (H : Wd Z a0) : ((Jvm.Cond.methodLink "com/example/emendate/emendate/model/FieldError" (24 : Nat) ({ cls := "java/util/OptionalInt", name := "empty", desc := "()Ljava/util/OptionalInt;" } : Jvm.MethodName)) : Jvm.Cond).before a0 Z = true := H.1 _ (List.mem_of_getElem? (i := 38) rfl)
theorem w_39 {Z : State} {a0 : Array Value} (H : Wd Z a0) : ((Jvm.Cond.static ({ cls := "java/util/OptionalInt", name := "empty", desc := "()Ljava/util/OptionalInt;" } : Jvm.MethodName)) : Jvm.Cond).before a0 Z = true := H.1 _ (List.mem_of_getElem? (i := 39) rfl)
theorem w_40 {Z : State} {a0 : Array Value} (H : Wd Z a0) : ((Jvm.Cond.initialized "java/util/OptionalInt") : Jvm.Cond).before a0 Z = true := H.1 _ (List.mem_of_getElem? (i := 40) rfl)
theorem w_41 {Z : State} {a0 : Array Value} (H : Wd Z a0) : ((Jvm.Cond.code ({ cls := "java/util/OptionalInt", name := "empty", desc := "()Ljava/util/OptionalInt;" } : Jvm.MethodName) jdk_2649_method_2_code (0 : Nat) (Option.some (Jvm.ClassFile.FieldType.object "java/util/OptionalInt"))) : Jvm.Cond).before a0 Z = true := H.1 _ (List.mem_of_getElem? (i := 41) rfl)
theorem w_42 {Z : State} {a0 : Array Value} (H : Wd Z a0) : ((Jvm.Cond.fieldLink "java/util/OptionalInt" (17 : Nat) "java/util/OptionalInt" "EMPTY" "Ljava/util/OptionalInt;") : Jvm.Cond).before a0 Z = true := H.1 _ (List.mem_of_getElem? (i := 42) rfl)
theorem w_43 {Z : State} {a0 : Array Value} (H : Wd Z a0) : ((Jvm.Cond.methodLink "com/example/emendate/emendate/model/FieldError" (30 : Nat) ({ cls := "com/example/emendate/emendate/model/FieldError", name := "<init>", desc := "(Lcom/example/emendate/emendate/model/ErrorCode;Ljava/lang/String;Ljava/lang/String;Ljava/util/OptionalInt;)V" } : Jvm.MethodName)) : Jvm.Cond).before a0 Z = true := H.1 _ (List.mem_of_getElem? (i := 43) rfl)
theorem w_44 {Z : State} {a0 : Array Value} (H : Wd Z a0) : ((Jvm.Cond.instanceMethod ({ cls := "com/example/emendate/emendate/model/FieldError", name := "<init>", desc := "(Lcom/example/emendate/emendate/model/ErrorCode;Ljava/lang/String;Ljava/lang/String;Ljava/util/OptionalInt;)V" } : Jvm.MethodName)) : Jvm.Cond).before a0 Z = true := H.1 _ (List.mem_of_getElem? (i := 44) rfl)
theorem w_45 {Z : State} {a0 : Array Value} (H : Wd Z a0) : ((Jvm.Cond.code ({ cls := "com/example/emendate/emendate/model/FieldError", name := "<init>", desc := "(Lcom/example/emendate/emendate/model/ErrorCode;Ljava/lang/String;Ljava/lang/String;Ljava/util/OptionalInt;)V" } : Jvm.MethodName) prog_9_method_2_code (5 : Nat) (Option.none : Option Jvm.ClassFile.FieldType)) : Jvm.Cond).before a0 Z = true := H.1 _ (List.mem_of_getElem? (i := 45) rfl)
theorem w_46 {Z : State} {a0 : Array Value} (H : Wd Z a0) : ((Jvm.Cond.methodLink "com/example/emendate/emendate/model/FieldError" (1 : Nat) ({ cls := "java/lang/Record", name := "<init>", desc := "()V" } : Jvm.MethodName)) : Jvm.Cond).before a0 Z = true := H.1 _ (List.mem_of_getElem? (i := 46) rfl)
theorem w_47 {Z : State} {a0 : Array Value} (H : Wd Z a0) : ((Jvm.Cond.instanceMethod ({ cls := "java/lang/Record", name := "<init>", desc := "()V" } : Jvm.MethodName)) : Jvm.Cond).before a0 Z = true := H.1 _ (List.mem_of_getElem? (i := 47) rfl)
theorem w_49 {Z : State} {a0 : Array Value} (H : Wd Z a0) : ((Jvm.Cond.initialized "java/lang/Record") : Jvm.Cond).before a0 Z = true := H.1 _ (List.mem_of_getElem? (i := 49) rfl)
theorem w_50 {Z : State} {a0 : Array Value} (H : Wd Z a0) : ((Jvm.Cond.code ({ cls := "java/lang/Record", name := "<init>", desc := "()V" } : Jvm.MethodName) jdk_30_method_1_code (1 : Nat) (Option.none : Option Jvm.ClassFile.FieldType)) : Jvm.Cond).before a0 Z = true := H.1 _ (List.mem_of_getElem? (i := 50) rfl)
theorem w_51 {Z : State} {a0 : Array Value} (H : Wd Z a0) : ((Jvm.Cond.methodLink "java/lang/Record" (1 : Nat) ({ cls := "java/lang/Object", name := "<init>", desc := "()V" } : Jvm.MethodName)) : Jvm.Cond).before a0 Z = true := H.1 _ (List.mem_of_getElem? (i := 51) rfl)
theorem w_52 {Z : State} {a0 : Array Value} (H : Wd Z a0) : ((Jvm.Cond.fieldLink "com/example/emendate/emendate/model/FieldError" (7 : Nat) "com/example/emendate/emendate/model/FieldError" "code" "Lcom/example/emendate/emendate/model/ErrorCode;") : Jvm.Cond).before a0 Z = true := H.1 _ (List.mem_of_getElem? (i := 52) rfl)
theorem w_53 {Z : State} {a0 : Array Value} (H : Wd Z a0) : ((Jvm.Cond.laysFinal "com/example/emendate/emendate/model/FieldError" "com/example/emendate/emendate/model/FieldError" "code" "Lcom/example/emendate/emendate/model/ErrorCode;") : Jvm.Cond).before a0 Z = true := H.1 _ (List.mem_of_getElem? (i := 53) rfl)
theorem w_54 {Z : State} {a0 : Array Value} (H : Wd Z a0) : ((Jvm.Cond.fieldLink "com/example/emendate/emendate/model/FieldError" (13 : Nat) "com/example/emendate/emendate/model/FieldError" "field" "Ljava/lang/String;") : Jvm.Cond).before a0 Z = true := H.1 _ (List.mem_of_getElem? (i := 54) rfl)
theorem w_55 {Z : State} {a0 : Array Value} (H : Wd Z a0) : ((Jvm.Cond.laysFinal "com/example/emendate/emendate/model/FieldError" "com/example/emendate/emendate/model/FieldError" "field" "Ljava/lang/String;") : Jvm.Cond).before a0 Z = true := H.1 _ (List.mem_of_getElem? (i := 55) rfl)
theorem w_56 {Z : State} {a0 : Array Value} (H : Wd Z a0) : ((Jvm.Cond.fieldLink "com/example/emendate/emendate/model/FieldError" (17 : Nat) "com/example/emendate/emendate/model/FieldError" "message" "Ljava/lang/String;") : Jvm.Cond).before a0 Z = true := H.1 _ (List.mem_of_getElem? (i := 56) rfl)
theorem w_57 {Z : State} {a0 : Array Value} (H : Wd Z a0) : ((Jvm.Cond.laysFinal "com/example/emendate/emendate/model/FieldError" "com/example/emendate/emendate/model/FieldError" "message" "Ljava/lang/String;") : Jvm.Cond).before a0 Z = true := H.1 _ (List.mem_of_getElem? (i := 57) rfl)
theorem w_58 {Z : State} {a0 : Array Value} (H : Wd Z a0) : ((Jvm.Cond.fieldLink "com/example/emendate/emendate/model/FieldError" (20 : Nat) "com/example/emendate/emendate/model/FieldError" "operation" "Ljava/util/OptionalInt;") : Jvm.Cond).before a0 Z = true := H.1 _ (List.mem_of_getElem? (i := 58) rfl)
theorem w_59 {Z : State} {a0 : Array Value} (H : Wd Z a0) : ((Jvm.Cond.laysFinal "com/example/emendate/emendate/model/FieldError" "com/example/emendate/emendate/model/FieldError" "operation" "Ljava/util/OptionalInt;") : Jvm.Cond).before a0 Z = true := H.1 _ (List.mem_of_getElem? (i := 59) rfl)
theorem w_60 {Z : State} {a0 : Array Value} (H : Wd Z a0) : ((Jvm.Cond.methodLink "com/example/emendate/emendate/model/ProblemOfPinLaw" (54 : Nat) ({ cls := "com/example/emendate/emendate/model/Problem", name := "of", desc := "(Lcom/example/emendate/emendate/model/FieldError;)Lcom/example/emendate/emendate/model/Problem;" } : Jvm.MethodName)) : Jvm.Cond).before a0 Z = true := H.1 _ (List.mem_of_getElem? (i := 60) rfl)
theorem w_61 {Z : State} {a0 : Array Value} (H : Wd Z a0) : ((Jvm.Cond.static ({ cls := "com/example/emendate/emendate/model/Problem", name := "of", desc := "(Lcom/example/emendate/emendate/model/FieldError;)Lcom/example/emendate/emendate/model/Problem;" } : Jvm.MethodName)) : Jvm.Cond).before a0 Z = true := H.1 _ (List.mem_of_getElem? (i := 61) rfl)
theorem w_62 {Z : State} {a0 : Array Value} (H : Wd Z a0) : ((Jvm.Cond.initialized "com/example/emendate/emendate/model/Problem") : Jvm.Cond).before a0 Z = true := H.1 _ (List.mem_of_getElem? (i := 62) rfl)
theorem w_63 {Z : State} {a0 : Array Value} (H : Wd Z a0) : ((Jvm.Cond.code ({ cls := "com/example/emendate/emendate/model/Problem", name := "of", desc := "(Lcom/example/emendate/emendate/model/FieldError;)Lcom/example/emendate/emendate/model/Problem;" } : Jvm.MethodName) prog_10_method_4_code (1 : Nat) (Option.some (Jvm.ClassFile.FieldType.object "com/example/emendate/emendate/model/Problem"))) : Jvm.Cond).before a0 Z = true := H.1 _ (List.mem_of_getElem? (i := 63) rfl)
theorem w_64 {Z : State} {a0 : Array Value} (H : Wd Z a0) : ((Jvm.Cond.classLink "com/example/emendate/emendate/model/Problem" (8 : Nat) "com/example/emendate/emendate/model/Problem") : Jvm.Cond).before a0 Z = true := H.1 _ (List.mem_of_getElem? (i := 64) rfl)
theorem w_65 {Z : State} {a0 : Array Value} (H : Wd Z a0) : ((Jvm.Cond.instantiable "com/example/emendate/emendate/model/Problem" (9 : Nat)) : Jvm.Cond).before a0 Z = true := H.1 _ (List.mem_of_getElem? (i := 65) rfl)
theorem w_66 {Z : State} {a0 : Array Value} (H : Wd Z a0) : ((Jvm.Cond.methodLink "com/example/emendate/emendate/model/Problem" (42 : Nat) ({ cls := "com/example/emendate/emendate/model/FieldError", name := "code", desc := "()Lcom/example/emendate/emendate/model/ErrorCode;" } : Jvm.MethodName)) : Jvm.Cond).before a0 Z = true := H.1 _ (List.mem_of_getElem? (i := 66) rfl)
theorem w_67 {Z : State} {a0 : Array Value} (H : Wd Z a0) : ((Jvm.Cond.declares ({ cls := "com/example/emendate/emendate/model/FieldError", name := "code", desc := "()Lcom/example/emendate/emendate/model/ErrorCode;" } : Jvm.MethodName)) : Jvm.Cond).before a0 Z = true := H.1 _ (List.mem_of_getElem? (i := 67) rfl)
theorem w_68 {Z : State} {a0 : Array Value} (H : Wd Z a0) : ((Jvm.Cond.instanceMethod ({ cls := "com/example/emendate/emendate/model/FieldError", name := "code", desc := "()Lcom/example/emendate/emendate/model/ErrorCode;" } : Jvm.MethodName)) : Jvm.Cond).before a0 Z = true := H.1 _ (List.mem_of_getElem? (i := 68) rfl)
theorem w_69 {Z : State} {a0 : Array Value} (H : Wd Z a0) : ((Jvm.Cond.selects "com/example/emendate/emendate/model/FieldError" ({ cls := "com/example/emendate/emendate/model/FieldError", name := "code", desc := "()Lcom/example/emendate/emendate/model/ErrorCode;" } : Jvm.MethodName) ({ cls := "com/example/emendate/emendate/model/FieldError", name := "code", desc := "()Lcom/example/emendate/emendate/model/ErrorCode;" } : Jvm.MethodName)) : Jvm.Cond).before a0 Z = true := H.1 _ (List.mem_of_getElem? (i := 69) rfl)
theorem w_70 {Z : State} {a0 : Array Value} (H : Wd Z a0) : ((Jvm.Cond.code ({ cls := "com/example/emendate/emendate/model/FieldError", name := "code", desc := "()Lcom/example/emendate/emendate/model/ErrorCode;" } : Jvm.MethodName) prog_9_method_6_code (1 : Nat) (Option.some (Jvm.ClassFile.FieldType.object "com/example/emendate/emendate/model/ErrorCode"))) : Jvm.Cond).before a0 Z = true := H.1 _ (List.mem_of_getElem? (i := 70) rfl)
theorem w_71 {Z : State} {a0 : Array Value} (H : Wd Z a0) : ((Jvm.Cond.methodLink "com/example/emendate/emendate/model/Problem" (47 : Nat) ({ cls := "com/example/emendate/emendate/model/FieldError", name := "message", desc := "()Ljava/lang/String;" } : Jvm.MethodName)) : Jvm.Cond).before a0 Z = true := H.1 _ (List.mem_of_getElem? (i := 71) rfl)
theorem w_72 {Z : State} {a0 : Array Value} (H : Wd Z a0) : ((Jvm.Cond.declares ({ cls := "com/example/emendate/emendate/model/FieldError", name := "message", desc := "()Ljava/lang/String;" } : Jvm.MethodName)) : Jvm.Cond).before a0 Z = true := H.1 _ (List.mem_of_getElem? (i := 72) rfl)
theorem w_73 {Z : State} {a0 : Array Value} (H : Wd Z a0) : ((Jvm.Cond.instanceMethod ({ cls := "com/example/emendate/emendate/model/FieldError", name := "message", desc := "()Ljava/lang/String;" } : Jvm.MethodName)) : Jvm.Cond).before a0 Z = true := H.1 _ (List.mem_of_getElem? (i := 73) rfl)
theorem w_74 {Z : State} {a0 : Array Value} (H : Wd Z a0) : ((Jvm.Cond.selects "com/example/emendate/emendate/model/FieldError" ({ cls := "com/example/emendate/emendate/model/FieldError", name := "message", desc := "()Ljava/lang/String;" } : Jvm.MethodName) ({ cls := "com/example/emendate/emendate/model/FieldError", name := "message", desc := "()Ljava/lang/String;" } : Jvm.MethodName)) : Jvm.Cond).before a0 Z = true := H.1 _ (List.mem_of_getElem? (i := 74) rfl)
theorem w_75 {Z : State} {a0 : Array Value} (H : Wd Z a0) : ((Jvm.Cond.code ({ cls := "com/example/emendate/emendate/model/FieldError", name := "message", desc := "()Ljava/lang/String;" } : Jvm.MethodName) prog_9_method_8_code (1 : Nat) (Option.some (Jvm.ClassFile.FieldType.object "java/lang/String"))) : Jvm.Cond).before a0 Z = true := H.1 _ (List.mem_of_getElem? (i := 75) rfl)
theorem w_76 {Z : State} {a0 : Array Value} (H : Wd Z a0) : ((Jvm.Cond.methodLink "com/example/emendate/emendate/model/Problem" (51 : Nat) ({ cls := "java/util/List", name := "of", desc := "(Ljava/lang/Object;)Ljava/util/List;" } : Jvm.MethodName)) : Jvm.Cond).before a0 Z = true := H.1 _ (List.mem_of_getElem? (i := 76) rfl)
theorem w_77 {Z : State} {a0 : Array Value} (H : Wd Z a0) : ((Jvm.Cond.static ({ cls := "java/util/List", name := "of", desc := "(Ljava/lang/Object;)Ljava/util/List;" } : Jvm.MethodName)) : Jvm.Cond).before a0 Z = true := H.1 _ (List.mem_of_getElem? (i := 77) rfl)
theorem w_78 {Z : State} {a0 : Array Value} (H : Wd Z a0) : ((Jvm.Cond.initialized "java/util/List") : Jvm.Cond).before a0 Z = true := H.1 _ (List.mem_of_getElem? (i := 78) rfl)
theorem w_79 {Z : State} {a0 : Array Value} (H : Wd Z a0) : ((Jvm.Cond.code ({ cls := "java/util/List", name := "of", desc := "(Ljava/lang/Object;)Ljava/util/List;" } : Jvm.MethodName) jdk_40_method_37_code (1 : Nat) (Option.some (Jvm.ClassFile.FieldType.object "java/util/List"))) : Jvm.Cond).before a0 Z = true := H.1 _ (List.mem_of_getElem? (i := 79) rfl)
theorem w_80 {Z : State} {a0 : Array Value} (H : Wd Z a0) : ((Jvm.Cond.classLink "java/util/List" (96 : Nat) "java/util/ImmutableCollections$List12") : Jvm.Cond).before a0 Z = true := H.1 _ (List.mem_of_getElem? (i := 80) rfl)
theorem w_81 {Z : State} {a0 : Array Value} (H : Wd Z a0) : ((Jvm.Cond.instantiable "java/util/ImmutableCollections$List12" (2 : Nat)) : Jvm.Cond).before a0 Z = true := H.1 _ (List.mem_of_getElem? (i := 81) rfl)
theorem w_82 {Z : State} {a0 : Array Value} (H : Wd Z a0) : ((Jvm.Cond.initialized "java/util/ImmutableCollections$List12") : Jvm.Cond).before a0 Z = true := H.1 _ (List.mem_of_getElem? (i := 82) rfl)
theorem w_83 {Z : State} {a0 : Array Value} (H : Wd Z a0) : ((Jvm.Cond.methodLink "java/util/List" (98 : Nat) ({ cls := "java/util/ImmutableCollections$List12", name := "<init>", desc := "(Ljava/lang/Object;)V" } : Jvm.MethodName)) : Jvm.Cond).before a0 Z = true := H.1 _ (List.mem_of_getElem? (i := 83) rfl)
theorem w_84 {Z : State} {a0 : Array Value} (H : Wd Z a0) : ((Jvm.Cond.instanceMethod ({ cls := "java/util/ImmutableCollections$List12", name := "<init>", desc := "(Ljava/lang/Object;)V" } : Jvm.MethodName)) : Jvm.Cond).before a0 Z = true := H.1 _ (List.mem_of_getElem? (i := 84) rfl)
theorem w_86 {Z : State} {a0 : Array Value} (H : Wd Z a0) : ((Jvm.Cond.code ({ cls := "java/util/ImmutableCollections$List12", name := "<init>", desc := "(Ljava/lang/Object;)V" } : Jvm.MethodName) jdk_44_method_1_code (2 : Nat) (Option.none : Option Jvm.ClassFile.FieldType)) : Jvm.Cond).before a0 Z = true := H.1 _ (List.mem_of_getElem? (i := 86) rfl)
theorem w_87 {Z : State} {a0 : Array Value} (H : Wd Z a0) : ((Jvm.Cond.methodLink "java/util/ImmutableCollections$List12" (1 : Nat) ({ cls := "java/util/ImmutableCollections$AbstractImmutableList", name := "<init>", desc := "()V" } : Jvm.MethodName)) : Jvm.Cond).before a0 Z = true := H.1 _ (List.mem_of_getElem? (i := 87) rfl)
theorem w_88 {Z : State} {a0 : Array Value} (H : Wd Z a0) : ((Jvm.Cond.instanceMethod ({ cls := "java/util/ImmutableCollections$AbstractImmutableList", name := "<init>", desc := "()V" } : Jvm.MethodName)) : Jvm.Cond).before a0 Z = true := H.1 _ (List.mem_of_getElem? (i := 88) rfl)
theorem w_91 {Z : State} {a0 : Array Value} (H : Wd Z a0) : ((Jvm.Cond.initialized "java/util/ImmutableCollections$AbstractImmutableList") : Jvm.Cond).before a0 Z = true := H.1 _ (List.mem_of_getElem? (i := 91) rfl)
theorem w_92 {Z : State} {a0 : Array Value} (H : Wd Z a0) : ((Jvm.Cond.code ({ cls := "java/util/ImmutableCollections$AbstractImmutableList", name := "<init>", desc := "()V" } : Jvm.MethodName) jdk_46_method_1_code (1 : Nat) (Option.none : Option Jvm.ClassFile.FieldType)) : Jvm.Cond).before a0 Z = true := H.1 _ (List.mem_of_getElem? (i := 92) rfl)
theorem w_93 {Z : State} {a0 : Array Value} (H : Wd Z a0) : ((Jvm.Cond.methodLink "java/util/ImmutableCollections$AbstractImmutableList" (1 : Nat) ({ cls := "java/util/ImmutableCollections$AbstractImmutableCollection", name := "<init>", desc := "()V" } : Jvm.MethodName)) : Jvm.Cond).before a0 Z = true := H.1 _ (List.mem_of_getElem? (i := 93) rfl)
theorem w_94 {Z : State} {a0 : Array Value} (H : Wd Z a0) : ((Jvm.Cond.instanceMethod ({ cls := "java/util/ImmutableCollections$AbstractImmutableCollection", name := "<init>", desc := "()V" } : Jvm.MethodName)) : Jvm.Cond).before a0 Z = true := H.1 _ (List.mem_of_getElem? (i := 94) rfl)
theorem w_97 {Z : State} {a0 : Array Value} (H : Wd Z a0) : ((Jvm.Cond.initialized "java/util/ImmutableCollections$AbstractImmutableCollection") : Jvm.Cond).before a0 Z = true := H.1 _ (List.mem_of_getElem? (i := 97) rfl)
theorem w_98 {Z : State} {a0 : Array Value} (H : Wd Z a0) : ((Jvm.Cond.code ({ cls := "java/util/ImmutableCollections$AbstractImmutableCollection", name := "<init>", desc := "()V" } : Jvm.MethodName) jdk_47_method_1_code (1 : Nat) (Option.none : Option Jvm.ClassFile.FieldType)) : Jvm.Cond).before a0 Z = true := H.1 _ (List.mem_of_getElem? (i := 98) rfl)
theorem w_99 {Z : State} {a0 : Array Value} (H : Wd Z a0) : ((Jvm.Cond.methodLink "java/util/ImmutableCollections$AbstractImmutableCollection" (1 : Nat) ({ cls := "java/util/AbstractCollection", name := "<init>", desc := "()V" } : Jvm.MethodName)) : Jvm.Cond).before a0 Z = true := H.1 _ (List.mem_of_getElem? (i := 99) rfl)
theorem w_100 {Z : State} {a0 : Array Value} (H : Wd Z a0) : ((Jvm.Cond.instanceMethod ({ cls := "java/util/AbstractCollection", name := "<init>", desc := "()V" } : Jvm.MethodName)) : Jvm.Cond).before a0 Z = true := H.1 _ (List.mem_of_getElem? (i := 100) rfl)
theorem w_103 {Z : State} {a0 : Array Value} (H : Wd Z a0) : ((Jvm.Cond.initialized "java/util/AbstractCollection") : Jvm.Cond).before a0 Z = true := H.1 _ (List.mem_of_getElem? (i := 103) rfl)
theorem w_104 {Z : State} {a0 : Array Value} (H : Wd Z a0) : ((Jvm.Cond.code ({ cls := "java/util/AbstractCollection", name := "<init>", desc := "()V" } : Jvm.MethodName) jdk_22_method_1_code (1 : Nat) (Option.none : Option Jvm.ClassFile.FieldType)) : Jvm.Cond).before a0 Z = true := H.1 _ (List.mem_of_getElem? (i := 104) rfl)
theorem w_105 {Z : State} {a0 : Array Value} (H : Wd Z a0) : ((Jvm.Cond.methodLink "java/util/AbstractCollection" (1 : Nat) ({ cls := "java/lang/Object", name := "<init>", desc := "()V" } : Jvm.MethodName)) : Jvm.Cond).before a0 Z = true := H.1 _ (List.mem_of_getElem? (i := 105) rfl)
theorem w_106 {Z : State} {a0 : Array Value} (H : Wd Z a0) : ((Jvm.Cond.methodLink "java/util/ImmutableCollections$List12" (7 : Nat) ({ cls := "java/util/Objects", name := "requireNonNull", desc := "(Ljava/lang/Object;)Ljava/lang/Object;" } : Jvm.MethodName)) : Jvm.Cond).before a0 Z = true := H.1 _ (List.mem_of_getElem? (i := 106) rfl)
theorem w_107 {Z : State} {a0 : Array Value} (H : Wd Z a0) : ((Jvm.Cond.static ({ cls := "java/util/Objects", name := "requireNonNull", desc := "(Ljava/lang/Object;)Ljava/lang/Object;" } : Jvm.MethodName)) : Jvm.Cond).before a0 Z = true := H.1 _ (List.mem_of_getElem? (i := 107) rfl)
theorem w_108 {Z : State} {a0 : Array Value} (H : Wd Z a0) : ((Jvm.Cond.initialized "java/util/Objects") : Jvm.Cond).before a0 Z = true := H.1 _ (List.mem_of_getElem? (i := 108) rfl)
theorem w_109 {Z : State} {a0 : Array Value} (H : Wd Z a0) : ((Jvm.Cond.code ({ cls := "java/util/Objects", name := "requireNonNull", desc := "(Ljava/lang/Object;)Ljava/lang/Object;" } : Jvm.MethodName) jdk_31_method_10_code (1 : Nat) (Option.some (Jvm.ClassFile.FieldType.object "java/lang/Object"))) : Jvm.Cond).before a0 Z = true := H.1 _ (List.mem_of_getElem? (i := 109) rfl)
theorem w_110 {Z : State} {a0 : Array Value} (H : Wd Z a0) : ((Jvm.Cond.fieldLink "java/util/ImmutableCollections$List12" (13 : Nat) "java/util/ImmutableCollections$List12" "e0" "Ljava/lang/Object;") : Jvm.Cond).before a0 Z = true := H.1 _ (List.mem_of_getElem? (i := 110) rfl)
theorem w_111 {Z : State} {a0 : Array Value} (H : Wd Z a0) : ((Jvm.Cond.laysFinal "java/util/ImmutableCollections$List12" "java/util/ImmutableCollections$List12" "e0" "Ljava/lang/Object;") : Jvm.Cond).before a0 Z = true := H.1 _ (List.mem_of_getElem? (i := 111) rfl)
theorem w_112 {Z : State} {a0 : Array Value} (H : Wd Z a0) : ((Jvm.Cond.fieldLinkNest "java/util/ImmutableCollections$List12" (19 : Nat) "java/util/ImmutableCollections" "EMPTY" "Ljava/lang/Object;" "java/util/ImmutableCollections") : Jvm.Cond).before a0 Z = true := H.1 _ (List.mem_of_getElem? (i := 112) rfl)
theorem w_113 {Z : State} {a0 : Array Value} (H : Wd Z a0) : ((Jvm.Cond.initialized "java/util/ImmutableCollections") : Jvm.Cond).before a0 Z = true := H.1 _ (List.mem_of_getElem? (i := 113) rfl)
theorem w_114 {Z : State} {a0 : Array Value} (H : Wd Z a0) : ((Jvm.Cond.fieldLink "java/util/ImmutableCollections$List12" (24 : Nat) "java/util/ImmutableCollections$List12" "e1" "Ljava/lang/Object;") : Jvm.Cond).before a0 Z = true := H.1 _ (List.mem_of_getElem? (i := 114) rfl)
theorem w_115 {Z : State} {a0 : Array Value} (H : Wd Z a0) : ((Jvm.Cond.laysFinal "java/util/ImmutableCollections$List12" "java/util/ImmutableCollections$List12" "e1" "Ljava/lang/Object;") : Jvm.Cond).before a0 Z = true := H.1 _ (List.mem_of_getElem? (i := 115) rfl)
theorem w_116 {Z : State} {a0 : Array Value} (H : Wd Z a0) : ((Jvm.Cond.methodLink "com/example/emendate/emendate/model/Problem" (7 : Nat) ({ cls := "com/example/emendate/emendate/model/Problem", name := "<init>", desc := "(Lcom/example/emendate/emendate/model/ErrorCode;Ljava/lang/String;Ljava/util/List;Ljava/time/Duration;)V" } : Jvm.MethodName)) : Jvm.Cond).before a0 Z = true := H.1 _ (List.mem_of_getElem? (i := 116) rfl)
theorem w_117 {Z : State} {a0 : Array Value} (H : Wd Z a0) : ((Jvm.Cond.instanceMethod ({ cls := "com/example/emendate/emendate/model/Problem", name := "<init>", desc := "(Lcom/example/emendate/emendate/model/ErrorCode;Ljava/lang/String;Ljava/util/List;Ljava/time/Duration;)V" } : Jvm.MethodName)) : Jvm.Cond).before a0 Z = true := H.1 _ (List.mem_of_getElem? (i := 117) rfl)
theorem w_118 {Z : State} {a0 : Array Value} (H : Wd Z a0) : ((Jvm.Cond.code ({ cls := "com/example/emendate/emendate/model/Problem", name := "<init>", desc := "(Lcom/example/emendate/emendate/model/ErrorCode;Ljava/lang/String;Ljava/util/List;Ljava/time/Duration;)V" } : Jvm.MethodName) prog_10_method_3_code (5 : Nat) (Option.none : Option Jvm.ClassFile.FieldType)) : Jvm.Cond).before a0 Z = true := H.1 _ (List.mem_of_getElem? (i := 118) rfl)
theorem w_119 {Z : State} {a0 : Array Value} (H : Wd Z a0) : ((Jvm.Cond.methodLink "com/example/emendate/emendate/model/Problem" (21 : Nat) ({ cls := "java/lang/Exception", name := "<init>", desc := "(Ljava/lang/String;Ljava/lang/Throwable;ZZ)V" } : Jvm.MethodName)) : Jvm.Cond).before a0 Z = true := H.1 _ (List.mem_of_getElem? (i := 119) rfl)
theorem w_120 {Z : State} {a0 : Array Value} (H : Wd Z a0) : ((Jvm.Cond.instanceMethod ({ cls := "java/lang/Exception", name := "<init>", desc := "(Ljava/lang/String;Ljava/lang/Throwable;ZZ)V" } : Jvm.MethodName)) : Jvm.Cond).before a0 Z = true := H.1 _ (List.mem_of_getElem? (i := 120) rfl)
theorem w_122 {Z : State} {a0 : Array Value} (H : Wd Z a0) : ((Jvm.Cond.initialized "java/lang/Exception") : Jvm.Cond).before a0 Z = true := H.1 _ (List.mem_of_getElem? (i := 122) rfl)
theorem w_123 {Z : State} {a0 : Array Value} (H : Wd Z a0) : ((Jvm.Cond.code ({ cls := "java/lang/Exception", name := "<init>", desc := "(Ljava/lang/String;Ljava/lang/Throwable;ZZ)V" } : Jvm.MethodName) jdk_59_method_5_code (5 : Nat) (Option.none : Option Jvm.ClassFile.FieldType)) : Jvm.Cond).before a0 Z = true := H.1 _ (List.mem_of_getElem? (i := 123) rfl)
theorem w_124 {Z : State} {a0 : Array Value} (H : Wd Z a0) : ((Jvm.Cond.methodLink "java/lang/Exception" (16 : Nat) ({ cls := "java/lang/Throwable", name := "<init>", desc := "(Ljava/lang/String;Ljava/lang/Throwable;ZZ)V" } : Jvm.MethodName)) : Jvm.Cond).before a0 Z = true := H.1 _ (List.mem_of_getElem? (i := 124) rfl)
theorem w_125 {Z : State} {a0 : Array Value} (H : Wd Z a0) : ((Jvm.Cond.instanceMethod ({ cls := "java/lang/Throwable", name := "<init>", desc := "(Ljava/lang/String;Ljava/lang/Throwable;ZZ)V" } : Jvm.MethodName)) : Jvm.Cond).before a0 Z = true := H.1 _ (List.mem_of_getElem? (i := 125) rfl)
theorem w_128 {Z : State} {a0 : Array Value} (H : Wd Z a0) : ((Jvm.Cond.initialized "java/lang/Throwable") : Jvm.Cond).before a0 Z = true := H.1 _ (List.mem_of_getElem? (i := 128) rfl)
theorem w_129 {Z : State} {a0 : Array Value} (H : Wd Z a0) : ((Jvm.Cond.code ({ cls := "java/lang/Throwable", name := "<init>", desc := "(Ljava/lang/String;Ljava/lang/Throwable;ZZ)V" } : Jvm.MethodName) jdk_78_method_5_code (5 : Nat) (Option.none : Option Jvm.ClassFile.FieldType)) : Jvm.Cond).before a0 Z = true := H.1 _ (List.mem_of_getElem? (i := 129) rfl)
theorem w_130 {Z : State} {a0 : Array Value} (H : Wd Z a0) : ((Jvm.Cond.methodLink "java/lang/Throwable" (1 : Nat) ({ cls := "java/lang/Object", name := "<init>", desc := "()V" } : Jvm.MethodName)) : Jvm.Cond).before a0 Z = true := H.1 _ (List.mem_of_getElem? (i := 130) rfl)
theorem w_131 {Z : State} {a0 : Array Value} (H : Wd Z a0) : ((Jvm.Cond.fieldLink "java/lang/Throwable" (7 : Nat) "java/lang/Throwable" "cause" "Ljava/lang/Throwable;") : Jvm.Cond).before a0 Z = true := H.1 _ (List.mem_of_getElem? (i := 131) rfl)
theorem w_132 {Z : State} {a0 : Array Value} (H : Wd Z a0) : ((Jvm.Cond.lays "com/example/emendate/emendate/model/Problem" "java/lang/Throwable" "cause" "Ljava/lang/Throwable;") : Jvm.Cond).before a0 Z = true := H.1 _ (List.mem_of_getElem? (i := 132) rfl)
theorem w_133 {Z : State} {a0 : Array Value} (H : Wd Z a0) : ((Jvm.Cond.fieldLink "java/lang/Throwable" (13 : Nat) "java/lang/Throwable" "UNASSIGNED_STACK" "[Ljava/lang/StackTraceElement;") : Jvm.Cond).before a0 Z = true := H.1 _ (List.mem_of_getElem? (i := 133) rfl)
theorem w_134 {Z : State} {a0 : Array Value} (H : Wd Z a0) : ((Jvm.Cond.fieldLink "java/lang/Throwable" (17 : Nat) "java/lang/Throwable" "stackTrace" "[Ljava/lang/StackTraceElement;") : Jvm.Cond).before a0 Z = true := H.1 _ (List.mem_of_getElem? (i := 134) rfl)
theorem w_135 {Z : State} {a0 : Array Value} (H : Wd Z a0) : ((Jvm.Cond.lays "com/example/emendate/emendate/model/Problem" "java/lang/Throwable" "stackTrace" "[Ljava/lang/StackTraceElement;") : Jvm.Cond).before a0 Z = true := H.1 _ (List.mem_of_getElem? (i := 135) rfl)
theorem w_136 {Z : State} {a0 : Array Value} (H : Wd Z a0) : ((Jvm.Cond.fieldLink "java/lang/Throwable" (20 : Nat) "java/lang/Throwable" "SUPPRESSED_SENTINEL" "Ljava/util/List;") : Jvm.Cond).before a0 Z = true := H.1 _ (List.mem_of_getElem? (i := 136) rfl)
theorem w_137 {Z : State} {a0 : Array Value} (H : Wd Z a0) : ((Jvm.Cond.fieldLink "java/lang/Throwable" (24 : Nat) "java/lang/Throwable" "suppressedExceptions" "Ljava/util/List;") : Jvm.Cond).before a0 Z = true := H.1 _ (List.mem_of_getElem? (i := 137) rfl)
theorem w_138 {Z : State} {a0 : Array Value} (H : Wd Z a0) : ((Jvm.Cond.lays "com/example/emendate/emendate/model/Problem" "java/lang/Throwable" "suppressedExceptions" "Ljava/util/List;") : Jvm.Cond).before a0 Z = true := H.1 _ (List.mem_of_getElem? (i := 138) rfl)
theorem w_139 {Z : State} {a0 : Array Value} (H : Wd Z a0) : ((Jvm.Cond.fieldLink "java/lang/Throwable" (31 : Nat) "java/lang/Throwable" "detailMessage" "Ljava/lang/String;") : Jvm.Cond).before a0 Z = true := H.1 _ (List.mem_of_getElem? (i := 139) rfl)
theorem w_140 {Z : State} {a0 : Array Value} (H : Wd Z a0) : ((Jvm.Cond.lays "com/example/emendate/emendate/model/Problem" "java/lang/Throwable" "detailMessage" "Ljava/lang/String;") : Jvm.Cond).before a0 Z = true := H.1 _ (List.mem_of_getElem? (i := 140) rfl)
theorem w_141 {Z : State} {a0 : Array Value} (H : Wd Z a0) : ((Jvm.Cond.fieldLink "com/example/emendate/emendate/model/Problem" (26 : Nat) "com/example/emendate/emendate/model/Problem" "code" "Lcom/example/emendate/emendate/model/ErrorCode;") : Jvm.Cond).before a0 Z = true := H.1 _ (List.mem_of_getElem? (i := 141) rfl)
theorem w_142 {Z : State} {a0 : Array Value} (H : Wd Z a0) : ((Jvm.Cond.laysFinal "com/example/emendate/emendate/model/Problem" "com/example/emendate/emendate/model/Problem" "code" "Lcom/example/emendate/emendate/model/ErrorCode;") : Jvm.Cond).before a0 Z = true := H.1 _ (List.mem_of_getElem? (i := 142) rfl)
theorem w_143 {Z : State} {a0 : Array Value} (H : Wd Z a0) : ((Jvm.Cond.methodLink "com/example/emendate/emendate/model/Problem" (30 : Nat) ({ cls := "java/util/List", name := "copyOf", desc := "(Ljava/util/Collection;)Ljava/util/List;" } : Jvm.MethodName)) : Jvm.Cond).before a0 Z = true := H.1 _ (List.mem_of_getElem? (i := 143) rfl)
theorem w_144 {Z : State} {a0 : Array Value} (H : Wd Z a0) : ((Jvm.Cond.static ({ cls := "java/util/List", name := "copyOf", desc := "(Ljava/util/Collection;)Ljava/util/List;" } : Jvm.MethodName)) : Jvm.Cond).before a0 Z = true := H.1 _ (List.mem_of_getElem? (i := 144) rfl)
theorem w_145 {Z : State} {a0 : Array Value} (H : Wd Z a0) : ((Jvm.Cond.code ({ cls := "java/util/List", name := "copyOf", desc := "(Ljava/util/Collection;)Ljava/util/List;" } : Jvm.MethodName) jdk_40_method_48_code (1 : Nat) (Option.some (Jvm.ClassFile.FieldType.object "java/util/List"))) : Jvm.Cond).before a0 Z = true := H.1 _ (List.mem_of_getElem? (i := 145) rfl)
theorem w_146 {Z : State} {a0 : Array Value} (H : Wd Z a0) : ((Jvm.Cond.methodLink "java/util/List" (112 : Nat) ({ cls := "java/util/ImmutableCollections", name := "listCopy", desc := "(Ljava/util/Collection;)Ljava/util/List;" } : Jvm.MethodName)) : Jvm.Cond).before a0 Z = true := H.1 _ (List.mem_of_getElem? (i := 146) rfl)
theorem w_147 {Z : State} {a0 : Array Value} (H : Wd Z a0) : ((Jvm.Cond.static ({ cls := "java/util/ImmutableCollections", name := "listCopy", desc := "(Ljava/util/Collection;)Ljava/util/List;" } : Jvm.MethodName)) : Jvm.Cond).before a0 Z = true := H.1 _ (List.mem_of_getElem? (i := 147) rfl)
theorem w_148 {Z : State} {a0 : Array Value} (H : Wd Z a0) : ((Jvm.Cond.code ({ cls := "java/util/ImmutableCollections", name := "listCopy", desc := "(Ljava/util/Collection;)Ljava/util/List;" } : Jvm.MethodName) jdk_56_method_3_code (2 : Nat) (Option.some (Jvm.ClassFile.FieldType.object "java/util/List"))) : Jvm.Cond).before a0 Z = true := H.1 _ (List.mem_of_getElem? (i := 148) rfl)
theorem w_149 {Z : State} {a0 : Array Value} (H : Wd Z a0) : ((Jvm.Cond.classLink "java/util/ImmutableCollections" (10 : Nat) "java/util/ImmutableCollections$List12") : Jvm.Cond).before a0 Z = true := H.1 _ (List.mem_of_getElem? (i := 149) rfl)
theorem w_150 {Z : State} {a0 : Array Value} (H : Wd Z a0) : ((Jvm.Cond.classLink "java/util/ImmutableCollections" (18 : Nat) "java/util/List") : Jvm.Cond).before a0 Z = true := H.1 _ (List.mem_of_getElem? (i := 150) rfl)
theorem w_151 {Z : State} {a0 : Array Value} (H : Wd Z a0) : ((Jvm.Cond.castable "java/util/ImmutableCollections$List12" "java/util/List") : Jvm.Cond).before a0 Z = true := H.1 _ (List.mem_of_getElem? (i := 151) rfl)
theorem w_152 {Z : State} {a0 : Array Value} (H : Wd Z a0) : ((Jvm.Cond.fieldLink "com/example/emendate/emendate/model/Problem" (34 : Nat) "com/example/emendate/emendate/model/Problem" "errors" "Ljava/util/List;") : Jvm.Cond).before a0 Z = true := H.1 _ (List.mem_of_getElem? (i := 152) rfl)
theorem w_153 {Z : State} {a0 : Array Value} (H : Wd Z a0) : ((Jvm.Cond.laysFinal "com/example/emendate/emendate/model/Problem" "com/example/emendate/emendate/model/Problem" "errors" "Ljava/util/List;") : Jvm.Cond).before a0 Z = true := H.1 _ (List.mem_of_getElem? (i := 153) rfl)
theorem w_154 {Z : State} {a0 : Array Value} (H : Wd Z a0) : ((Jvm.Cond.fieldLink "com/example/emendate/emendate/model/Problem" (38 : Nat) "com/example/emendate/emendate/model/Problem" "retryAfter" "Ljava/time/Duration;") : Jvm.Cond).before a0 Z = true := H.1 _ (List.mem_of_getElem? (i := 154) rfl)
theorem w_155 {Z : State} {a0 : Array Value} (H : Wd Z a0) : ((Jvm.Cond.laysFinal "com/example/emendate/emendate/model/Problem" "com/example/emendate/emendate/model/Problem" "retryAfter" "Ljava/time/Duration;") : Jvm.Cond).before a0 Z = true := H.1 _ (List.mem_of_getElem? (i := 155) rfl)
theorem w_156 {Z : State} {a0 : Array Value} (H : Wd Z a0) : ((Jvm.Cond.methodLink "com/example/emendate/emendate/model/ProblemOfPinLaw" (60 : Nat) ({ cls := "com/example/emendate/emendate/model/Problem", name := "code", desc := "()Lcom/example/emendate/emendate/model/ErrorCode;" } : Jvm.MethodName)) : Jvm.Cond).before a0 Z = true := H.1 _ (List.mem_of_getElem? (i := 156) rfl)
theorem w_157 {Z : State} {a0 : Array Value} (H : Wd Z a0) : ((Jvm.Cond.declares ({ cls := "com/example/emendate/emendate/model/Problem", name := "code", desc := "()Lcom/example/emendate/emendate/model/ErrorCode;" } : Jvm.MethodName)) : Jvm.Cond).before a0 Z = true := H.1 _ (List.mem_of_getElem? (i := 157) rfl)
theorem w_158 {Z : State} {a0 : Array Value} (H : Wd Z a0) : ((Jvm.Cond.instanceMethod ({ cls := "com/example/emendate/emendate/model/Problem", name := "code", desc := "()Lcom/example/emendate/emendate/model/ErrorCode;" } : Jvm.MethodName)) : Jvm.Cond).before a0 Z = true := H.1 _ (List.mem_of_getElem? (i := 158) rfl)
theorem w_159 {Z : State} {a0 : Array Value} (H : Wd Z a0) : ((Jvm.Cond.selects "com/example/emendate/emendate/model/Problem" ({ cls := "com/example/emendate/emendate/model/Problem", name := "code", desc := "()Lcom/example/emendate/emendate/model/ErrorCode;" } : Jvm.MethodName) ({ cls := "com/example/emendate/emendate/model/Problem", name := "code", desc := "()Lcom/example/emendate/emendate/model/ErrorCode;" } : Jvm.MethodName)) : Jvm.Cond).before a0 Z = true := H.1 _ (List.mem_of_getElem? (i := 159) rfl)
theorem w_160 {Z : State} {a0 : Array Value} (H : Wd Z a0) : ((Jvm.Cond.code ({ cls := "com/example/emendate/emendate/model/Problem", name := "code", desc := "()Lcom/example/emendate/emendate/model/ErrorCode;" } : Jvm.MethodName) prog_10_method_7_code (1 : Nat) (Option.some (Jvm.ClassFile.FieldType.object "com/example/emendate/emendate/model/ErrorCode"))) : Jvm.Cond).before a0 Z = true := H.1 _ (List.mem_of_getElem? (i := 160) rfl)
theorem w_161 {Z : State} {a0 : Array Value} (H : Wd Z a0) : ((Jvm.Cond.methodLink "com/example/emendate/emendate/model/ProblemOfPinLaw" (64 : Nat) ({ cls := "com/example/emendate/emendate/model/Problem", name := "detail", desc := "()Ljava/lang/String;" } : Jvm.MethodName)) : Jvm.Cond).before a0 Z = true := H.1 _ (List.mem_of_getElem? (i := 161) rfl)
theorem w_162 {Z : State} {a0 : Array Value} (H : Wd Z a0) : ((Jvm.Cond.declares ({ cls := "com/example/emendate/emendate/model/Problem", name := "detail", desc := "()Ljava/lang/String;" } : Jvm.MethodName)) : Jvm.Cond).before a0 Z = true := H.1 _ (List.mem_of_getElem? (i := 162) rfl)
theorem w_163 {Z : State} {a0 : Array Value} (H : Wd Z a0) : ((Jvm.Cond.instanceMethod ({ cls := "com/example/emendate/emendate/model/Problem", name := "detail", desc := "()Ljava/lang/String;" } : Jvm.MethodName)) : Jvm.Cond).before a0 Z = true := H.1 _ (List.mem_of_getElem? (i := 163) rfl)
theorem w_164 {Z : State} {a0 : Array Value} (H : Wd Z a0) : ((Jvm.Cond.selects "com/example/emendate/emendate/model/Problem" ({ cls := "com/example/emendate/emendate/model/Problem", name := "detail", desc := "()Ljava/lang/String;" } : Jvm.MethodName) ({ cls := "com/example/emendate/emendate/model/Problem", name := "detail", desc := "()Ljava/lang/String;" } : Jvm.MethodName)) : Jvm.Cond).before a0 Z = true := H.1 _ (List.mem_of_getElem? (i := 164) rfl)
theorem w_165 {Z : State} {a0 : Array Value} (H : Wd Z a0) : ((Jvm.Cond.code ({ cls := "com/example/emendate/emendate/model/Problem", name := "detail", desc := "()Ljava/lang/String;" } : Jvm.MethodName) prog_10_method_8_code (1 : Nat) (Option.some (Jvm.ClassFile.FieldType.object "java/lang/String"))) : Jvm.Cond).before a0 Z = true := H.1 _ (List.mem_of_getElem? (i := 165) rfl)
theorem w_166 {Z : State} {a0 : Array Value} (H : Wd Z a0) : ((Jvm.Cond.methodLink "com/example/emendate/emendate/model/Problem" (120 : Nat) ({ cls := "com/example/emendate/emendate/model/Problem", name := "getMessage", desc := "()Ljava/lang/String;" } : Jvm.MethodName)) : Jvm.Cond).before a0 Z = true := H.1 _ (List.mem_of_getElem? (i := 166) rfl)
theorem w_167 {Z : State} {a0 : Array Value} (H : Wd Z a0) : ((Jvm.Cond.sameMethod "com/example/emendate/emendate/model/Problem" "java/lang/Throwable" "getMessage" "()Ljava/lang/String;") : Jvm.Cond).before a0 Z = true := H.1 _ (List.mem_of_getElem? (i := 167) rfl)
theorem w_168 {Z : State} {a0 : Array Value} (H : Wd Z a0) : ((Jvm.Cond.declares ({ cls := "java/lang/Throwable", name := "getMessage", desc := "()Ljava/lang/String;" } : Jvm.MethodName)) : Jvm.Cond).before a0 Z = true := H.1 _ (List.mem_of_getElem? (i := 168) rfl)
theorem w_169 {Z : State} {a0 : Array Value} (H : Wd Z a0) : ((Jvm.Cond.instanceMethod ({ cls := "java/lang/Throwable", name := "getMessage", desc := "()Ljava/lang/String;" } : Jvm.MethodName)) : Jvm.Cond).before a0 Z = true := H.1 _ (List.mem_of_getElem? (i := 169) rfl)
theorem w_170 {Z : State} {a0 : Array Value} (H : Wd Z a0) : ((Jvm.Cond.selects "com/example/emendate/emendate/model/Problem" ({ cls := "com/example/emendate/emendate/model/Problem", name := "getMessage", desc := "()Ljava/lang/String;" } : Jvm.MethodName) ({ cls := "java/lang/Throwable", name := "getMessage", desc := "()Ljava/lang/String;" } : Jvm.MethodName)) : Jvm.Cond).before a0 Z = true := H.1 _ (List.mem_of_getElem? (i := 170) rfl)
theorem w_171 {Z : State} {a0 : Array Value} (H : Wd Z a0) : ((Jvm.Cond.code ({ cls := "java/lang/Throwable", name := "getMessage", desc := "()Ljava/lang/String;" } : Jvm.MethodName) jdk_78_method_6_code (1 : Nat) (Option.some (Jvm.ClassFile.FieldType.object "java/lang/String"))) : Jvm.Cond).before a0 Z = true := H.1 _ (List.mem_of_getElem? (i := 171) rfl)
theorem w_172 {Z : State} {a0 : Array Value} (H : Wd Z a0) : ((Jvm.Cond.methodLink "com/example/emendate/emendate/model/ProblemOfPinLaw" (72 : Nat) ({ cls := "com/example/emendate/emendate/model/Problem", name := "errors", desc := "()Ljava/util/List;" } : Jvm.MethodName)) : Jvm.Cond).before a0 Z = true := H.1 _ (List.mem_of_getElem? (i := 172) rfl)
theorem w_173 {Z : State} {a0 : Array Value} (H : Wd Z a0) : ((Jvm.Cond.declares ({ cls := "com/example/emendate/emendate/model/Problem", name := "errors", desc := "()Ljava/util/List;" } : Jvm.MethodName)) : Jvm.Cond).before a0 Z = true := H.1 _ (List.mem_of_getElem? (i := 173) rfl)
theorem w_174 {Z : State} {a0 : Array Value} (H : Wd Z a0) : ((Jvm.Cond.instanceMethod ({ cls := "com/example/emendate/emendate/model/Problem", name := "errors", desc := "()Ljava/util/List;" } : Jvm.MethodName)) : Jvm.Cond).before a0 Z = true := H.1 _ (List.mem_of_getElem? (i := 174) rfl)
theorem w_175 {Z : State} {a0 : Array Value} (H : Wd Z a0) : ((Jvm.Cond.selects "com/example/emendate/emendate/model/Problem" ({ cls := "com/example/emendate/emendate/model/Problem", name := "errors", desc := "()Ljava/util/List;" } : Jvm.MethodName) ({ cls := "com/example/emendate/emendate/model/Problem", name := "errors", desc := "()Ljava/util/List;" } : Jvm.MethodName)) : Jvm.Cond).before a0 Z = true := H.1 _ (List.mem_of_getElem? (i := 175) rfl)
theorem w_176 {Z : State} {a0 : Array Value} (H : Wd Z a0) : ((Jvm.Cond.code ({ cls := "com/example/emendate/emendate/model/Problem", name := "errors", desc := "()Ljava/util/List;" } : Jvm.MethodName) prog_10_method_9_code (1 : Nat) (Option.some (Jvm.ClassFile.FieldType.object "java/util/List"))) : Jvm.Cond).before a0 Z = true := H.1 _ (List.mem_of_getElem? (i := 176) rfl)
theorem w_177 {Z : State} {a0 : Array Value} (H : Wd Z a0) : ((Jvm.Cond.methodLink "com/example/emendate/emendate/model/ProblemOfPinLaw" (76 : Nat) ({ cls := "java/util/List", name := "size", desc := "()I" } : Jvm.MethodName)) : Jvm.Cond).before a0 Z = true := H.1 _ (List.mem_of_getElem? (i := 177) rfl)
theorem w_178 {Z : State} {a0 : Array Value} (H : Wd Z a0) : ((Jvm.Cond.declares ({ cls := "java/util/List", name := "size", desc := "()I" } : Jvm.MethodName)) : Jvm.Cond).before a0 Z = true := H.1 _ (List.mem_of_getElem? (i := 178) rfl)
theorem w_179 {Z : State} {a0 : Array Value} (H : Wd Z a0) : ((Jvm.Cond.interfaceMethod "java/util/List" "java/util/List" "size" "()I") : Jvm.Cond).before a0 Z = true := H.1 _ (List.mem_of_getElem? (i := 179) rfl)
theorem w_180 {Z : State} {a0 : Array Value} (H : Wd Z a0) : ((Jvm.Cond.selects "java/util/ImmutableCollections$List12" ({ cls := "java/util/List", name := "size", desc := "()I" } : Jvm.MethodName) ({ cls := "java/util/ImmutableCollections$List12", name := "size", desc := "()I" } : Jvm.MethodName)) : Jvm.Cond).before a0 Z = true := H.1 _ (List.mem_of_getElem? (i := 180) rfl)
theorem w_181 {Z : State} {a0 : Array Value} (H : Wd Z a0) : ((Jvm.Cond.instanceMethod ({ cls := "java/util/ImmutableCollections$List12", name := "size", desc := "()I" } : Jvm.MethodName)) : Jvm.Cond).before a0 Z = true := H.1 _ (List.mem_of_getElem? (i := 181) rfl)
theorem w_182 {Z : State} {a0 : Array Value} (H : Wd Z a0) : ((Jvm.Cond.publicMethod ({ cls := "java/util/ImmutableCollections$List12", name := "size", desc := "()I" } : Jvm.MethodName)) : Jvm.Cond).before a0 Z = true := H.1 _ (List.mem_of_getElem? (i := 182) rfl)
theorem w_183 {Z : State} {a0 : Array Value} (H : Wd Z a0) : ((Jvm.Cond.unhidden "java/util/ImmutableCollections$List12" "size" "()I") : Jvm.Cond).before a0 Z = true := H.1 _ (List.mem_of_getElem? (i := 183) rfl)
theorem w_184 {Z : State} {a0 : Array Value} (H : Wd Z a0) : ((Jvm.Cond.code ({ cls := "java/util/ImmutableCollections$List12", name := "size", desc := "()I" } : Jvm.MethodName) jdk_44_method_3_code (1 : Nat) (Option.some Jvm.ClassFile.FieldType.int)) : Jvm.Cond).before a0 Z = true := H.1 _ (List.mem_of_getElem? (i := 184) rfl)
theorem w_185 {Z : State} {a0 : Array Value} (H : Wd Z a0) : ((Jvm.Cond.methodLink "com/example/emendate/emendate/model/ProblemOfPinLaw" (82 : Nat) ({ cls := "java/util/List", name := "get", desc := "(I)Ljava/lang/Object;" } : Jvm.MethodName)) : Jvm.Cond).before a0 Z = true := H.1 _ (List.mem_of_getElem? (i := 185) rfl)
theorem w_186 {Z : State} {a0 : Array Value} (H : Wd Z a0) : ((Jvm.Cond.declares ({ cls := "java/util/List", name := "get", desc := "(I)Ljava/lang/Object;" } : Jvm.MethodName)) : Jvm.Cond).before a0 Z = true := H.1 _ (List.mem_of_getElem? (i := 186) rfl)
theorem w_187 {Z : State} {a0 : Array Value} (H : Wd Z a0) : ((Jvm.Cond.interfaceMethod "java/util/List" "java/util/List" "get" "(I)Ljava/lang/Object;") : Jvm.Cond).before a0 Z = true := H.1 _ (List.mem_of_getElem? (i := 187) rfl)
theorem w_188 {Z : State} {a0 : Array Value} (H : Wd Z a0) : ((Jvm.Cond.selects "java/util/ImmutableCollections$List12" ({ cls := "java/util/List", name := "get", desc := "(I)Ljava/lang/Object;" } : Jvm.MethodName) ({ cls := "java/util/ImmutableCollections$List12", name := "get", desc := "(I)Ljava/lang/Object;" } : Jvm.MethodName)) : Jvm.Cond).before a0 Z = true := H.1 _ (List.mem_of_getElem? (i := 188) rfl)
theorem w_189 {Z : State} {a0 : Array Value} (H : Wd Z a0) : ((Jvm.Cond.instanceMethod ({ cls := "java/util/ImmutableCollections$List12", name := "get", desc := "(I)Ljava/lang/Object;" } : Jvm.MethodName)) : Jvm.Cond).before a0 Z = true := H.1 _ (List.mem_of_getElem? (i := 189) rfl)
theorem w_190 {Z : State} {a0 : Array Value} (H : Wd Z a0) : ((Jvm.Cond.publicMethod ({ cls := "java/util/ImmutableCollections$List12", name := "get", desc := "(I)Ljava/lang/Object;" } : Jvm.MethodName)) : Jvm.Cond).before a0 Z = true := H.1 _ (List.mem_of_getElem? (i := 190) rfl)
theorem w_191 {Z : State} {a0 : Array Value} (H : Wd Z a0) : ((Jvm.Cond.unhidden "java/util/ImmutableCollections$List12" "get" "(I)Ljava/lang/Object;") : Jvm.Cond).before a0 Z = true := H.1 _ (List.mem_of_getElem? (i := 191) rfl)
theorem w_192 {Z : State} {a0 : Array Value} (H : Wd Z a0) : ((Jvm.Cond.code ({ cls := "java/util/ImmutableCollections$List12", name := "get", desc := "(I)Ljava/lang/Object;" } : Jvm.MethodName) jdk_44_method_5_code (2 : Nat) (Option.some (Jvm.ClassFile.FieldType.object "java/lang/Object"))) : Jvm.Cond).before a0 Z = true := H.1 _ (List.mem_of_getElem? (i := 192) rfl)
theorem w_193 {Z : State} {a0 : Array Value} (H : Wd Z a0) : ((Jvm.Cond.fieldLink "com/example/emendate/emendate/model/ProblemOfPinLaw" (27 : Nat) "com/example/emendate/emendate/model/ErrorCode" "PATCH_TEST_FAILED" "Lcom/example/emendate/emendate/model/ErrorCode;") : Jvm.Cond).before a0 Z = true := H.1 _ (List.mem_of_getElem? (i := 193) rfl)
theorem w_194 {Z : State} {a0 : Array Value} (H : Wd Z a0) : ((Jvm.Cond.laysStatic "com/example/emendate/emendate/model/ErrorCode" "PATCH_TEST_FAILED" "Lcom/example/emendate/emendate/model/ErrorCode;") : Jvm.Cond).before a0 Z = true := H.1 _ (List.mem_of_getElem? (i := 194) rfl)
theorem w_195 {Z : State} {a0 : Array Value} (H : Wd Z a0) : ((Jvm.Cond.methodLink "com/example/emendate/emendate/model/ProblemOfPinLaw" (68 : Nat) ({ cls := "java/lang/String", name := "equals", desc := "(Ljava/lang/Object;)Z" } : Jvm.MethodName)) : Jvm.Cond).before a0 Z = true := H.1 _ (List.mem_of_getElem? (i := 195) rfl)
theorem w_196 {Z : State} {a0 : Array Value} (H : Wd Z a0) : ((Jvm.Cond.declares ({ cls := "java/lang/String", name := "equals", desc := "(Ljava/lang/Object;)Z" } : Jvm.MethodName)) : Jvm.Cond).before a0 Z = true := H.1 _ (List.mem_of_getElem? (i := 196) rfl)
theorem w_197 {Z : State} {a0 : Array Value} (H : Wd Z a0) : ((Jvm.Cond.instanceMethod ({ cls := "java/lang/String", name := "equals", desc := "(Ljava/lang/Object;)Z" } : Jvm.MethodName)) : Jvm.Cond).before a0 Z = true := H.1 _ (List.mem_of_getElem? (i := 197) rfl)
theorem w_198 {Z : State} {a0 : Array Value} (H : Wd Z a0) : ((Jvm.Cond.selects "java/lang/String" ({ cls := "java/lang/String", name := "equals", desc := "(Ljava/lang/Object;)Z" } : Jvm.MethodName) ({ cls := "java/lang/String", name := "equals", desc := "(Ljava/lang/Object;)Z" } : Jvm.MethodName)) : Jvm.Cond).before a0 Z = true := H.1 _ (List.mem_of_getElem? (i := 198) rfl)
theorem w_199 {Z : State} {a0 : Array Value} (H : Wd Z a0) : ((Jvm.Cond.code ({ cls := "java/lang/String", name := "equals", desc := "(Ljava/lang/Object;)Z" } : Jvm.MethodName) jdk_42_method_66_code (3 : Nat) (Option.some Jvm.ClassFile.FieldType.boolean)) : Jvm.Cond).before a0 Z = true := H.1 _ (List.mem_of_getElem? (i := 199) rfl)
theorem w_200 {Z : State} {a0 : Array Value} (H : Wd Z a0) : ((Jvm.Cond.fieldLink "com/example/emendate/emendate/model/ProblemOfPinLaw" (36 : Nat) "com/example/emendate/emendate/model/ErrorCode" "USER_BUILTIN_IMMUTABLE" "Lcom/example/emendate/emendate/model/ErrorCode;") : Jvm.Cond).before a0 Z = true := H.1 _ (List.mem_of_getElem? (i := 200) rfl)
theorem w_201 {Z : State} {a0 : Array Value} (H : Wd Z a0) : ((Jvm.Cond.laysStatic "com/example/emendate/emendate/model/ErrorCode" "USER_BUILTIN_IMMUTABLE" "Lcom/example/emendate/emendate/model/ErrorCode;") : Jvm.Cond).before a0 Z = true := H.1 _ (List.mem_of_getElem? (i := 201) rfl)
theorem w_202 {Z : State} {a0 : Array Value} (H : Wd Z a0) : ((Jvm.Cond.fieldLink "com/example/emendate/emendate/model/ProblemOfPinLaw" (21 : Nat) "com/example/emendate/emendate/model/ErrorCode" "USER_CONFLICT" "Lcom/example/emendate/emendate/model/ErrorCode;") : Jvm.Cond).before a0 Z = true := H.1 _ (List.mem_of_getElem? (i := 202) rfl)
theorem w_203 {Z : State} {a0 : Array Value} (H : Wd Z a0) : ((Jvm.Cond.laysStatic "com/example/emendate/emendate/model/ErrorCode" "USER_CONFLICT" "Lcom/example/emendate/emendate/model/ErrorCode;") : Jvm.Cond).before a0 Z = true := H.1 _ (List.mem_of_getElem? (i := 203) rfl)
theorem w_204 {Z : State} {a0 : Array Value} (H : Wd Z a0) : ((Jvm.Cond.fieldLink "java/lang/String" (38 : Nat) "java/lang/String" "COMPACT_STRINGS" "Z") : Jvm.Cond).before a0 Z = true := H.1 _ (List.mem_of_getElem? (i := 204) rfl)
theorem w_205 {Z : State} {a0 : Array Value} (H : Wd Z a0) : ((Jvm.Cond.methodLink "java/lang/String" (177 : Nat) ({ cls := "java/lang/StringUTF16", name := "compress", desc := "([CII)[B" } : Jvm.MethodName)) : Jvm.Cond).before a0 Z = true := H.1 _ (List.mem_of_getElem? (i := 205) rfl)
theorem w_206 {Z : State} {a0 : Array Value} (H : Wd Z a0) : ((Jvm.Cond.static ({ cls := "java/lang/StringUTF16", name := "compress", desc := "([CII)[B" } : Jvm.MethodName)) : Jvm.Cond).before a0 Z = true := H.1 _ (List.mem_of_getElem? (i := 206) rfl)
theorem w_207 {Z : State} {a0 : Array Value} (H : Wd Z a0) : ((Jvm.Cond.initialized "java/lang/StringUTF16") : Jvm.Cond).before a0 Z = true := H.1 _ (List.mem_of_getElem? (i := 207) rfl)
theorem w_208 {Z : State} {a0 : Array Value} (H : Wd Z a0) : ((Jvm.Cond.code ({ cls := "java/lang/StringUTF16", name := "compress", desc := "([CII)[B" } : Jvm.MethodName) jdk_52_method_16_code (6 : Nat) (Option.some (Jvm.ClassFile.FieldType.array Jvm.ClassFile.FieldType.byte))) : Jvm.Cond).before a0 Z = true := H.1 _ (List.mem_of_getElem? (i := 208) rfl)
theorem w_209 {Z : State} {a0 : Array Value} (H : Wd Z a0) : ((Jvm.Cond.methodLink "java/lang/StringUTF16" (115 : Nat) ({ cls := "java/lang/StringUTF16", name := "compress", desc := "([CI[BII)I" } : Jvm.MethodName)) : Jvm.Cond).before a0 Z = true := H.1 _ (List.mem_of_getElem? (i := 209) rfl)
theorem w_210 {Z : State} {a0 : Array Value} (H : Wd Z a0) : ((Jvm.Cond.static ({ cls := "java/lang/StringUTF16", name := "compress", desc := "([CI[BII)I" } : Jvm.MethodName)) : Jvm.Cond).before a0 Z = true := H.1 _ (List.mem_of_getElem? (i := 210) rfl)
theorem w_211 {Z : State} {a0 : Array Value} (H : Wd Z a0) : ((Jvm.Cond.code ({ cls := "java/lang/StringUTF16", name := "compress", desc := "([CI[BII)I" } : Jvm.MethodName) jdk_52_method_21_code (7 : Nat) (Option.some Jvm.ClassFile.FieldType.int)) : Jvm.Cond).before a0 Z = true := H.1 _ (List.mem_of_getElem? (i := 211) rfl)
theorem w_212 {Z : State} {a0 : Array Value} (H : Wd Z a0) : ((Jvm.Cond.methodLink "java/lang/String" (47 : Nat) ({ cls := "java/lang/StringUTF16", name := "coderFromArrayLen", desc := "([BI)B" } : Jvm.MethodName)) : Jvm.Cond).before a0 Z = true := H.1 _ (List.mem_of_getElem? (i := 212) rfl)
theorem w_213 {Z : State} {a0 : Array Value} (H : Wd Z a0) : ((Jvm.Cond.static ({ cls := "java/lang/StringUTF16", name := "coderFromArrayLen", desc := "([BI)B" } : Jvm.MethodName)) : Jvm.Cond).before a0 Z = true := H.1 _ (List.mem_of_getElem? (i := 213) rfl)
theorem w_214 {Z : State} {a0 : Array Value} (H : Wd Z a0) : ((Jvm.Cond.code ({ cls := "java/lang/StringUTF16", name := "coderFromArrayLen", desc := "([BI)B" } : Jvm.MethodName) jdk_52_method_15_code (2 : Nat) (Option.some Jvm.ClassFile.FieldType.byte)) : Jvm.Cond).before a0 Z = true := H.1 _ (List.mem_of_getElem? (i := 214) rfl)
theorem w_215 {Z : State} {a0 : Array Value} (H : Wd Z a0) : ((Jvm.Cond.fieldLink "com/example/emendate/emendate/model/ProblemOfPinLaw" (18 : Nat) "com/example/emendate/emendate/model/ErrorCode" "USER_FORBIDDEN" "Lcom/example/emendate/emendate/model/ErrorCode;") : Jvm.Cond).before a0 Z = true := H.1 _ (List.mem_of_getElem? (i := 215) rfl)
theorem w_216 {Z : State} {a0 : Array Value} (H : Wd Z a0) : ((Jvm.Cond.laysStatic "com/example/emendate/emendate/model/ErrorCode" "USER_FORBIDDEN" "Lcom/example/emendate/emendate/model/ErrorCode;") : Jvm.Cond).before a0 Z = true := H.1 _ (List.mem_of_getElem? (i := 216) rfl)
theorem w_217 {Z : State} {a0 : Array Value} (H : Wd Z a0) : ((Jvm.Cond.fieldLink "com/example/emendate/emendate/model/ProblemOfPinLaw" (24 : Nat) "com/example/emendate/emendate/model/ErrorCode" "PATCH_MALFORMED" "Lcom/example/emendate/emendate/model/ErrorCode;") : Jvm.Cond).before a0 Z = true := H.1 _ (List.mem_of_getElem? (i := 217) rfl)
theorem w_218 {Z : State} {a0 : Array Value} (H : Wd Z a0) : ((Jvm.Cond.laysStatic "com/example/emendate/emendate/model/ErrorCode" "PATCH_MALFORMED" "Lcom/example/emendate/emendate/model/ErrorCode;") : Jvm.Cond).before a0 Z = true := H.1 _ (List.mem_of_getElem? (i := 218) rfl)
theorem w_219 {Z : State} {a0 : Array Value} (H : Wd Z a0) : ((Jvm.Cond.fieldLink "com/example/emendate/emendate/model/ProblemOfPinLaw" (30 : Nat) "com/example/emendate/emendate/model/ErrorCode" "PATCH_CANNOT_APPLY" "Lcom/example/emendate/emendate/model/ErrorCode;") : Jvm.Cond).before a0 Z = true := H.1 _ (List.mem_of_getElem? (i := 219) rfl)
theorem w_220 {Z : State} {a0 : Array Value} (H : Wd Z a0) : ((Jvm.Cond.laysStatic "com/example/emendate/emendate/model/ErrorCode" "PATCH_CANNOT_APPLY" "Lcom/example/emendate/emendate/model/ErrorCode;") : Jvm.Cond).before a0 Z = true := H.1 _ (List.mem_of_getElem? (i := 220) rfl)
theorem w_221 {Z : State} {a0 : Array Value} (H : Wd Z a0) : ((Jvm.Cond.fieldLink "com/example/emendate/emendate/model/ProblemOfPinLaw" (33 : Nat) "com/example/emendate/emendate/model/ErrorCode" "USER_EMAIL_INVALID" "Lcom/example/emendate/emendate/model/ErrorCode;") : Jvm.Cond).before a0 Z = true := H.1 _ (List.mem_of_getElem? (i := 221) rfl)
theorem w_222 {Z : State} {a0 : Array Value} (H : Wd Z a0) : ((Jvm.Cond.laysStatic "com/example/emendate/emendate/model/ErrorCode" "USER_EMAIL_INVALID" "Lcom/example/emendate/emendate/model/ErrorCode;") : Jvm.Cond).before a0 Z = true := H.1 _ (List.mem_of_getElem? (i := 222) rfl)
theorem d0_0 : decode method_3_code 0 = .ok (.iload_n 0, 1) := by decide +kernel
theorem d0_1 : decode method_3_code 1 = .ok (.bipush 7, 2) := by decide +kernel
theorem d0_3 : decode method_3_code 3 = .ok (.iand, 1) := by decide +kernel
theorem d0_4 : decode method_3_code 4 = .ok (.istore_n 1, 1) := by decide +kernel
theorem d0_5 : decode method_3_code 5 = .ok (.iload_n 1, 1) := by decide +kernel
theorem d0_6 : decode method_3_code 6 = .ok (.ifCond .ne 7, 3) := by decide +kernel
theorem d0_9 : decode method_3_code 9 = .ok (.getstatic 12, 3) := by decide +kernel
theorem d0_12 : decode method_3_code 12 = .ok (.areturn, 1) := by decide +kernel
theorem d0_13 : decode method_3_code 13 = .ok (.iload_n 1, 1) := by decide +kernel
theorem d0_14 : decode method_3_code 14 = .ok (.iconst 1, 1) := by decide +kernel
theorem d0_15 : decode method_3_code 15 = .ok (.if_icmp .ne 7, 3) := by decide +kernel
theorem d0_18 : decode method_3_code 18 = .ok (.getstatic 18, 3) := by decide +kernel
theorem d0_21 : decode method_3_code 21 = .ok (.areturn, 1) := by decide +kernel
theorem d0_22 : decode method_3_code 22 = .ok (.iload_n 1, 1) := by decide +kernel
theorem d0_23 : decode method_3_code 23 = .ok (.iconst 2, 1) := by decide +kernel
theorem d0_24 : decode method_3_code 24 = .ok (.if_icmp .ne 7, 3) := by decide +kernel
theorem d0_27 : decode method_3_code 27 = .ok (.getstatic 21, 3) := by decide +kernel
theorem d0_30 : decode method_3_code 30 = .ok (.areturn, 1) := by decide +kernel
theorem d0_31 : decode method_3_code 31 = .ok (.iload_n 1, 1) := by decide +kernel
theorem d0_32 : decode method_3_code 32 = .ok (.iconst 3, 1) := by decide +kernel
theorem d0_33 : decode method_3_code 33 = .ok (.if_icmp .ne 7, 3) := by decide +kernel
theorem d0_36 : decode method_3_code 36 = .ok (.getstatic 24, 3) := by decide +kernel
theorem d0_39 : decode method_3_code 39 = .ok (.areturn, 1) := by decide +kernel
theorem d0_40 : decode method_3_code 40 = .ok (.iload_n 1, 1) := by decide +kernel
theorem d0_41 : decode method_3_code 41 = .ok (.iconst 4, 1) := by decide +kernel
theorem d0_42 : decode method_3_code 42 = .ok (.if_icmp .ne 7, 3) := by decide +kernel
theorem d0_45 : decode method_3_code 45 = .ok (.getstatic 27, 3) := by decide +kernel
theorem d0_48 : decode method_3_code 48 = .ok (.areturn, 1) := by decide +kernel
theorem d0_49 : decode method_3_code 49 = .ok (.iload_n 1, 1) := by decide +kernel
theorem d0_50 : decode method_3_code 50 = .ok (.iconst 5, 1) := by decide +kernel
theorem d0_51 : decode method_3_code 51 = .ok (.if_icmp .ne 7, 3) := by decide +kernel
theorem d0_54 : decode method_3_code 54 = .ok (.getstatic 30, 3) := by decide +kernel
theorem d0_57 : decode method_3_code 57 = .ok (.areturn, 1) := by decide +kernel
theorem d0_58 : decode method_3_code 58 = .ok (.iload_n 1, 1) := by decide +kernel
theorem d0_59 : decode method_3_code 59 = .ok (.bipush 6, 2) := by decide +kernel
theorem d0_61 : decode method_3_code 61 = .ok (.if_icmp .ne 7, 3) := by decide +kernel
theorem d0_64 : decode method_3_code 64 = .ok (.getstatic 33, 3) := by decide +kernel
theorem d0_67 : decode method_3_code 67 = .ok (.areturn, 1) := by decide +kernel
theorem d0_68 : decode method_3_code 68 = .ok (.getstatic 36, 3) := by decide +kernel
theorem d0_71 : decode method_3_code 71 = .ok (.areturn, 1) := by decide +kernel
theorem d1_0 : decode method_2_code 0 = .ok (.iload_n 0, 1) := by decide +kernel
theorem d1_1 : decode method_2_code 1 = .ok (.bipush 24, 2) := by decide +kernel
theorem d1_3 : decode method_2_code 3 = .ok (.iushr, 1) := by decide +kernel
theorem d1_4 : decode method_2_code 4 = .ok (.iconst 3, 1) := by decide +kernel
theorem d1_5 : decode method_2_code 5 = .ok (.iand, 1) := by decide +kernel
theorem d1_6 : decode method_2_code 6 = .ok (.istore_n 1, 1) := by decide +kernel
theorem d1_7 : decode method_2_code 7 = .ok (.iload_n 0, 1) := by decide +kernel
theorem d1_8 : decode method_2_code 8 = .ok (.sipush 255, 3) := by decide +kernel
theorem d1_11 : decode method_2_code 11 = .ok (.iand, 1) := by decide +kernel
theorem d1_12 : decode method_2_code 12 = .ok (.i2c, 1) := by decide +kernel
theorem d1_13 : decode method_2_code 13 = .ok (.istore_n 2, 1) := by decide +kernel
theorem d1_14 : decode method_2_code 14 = .ok (.iload_n 0, 1) := by decide +kernel
theorem d1_15 : decode method_2_code 15 = .ok (.bipush 8, 2) := by decide +kernel
theorem d1_17 : decode method_2_code 17 = .ok (.iushr, 1) := by decide +kernel
theorem d1_18 : decode method_2_code 18 = .ok (.sipush 255, 3) := by decide +kernel
theorem d1_21 : decode method_2_code 21 = .ok (.iand, 1) := by decide +kernel
theorem d1_22 : decode method_2_code 22 = .ok (.i2c, 1) := by decide +kernel
theorem d1_23 : decode method_2_code 23 = .ok (.istore_n 3, 1) := by decide +kernel
theorem d1_24 : decode method_2_code 24 = .ok (.iload_n 0, 1) := by decide +kernel
theorem d1_25 : decode method_2_code 25 = .ok (.bipush 16, 2) := by decide +kernel
theorem d1_27 : decode method_2_code 27 = .ok (.iushr, 1) := by decide +kernel
theorem d1_28 : decode method_2_code 28 = .ok (.sipush 255, 3) := by decide +kernel
theorem d1_31 : decode method_2_code 31 = .ok (.iand, 1) := by decide +kernel
theorem d1_32 : decode method_2_code 32 = .ok (.i2c, 1) := by decide +kernel
theorem d1_33 : decode method_2_code 33 = .ok (.istore 4, 2) := by decide +kernel
theorem d1_35 : decode method_2_code 35 = .ok (.iload_n 1, 1) := by decide +kernel
theorem d1_36 : decode method_2_code 36 = .ok (.ifCond .ne 14, 3) := by decide +kernel
theorem d1_39 : decode method_2_code 39 = .ok (.new 7, 3) := by decide +kernel
theorem d1_42 : decode method_2_code 42 = .ok (.dup, 1) := by decide +kernel
theorem d1_43 : decode method_2_code 43 = .ok (.iconst 0, 1) := by decide +kernel
theorem d1_44 : decode method_2_code 44 = .ok (.newarray .char, 2) := by decide +kernel
theorem d1_46 : decode method_2_code 46 = .ok (.invokespecial 9, 3) := by decide +kernel
theorem d1_49 : decode method_2_code 49 = .ok (.areturn, 1) := by decide +kernel
theorem d1_50 : decode method_2_code 50 = .ok (.iload_n 1, 1) := by decide +kernel
theorem d1_51 : decode method_2_code 51 = .ok (.iconst 1, 1) := by decide +kernel
theorem d1_52 : decode method_2_code 52 = .ok (.if_icmp .ne 18, 3) := by decide +kernel
theorem d1_55 : decode method_2_code 55 = .ok (.new 7, 3) := by decide +kernel
theorem d1_58 : decode method_2_code 58 = .ok (.dup, 1) := by decide +kernel
theorem d1_59 : decode method_2_code 59 = .ok (.iconst 1, 1) := by decide +kernel
theorem d1_60 : decode method_2_code 60 = .ok (.newarray .char, 2) := by decide +kernel
theorem d1_62 : decode method_2_code 62 = .ok (.dup, 1) := by decide +kernel
theorem d1_63 : decode method_2_code 63 = .ok (.iconst 0, 1) := by decide +kernel
theorem d1_64 : decode method_2_code 64 = .ok (.iload_n 2, 1) := by decide +kernel
theorem d1_65 : decode method_2_code 65 = .ok (.castore, 1) := by decide +kernel
theorem d1_66 : decode method_2_code 66 = .ok (.invokespecial 9, 3) := by decide +kernel
theorem d1_69 : decode method_2_code 69 = .ok (.areturn, 1) := by decide +kernel
theorem d1_70 : decode method_2_code 70 = .ok (.iload_n 1, 1) := by decide +kernel
theorem d1_71 : decode method_2_code 71 = .ok (.iconst 2, 1) := by decide +kernel
theorem d1_72 : decode method_2_code 72 = .ok (.if_icmp .ne 22, 3) := by decide +kernel
theorem d1_75 : decode method_2_code 75 = .ok (.new 7, 3) := by decide +kernel
theorem d1_78 : decode method_2_code 78 = .ok (.dup, 1) := by decide +kernel
theorem d1_79 : decode method_2_code 79 = .ok (.iconst 2, 1) := by decide +kernel
theorem d1_80 : decode method_2_code 80 = .ok (.newarray .char, 2) := by decide +kernel
theorem d1_82 : decode method_2_code 82 = .ok (.dup, 1) := by decide +kernel
theorem d1_83 : decode method_2_code 83 = .ok (.iconst 0, 1) := by decide +kernel
theorem d1_84 : decode method_2_code 84 = .ok (.iload_n 2, 1) := by decide +kernel
theorem d1_85 : decode method_2_code 85 = .ok (.castore, 1) := by decide +kernel
theorem d1_86 : decode method_2_code 86 = .ok (.dup, 1) := by decide +kernel
theorem d1_87 : decode method_2_code 87 = .ok (.iconst 1, 1) := by decide +kernel
theorem d1_88 : decode method_2_code 88 = .ok (.iload_n 3, 1) := by decide +kernel
theorem d1_89 : decode method_2_code 89 = .ok (.castore, 1) := by decide +kernel
theorem d1_90 : decode method_2_code 90 = .ok (.invokespecial 9, 3) := by decide +kernel
theorem d1_93 : decode method_2_code 93 = .ok (.areturn, 1) := by decide +kernel
theorem d1_94 : decode method_2_code 94 = .ok (.new 7, 3) := by decide +kernel
theorem d1_97 : decode method_2_code 97 = .ok (.dup, 1) := by decide +kernel
theorem d1_98 : decode method_2_code 98 = .ok (.iconst 3, 1) := by decide +kernel
theorem d1_99 : decode method_2_code 99 = .ok (.newarray .char, 2) := by decide +kernel
theorem d1_101 : decode method_2_code 101 = .ok (.dup, 1) := by decide +kernel
theorem d1_102 : decode method_2_code 102 = .ok (.iconst 0, 1) := by decide +kernel
theorem d1_103 : decode method_2_code 103 = .ok (.iload_n 2, 1) := by decide +kernel
theorem d1_104 : decode method_2_code 104 = .ok (.castore, 1) := by decide +kernel
theorem d1_105 : decode method_2_code 105 = .ok (.dup, 1) := by decide +kernel
theorem d1_106 : decode method_2_code 106 = .ok (.iconst 1, 1) := by decide +kernel
theorem d1_107 : decode method_2_code 107 = .ok (.iload_n 3, 1) := by decide +kernel
theorem d1_108 : decode method_2_code 108 = .ok (.castore, 1) := by decide +kernel
theorem d1_109 : decode method_2_code 109 = .ok (.dup, 1) := by decide +kernel
theorem d1_110 : decode method_2_code 110 = .ok (.iconst 2, 1) := by decide +kernel
theorem d1_111 : decode method_2_code 111 = .ok (.iload 4, 2) := by decide +kernel
theorem d1_113 : decode method_2_code 113 = .ok (.castore, 1) := by decide +kernel
theorem d1_114 : decode method_2_code 114 = .ok (.invokespecial 9, 3) := by decide +kernel
theorem d1_117 : decode method_2_code 117 = .ok (.areturn, 1) := by decide +kernel
theorem d2_0 : decode jdk_42_method_3_code 0 = .ok (.aload_n 0, 1) := by decide +kernel
theorem d2_1 : decode jdk_42_method_3_code 1 = .ok (.aload_n 1, 1) := by decide +kernel
theorem d2_2 : decode jdk_42_method_3_code 2 = .ok (.iconst 0, 1) := by decide +kernel
theorem d2_3 : decode jdk_42_method_3_code 3 = .ok (.aload_n 1, 1) := by decide +kernel
theorem d2_4 : decode jdk_42_method_3_code 4 = .ok (.arraylength, 1) := by decide +kernel
theorem d2_5 : decode jdk_42_method_3_code 5 = .ok (.aconst_null, 1) := by decide +kernel
theorem d2_6 : decode jdk_42_method_3_code 6 = .ok (.invokespecial 27, 3) := by decide +kernel
theorem d2_9 : decode jdk_42_method_3_code 9 = .ok (.return_, 1) := by decide +kernel
theorem d3_0 : decode jdk_42_method_149_code 0 = .ok (.aload_n 0, 1) := by decide +kernel
theorem d3_1 : decode jdk_42_method_149_code 1 = .ok (.invokespecial 1, 3) := by decide +kernel
theorem d3_4 : decode jdk_42_method_149_code 4 = .ok (.iload_n 3, 1) := by decide +kernel
theorem d3_5 : decode jdk_42_method_149_code 5 = .ok (.ifCond .ne 22, 3) := by decide +kernel
theorem d3_8 : decode jdk_42_method_149_code 8 = .ok (.aload_n 0, 1) := by decide +kernel
theorem d3_9 : decode jdk_42_method_149_code 9 = .ok (.ldc 7, 2) := by decide +kernel
theorem d3_11 : decode jdk_42_method_149_code 11 = .ok (.getfield 9, 3) := by decide +kernel
theorem d3_14 : decode jdk_42_method_149_code 14 = .ok (.putfield 9, 3) := by decide +kernel
theorem d3_17 : decode jdk_42_method_149_code 17 = .ok (.aload_n 0, 1) := by decide +kernel
theorem d3_18 : decode jdk_42_method_149_code 18 = .ok (.ldc 7, 2) := by decide +kernel
theorem d3_20 : decode jdk_42_method_149_code 20 = .ok (.getfield 15, 3) := by decide +kernel
theorem d3_23 : decode jdk_42_method_149_code 23 = .ok (.putfield 15, 3) := by decide +kernel
theorem d3_26 : decode jdk_42_method_149_code 26 = .ok (.return_, 1) := by decide +kernel
theorem d3_27 : decode jdk_42_method_149_code 27 = .ok (.getstatic 38, 3) := by decide +kernel
theorem d3_30 : decode jdk_42_method_149_code 30 = .ok (.ifCond .eq 28, 3) := by decide +kernel
theorem d3_33 : decode jdk_42_method_149_code 33 = .ok (.aload_n 1, 1) := by decide +kernel
theorem d3_34 : decode jdk_42_method_149_code 34 = .ok (.iload_n 2, 1) := by decide +kernel
theorem d3_35 : decode jdk_42_method_149_code 35 = .ok (.iload_n 3, 1) := by decide +kernel
theorem d3_36 : decode jdk_42_method_149_code 36 = .ok (.invokestatic 177, 3) := by decide +kernel
theorem d3_39 : decode jdk_42_method_149_code 39 = .ok (.astore 5, 2) := by decide +kernel
theorem d3_41 : decode jdk_42_method_149_code 41 = .ok (.aload_n 0, 1) := by decide +kernel
theorem d3_42 : decode jdk_42_method_149_code 42 = .ok (.aload 5, 2) := by decide +kernel
theorem d3_44 : decode jdk_42_method_149_code 44 = .ok (.iload_n 3, 1) := by decide +kernel
theorem d3_45 : decode jdk_42_method_149_code 45 = .ok (.invokestatic 47, 3) := by decide +kernel
theorem d3_48 : decode jdk_42_method_149_code 48 = .ok (.putfield 15, 3) := by decide +kernel
theorem d3_51 : decode jdk_42_method_149_code 51 = .ok (.aload_n 0, 1) := by decide +kernel
theorem d3_52 : decode jdk_42_method_149_code 52 = .ok (.aload 5, 2) := by decide +kernel
theorem d3_54 : decode jdk_42_method_149_code 54 = .ok (.putfield 9, 3) := by decide +kernel
theorem d3_57 : decode jdk_42_method_149_code 57 = .ok (.return_, 1) := by decide +kernel
theorem d5_0 : decode prog_9_method_1_code 0 = .ok (.aload_n 0, 1) := by decide +kernel
theorem d5_1 : decode prog_9_method_1_code 1 = .ok (.aload_n 1, 1) := by decide +kernel
theorem d5_2 : decode prog_9_method_1_code 2 = .ok (.aload_n 2, 1) := by decide +kernel
theorem d5_3 : decode prog_9_method_1_code 3 = .ok (.aload_n 3, 1) := by decide +kernel
theorem d5_4 : decode prog_9_method_1_code 4 = .ok (.invokestatic 24, 3) := by decide +kernel
theorem d5_7 : decode prog_9_method_1_code 7 = .ok (.invokespecial 30, 3) := by decide +kernel
theorem d5_10 : decode prog_9_method_1_code 10 = .ok (.return_, 1) := by decide +kernel
theorem d6_0 : decode jdk_2649_method_2_code 0 = .ok (.getstatic 17, 3) := by decide +kernel
theorem d6_3 : decode jdk_2649_method_2_code 3 = .ok (.areturn, 1) := by decide +kernel
theorem d7_0 : decode prog_9_method_2_code 0 = .ok (.aload_n 0, 1) := by decide +kernel
theorem d7_1 : decode prog_9_method_2_code 1 = .ok (.invokespecial 1, 3) := by decide +kernel
theorem d7_4 : decode prog_9_method_2_code 4 = .ok (.aload_n 0, 1) := by decide +kernel
theorem d7_5 : decode prog_9_method_2_code 5 = .ok (.aload_n 1, 1) := by decide +kernel
theorem d7_6 : decode prog_9_method_2_code 6 = .ok (.putfield 7, 3) := by decide +kernel
theorem d7_9 : decode prog_9_method_2_code 9 = .ok (.aload_n 0, 1) := by decide +kernel
theorem d7_10 : decode prog_9_method_2_code 10 = .ok (.aload_n 2, 1) := by decide +kernel
theorem d7_11 : decode prog_9_method_2_code 11 = .ok (.putfield 13, 3) := by decide +kernel
theorem d7_14 : decode prog_9_method_2_code 14 = .ok (.aload_n 0, 1) := by decide +kernel
theorem d7_15 : decode prog_9_method_2_code 15 = .ok (.aload_n 3, 1) := by decide +kernel
theorem d7_16 : decode prog_9_method_2_code 16 = .ok (.putfield 17, 3) := by decide +kernel
theorem d7_19 : decode prog_9_method_2_code 19 = .ok (.aload_n 0, 1) := by decide +kernel
theorem d7_20 : decode prog_9_method_2_code 20 = .ok (.aload 4, 2) := by decide +kernel
theorem d7_22 : decode prog_9_method_2_code 22 = .ok (.putfield 20, 3) := by decide +kernel
theorem d7_25 : decode prog_9_method_2_code 25 = .ok (.return_, 1) := by decide +kernel
theorem d8_0 : decode jdk_30_method_1_code 0 = .ok (.aload_n 0, 1) := by decide +kernel
theorem d8_1 : decode jdk_30_method_1_code 1 = .ok (.invokespecial 1, 3) := by decide +kernel
theorem d8_4 : decode jdk_30_method_1_code 4 = .ok (.return_, 1) := by decide +kernel
theorem d9_0 : decode prog_10_method_4_code 0 = .ok (.new 8, 3) := by decide +kernel
theorem d9_3 : decode prog_10_method_4_code 3 = .ok (.dup, 1) := by decide +kernel
theorem d9_4 : decode prog_10_method_4_code 4 = .ok (.aload_n 0, 1) := by decide +kernel
theorem d9_5 : decode prog_10_method_4_code 5 = .ok (.invokevirtual 42, 3) := by decide +kernel
theorem d9_8 : decode prog_10_method_4_code 8 = .ok (.aload_n 0, 1) := by decide +kernel
theorem d9_9 : decode prog_10_method_4_code 9 = .ok (.invokevirtual 47, 3) := by decide +kernel
theorem d9_12 : decode prog_10_method_4_code 12 = .ok (.aload_n 0, 1) := by decide +kernel
theorem d9_13 : decode prog_10_method_4_code 13 = .ok (.invokestatic 51, 3) := by decide +kernel
theorem d9_16 : decode prog_10_method_4_code 16 = .ok (.aconst_null, 1) := by decide +kernel
theorem d9_17 : decode prog_10_method_4_code 17 = .ok (.invokespecial 7, 3) := by decide +kernel
theorem d9_20 : decode prog_10_method_4_code 20 = .ok (.areturn, 1) := by decide +kernel
theorem d10_0 : decode prog_9_method_6_code 0 = .ok (.aload_n 0, 1) := by decide +kernel
theorem d10_1 : decode prog_9_method_6_code 1 = .ok (.getfield 7, 3) := by decide +kernel
theorem d10_4 : decode prog_9_method_6_code 4 = .ok (.areturn, 1) := by decide +kernel
theorem d11_0 : decode prog_9_method_8_code 0 = .ok (.aload_n 0, 1) := by decide +kernel
theorem d11_1 : decode prog_9_method_8_code 1 = .ok (.getfield 17, 3) := by decide +kernel
theorem d11_4 : decode prog_9_method_8_code 4 = .ok (.areturn, 1) := by decide +kernel
theorem d12_0 : decode jdk_40_method_37_code 0 = .ok (.new 96, 3) := by decide +kernel
theorem d12_3 : decode jdk_40_method_37_code 3 = .ok (.dup, 1) := by decide +kernel
theorem d12_4 : decode jdk_40_method_37_code 4 = .ok (.aload_n 0, 1) := by decide +kernel
theorem d12_5 : decode jdk_40_method_37_code 5 = .ok (.invokespecial 98, 3) := by decide +kernel
theorem d12_8 : decode jdk_40_method_37_code 8 = .ok (.areturn, 1) := by decide +kernel
theorem d13_0 : decode jdk_44_method_1_code 0 = .ok (.aload_n 0, 1) := by decide +kernel
theorem d13_1 : decode jdk_44_method_1_code 1 = .ok (.invokespecial 1, 3) := by decide +kernel
theorem d13_4 : decode jdk_44_method_1_code 4 = .ok (.aload_n 0, 1) := by decide +kernel
theorem d13_5 : decode jdk_44_method_1_code 5 = .ok (.aload_n 1, 1) := by decide +kernel
theorem d13_6 : decode jdk_44_method_1_code 6 = .ok (.invokestatic 7, 3) := by decide +kernel
theorem d13_9 : decode jdk_44_method_1_code 9 = .ok (.putfield 13, 3) := by decide +kernel
theorem d13_12 : decode jdk_44_method_1_code 12 = .ok (.aload_n 0, 1) := by decide +kernel
theorem d13_13 : decode jdk_44_method_1_code 13 = .ok (.getstatic 19, 3) := by decide +kernel
theorem d13_16 : decode jdk_44_method_1_code 16 = .ok (.putfield 24, 3) := by decide +kernel
theorem d13_19 : decode jdk_44_method_1_code 19 = .ok (.return_, 1) := by decide +kernel
theorem d14_0 : decode jdk_46_method_1_code 0 = .ok (.aload_n 0, 1) := by decide +kernel
theorem d14_1 : decode jdk_46_method_1_code 1 = .ok (.invokespecial 1, 3) := by decide +kernel
theorem d14_4 : decode jdk_46_method_1_code 4 = .ok (.return_, 1) := by decide +kernel
theorem d15_0 : decode jdk_47_method_1_code 0 = .ok (.aload_n 0, 1) := by decide +kernel
theorem d15_1 : decode jdk_47_method_1_code 1 = .ok (.invokespecial 1, 3) := by decide +kernel
theorem d15_4 : decode jdk_47_method_1_code 4 = .ok (.return_, 1) := by decide +kernel
theorem d16_0 : decode jdk_22_method_1_code 0 = .ok (.aload_n 0, 1) := by decide +kernel
theorem d16_1 : decode jdk_22_method_1_code 1 = .ok (.invokespecial 1, 3) := by decide +kernel
theorem d16_4 : decode jdk_22_method_1_code 4 = .ok (.return_, 1) := by decide +kernel
theorem d17_0 : decode jdk_31_method_10_code 0 = .ok (.aload_n 0, 1) := by decide +kernel
theorem d17_1 : decode jdk_31_method_10_code 1 = .ok (.ifnonnull 11, 3) := by decide +kernel
theorem d17_12 : decode jdk_31_method_10_code 12 = .ok (.aload_n 0, 1) := by decide +kernel
theorem d17_13 : decode jdk_31_method_10_code 13 = .ok (.areturn, 1) := by decide +kernel
theorem d18_0 : decode prog_10_method_3_code 0 = .ok (.aload_n 0, 1) := by decide +kernel
theorem d18_1 : decode prog_10_method_3_code 1 = .ok (.aload_n 2, 1) := by decide +kernel
theorem d18_2 : decode prog_10_method_3_code 2 = .ok (.aconst_null, 1) := by decide +kernel
theorem d18_3 : decode prog_10_method_3_code 3 = .ok (.iconst 0, 1) := by decide +kernel
theorem d18_4 : decode prog_10_method_3_code 4 = .ok (.iconst 0, 1) := by decide +kernel
theorem d18_5 : decode prog_10_method_3_code 5 = .ok (.invokespecial 21, 3) := by decide +kernel
theorem d18_8 : decode prog_10_method_3_code 8 = .ok (.aload_n 0, 1) := by decide +kernel
theorem d18_9 : decode prog_10_method_3_code 9 = .ok (.aload_n 1, 1) := by decide +kernel
theorem d18_10 : decode prog_10_method_3_code 10 = .ok (.putfield 26, 3) := by decide +kernel
theorem d18_13 : decode prog_10_method_3_code 13 = .ok (.aload_n 0, 1) := by decide +kernel
theorem d18_14 : decode prog_10_method_3_code 14 = .ok (.aload_n 3, 1) := by decide +kernel
theorem d18_15 : decode prog_10_method_3_code 15 = .ok (.invokestatic 30, 3) := by decide +kernel
theorem d18_18 : decode prog_10_method_3_code 18 = .ok (.putfield 34, 3) := by decide +kernel
theorem d18_21 : decode prog_10_method_3_code 21 = .ok (.aload_n 0, 1) := by decide +kernel
theorem d18_22 : decode prog_10_method_3_code 22 = .ok (.aload 4, 2) := by decide +kernel
theorem d18_24 : decode prog_10_method_3_code 24 = .ok (.putfield 38, 3) := by decide +kernel
theorem d18_27 : decode prog_10_method_3_code 27 = .ok (.return_, 1) := by decide +kernel
theorem d19_0 : decode jdk_59_method_5_code 0 = .ok (.aload_n 0, 1) := by decide +kernel
theorem d19_1 : decode jdk_59_method_5_code 1 = .ok (.aload_n 1, 1) := by decide +kernel
theorem d19_2 : decode jdk_59_method_5_code 2 = .ok (.aload_n 2, 1) := by decide +kernel
theorem d19_3 : decode jdk_59_method_5_code 3 = .ok (.iload_n 3, 1) := by decide +kernel
theorem d19_4 : decode jdk_59_method_5_code 4 = .ok (.iload 4, 2) := by decide +kernel
theorem d19_6 : decode jdk_59_method_5_code 6 = .ok (.invokespecial 16, 3) := by decide +kernel
theorem d19_9 : decode jdk_59_method_5_code 9 = .ok (.return_, 1) := by decide +kernel
theorem d20_0 : decode jdk_78_method_5_code 0 = .ok (.aload_n 0, 1) := by decide +kernel
theorem d20_1 : decode jdk_78_method_5_code 1 = .ok (.invokespecial 1, 3) := by decide +kernel
theorem d20_4 : decode jdk_78_method_5_code 4 = .ok (.aload_n 0, 1) := by decide +kernel
theorem d20_5 : decode jdk_78_method_5_code 5 = .ok (.aload_n 0, 1) := by decide +kernel
theorem d20_6 : decode jdk_78_method_5_code 6 = .ok (.putfield 7, 3) := by decide +kernel
theorem d20_9 : decode jdk_78_method_5_code 9 = .ok (.aload_n 0, 1) := by decide +kernel
theorem d20_10 : decode jdk_78_method_5_code 10 = .ok (.getstatic 13, 3) := by decide +kernel
theorem d20_13 : decode jdk_78_method_5_code 13 = .ok (.putfield 17, 3) := by decide +kernel
theorem d20_16 : decode jdk_78_method_5_code 16 = .ok (.aload_n 0, 1) := by decide +kernel
theorem d20_17 : decode jdk_78_method_5_code 17 = .ok (.getstatic 20, 3) := by decide +kernel
theorem d20_20 : decode jdk_78_method_5_code 20 = .ok (.putfield 24, 3) := by decide +kernel
theorem d20_23 : decode jdk_78_method_5_code 23 = .ok (.iload 4, 2) := by decide +kernel
theorem d20_25 : decode jdk_78_method_5_code 25 = .ok (.ifCond .eq 11, 3) := by decide +kernel
theorem d20_36 : decode jdk_78_method_5_code 36 = .ok (.aload_n 0, 1) := by decide +kernel
theorem d20_37 : decode jdk_78_method_5_code 37 = .ok (.aconst_null, 1) := by decide +kernel
theorem d20_38 : decode jdk_78_method_5_code 38 = .ok (.putfield 17, 3) := by decide +kernel
theorem d20_41 : decode jdk_78_method_5_code 41 = .ok (.aload_n 0, 1) := by decide +kernel
theorem d20_42 : decode jdk_78_method_5_code 42 = .ok (.aload_n 1, 1) := by decide +kernel
theorem d20_43 : decode jdk_78_method_5_code 43 = .ok (.putfield 31, 3) := by decide +kernel
theorem d20_46 : decode jdk_78_method_5_code 46 = .ok (.aload_n 0, 1) := by decide +kernel
theorem d20_47 : decode jdk_78_method_5_code 47 = .ok (.aload_n 2, 1) := by decide +kernel
theorem d20_48 : decode jdk_78_method_5_code 48 = .ok (.putfield 7, 3) := by decide +kernel
theorem d20_51 : decode jdk_78_method_5_code 51 = .ok (.iload_n 3, 1) := by decide +kernel
theorem d20_52 : decode jdk_78_method_5_code 52 = .ok (.ifCond .ne 8, 3) := by decide +kernel
theorem d20_55 : decode jdk_78_method_5_code 55 = .ok (.aload_n 0, 1) := by decide +kernel
theorem d20_56 : decode jdk_78_method_5_code 56 = .ok (.aconst_null, 1) := by decide +kernel
theorem d20_57 : decode jdk_78_method_5_code 57 = .ok (.putfield 24, 3) := by decide +kernel
theorem d20_60 : decode jdk_78_method_5_code 60 = .ok (.return_, 1) := by decide +kernel
theorem d21_0 : decode jdk_40_method_48_code 0 = .ok (.aload_n 0, 1) := by decide +kernel
theorem d21_1 : decode jdk_40_method_48_code 1 = .ok (.invokestatic 112, 3) := by decide +kernel
theorem d21_4 : decode jdk_40_method_48_code 4 = .ok (.areturn, 1) := by decide +kernel
theorem d22_0 : decode jdk_56_method_3_code 0 = .ok (.aload_n 0, 1) := by decide +kernel
theorem d22_1 : decode jdk_56_method_3_code 1 = .ok (.instanceof 10, 3) := by decide +kernel
theorem d22_4 : decode jdk_56_method_3_code 4 = .ok (.ifCond .ne 22, 3) := by decide +kernel
theorem d22_26 : decode jdk_56_method_3_code 26 = .ok (.aload_n 0, 1) := by decide +kernel
theorem d22_27 : decode jdk_56_method_3_code 27 = .ok (.checkcast 18, 3) := by decide +kernel
theorem d22_30 : decode jdk_56_method_3_code 30 = .ok (.areturn, 1) := by decide +kernel
theorem d23_0 : decode prog_10_method_7_code 0 = .ok (.aload_n 0, 1) := by decide +kernel
theorem d23_1 : decode prog_10_method_7_code 1 = .ok (.getfield 26, 3) := by decide +kernel
theorem d23_4 : decode prog_10_method_7_code 4 = .ok (.areturn, 1) := by decide +kernel
theorem d24_0 : decode prog_10_method_8_code 0 = .ok (.aload_n 0, 1) := by decide +kernel
theorem d24_1 : decode prog_10_method_8_code 1 = .ok (.invokevirtual 120, 3) := by decide +kernel
theorem d24_4 : decode prog_10_method_8_code 4 = .ok (.areturn, 1) := by decide +kernel
theorem d25_0 : decode jdk_78_method_6_code 0 = .ok (.aload_n 0, 1) := by decide +kernel
theorem d25_1 : decode jdk_78_method_6_code 1 = .ok (.getfield 31, 3) := by decide +kernel
theorem d25_4 : decode jdk_78_method_6_code 4 = .ok (.areturn, 1) := by decide +kernel
theorem d26_0 : decode prog_10_method_9_code 0 = .ok (.aload_n 0, 1) := by decide +kernel
theorem d26_1 : decode prog_10_method_9_code 1 = .ok (.getfield 34, 3) := by decide +kernel
theorem d26_4 : decode prog_10_method_9_code 4 = .ok (.areturn, 1) := by decide +kernel
theorem d27_0 : decode jdk_44_method_3_code 0 = .ok (.aload_n 0, 1) := by decide +kernel
theorem d27_1 : decode jdk_44_method_3_code 1 = .ok (.getfield 24, 3) := by decide +kernel
theorem d27_4 : decode jdk_44_method_3_code 4 = .ok (.getstatic 19, 3) := by decide +kernel
theorem d27_7 : decode jdk_44_method_3_code 7 = .ok (.if_acmp .eq 7, 3) := by decide +kernel
theorem d27_14 : decode jdk_44_method_3_code 14 = .ok (.iconst 1, 1) := by decide +kernel
theorem d27_15 : decode jdk_44_method_3_code 15 = .ok (.ireturn, 1) := by decide +kernel
theorem d28_0 : decode jdk_44_method_5_code 0 = .ok (.iload_n 1, 1) := by decide +kernel
theorem d28_1 : decode jdk_44_method_5_code 1 = .ok (.ifCond .ne 8, 3) := by decide +kernel
theorem d28_4 : decode jdk_44_method_5_code 4 = .ok (.aload_n 0, 1) := by decide +kernel
theorem d28_5 : decode jdk_44_method_5_code 5 = .ok (.getfield 13, 3) := by decide +kernel
theorem d28_8 : decode jdk_44_method_5_code 8 = .ok (.areturn, 1) := by decide +kernel
theorem d29_0 : decode jdk_42_method_66_code 0 = .ok (.aload_n 0, 1) := by decide +kernel
theorem d29_1 : decode jdk_42_method_66_code 1 = .ok (.aload_n 1, 1) := by decide +kernel
theorem d29_2 : decode jdk_42_method_66_code 2 = .ok (.if_acmp .ne 5, 3) := by decide +kernel
theorem d29_5 : decode jdk_42_method_66_code 5 = .ok (.iconst 1, 1) := by decide +kernel
theorem d29_6 : decode jdk_42_method_66_code 6 = .ok (.ireturn, 1) := by decide +kernel
theorem d30_0 : decode jdk_52_method_16_code 0 = .ok (.iload_n 2, 1) := by decide +kernel
theorem d30_1 : decode jdk_52_method_16_code 1 = .ok (.newarray .byte, 2) := by decide +kernel
theorem d30_3 : decode jdk_52_method_16_code 3 = .ok (.astore_n 3, 1) := by decide +kernel
theorem d30_4 : decode jdk_52_method_16_code 4 = .ok (.aload_n 0, 1) := by decide +kernel
theorem d30_5 : decode jdk_52_method_16_code 5 = .ok (.iload_n 1, 1) := by decide +kernel
theorem d30_6 : decode jdk_52_method_16_code 6 = .ok (.aload_n 3, 1) := by decide +kernel
theorem d30_7 : decode jdk_52_method_16_code 7 = .ok (.iconst 0, 1) := by decide +kernel
theorem d30_8 : decode jdk_52_method_16_code 8 = .ok (.iload_n 2, 1) := by decide +kernel
theorem d30_9 : decode jdk_52_method_16_code 9 = .ok (.invokestatic 115, 3) := by decide +kernel
theorem d30_12 : decode jdk_52_method_16_code 12 = .ok (.istore 4, 2) := by decide +kernel
theorem d30_14 : decode jdk_52_method_16_code 14 = .ok (.iload 4, 2) := by decide +kernel
theorem d30_16 : decode jdk_52_method_16_code 16 = .ok (.iload_n 2, 1) := by decide +kernel
theorem d30_17 : decode jdk_52_method_16_code 17 = .ok (.if_icmp .eq 40, 3) := by decide +kernel
theorem d30_57 : decode jdk_52_method_16_code 57 = .ok (.aload_n 3, 1) := by decide +kernel
theorem d30_58 : decode jdk_52_method_16_code 58 = .ok (.areturn, 1) := by decide +kernel
theorem d31_0 : decode jdk_52_method_21_code 0 = .ok (.iconst 0, 1) := by decide +kernel
theorem d31_1 : decode jdk_52_method_21_code 1 = .ok (.istore 5, 2) := by decide +kernel
theorem d31_3 : decode jdk_52_method_21_code 3 = .ok (.iload 5, 2) := by decide +kernel
theorem d31_5 : decode jdk_52_method_21_code 5 = .ok (.iload 4, 2) := by decide +kernel
theorem d31_7 : decode jdk_52_method_21_code 7 = .ok (.if_icmp .ge 37, 3) := by decide +kernel
theorem d31_10 : decode jdk_52_method_21_code 10 = .ok (.aload_n 0, 1) := by decide +kernel
theorem d31_11 : decode jdk_52_method_21_code 11 = .ok (.iload_n 1, 1) := by decide +kernel
theorem d31_12 : decode jdk_52_method_21_code 12 = .ok (.caload, 1) := by decide +kernel
theorem d31_13 : decode jdk_52_method_21_code 13 = .ok (.istore 6, 2) := by decide +kernel
theorem d31_15 : decode jdk_52_method_21_code 15 = .ok (.iload 6, 2) := by decide +kernel
theorem d31_17 : decode jdk_52_method_21_code 17 = .ok (.sipush 255, 3) := by decide +kernel
theorem d31_20 : decode jdk_52_method_21_code 20 = .ok (.if_icmp .le 6, 3) := by decide +kernel
theorem d31_26 : decode jdk_52_method_21_code 26 = .ok (.aload_n 2, 1) := by decide +kernel
theorem d31_27 : decode jdk_52_method_21_code 27 = .ok (.iload_n 3, 1) := by decide +kernel
theorem d31_28 : decode jdk_52_method_21_code 28 = .ok (.iload 6, 2) := by decide +kernel
theorem d31_30 : decode jdk_52_method_21_code 30 = .ok (.i2b, 1) := by decide +kernel
theorem d31_31 : decode jdk_52_method_21_code 31 = .ok (.bastore, 1) := by decide +kernel
theorem d31_32 : decode jdk_52_method_21_code 32 = .ok (.iinc 1 1, 3) := by decide +kernel
theorem d31_35 : decode jdk_52_method_21_code 35 = .ok (.iinc 3 1, 3) := by decide +kernel
theorem d31_38 : decode jdk_52_method_21_code 38 = .ok (.iinc 5 1, 3) := by decide +kernel
theorem d31_41 : decode jdk_52_method_21_code 41 = .ok (.goto (-38), 3) := by decide +kernel
theorem d31_44 : decode jdk_52_method_21_code 44 = .ok (.iload 4, 2) := by decide +kernel
theorem d31_46 : decode jdk_52_method_21_code 46 = .ok (.ireturn, 1) := by decide +kernel
theorem d32_0 : decode jdk_52_method_15_code 0 = .ok (.iload_n 1, 1) := by decide +kernel
theorem d32_1 : decode jdk_52_method_15_code 1 = .ok (.aload_n 0, 1) := by decide +kernel
theorem d32_2 : decode jdk_52_method_15_code 2 = .ok (.arraylength, 1) := by decide +kernel
theorem d32_3 : decode jdk_52_method_15_code 3 = .ok (.isub, 1) := by decide +kernel
theorem d32_4 : decode jdk_52_method_15_code 4 = .ok (.bipush 31, 2) := by decide +kernel
theorem d32_6 : decode jdk_52_method_15_code 6 = .ok (.iushr, 1) := by decide +kernel
theorem d32_7 : decode jdk_52_method_15_code 7 = .ok (.i2b, 1) := by decide +kernel
theorem d32_8 : decode jdk_52_method_15_code 8 = .ok (.ireturn, 1) := by decide +kernel
theorem pd_0 : parseMethodDescriptor "()V" = some ⟨[], none⟩ := by decide +kernel
theorem pd_1 : parseMethodDescriptor "(Ljava/lang/Object;)Ljava/lang/Object;" = some ⟨[(.object "java/lang/Object")], (some (.object "java/lang/Object"))⟩ := by decide +kernel
theorem pd_2 : parseMethodDescriptor "(Ljava/lang/Object;)V" = some ⟨[(.object "java/lang/Object")], none⟩ := by decide +kernel
theorem pd_3 : parseMethodDescriptor "(Ljava/util/Collection;)Ljava/util/List;" = some ⟨[(.object "java/util/Collection")], (some (.object "java/util/List"))⟩ := by decide +kernel
theorem pd_4 : parseMethodDescriptor "()Ljava/util/OptionalInt;" = some ⟨[], (some (.object "java/util/OptionalInt"))⟩ := by decide +kernel
theorem pd_5 : parseMethodDescriptor "(Lcom/example/emendate/emendate/model/ErrorCode;Ljava/lang/String;Ljava/lang/String;Ljava/util/OptionalInt;)V" = some ⟨[(.object "com/example/emendate/emendate/model/ErrorCode"), (.object "java/lang/String"), (.object "java/lang/String"), (.object "java/util/OptionalInt")], none⟩ := by decide +kernel
theorem pd_6 : parseMethodDescriptor "(Ljava/lang/String;Ljava/lang/Throwable;ZZ)V" = some ⟨[(.object "java/lang/String"), (.object "java/lang/Throwable"), .boolean, .boolean], none⟩ := by decide +kernel
theorem pd_7 : parseMethodDescriptor "([CI[BII)I" = some ⟨[(.array .char), .int, (.array .byte), .int, .int], (some .int)⟩ := by decide +kernel
theorem pd_8 : parseMethodDescriptor "([CII)[B" = some ⟨[(.array .char), .int, .int], (some (.array .byte))⟩ := by decide +kernel
theorem pd_9 : parseMethodDescriptor "([BI)B" = some ⟨[(.array .byte), .int], (some .byte)⟩ := by decide +kernel
theorem pd_10 : parseMethodDescriptor "([CIILjava/lang/Void;)V" = some ⟨[(.array .char), .int, .int, (.object "java/lang/Void")], none⟩ := by decide +kernel
theorem pd_11 : parseMethodDescriptor "()Ljava/lang/String;" = some ⟨[], (some (.object "java/lang/String"))⟩ := by decide +kernel
theorem pd_12 : parseMethodDescriptor "([C)V" = some ⟨[(.array .char)], none⟩ := by decide +kernel
theorem pd_13 : parseMethodDescriptor "()Lcom/example/emendate/emendate/model/ErrorCode;" = some ⟨[], (some (.object "com/example/emendate/emendate/model/ErrorCode"))⟩ := by decide +kernel
theorem pd_14 : parseMethodDescriptor "(Ljava/lang/Object;)Ljava/util/List;" = some ⟨[(.object "java/lang/Object")], (some (.object "java/util/List"))⟩ := by decide +kernel
theorem pd_15 : parseMethodDescriptor "(Lcom/example/emendate/emendate/model/ErrorCode;Ljava/lang/String;Ljava/util/List;Ljava/time/Duration;)V" = some ⟨[(.object "com/example/emendate/emendate/model/ErrorCode"), (.object "java/lang/String"), (.object "java/util/List"), (.object "java/time/Duration")], none⟩ := by decide +kernel
theorem pd_16 : parseMethodDescriptor "(Lcom/example/emendate/emendate/model/ErrorCode;Ljava/lang/String;Ljava/lang/String;)V" = some ⟨[(.object "com/example/emendate/emendate/model/ErrorCode"), (.object "java/lang/String"), (.object "java/lang/String")], none⟩ := by decide +kernel
theorem pd_17 : parseMethodDescriptor "(Lcom/example/emendate/emendate/model/FieldError;)Lcom/example/emendate/emendate/model/Problem;" = some ⟨[(.object "com/example/emendate/emendate/model/FieldError")], (some (.object "com/example/emendate/emendate/model/Problem"))⟩ := by decide +kernel
theorem pd_18 : parseMethodDescriptor "()Ljava/util/List;" = some ⟨[], (some (.object "java/util/List"))⟩ := by decide +kernel
theorem pd_19 : parseMethodDescriptor "()I" = some ⟨[], (some .int)⟩ := by decide +kernel
theorem pd_20 : parseMethodDescriptor "(I)Ljava/lang/Object;" = some ⟨[.int], (some (.object "java/lang/Object"))⟩ := by decide +kernel
theorem pd_21 : parseMethodDescriptor "(Ljava/lang/Object;)Z" = some ⟨[(.object "java/lang/Object")], (some .boolean)⟩ := by decide +kernel
theorem pd_22 : parseMethodDescriptor "(I)Lcom/example/emendate/emendate/model/ErrorCode;" = some ⟨[.int], (some (.object "com/example/emendate/emendate/model/ErrorCode"))⟩ := by decide +kernel
theorem pd_23 : parseMethodDescriptor "(I)Ljava/lang/String;" = some ⟨[.int], (some (.object "java/lang/String"))⟩ := by decide +kernel
theorem bts_set {cs : List Int32} {i : Nat} (hi : i < cs.length) : (bts (cs.take i) ++ List.replicate (cs.length - i) (Value.int 0)).set i (.int (cs[i].toInt8.toInt32)) = bts (cs.take (i + 1)) ++ List.replicate (cs.length - (i + 1)) (Value.int 0) := by
  have hl : (bts (cs.take i)).length = i := by simp; omega
  rw [List.set_append_right _ _ (by omega), hl, Nat.sub_self]
  obtain ⟨m, hm⟩ : ∃ m, cs.length - i = m + 1 := ⟨cs.length - i - 1, by omega⟩
  rw [hm, show cs.length - (i + 1) = m by omega, List.replicate_succ, List.set_cons_zero, List.take_succ_eq_append_getElem hi]
  simp only [bts, List.map_append, List.map_cons, List.map_nil, List.append_assoc, List.singleton_append]

set_option maxRecDepth 65536 in
set_option maxHeartbeats 4000000 in
theorem lp_cmp5 {l : Launch} {Z : State} {a0 : Array Value} (H : Wd Z a0) {K : Cx} {h : Heap} {ca ba : Addr} {kc kb : ClassId} {cs : List Int32} (A : Arv Z h ca kc .char (Int32.ofNat cs.length) (ints cs) (.int 0)) (hl : Lat cs) (hne : ca ≠ ba) : ∀ (n i : Nat) (x6 : Slot) (h1 : Heap), n + i = cs.length → One x6 → Keep h h1 [ba] → Arv Z h1 ba kb .byte (Int32.ofNat cs.length) (bts (cs.take i) ++ List.replicate (cs.length - i) (.int 0)) (.int 0) → Go l Z K "java/lang/StringUTF16" "compress" jdk_52_method_21_code 7 (some .int) ({ frames := 0, cells := 0, slots := 0, locals := 0 } : Room) (fun v h' G => v = some (.int (Int32.ofNat cs.length)) ∧ Keep h h' [ba] ∧ Arv Z h' ba kb .byte (Int32.ofNat cs.length) (bts cs) (.int 0)) h1 [ba] 0 0 3 #[.val (.ref ca), .val (.int (Int32.ofNat i)), .val (.ref ba), .val (.int (Int32.ofNat i)), .val (.int (Int32.ofNat cs.length)), .val (.int (Int32.ofNat i)), x6] []

  | 0, i, x6, h1, hn, h6, K1, V1 => by
    obtain rfl : i = cs.length := by omega
    refine go_iload (v := (Int32.ofNat cs.length)) (q := 5) d31_3 rfl rfl ?_
    refine go_iload (v := (Int32.ofNat cs.length)) (q := 7) d31_5 rfl rfl ?_
    refine go_icY (q := 44) d31_7 (show ¬ Int32.ofNat cs.length < Int32.ofNat cs.length from Int32.lt_irrefl) (by decide) (by decide) ?_
    refine go_iload (v := (Int32.ofNat cs.length)) (q := 46) d31_44 rfl rfl ?_
    have V1 : Arv Z h1 ba kb .byte (Int32.ofNat cs.length) (bts cs) (.int 0) := by simpa using V1
    exact go_ireturn H (G := []) (t := .int) rfl (by decide) rfl d31_46 (by decide) (by decide) (fun _ q => nomatch q) ⟨rfl, K1, V1⟩
  | n + 1, i, x6, h1, hn, h6, K1, V1 => by
    have hi : i < cs.length := by omega
    have hb := hl.1
    have hc := hl.2 cs[i] (List.getElem_mem hi)
    refine go_iload (v := (Int32.ofNat i)) (q := 5) d31_3 rfl rfl ?_
    refine go_iload (v := (Int32.ofNat cs.length)) (q := 7) d31_5 rfl rfl ?_
    refine go_icN (q := 10) d31_7 ((lt_ofNat (by omega) (by omega)).mpr hi) rfl ?_
    refine go_aloadN (v := .ref ca) (q := 11) d31_10 rfl rfl rfl ?_
    refine go_iloadN (v := (Int32.ofNat i)) (q := 12) d31_11 rfl rfl ?_
    refine go_caload (v := .int (cs[i])) (q := 13) (A.keep K1 (ninS hne nin0)) ⟨nn_ofNat (by omega), (lt_ofNat (by omega) (by omega)).mpr hi⟩ (by rw [cl_ofNat (by omega)]; simp [ints, hi]) d31_12 rfl ?_
    refine go_istoreO (L' := #[.val (.ref ca), .val (.int (Int32.ofNat i)), .val (.ref ba), .val (.int (Int32.ofNat i)), .val (.int (Int32.ofNat cs.length)), .val (.int (Int32.ofNat i)), .val (.int (cs[i]))]) (q := 15) d31_13 rfl h6 rfl rfl ?_
    refine go_iload (v := cs[i]) (q := 17) d31_15 rfl rfl ?_
    refine go_sipush (x := (255 : Int32)) (q := 20) d31_17 rfl rfl ?_
    refine go_icY (q := 26) d31_20 (show ¬ (255 : Int32) < cs[i] from hc.2) (by decide) (by decide) ?_
    refine go_aloadN (v := .ref ba) (q := 27) d31_26 rfl rfl rfl ?_
    refine go_iloadN (v := (Int32.ofNat i)) (q := 28) d31_27 rfl rfl ?_
    refine go_iload (v := cs[i]) (q := 30) d31_28 rfl rfl ?_
    refine go_i2b (r := (cs[i]).toInt8.toInt32) (q := 31) d31_30 rfl rfl ?_
    refine go_bastore (i := i) (y := cs[i].toInt8.toInt32) (q := 32) V1 ⟨nn_ofNat (by omega), (lt_ofNat (by omega) (by omega)).mpr hi⟩ (cl_ofNat (by omega)) (by simp; omega) (by simp) (show (cs[i].toInt8.toInt32).toInt8.toInt32 = cs[i].toInt8.toInt32 by simp) d31_31 rfl ?_
    intro h2 K2 z2 V2
    rw [bts_set hi] at V2
    refine go_iinc (x := (Int32.ofNat i)) (y := (Int32.ofNat (i + 1))) (L' := #[.val (.ref ca), .val (.int (Int32.ofNat (i + 1))), .val (.ref ba), .val (.int (Int32.ofNat i)), .val (.int (Int32.ofNat cs.length)), .val (.int (Int32.ofNat i)), .val (.int (cs[i]))]) (q := 35) d31_32 rfl add1_ofNat rfl rfl ?_
    refine go_iinc (x := (Int32.ofNat i)) (y := (Int32.ofNat (i + 1))) (L' := #[.val (.ref ca), .val (.int (Int32.ofNat (i + 1))), .val (.ref ba), .val (.int (Int32.ofNat (i + 1))), .val (.int (Int32.ofNat cs.length)), .val (.int (Int32.ofNat i)), .val (.int (cs[i]))]) (q := 38) d31_35 rfl add1_ofNat rfl rfl ?_
    refine go_iinc (x := (Int32.ofNat i)) (y := (Int32.ofNat (i + 1))) (L' := #[.val (.ref ca), .val (.int (Int32.ofNat (i + 1))), .val (.ref ba), .val (.int (Int32.ofNat (i + 1))), .val (.int (Int32.ofNat cs.length)), .val (.int (Int32.ofNat (i + 1))), .val (.int (cs[i]))]) (q := 41) d31_38 rfl add1_ofNat rfl rfl ?_
    refine go_goto (q := 3) d31_41 (by decide) (by decide) ?_
    exact lp_cmp5 H A hl hne n (i + 1) _ h2 (by omega) (One.val rfl) (K1.trans K2 (fun x q => Or.inl q)) V2
set_option maxRecDepth 65536 in
set_option maxHeartbeats 4000000 in
theorem rm_cmp5 {l : Launch} {Z : State} {a0 : Array Value} (H : Wd Z a0) {h : Heap} {ca ba : Addr} {kc kb : ClassId} {cs : List Int32} (A : Arv Z h ca kc .char (Int32.ofNat cs.length) (ints cs) (.int 0)) (V : Arv Z h ba kb .byte (Int32.ofNat cs.length) (List.replicate cs.length (.int 0)) (.int 0)) (hl : Lat cs) (hne : ca ≠ ba) : Met l Z (⟨"java/lang/StringUTF16", "compress", "([CI[BII)I"⟩ : MethodName) jdk_52_method_21_code 7 (some .int) ({ frames := 0, cells := 0, slots := 0, locals := 0 } : Room) h [ba] #[.ref ca, .int 0, .ref ba, .int 0, .int (Int32.ofNat cs.length)] (fun v h' G => v = some (.int (Int32.ofNat cs.length)) ∧ Keep h h' [ba] ∧ Arv Z h' ba kb .byte (Int32.ofNat cs.length) (bts cs) (.int 0)) := by
  refine Met.mk (L := #[.val (.ref ca), .val (.int 0), .val (.ref ba), .val (.int 0), .val (.int (Int32.ofNat cs.length)), .unset, .unset]) (by decide +kernel) (fun m => by first | (simp [entryFrame, mkF, argsToLocals, Value.category]; done) | rfl) (fun K => ?_)
  show Go _ _ K "java/lang/StringUTF16" "compress" _ _ _ _ _ _ _ _ _ 0 _ _
  refine go_iconst (x := (0 : Int32)) (q := 1) d31_0 rfl rfl ?_
  refine go_istore (L' := #[.val (.ref ca), .val (.int 0), .val (.ref ba), .val (.int 0), .val (.int (Int32.ofNat cs.length)), .val (.int (0 : Int32)), .unset]) (q := 3) d31_1 rfl rfl ?_
  exact lp_cmp5 H A hl hne cs.length 0 _ h (by omega) One.u (Keep.refl _ _) (by simpa using V)
set_option maxRecDepth 65536 in
set_option maxHeartbeats 4000000 in
theorem rm_cmp3 {l : Launch} {Z : State} {a0 : Array Value} (H : Wd Z a0) {h : Heap} {ca : Addr} {kc : ClassId} {cs : List Int32} (A : Arv Z h ca kc .char (Int32.ofNat cs.length) (ints cs) (.int 0)) (hl : Lat cs) (hn : cs.length ≤ 16) : Met l Z (⟨"java/lang/StringUTF16", "compress", "([CII)[B"⟩ : MethodName) jdk_52_method_16_code 6 (some (.array .byte)) ({ frames := 1, cells := 1, slots := 16, locals := 18 } : Room) h [] #[.ref ca, .int 0, .int (Int32.ofNat cs.length)] (fun v h' G => ∃ ba kb, v = some (.ref ba) ∧ h.size ≤ ba ∧ Keep h h' [] ∧ Arv Z h' ba kb .byte (Int32.ofNat cs.length) (bts cs) (.int 0)) := by
  refine Met.mk (L := #[.val (.ref ca), .val (.int 0), .val (.int (Int32.ofNat cs.length)), .unset, .unset, .unset]) (by decide +kernel) (fun m => by first | (simp [entryFrame, mkF, argsToLocals, Value.category]; done) | rfl) (fun K => ?_)
  show Go _ _ K "java/lang/StringUTF16" "compress" _ _ _ _ _ _ _ _ _ 0 _ _
  refine go_iloadN (v := (Int32.ofNat cs.length)) (q := 1) d30_0 rfl rfl ?_
  refine go_newarray (ty := .byte) (dv := .int 0) (n := cs.length) (cap := 16) (ad := "[B") (c' := 1) (s' := 16) (q := 3) rfl rfl (cl_ofNat (by have := hl.1; omega)) (w_25 H) d30_1 (nn_ofNat (by have := hl.1; omega)) hn (by decide) rfl rfl rfl rfl (by decide) (by decide) ?_
  intro h1 ba kb g1 E1 V1 X1
  refine go_astoreN (L' := #[.val (.ref ca), .val (.int 0), .val (.int (Int32.ofNat cs.length)), .val (.ref ba), .unset, .unset]) (q := 4) d30_3 rfl rfl rfl ?_
  refine go_aloadN (v := .ref ca) (q := 5) d30_4 rfl rfl rfl ?_
  refine go_iloadN (v := 0) (q := 6) d30_5 rfl rfl ?_
  refine go_aloadN (v := .ref ba) (q := 7) d30_6 rfl rfl rfl ?_
  refine go_iconst (x := (0 : Int32)) (q := 8) d30_7 rfl rfl ?_
  refine go_iloadN (v := (Int32.ofNat cs.length)) (q := 9) d30_8 rfl rfl ?_
  have ne : ca ≠ ba := fun q => absurd A.lt (by rw [q, g1]; exact Nat.lt_irrefl _)
  refine go_static (c' := 1) (s' := 16) (q := 12) (S := []) (argsL := [.ref ca, .int 0, .ref ba, .int (0 : Int32), .int (Int32.ofNat cs.length)]) H (w_209 H) (w_210 H) (w_207 H) (w_211 H) (by decide) (rm_cmp5 H (A.ext E1) V1 hl ne) rfl rfl (lenOf pd_7 rfl) (fun _ q => q) rfl (by decide) (Nat.le_of_ble_eq_true rfl) rfl rfl (by decide) (by decide) d30_9 rfl ?_
  rintro _ h2 G - ⟨rfl, K2, V2⟩
  refine nx_ (v := none) ?_
  show Go _ _ _ _ _ _ _ _ _ _ _ _ _ _ 12 #[.val (.ref ca), .val (.int 0), .val (.int (Int32.ofNat cs.length)), .val (.ref ba), .unset, .unset] [.int (Int32.ofNat cs.length)]
  refine go_istore (L' := #[.val (.ref ca), .val (.int 0), .val (.int (Int32.ofNat cs.length)), .val (.ref ba), .val (.int (Int32.ofNat cs.length)), .unset]) (q := 14) d30_12 rfl rfl ?_
  refine go_iload (v := (Int32.ofNat cs.length)) (q := 16) d30_14 rfl rfl ?_
  refine go_iloadN (v := (Int32.ofNat cs.length)) (q := 17) d30_16 rfl rfl ?_
  refine go_icY (q := 57) d30_17 rfl (by decide) (by decide) ?_
  refine go_aloadN (v := .ref ba) (q := 58) d30_57 rfl rfl rfl ?_
  exact go_areturn H (G := []) (t := (.array .byte)) rfl rfl rfl d30_58 (by decide) (by decide) (fun _ q => nomatch q) ⟨ba, kb, rfl, by rw [g1]; exact Nat.le_refl _, ((Keep.refl h []).ext E1).trans K2 (fun x q => by cases List.mem_singleton.mp q; exact Or.inr (by rw [g1]; exact Nat.le_refl _)), V2⟩
set_option maxRecDepth 65536 in
set_option maxHeartbeats 4000000 in
theorem rm_codL {l : Launch} {Z : State} {a0 : Array Value} (H : Wd Z a0) {h : Heap} {ba : Addr} {kb : ClassId} {z : Int32} {vs : List Value} {dv : Value} (A : Arv Z h ba kb .byte z vs dv) : Met l Z (⟨"java/lang/StringUTF16", "coderFromArrayLen", "([BI)B"⟩ : MethodName) jdk_52_method_15_code 2 (some .byte) ({ frames := 0, cells := 0, slots := 0, locals := 0 } : Room) h [] #[.ref ba, .int z] (fun v h' G => v = some (.int 0) ∧ h = h') := by
  refine Met.mk (L := #[.val (.ref ba), .val (.int z)]) (by decide +kernel) (fun m => by first | (simp [entryFrame, mkF, argsToLocals, Value.category]; done) | rfl) (fun K => ?_)
  show Go _ _ K "java/lang/StringUTF16" "coderFromArrayLen" _ _ _ _ _ _ _ _ _ 0 _ _
  refine go_iloadN (v := z) (q := 1) d32_0 rfl rfl ?_
  refine go_aloadN (v := .ref ba) (q := 2) d32_1 rfl rfl rfl ?_
  refine go_arraylength (z := z) (q := 3) A d32_2 rfl ?_
  refine go_isub (r := 0) (q := 4) d32_3 (Int32.sub_self _) rfl ?_
  refine go_bipush (x := (31 : Int32)) (q := 6) d32_4 rfl rfl ?_
  refine go_iushr (r := 0) (q := 7) d32_6 rfl rfl ?_
  refine go_i2b (r := 0) (q := 8) d32_7 rfl rfl ?_
  exact go_ireturn H (G := []) (t := .byte) rfl (by decide) rfl d32_8 (by decide) (by decide) (fun _ q => nomatch q) ⟨rfl, rfl⟩
set_option maxRecDepth 65536 in
set_option maxHeartbeats 4000000 in
theorem rm_new4 {l : Launch} {Z : State} {a0 : Array Value} (H : Wd Z a0) {h : Heap} {F : List Addr} {x ca : Addr} {kc : ClassId} {cs : List Int32} (E : Exa Z h x ST) (C : Fld Z h x ST "coder" "B" (.int 0)) (Vv : Fld Z h x ST "value" "[B" .null) (A : Arv Z h ca kc .char (Int32.ofNat cs.length) (ints cs) (.int 0)) (hl : Lat cs) (hn : cs.length ≤ 16) (hx : x ∉ F) : Met l Z (⟨"java/lang/String", "<init>", "([CIILjava/lang/Void;)V"⟩ : MethodName) jdk_42_method_149_code 6 none ({ frames := 2, cells := 4, slots := 16, locals := 35 } : Room) h (x :: F) #[.ref x, .ref ca, .int 0, .int (Int32.ofNat cs.length), .null] (fun v h' G => v = none ∧ Keep h h' [x] ∧ Str Z h' F x cs) := by
  refine Met.mk (L := #[.val (.ref x), .val (.ref ca), .val (.int 0), .val (.int (Int32.ofNat cs.length)), .val (.null), .unset]) (by decide +kernel) (fun m => by first | (simp [entryFrame, mkF, argsToLocals, Value.category]; done) | rfl) (fun K => ?_)
  show Go _ _ K "java/lang/String" "<init>" _ _ _ _ _ _ _ _ _ 0 _ _
  obtain ⟨cz, Sz, nz⟩ := H.2.2.2.1
  have sne : RoadKit.slotOf Z ST "value" "[B" ≠ RoadKit.slotOf Z ST "coder" "B" := slot_ne (C := ST) (Or.inr (w_26 H)) (Or.inr (w_27 H)) (by decide) (t := .array .byte) (t' := .byte) (by decide) (by decide)
  have wiS := (w_11 H)
  refine go_aloadN (v := .ref x) (q := 1) d3_0 rfl rfl rfl ?_
  refine go_initO (q := 4) (w_21 H) (w_22 H) (w_23 H) rfl d3_1 rfl (by decide) (Nat.le_of_ble_eq_true rfl) ?_
  refine go_iloadN (v := (Int32.ofNat cs.length)) (q := 5) d3_4 rfl rfl ?_
  refine go_mine fun hMine hOld => ?_
  by_cases h0 : cs.length = 0
  · obtain rfl : cs = [] := List.length_eq_zero_iff.mp h0
    refine go_ifN (q := 8) d3_5 rfl rfl ?_
    refine go_aloadN (v := .ref x) (q := 9) d3_8 rfl rfl rfl ?_
    refine go_lit (cs := []) (n := 0) (c' := 2) (s' := 4) (q := 11) H (w_24 H) (by decide) (by decide) (by decide) (by decide) (by decide) d3_9 (by decide) (by decide) rfl rfl rfl (by decide) (by decide) ?_
    intro h1 a1 E1 S1
    obtain ⟨X1, C1, n1, -, b1, k1, m1, V1, A1⟩ := S1
    refine go_getfield (v := .ref b1) (q := 14) (w_30 H) Via.refl V1 d3_11 rfl ?_
    have nxb : x ≠ b1 := fun q => m1 (by rw [← q]; simp)
    refine go_putfield (q := 17) (w_30 H) Via.refl (Vv.ext E1) (E.ext E1) (Or.inr ⟨(w_26 H), rfl, rfl⟩) (w_11 H) (ty := (.array .byte)) (by decide) rfl rfl (by simp) d3_14 rfl ?_
    intro h2 W2
    refine go_aloadN (v := .ref x) (q := 18) d3_17 rfl rfl rfl ?_
    refine go_lit (cs := []) (n := 0) (c' := 4) (s' := 8) (q := 20) H (w_24 H) (by decide) (by decide) (by decide) (by decide) (by decide) d3_18 (by decide) (by decide) rfl rfl rfl (by decide) (by decide) ?_
    intro h3 a3 E3 S3
    obtain ⟨X3, C3, n3, -, b3, k3, m3, V3, A3⟩ := S3
    refine go_getfield (v := .int 0) (q := 23) (w_31 H) Via.refl C3 d3_20 rfl ?_
    refine go_putfield (q := 26) (w_31 H) Via.refl (((C.ext E1).other W2 (Or.inr sne.symm)).ext E3) (((E.ext E1).wr W2).ext E3) (Or.inr ⟨(w_27 H), rfl, rfl⟩) (w_11 H) (ty := .byte) (by decide) rfl rfl (by simp) d3_23 rfl ?_
    intro h4 W4
    have Kp : Keep h h4 [x] := ((((Keep.refl h [x]).ext E1).wr W2 (Or.inl (by simp))).ext E3).wr W4 (Or.inl (by simp))
    have Ar : Arv Z h4 b1 k1 .byte (Int32.ofNat ([] : List Int32).length) (bts []) (.int 0) := ((A1.other W2 nxb.symm).ext E3).other W4 nxb.symm
    exact go_return H (G := []) rfl d3_26 (by decide) (by decide) (fun _ q => nomatch q) ⟨rfl, Kp, (((E.ext E1).wr W2).ext E3).wr W4, ((((C.ext E1).other W2 (Or.inr sne.symm)).ext E3).same W4), hx, hl, b1, k1, fun q => m1 (by simp [q]), ((((Vv.ext E1).same W2).ext E3).other W4 (Or.inr sne)), Ar⟩
  · refine go_ifY (q := 27) d3_5 (show ¬ _ = _ from fun q => h0 ((eq_ofNat (n := 0) (by have := hl.1; omega) (by decide)).mp q)) (by decide) (by decide) ?_
    refine go_getstatic (v := .int cz) (q := 30) (w_204 H) Via.refl Sz d3_27 rfl ?_
    refine go_ifN (q := 33) d3_30 nz rfl ?_
    refine go_aloadN (v := .ref ca) (q := 34) d3_33 rfl rfl rfl ?_
    refine go_iloadN (v := 0) (q := 35) d3_34 rfl rfl ?_
    refine go_iloadN (v := (Int32.ofNat cs.length)) (q := 36) d3_35 rfl rfl ?_
    refine go_static (c' := 1) (s' := 16) (q := 39) (S := []) (argsL := [.ref ca, .int 0, .int (Int32.ofNat cs.length)]) H (w_205 H) (w_206 H) (w_207 H) (w_208 H) (by decide) (rm_cmp3 H A hl hn) rfl rfl (lenOf pd_8 rfl) (fun _ q => nomatch q) rfl (by decide) (Nat.le_of_ble_eq_true rfl) rfl rfl (by decide) (by decide) d3_36 rfl ?_
    rintro _ h1 G - ⟨ba, kb, rfl, gb, K1, V1⟩
    refine nx_ (v := none) ?_
    show Go _ _ _ _ _ _ _ _ _ _ _ _ _ _ 39 #[.val (.ref x), .val (.ref ca), .val (.int 0), .val (.int (Int32.ofNat cs.length)), .val (.null), .unset] [.ref ba]
    refine go_astore (L' := #[.val (.ref x), .val (.ref ca), .val (.int 0), .val (.int (Int32.ofNat cs.length)), .val (.null), .val (.ref ba)]) (q := 41) d3_39 rfl rfl rfl ?_
    refine go_aloadN (v := .ref x) (q := 42) d3_41 rfl rfl rfl ?_
    refine go_aload (v := .ref ba) (q := 44) d3_42 rfl rfl rfl ?_
    refine go_iloadN (v := (Int32.ofNat cs.length)) (q := 45) d3_44 rfl rfl ?_
    refine go_static (c' := 1) (s' := 16) (q := 48) (S := [.ref x]) (argsL := [.ref ba, .int (Int32.ofNat cs.length)]) H (w_212 H) (w_213 H) (w_207 H) (w_214 H) (by decide) (rm_codL H V1) rfl rfl (lenOf pd_9 rfl) (fun _ q => nomatch q) rfl (by decide) (Nat.le_of_ble_eq_true rfl) rfl rfl (by decide) (by decide) d3_45 rfl ?_
    rintro _ _ G - ⟨rfl, rfl⟩
    refine nx_ (v := none) ?_
    show Go _ _ _ _ _ _ _ _ _ _ _ _ _ _ 48 #[.val (.ref x), .val (.ref ca), .val (.int 0), .val (.int (Int32.ofNat cs.length)), .val (.null), .val (.ref ba)] [.int 0, .ref x]
    refine go_putfield (q := 51) (w_31 H) Via.refl (C.keep K1 nin0) (E.keep K1) (Or.inr ⟨(w_27 H), rfl, rfl⟩) (w_11 H) (ty := .byte) (by decide) rfl rfl (by simp) d3_48 rfl ?_
    intro h2 W2
    have nxb : ba ≠ x := E.keep K1 |>.neArv V1 wiS |>.symm
    refine go_aloadN (v := .ref x) (q := 52) d3_51 rfl rfl rfl ?_
    refine go_aload (v := .ref ba) (q := 54) d3_52 rfl rfl rfl ?_
    refine go_putfield (q := 57) (w_30 H) Via.refl ((Vv.keep K1 nin0).other W2 (Or.inr sne)) ((E.keep K1).wr W2) (Or.inr ⟨(w_26 H), rfl, rfl⟩) (w_11 H) (ty := (.array .byte)) (by decide) rfl rfl (by simp) d3_54 rfl ?_
    intro h3 W3
    have Kp : Keep h h3 [x] := ((kless K1 (by simp)).wr W2 (Or.inl (by simp))).wr W3 (Or.inl (by simp))
    exact go_return H (G := []) rfl d3_57 (by decide) (by decide) (fun _ q => nomatch q) ⟨rfl, Kp, ((E.keep K1).wr W2).wr W3, (((C.keep K1 nin0).same W2).other W3 (Or.inr sne.symm)), hx, hl, ba, kb, fun q => absurd (hMine ba (by simp [q])).2 (Nat.not_lt.mpr gb), (((Vv.keep K1 nin0).other W2 (Or.inr sne)).same W3), ((V1.other W2 nxb).other W3 nxb)⟩
set_option maxRecDepth 65536 in
set_option maxHeartbeats 4000000 in
theorem rm_new1 {l : Launch} {Z : State} {a0 : Array Value} (H : Wd Z a0) {h : Heap} {F : List Addr} {x ca : Addr} {kc : ClassId} {cs : List Int32} (E : Exa Z h x ST) (C : Fld Z h x ST "coder" "B" (.int 0)) (Vv : Fld Z h x ST "value" "[B" .null) (A : Arv Z h ca kc .char (Int32.ofNat cs.length) (ints cs) (.int 0)) (hl : Lat cs) (hn : cs.length ≤ 16) (hx : x ∉ F) : Met l Z (⟨"java/lang/String", "<init>", "([C)V"⟩ : MethodName) jdk_42_method_3_code 2 none ({ frames := 3, cells := 4, slots := 16, locals := 52 } : Room) h (x :: F) #[.ref x, .ref ca] (fun v h' G => v = none ∧ Keep h h' [x] ∧ Str Z h' F x cs) := by
  refine Met.mk (L := #[.val (.ref x), .val (.ref ca)]) (by decide +kernel) (fun m => by first | (simp [entryFrame, mkF, argsToLocals, Value.category]; done) | rfl) (fun K => ?_)
  show Go _ _ K "java/lang/String" "<init>" _ _ _ _ _ _ _ _ _ 0 _ _
  refine go_aloadN (v := .ref x) (q := 1) d2_0 rfl rfl rfl ?_
  refine go_aloadN (v := .ref ca) (q := 2) d2_1 rfl rfl rfl ?_
  refine go_iconst (x := (0 : Int32)) (q := 3) d2_2 rfl rfl ?_
  refine go_aloadN (v := .ref ca) (q := 4) d2_3 rfl rfl rfl ?_
  refine go_arraylength (z := (Int32.ofNat cs.length)) (q := 5) A d2_4 rfl ?_
  refine go_null (q := 6) d2_5 rfl ?_
  refine go_special (c' := 4) (s' := 16) (q := 9) (S := []) (argsL := [.ref ca, .int (0 : Int32), .int (Int32.ofNat cs.length), .null]) H rfl (w_17 H) (w_18 H) (w_12 H) (w_20 H) (by decide) (rm_new4 H E C Vv A hl hn hx) rfl rfl (lenOf pd_10 rfl) (fun _ q => q) rfl (by decide) (Nat.le_of_ble_eq_true rfl) rfl rfl (by decide) (by decide) d2_6 rfl ?_
  rintro _ h1 G - ⟨rfl, K1, S1⟩
  refine nx_ (v := none) ?_
  show Go _ _ _ _ _ _ _ _ _ _ _ _ _ _ 9 #[.val (.ref x), .val (.ref ca)] []
  exact go_return H (G := []) rfl d2_9 (by decide) (by decide) (fun _ q => nomatch q) ⟨rfl, K1, S1⟩
set_option maxRecDepth 65536 in
set_option maxHeartbeats 4000000 in
theorem rm_eqSame {l : Launch} {Z : State} {a0 : Array Value} (H : Wd Z a0) {h : Heap} {a : Addr}  : Met l Z (⟨"java/lang/String", "equals", "(Ljava/lang/Object;)Z"⟩ : MethodName) jdk_42_method_66_code 3 (some .boolean) ({ frames := 2, cells := 0, slots := 0, locals := 28 } : Room) h [] #[.ref a, .ref a] (fun v h' G => v = some (.int 1) ∧ h = h') := by
  refine Met.mk (L := #[.val (.ref a), .val (.ref a), .unset]) (by decide +kernel) (fun m => by first | (simp [entryFrame, mkF, argsToLocals, Value.category]; done) | rfl) (fun K => ?_)
  show Go _ _ K "java/lang/String" "equals" _ _ _ _ _ _ _ _ _ 0 _ _
  refine go_aloadN (v := .ref a) (q := 1) d29_0 rfl rfl rfl ?_
  refine go_aloadN (v := .ref a) (q := 2) d29_1 rfl rfl rfl ?_
  refine go_acN (q := 5) d29_2 rfl rfl (by simp [XT.acmp]) rfl ?_
  refine go_iconst (x := (1 : Int32)) (q := 6) d29_5 rfl rfl ?_
  exact go_ireturn H (G := []) (t := .boolean) rfl (by decide) rfl d29_6 (by decide) (by decide) (fun _ q => nomatch q) ⟨rfl, rfl⟩
set_option maxRecDepth 65536 in
set_option maxHeartbeats 4000000 in
theorem rm_rec {l : Launch} {Z : State} {a0 : Array Value} (H : Wd Z a0) {h : Heap} {x : Addr}  : Met l Z (⟨"java/lang/Record", "<init>", "()V"⟩ : MethodName) jdk_30_method_1_code 1 none ({ frames := 1, cells := 0, slots := 0, locals := 12 } : Room) h [] #[.ref x] (fun v h' G => v = none ∧ h = h') := by
  refine Met.mk (L := #[.val (.ref x)]) (by decide +kernel) (fun m => by first | (simp [entryFrame, mkF, argsToLocals, Value.category]; done) | rfl) (fun K => ?_)
  show Go _ _ K "java/lang/Record" "<init>" _ _ _ _ _ _ _ _ _ 0 _ _
  refine go_aloadN (v := .ref x) (q := 1) d8_0 rfl rfl rfl ?_
  refine go_initO (q := 4) (w_51 H) (w_22 H) (w_23 H) rfl d8_1 rfl (by decide) (Nat.le_of_ble_eq_true rfl) ?_
  exact go_return H (G := []) rfl d8_4 (by decide) (by decide) (fun _ q => nomatch q) ⟨rfl, rfl⟩
set_option maxRecDepth 65536 in
set_option maxHeartbeats 4000000 in
theorem rm_rn1 {l : Launch} {Z : State} {a0 : Array Value} (H : Wd Z a0) {h : Heap} {a : Addr}  : Met l Z (⟨"java/util/Objects", "requireNonNull", "(Ljava/lang/Object;)Ljava/lang/Object;"⟩ : MethodName) jdk_31_method_10_code 1 (some (.object "java/lang/Object")) ({ frames := 0, cells := 0, slots := 0, locals := 0 } : Room) h [] #[.ref a] (fun v h' G => v = some (.ref a) ∧ h = h') := by
  refine Met.mk (L := #[.val (.ref a)]) (by decide +kernel) (fun m => by first | (simp [entryFrame, mkF, argsToLocals, Value.category]; done) | rfl) (fun K => ?_)
  show Go _ _ K "java/util/Objects" "requireNonNull" _ _ _ _ _ _ _ _ _ 0 _ _
  refine go_aloadN (v := .ref a) (q := 1) d17_0 rfl rfl rfl ?_
  refine go_nnY (q := 12) d17_1 (by decide) (by decide) ?_
  refine go_aloadN (v := .ref a) (q := 13) d17_12 rfl rfl rfl ?_
  exact go_areturn H (G := []) (t := (.object "java/lang/Object")) rfl rfl rfl d17_13 (by decide) (by decide) (fun _ q => nomatch q) ⟨rfl, rfl⟩
set_option maxRecDepth 65536 in
set_option maxHeartbeats 4000000 in
theorem rm_acI {l : Launch} {Z : State} {a0 : Array Value} (H : Wd Z a0) {h : Heap} {x : Addr}  : Met l Z (⟨"java/util/AbstractCollection", "<init>", "()V"⟩ : MethodName) jdk_22_method_1_code 1 none ({ frames := 1, cells := 0, slots := 0, locals := 12 } : Room) h [] #[.ref x] (fun v h' G => v = none ∧ h = h') := by
  refine Met.mk (L := #[.val (.ref x)]) (by decide +kernel) (fun m => by first | (simp [entryFrame, mkF, argsToLocals, Value.category]; done) | rfl) (fun K => ?_)
  show Go _ _ K "java/util/AbstractCollection" "<init>" _ _ _ _ _ _ _ _ _ 0 _ _
  refine go_aloadN (v := .ref x) (q := 1) d16_0 rfl rfl rfl ?_
  refine go_initO (q := 4) (w_105 H) (w_22 H) (w_23 H) rfl d16_1 rfl (by decide) (Nat.le_of_ble_eq_true rfl) ?_
  exact go_return H (G := []) rfl d16_4 (by decide) (by decide) (fun _ q => nomatch q) ⟨rfl, rfl⟩
set_option maxRecDepth 65536 in
set_option maxHeartbeats 4000000 in
theorem rm_aicI {l : Launch} {Z : State} {a0 : Array Value} (H : Wd Z a0) {h : Heap} {x : Addr}  : Met l Z (⟨"java/util/ImmutableCollections$AbstractImmutableCollection", "<init>", "()V"⟩ : MethodName) jdk_47_method_1_code 1 none ({ frames := 2, cells := 0, slots := 0, locals := 24 } : Room) h [] #[.ref x] (fun v h' G => v = none ∧ h = h') := by
  refine Met.mk (L := #[.val (.ref x)]) (by decide +kernel) (fun m => by first | (simp [entryFrame, mkF, argsToLocals, Value.category]; done) | rfl) (fun K => ?_)
  show Go _ _ K "java/util/ImmutableCollections$AbstractImmutableCollection" "<init>" _ _ _ _ _ _ _ _ _ 0 _ _
  refine go_aloadN (v := .ref x) (q := 1) d15_0 rfl rfl rfl ?_
  refine go_special (c' := 0) (s' := 0) (q := 4) (S := []) (argsL := []) H rfl (w_99 H) (w_100 H) (w_103 H) (w_104 H) (by decide) (rm_acI H) rfl rfl (lenOf pd_0 rfl) (fun _ q => nomatch q) rfl (by decide) (Nat.le_of_ble_eq_true rfl) rfl rfl (by decide) (by decide) d15_1 rfl ?_
  rintro _ _ G - ⟨rfl, rfl⟩
  refine nx_ (v := none) ?_
  show Go _ _ _ _ _ _ _ _ _ _ _ _ _ _ 4 #[.val (.ref x)] []
  exact go_return H (G := []) rfl d15_4 (by decide) (by decide) (fun _ q => nomatch q) ⟨rfl, rfl⟩
set_option maxRecDepth 65536 in
set_option maxHeartbeats 4000000 in
theorem rm_ailI {l : Launch} {Z : State} {a0 : Array Value} (H : Wd Z a0) {h : Heap} {x : Addr}  : Met l Z (⟨"java/util/ImmutableCollections$AbstractImmutableList", "<init>", "()V"⟩ : MethodName) jdk_46_method_1_code 1 none ({ frames := 3, cells := 0, slots := 0, locals := 36 } : Room) h [] #[.ref x] (fun v h' G => v = none ∧ h = h') := by
  refine Met.mk (L := #[.val (.ref x)]) (by decide +kernel) (fun m => by first | (simp [entryFrame, mkF, argsToLocals, Value.category]; done) | rfl) (fun K => ?_)
  show Go _ _ K "java/util/ImmutableCollections$AbstractImmutableList" "<init>" _ _ _ _ _ _ _ _ _ 0 _ _
  refine go_aloadN (v := .ref x) (q := 1) d14_0 rfl rfl rfl ?_
  refine go_special (c' := 0) (s' := 0) (q := 4) (S := []) (argsL := []) H rfl (w_93 H) (w_94 H) (w_97 H) (w_98 H) (by decide) (rm_aicI H) rfl rfl (lenOf pd_0 rfl) (fun _ q => nomatch q) rfl (by decide) (Nat.le_of_ble_eq_true rfl) rfl rfl (by decide) (by decide) d14_1 rfl ?_
  rintro _ _ G - ⟨rfl, rfl⟩
  refine nx_ (v := none) ?_
  show Go _ _ _ _ _ _ _ _ _ _ _ _ _ _ 4 #[.val (.ref x)] []
  exact go_return H (G := []) rfl d14_4 (by decide) (by decide) (fun _ q => nomatch q) ⟨rfl, rfl⟩
set_option maxRecDepth 65536 in
set_option maxHeartbeats 4000000 in
theorem rm_l12I {l : Launch} {Z : State} {a0 : Array Value} (H : Wd Z a0) {h : Heap} {x e em : Addr} (SE : Sta Z Z.heap "java/util/ImmutableCollections" "EMPTY" "Ljava/lang/Object;" (.ref em)) (E : Exa Z h x "java/util/ImmutableCollections$List12") (F0 : Fld Z h x "java/util/ImmutableCollections$List12" "e0" "Ljava/lang/Object;" .null) (F1 : Fld Z h x "java/util/ImmutableCollections$List12" "e1" "Ljava/lang/Object;" .null) : Met l Z (⟨"java/util/ImmutableCollections$List12", "<init>", "(Ljava/lang/Object;)V"⟩ : MethodName) jdk_44_method_1_code 2 none ({ frames := 4, cells := 0, slots := 0, locals := 48 } : Room) h [x] #[.ref x, .ref e] (fun v h' G => v = none ∧ Keep h h' [x] ∧ Fld Z h' x "java/util/ImmutableCollections$List12" "e0" "Ljava/lang/Object;" (.ref e) ∧ Fld Z h' x "java/util/ImmutableCollections$List12" "e1" "Ljava/lang/Object;" (.ref em)) := by
  refine Met.mk (L := #[.val (.ref x), .val (.ref e)]) (by decide +kernel) (fun m => by first | (simp [entryFrame, mkF, argsToLocals, Value.category]; done) | rfl) (fun K => ?_)
  show Go _ _ K "java/util/ImmutableCollections$List12" "<init>" _ _ _ _ _ _ _ _ _ 0 _ _
  have sl_e0_e1 : RoadKit.slotOf Z "java/util/ImmutableCollections$List12" "e0" "Ljava/lang/Object;" ≠ RoadKit.slotOf Z "java/util/ImmutableCollections$List12" "e1" "Ljava/lang/Object;" := slot_ne (C := "java/util/ImmutableCollections$List12") (Or.inr (w_111 H)) (Or.inr (w_115 H)) (by decide) (t := (.object "java/lang/Object")) (t' := (.object "java/lang/Object")) (by decide) (by decide)
  have sl_e1_e0 : RoadKit.slotOf Z "java/util/ImmutableCollections$List12" "e1" "Ljava/lang/Object;" ≠ RoadKit.slotOf Z "java/util/ImmutableCollections$List12" "e0" "Ljava/lang/Object;" := slot_ne (C := "java/util/ImmutableCollections$List12") (Or.inr (w_115 H)) (Or.inr (w_111 H)) (by decide) (t := (.object "java/lang/Object")) (t' := (.object "java/lang/Object")) (by decide) (by decide)
  refine go_aloadN (v := .ref x) (q := 1) d13_0 rfl rfl rfl ?_
  refine go_special (c' := 0) (s' := 0) (q := 4) (S := []) (argsL := []) H rfl (w_87 H) (w_88 H) (w_91 H) (w_92 H) (by decide) (rm_ailI H) rfl rfl (lenOf pd_0 rfl) (fun _ q => nomatch q) rfl (by decide) (Nat.le_of_ble_eq_true rfl) rfl rfl (by decide) (by decide) d13_1 rfl ?_
  rintro _ _ G - ⟨rfl, rfl⟩
  refine nx_ (v := none) ?_
  show Go _ _ _ _ _ _ _ _ _ _ _ _ _ _ 4 #[.val (.ref x), .val (.ref e)] []
  refine go_aloadN (v := .ref x) (q := 5) d13_4 rfl rfl rfl ?_
  refine go_aloadN (v := .ref e) (q := 6) d13_5 rfl rfl rfl ?_
  refine go_static (c' := 0) (s' := 0) (q := 9) (S := [.ref x]) (argsL := [.ref e]) H (w_106 H) (w_107 H) (w_108 H) (w_109 H) (by decide) (rm_rn1 H) rfl rfl (lenOf pd_1 rfl) (fun _ q => nomatch q) rfl (by decide) (Nat.le_of_ble_eq_true rfl) rfl rfl (by decide) (by decide) d13_6 rfl ?_
  rintro _ _ G - ⟨rfl, rfl⟩
  refine nx_ (v := none) ?_
  show Go _ _ _ _ _ _ _ _ _ _ _ _ _ _ 9 #[.val (.ref x), .val (.ref e)] [.ref e, .ref x]
  refine go_putfield (q := 12) (w_110 H) Via.refl F0 E (Or.inr ⟨(w_111 H), rfl, rfl⟩) (w_81 H) (ty := (.object "java/lang/Object")) (by decide) rfl rfl (by simp) d13_9 rfl ?_
  intro h1 W1
  refine go_aloadN (v := .ref x) (q := 13) d13_12 rfl rfl rfl ?_
  refine go_getstaticN (v := .ref em) (q := 16) (w_112 H) Via.refl SE d13_13 rfl ?_
  refine go_putfield (q := 19) (w_114 H) Via.refl (F1.other W1 (Or.inr sl_e1_e0)) (E.wr W1) (Or.inr ⟨(w_115 H), rfl, rfl⟩) (w_81 H) (ty := (.object "java/lang/Object")) (by decide) rfl rfl (by simp) d13_16 rfl ?_
  intro h2 W2
  exact go_return H (G := []) rfl d13_19 (by decide) (by decide) (fun _ q => nomatch q) ⟨rfl, (Keep.of_wr W1).wr W2 (Or.inl (by simp)), ((F0.same W1).other W2 (Or.inr sl_e0_e1)), ((F1.other W1 (Or.inr sl_e1_e0)).same W2)⟩
set_option maxRecDepth 65536 in
set_option maxHeartbeats 4000000 in
theorem rm_of {l : Launch} {Z : State} {a0 : Array Value} (H : Wd Z a0) {h : Heap} {e em : Addr} (SE : Sta Z Z.heap "java/util/ImmutableCollections" "EMPTY" "Ljava/lang/Object;" (.ref em)) : Met l Z (⟨"java/util/List", "of", "(Ljava/lang/Object;)Ljava/util/List;"⟩ : MethodName) jdk_40_method_37_code 1 (some (.object "java/util/List")) ({ frames := 5, cells := 1, slots := 2, locals := 64 } : Room) h [] #[.ref e] (fun v h' G => ∃ x, v = some (.ref x) ∧ h.size ≤ x ∧ Keep h h' [] ∧ Exa Z h' x "java/util/ImmutableCollections$List12" ∧ Fld Z h' x "java/util/ImmutableCollections$List12" "e0" "Ljava/lang/Object;" (.ref e) ∧ Fld Z h' x "java/util/ImmutableCollections$List12" "e1" "Ljava/lang/Object;" (.ref em)) := by
  refine Met.mk (L := #[.val (.ref e)]) (by decide +kernel) (fun m => by first | (simp [entryFrame, mkF, argsToLocals, Value.category]; done) | rfl) (fun K => ?_)
  show Go _ _ K "java/util/List" "of" _ _ _ _ _ _ _ _ _ 0 _ _
  have Ka : Keep h h [] := Keep.refl _ _
  refine go_new (c' := 1) (s' := 2) (q := 3) (w_80 H) (w_81 H) (w_82 H) d12_0 rfl rfl rfl (by decide) (by decide) ?_
  intro h1 x g1 E1 A1 D1
  have f_Ka_x : h.size ≤ x := by rw [g1]; exact Ka.1
  have Ka : Keep h h1 [] := Ka.ext E1
  have Fe0 : Fld Z h1 x "java/util/ImmutableCollections$List12" "e0" "Ljava/lang/Object;" .null := D1 (Or.inr (w_111 H)) (ty := .object "java/lang/Object") (by decide)
  have Fe1 : Fld Z h1 x "java/util/ImmutableCollections$List12" "e1" "Ljava/lang/Object;" .null := D1 (Or.inr (w_115 H)) (ty := .object "java/lang/Object") (by decide)
  refine go_dup (q := 4) d12_3 rfl rfl ?_
  refine go_aloadN (v := .ref e) (q := 5) d12_4 rfl rfl rfl ?_
  refine go_special (c' := 1) (s' := 2) (q := 8) (S := [.ref x]) (argsL := [.ref e]) H rfl (w_83 H) (w_84 H) (w_82 H) (w_86 H) (by decide) (rm_l12I H SE A1 Fe0 Fe1) rfl rfl (lenOf pd_2 rfl) (by intro z hz; simp only [List.mem_cons, List.not_mem_nil, or_false] at hz ⊢; first | exact hz | exact Or.inl hz | (rcases hz with hz | hz <;> simp [hz]; done) | (rcases hz with rfl | rfl <;> simp)) rfl (by decide) (Nat.le_of_ble_eq_true rfl) rfl rfl (by decide) (by decide) d12_5 rfl ?_
  rintro _ h2 G - ⟨rfl, K2, G0, G1⟩
  refine nx_ (v := none) ?_
  have Ka : Keep h h2 [] := kfresh Ka K2 f_Ka_x
  show Go _ _ _ _ _ _ _ _ _ _ _ _ _ _ 8 #[.val (.ref e)] [.ref x]
  exact go_areturn H (G := []) (t := (.object "java/util/List")) rfl rfl rfl d12_8 (by decide) (by decide) (fun _ q => nomatch q) ⟨x, rfl, f_Ka_x, Ka, A1.keep K2, G0, G1⟩
set_option maxRecDepth 65536 in
set_option maxHeartbeats 4000000 in
theorem rm_lc {l : Launch} {Z : State} {a0 : Array Value} (H : Wd Z a0) {h : Heap} {x : Addr} (E : Exa Z h x "java/util/ImmutableCollections$List12") : Met l Z (⟨"java/util/ImmutableCollections", "listCopy", "(Ljava/util/Collection;)Ljava/util/List;"⟩ : MethodName) jdk_56_method_3_code 2 (some (.object "java/util/List")) ({ frames := 0, cells := 0, slots := 0, locals := 0 } : Room) h [] #[.ref x] (fun v h' G => v = some (.ref x) ∧ h = h') := by
  refine Met.mk (L := #[.val (.ref x), .unset]) (by decide +kernel) (fun m => by first | (simp [entryFrame, mkF, argsToLocals, Value.category]; done) | rfl) (fun K => ?_)
  show Go _ _ K "java/util/ImmutableCollections" "listCopy" _ _ _ _ _ _ _ _ _ 0 _ _
  refine go_aloadN (v := .ref x) (q := 1) d22_0 rfl rfl rfl ?_
  refine go_instY (q := 4) (w_149 H) (Ins.self E) d22_1 rfl ?_
  refine go_ifY (q := 26) d22_4 (by decide) (by decide) (by decide) ?_
  refine go_aloadN (v := .ref x) (q := 27) d22_26 rfl rfl rfl ?_
  refine go_checkcast (q := 30) (w_150 H) (Ins.of_exa E (w_151 H)) d22_27 rfl ?_
  exact go_areturn H (G := []) (t := (.object "java/util/List")) rfl rfl rfl d22_30 (by decide) (by decide) (fun _ q => nomatch q) ⟨rfl, rfl⟩
set_option maxRecDepth 65536 in
set_option maxHeartbeats 4000000 in
theorem rm_co {l : Launch} {Z : State} {a0 : Array Value} (H : Wd Z a0) {h : Heap} {x : Addr} (E : Exa Z h x "java/util/ImmutableCollections$List12") : Met l Z (⟨"java/util/List", "copyOf", "(Ljava/util/Collection;)Ljava/util/List;"⟩ : MethodName) jdk_40_method_48_code 1 (some (.object "java/util/List")) ({ frames := 1, cells := 0, slots := 0, locals := 13 } : Room) h [] #[.ref x] (fun v h' G => v = some (.ref x) ∧ h = h') := by
  refine Met.mk (L := #[.val (.ref x)]) (by decide +kernel) (fun m => by first | (simp [entryFrame, mkF, argsToLocals, Value.category]; done) | rfl) (fun K => ?_)
  show Go _ _ K "java/util/List" "copyOf" _ _ _ _ _ _ _ _ _ 0 _ _
  refine go_aloadN (v := .ref x) (q := 1) d21_0 rfl rfl rfl ?_
  refine go_static (c' := 0) (s' := 0) (q := 4) (S := []) (argsL := [.ref x]) H (w_146 H) (w_147 H) (w_113 H) (w_148 H) (by decide) (rm_lc H E) rfl rfl (lenOf pd_3 rfl) (fun _ q => nomatch q) rfl (by decide) (Nat.le_of_ble_eq_true rfl) rfl rfl (by decide) (by decide) d21_1 rfl ?_
  rintro _ _ G - ⟨rfl, rfl⟩
  refine nx_ (v := none) ?_
  show Go _ _ _ _ _ _ _ _ _ _ _ _ _ _ 4 #[.val (.ref x)] [.ref x]
  exact go_areturn H (G := []) (t := (.object "java/util/List")) rfl rfl rfl d21_4 (by decide) (by decide) (fun _ q => nomatch q) ⟨rfl, rfl⟩
set_option maxRecDepth 65536 in
set_option maxHeartbeats 4000000 in
theorem rm_lsz {l : Launch} {Z : State} {a0 : Array Value} (H : Wd Z a0) {h : Heap} {x em : Addr} (SE : Sta Z Z.heap "java/util/ImmutableCollections" "EMPTY" "Ljava/lang/Object;" (.ref em)) (F1 : Fld Z h x "java/util/ImmutableCollections$List12" "e1" "Ljava/lang/Object;" (.ref em)) : Met l Z (⟨"java/util/ImmutableCollections$List12", "size", "()I"⟩ : MethodName) jdk_44_method_3_code 1 (some .int) ({ frames := 0, cells := 0, slots := 0, locals := 0 } : Room) h [] #[.ref x] (fun v h' G => v = some (.int 1) ∧ h = h') := by
  refine Met.mk (L := #[.val (.ref x)]) (by decide +kernel) (fun m => by first | (simp [entryFrame, mkF, argsToLocals, Value.category]; done) | rfl) (fun K => ?_)
  show Go _ _ K "java/util/ImmutableCollections$List12" "size" _ _ _ _ _ _ _ _ _ 0 _ _
  refine go_aloadN (v := .ref x) (q := 1) d27_0 rfl rfl rfl ?_
  refine go_getfield (v := .ref em) (q := 4) (w_114 H) Via.refl F1 d27_1 rfl ?_
  refine go_getstaticN (v := .ref em) (q := 7) (w_112 H) Via.refl SE d27_4 rfl ?_
  refine go_acY (q := 14) d27_7 rfl rfl (by simp [XT.acmp]) (by decide) (by decide) ?_
  refine go_iconst (x := (1 : Int32)) (q := 15) d27_14 rfl rfl ?_
  exact go_ireturn H (G := []) (t := .int) rfl (by decide) rfl d27_15 (by decide) (by decide) (fun _ q => nomatch q) ⟨rfl, rfl⟩
set_option maxRecDepth 65536 in
set_option maxHeartbeats 4000000 in
theorem rm_lget {l : Launch} {Z : State} {a0 : Array Value} (H : Wd Z a0) {h : Heap} {x e : Addr} (F0 : Fld Z h x "java/util/ImmutableCollections$List12" "e0" "Ljava/lang/Object;" (.ref e)) : Met l Z (⟨"java/util/ImmutableCollections$List12", "get", "(I)Ljava/lang/Object;"⟩ : MethodName) jdk_44_method_5_code 2 (some (.object "java/lang/Object")) ({ frames := 0, cells := 0, slots := 0, locals := 0 } : Room) h [] #[.ref x, .int 0] (fun v h' G => v = some (.ref e) ∧ h = h') := by
  refine Met.mk (L := #[.val (.ref x), .val (.int 0)]) (by decide +kernel) (fun m => by first | (simp [entryFrame, mkF, argsToLocals, Value.category]; done) | rfl) (fun K => ?_)
  show Go _ _ K "java/util/ImmutableCollections$List12" "get" _ _ _ _ _ _ _ _ _ 0 _ _
  refine go_iloadN (v := 0) (q := 1) d28_0 rfl rfl ?_
  refine go_ifN (q := 4) d28_1 (by decide) rfl ?_
  refine go_aloadN (v := .ref x) (q := 5) d28_4 rfl rfl rfl ?_
  refine go_getfield (v := .ref e) (q := 8) (w_110 H) Via.refl F0 d28_5 rfl ?_
  exact go_areturn H (G := []) (t := (.object "java/lang/Object")) rfl rfl rfl d28_8 (by decide) (by decide) (fun _ q => nomatch q) ⟨rfl, rfl⟩
set_option maxRecDepth 65536 in
set_option maxHeartbeats 4000000 in
theorem rm_oe {l : Launch} {Z : State} {a0 : Array Value} (H : Wd Z a0) {h : Heap} {oe : Addr} (SO : Sta Z Z.heap "java/util/OptionalInt" "EMPTY" "Ljava/util/OptionalInt;" (.ref oe)) : Met l Z (⟨"java/util/OptionalInt", "empty", "()Ljava/util/OptionalInt;"⟩ : MethodName) jdk_2649_method_2_code 0 (some (.object "java/util/OptionalInt")) ({ frames := 0, cells := 0, slots := 0, locals := 0 } : Room) h [] #[] (fun v h' G => v = some (.ref oe) ∧ h = h') := by
  refine Met.mk (L := #[]) (by decide +kernel) (fun m => by first | (simp [entryFrame, mkF, argsToLocals, Value.category]; done) | rfl) (fun K => ?_)
  show Go _ _ K "java/util/OptionalInt" "empty" _ _ _ _ _ _ _ _ _ 0 _ _
  refine go_getstatic (v := .ref oe) (q := 3) (w_42 H) Via.refl SO d6_0 rfl ?_
  exact go_areturn H (G := []) (t := (.object "java/util/OptionalInt")) rfl rfl rfl d6_3 (by decide) (by decide) (fun _ q => nomatch q) ⟨rfl, rfl⟩
set_option maxRecDepth 65536 in
set_option maxHeartbeats 4000000 in
theorem rm_fe4N {l : Launch} {Z : State} {a0 : Array Value} (H : Wd Z a0) {h : Heap} {x ec fs oe : Addr} (E : Exa Z h x "com/example/emendate/emendate/model/FieldError") (Fcode : Fld Z h x "com/example/emendate/emendate/model/FieldError" "code" "Lcom/example/emendate/emendate/model/ErrorCode;" .null) (Ffield : Fld Z h x "com/example/emendate/emendate/model/FieldError" "field" "Ljava/lang/String;" .null) (Fmessage : Fld Z h x "com/example/emendate/emendate/model/FieldError" "message" "Ljava/lang/String;" .null) (Foperation : Fld Z h x "com/example/emendate/emendate/model/FieldError" "operation" "Ljava/util/OptionalInt;" .null) : Met l Z (⟨"com/example/emendate/emendate/model/FieldError", "<init>", "(Lcom/example/emendate/emendate/model/ErrorCode;Ljava/lang/String;Ljava/lang/String;Ljava/util/OptionalInt;)V"⟩ : MethodName) prog_9_method_2_code 5 none ({ frames := 2, cells := 0, slots := 0, locals := 24 } : Room) h [x] #[.ref x, .ref ec, .ref fs, .null, .ref oe] (fun v h' G => v = none ∧ Keep h h' [x] ∧ Fld Z h' x "com/example/emendate/emendate/model/FieldError" "code" "Lcom/example/emendate/emendate/model/ErrorCode;" (.ref ec) ∧ Fld Z h' x "com/example/emendate/emendate/model/FieldError" "message" "Ljava/lang/String;" .null) := by
  refine Met.mk (L := #[.val (.ref x), .val (.ref ec), .val (.ref fs), .val (.null), .val (.ref oe)]) (plainFor_of_name (by first | (simp [plainName, overriddenIn]; done) | decide +kernel)) (fun m => by first | (simp [entryFrame, mkF, argsToLocals, Value.category]; done) | rfl) (fun K => ?_)
  show Go _ _ K "com/example/emendate/emendate/model/FieldError" "<init>" _ _ _ _ _ _ _ _ _ 0 _ _
  have sl_code_field : RoadKit.slotOf Z "com/example/emendate/emendate/model/FieldError" "code" "Lcom/example/emendate/emendate/model/ErrorCode;" ≠ RoadKit.slotOf Z "com/example/emendate/emendate/model/FieldError" "field" "Ljava/lang/String;" := slot_ne (C := "com/example/emendate/emendate/model/FieldError") (Or.inr (w_53 H)) (Or.inr (w_55 H)) (by decide) (t := (.object "com/example/emendate/emendate/model/ErrorCode")) (t' := (.object "java/lang/String")) (by decide) (by decide)
  have sl_code_message : RoadKit.slotOf Z "com/example/emendate/emendate/model/FieldError" "code" "Lcom/example/emendate/emendate/model/ErrorCode;" ≠ RoadKit.slotOf Z "com/example/emendate/emendate/model/FieldError" "message" "Ljava/lang/String;" := slot_ne (C := "com/example/emendate/emendate/model/FieldError") (Or.inr (w_53 H)) (Or.inr (w_57 H)) (by decide) (t := (.object "com/example/emendate/emendate/model/ErrorCode")) (t' := (.object "java/lang/String")) (by decide) (by decide)
  have sl_code_operation : RoadKit.slotOf Z "com/example/emendate/emendate/model/FieldError" "code" "Lcom/example/emendate/emendate/model/ErrorCode;" ≠ RoadKit.slotOf Z "com/example/emendate/emendate/model/FieldError" "operation" "Ljava/util/OptionalInt;" := slot_ne (C := "com/example/emendate/emendate/model/FieldError") (Or.inr (w_53 H)) (Or.inr (w_59 H)) (by decide) (t := (.object "com/example/emendate/emendate/model/ErrorCode")) (t' := (.object "java/util/OptionalInt")) (by decide) (by decide)
  have sl_field_code : RoadKit.slotOf Z "com/example/emendate/emendate/model/FieldError" "field" "Ljava/lang/String;" ≠ RoadKit.slotOf Z "com/example/emendate/emendate/model/FieldError" "code" "Lcom/example/emendate/emendate/model/ErrorCode;" := slot_ne (C := "com/example/emendate/emendate/model/FieldError") (Or.inr (w_55 H)) (Or.inr (w_53 H)) (by decide) (t := (.object "java/lang/String")) (t' := (.object "com/example/emendate/emendate/model/ErrorCode")) (by decide) (by decide)
  have sl_field_message : RoadKit.slotOf Z "com/example/emendate/emendate/model/FieldError" "field" "Ljava/lang/String;" ≠ RoadKit.slotOf Z "com/example/emendate/emendate/model/FieldError" "message" "Ljava/lang/String;" := slot_ne (C := "com/example/emendate/emendate/model/FieldError") (Or.inr (w_55 H)) (Or.inr (w_57 H)) (by decide) (t := (.object "java/lang/String")) (t' := (.object "java/lang/String")) (by decide) (by decide)
  have sl_field_operation : RoadKit.slotOf Z "com/example/emendate/emendate/model/FieldError" "field" "Ljava/lang/String;" ≠ RoadKit.slotOf Z "com/example/emendate/emendate/model/FieldError" "operation" "Ljava/util/OptionalInt;" := slot_ne (C := "com/example/emendate/emendate/model/FieldError") (Or.inr (w_55 H)) (Or.inr (w_59 H)) (by decide) (t := (.object "java/lang/String")) (t' := (.object "java/util/OptionalInt")) (by decide) (by decide)
  have sl_message_code : RoadKit.slotOf Z "com/example/emendate/emendate/model/FieldError" "message" "Ljava/lang/String;" ≠ RoadKit.slotOf Z "com/example/emendate/emendate/model/FieldError" "code" "Lcom/example/emendate/emendate/model/ErrorCode;" := slot_ne (C := "com/example/emendate/emendate/model/FieldError") (Or.inr (w_57 H)) (Or.inr (w_53 H)) (by decide) (t := (.object "java/lang/String")) (t' := (.object "com/example/emendate/emendate/model/ErrorCode")) (by decide) (by decide)
  have sl_message_field : RoadKit.slotOf Z "com/example/emendate/emendate/model/FieldError" "message" "Ljava/lang/String;" ≠ RoadKit.slotOf Z "com/example/emendate/emendate/model/FieldError" "field" "Ljava/lang/String;" := slot_ne (C := "com/example/emendate/emendate/model/FieldError") (Or.inr (w_57 H)) (Or.inr (w_55 H)) (by decide) (t := (.object "java/lang/String")) (t' := (.object "java/lang/String")) (by decide) (by decide)
  have sl_message_operation : RoadKit.slotOf Z "com/example/emendate/emendate/model/FieldError" "message" "Ljava/lang/String;" ≠ RoadKit.slotOf Z "com/example/emendate/emendate/model/FieldError" "operation" "Ljava/util/OptionalInt;" := slot_ne (C := "com/example/emendate/emendate/model/FieldError") (Or.inr (w_57 H)) (Or.inr (w_59 H)) (by decide) (t := (.object "java/lang/String")) (t' := (.object "java/util/OptionalInt")) (by decide) (by decide)
  have sl_operation_code : RoadKit.slotOf Z "com/example/emendate/emendate/model/FieldError" "operation" "Ljava/util/OptionalInt;" ≠ RoadKit.slotOf Z "com/example/emendate/emendate/model/FieldError" "code" "Lcom/example/emendate/emendate/model/ErrorCode;" := slot_ne (C := "com/example/emendate/emendate/model/FieldError") (Or.inr (w_59 H)) (Or.inr (w_53 H)) (by decide) (t := (.object "java/util/OptionalInt")) (t' := (.object "com/example/emendate/emendate/model/ErrorCode")) (by decide) (by decide)
  have sl_operation_field : RoadKit.slotOf Z "com/example/emendate/emendate/model/FieldError" "operation" "Ljava/util/OptionalInt;" ≠ RoadKit.slotOf Z "com/example/emendate/emendate/model/FieldError" "field" "Ljava/lang/String;" := slot_ne (C := "com/example/emendate/emendate/model/FieldError") (Or.inr (w_59 H)) (Or.inr (w_55 H)) (by decide) (t := (.object "java/util/OptionalInt")) (t' := (.object "java/lang/String")) (by decide) (by decide)
  have sl_operation_message : RoadKit.slotOf Z "com/example/emendate/emendate/model/FieldError" "operation" "Ljava/util/OptionalInt;" ≠ RoadKit.slotOf Z "com/example/emendate/emendate/model/FieldError" "message" "Ljava/lang/String;" := slot_ne (C := "com/example/emendate/emendate/model/FieldError") (Or.inr (w_59 H)) (Or.inr (w_57 H)) (by decide) (t := (.object "java/util/OptionalInt")) (t' := (.object "java/lang/String")) (by decide) (by decide)
  refine go_aloadN (v := .ref x) (q := 1) d7_0 rfl rfl rfl ?_
  refine go_special (c' := 0) (s' := 0) (q := 4) (S := []) (argsL := []) H rfl (w_46 H) (w_47 H) (w_49 H) (w_50 H) (by decide) (rm_rec H) rfl rfl (lenOf pd_0 rfl) (fun _ q => nomatch q) rfl (by decide) (Nat.le_of_ble_eq_true rfl) rfl rfl (by decide) (by decide) d7_1 rfl ?_
  rintro _ _ G - ⟨rfl, rfl⟩
  refine nx_ (v := none) ?_
  show Go _ _ _ _ _ _ _ _ _ _ _ _ _ _ 4 #[.val (.ref x), .val (.ref ec), .val (.ref fs), .val (.null), .val (.ref oe)] []
  refine go_aloadN (v := .ref x) (q := 5) d7_4 rfl rfl rfl ?_
  refine go_aloadN (v := .ref ec) (q := 6) d7_5 rfl rfl rfl ?_
  refine go_putfield (q := 9) (w_52 H) Via.refl Fcode E (Or.inr ⟨(w_53 H), rfl, rfl⟩) (w_33 H) (ty := (.object "com/example/emendate/emendate/model/ErrorCode")) (by decide) rfl rfl (by simp) d7_6 rfl ?_
  intro h1 W1
  refine go_aloadN (v := .ref x) (q := 10) d7_9 rfl rfl rfl ?_
  refine go_aloadN (v := .ref fs) (q := 11) d7_10 rfl rfl rfl ?_
  refine go_putfield (q := 14) (w_54 H) Via.refl (Ffield.other W1 (Or.inr sl_field_code)) (E.wr W1) (Or.inr ⟨(w_55 H), rfl, rfl⟩) (w_33 H) (ty := (.object "java/lang/String")) (by decide) rfl rfl (by simp) d7_11 rfl ?_
  intro h2 W2
  refine go_aloadN (v := .ref x) (q := 15) d7_14 rfl rfl rfl ?_
  refine go_aloadN (v := .null) (q := 16) d7_15 rfl rfl rfl ?_
  refine go_putfield (q := 19) (w_56 H) Via.refl ((Fmessage.other W1 (Or.inr sl_message_code)).other W2 (Or.inr sl_message_field)) ((E.wr W1).wr W2) (Or.inr ⟨(w_57 H), rfl, rfl⟩) (w_33 H) (ty := (.object "java/lang/String")) (by decide) rfl rfl (by simp) d7_16 rfl ?_
  intro h3 W3
  refine go_aloadN (v := .ref x) (q := 20) d7_19 rfl rfl rfl ?_
  refine go_aload (v := .ref oe) (q := 22) d7_20 rfl rfl rfl ?_
  refine go_putfield (q := 25) (w_58 H) Via.refl (((Foperation.other W1 (Or.inr sl_operation_code)).other W2 (Or.inr sl_operation_field)).other W3 (Or.inr sl_operation_message)) (((E.wr W1).wr W2).wr W3) (Or.inr ⟨(w_59 H), rfl, rfl⟩) (w_33 H) (ty := (.object "java/util/OptionalInt")) (by decide) rfl rfl (by simp) d7_22 rfl ?_
  intro h4 W4
  exact go_return H (G := []) rfl d7_25 (by decide) (by decide) (fun _ q => nomatch q) ⟨rfl, (((Keep.of_wr W1).wr W2 (Or.inl (by simp))).wr W3 (Or.inl (by simp))).wr W4 (Or.inl (by simp)), ((((Fcode.same W1).other W2 (Or.inr sl_code_field)).other W3 (Or.inr sl_code_message)).other W4 (Or.inr sl_code_operation)), ((((Fmessage.other W1 (Or.inr sl_message_code)).other W2 (Or.inr sl_message_field)).same W3).other W4 (Or.inr sl_message_operation))⟩
set_option maxRecDepth 65536 in
set_option maxHeartbeats 4000000 in
theorem rm_fe3N {l : Launch} {Z : State} {a0 : Array Value} (H : Wd Z a0) {h : Heap} {x ec fs oe : Addr} (SO : Sta Z Z.heap "java/util/OptionalInt" "EMPTY" "Ljava/util/OptionalInt;" (.ref oe)) (E : Exa Z h x "com/example/emendate/emendate/model/FieldError") (Fcode : Fld Z h x "com/example/emendate/emendate/model/FieldError" "code" "Lcom/example/emendate/emendate/model/ErrorCode;" .null) (Ffield : Fld Z h x "com/example/emendate/emendate/model/FieldError" "field" "Ljava/lang/String;" .null) (Fmessage : Fld Z h x "com/example/emendate/emendate/model/FieldError" "message" "Ljava/lang/String;" .null) (Foperation : Fld Z h x "com/example/emendate/emendate/model/FieldError" "operation" "Ljava/util/OptionalInt;" .null) : Met l Z (⟨"com/example/emendate/emendate/model/FieldError", "<init>", "(Lcom/example/emendate/emendate/model/ErrorCode;Ljava/lang/String;Ljava/lang/String;)V"⟩ : MethodName) prog_9_method_1_code 4 none ({ frames := 3, cells := 0, slots := 0, locals := 42 } : Room) h [x] #[.ref x, .ref ec, .ref fs, .null] (fun v h' G => v = none ∧ Keep h h' [x] ∧ Fld Z h' x "com/example/emendate/emendate/model/FieldError" "code" "Lcom/example/emendate/emendate/model/ErrorCode;" (.ref ec) ∧ Fld Z h' x "com/example/emendate/emendate/model/FieldError" "message" "Ljava/lang/String;" .null) := by
  refine Met.mk (L := #[.val (.ref x), .val (.ref ec), .val (.ref fs), .val (.null)]) (plainFor_of_name (by first | (simp [plainName, overriddenIn]; done) | decide +kernel)) (fun m => by first | (simp [entryFrame, mkF, argsToLocals, Value.category]; done) | rfl) (fun K => ?_)
  show Go _ _ K "com/example/emendate/emendate/model/FieldError" "<init>" _ _ _ _ _ _ _ _ _ 0 _ _
  refine go_aloadN (v := .ref x) (q := 1) d5_0 rfl rfl rfl ?_
  refine go_aloadN (v := .ref ec) (q := 2) d5_1 rfl rfl rfl ?_
  refine go_aloadN (v := .ref fs) (q := 3) d5_2 rfl rfl rfl ?_
  refine go_aloadN (v := .null) (q := 4) d5_3 rfl rfl rfl ?_
  refine go_static (c' := 0) (s' := 0) (q := 7) (S := [.null, .ref fs, .ref ec, .ref x]) (argsL := []) H (w_38 H) (w_39 H) (w_40 H) (w_41 H) (by decide) (rm_oe H SO) rfl rfl (lenOf pd_4 rfl) (fun _ q => nomatch q) rfl (by decide) (Nat.le_of_ble_eq_true rfl) rfl rfl (by decide) (by decide) d5_4 rfl ?_
  rintro _ _ G - ⟨rfl, rfl⟩
  refine nx_ (v := none) ?_
  show Go _ _ _ _ _ _ _ _ _ _ _ _ _ _ 7 #[.val (.ref x), .val (.ref ec), .val (.ref fs), .val (.null)] [.ref oe, .null, .ref fs, .ref ec, .ref x]
  refine go_special (c' := 0) (s' := 0) (q := 10) (S := []) (argsL := [.ref ec, .ref fs, .null, .ref oe]) H rfl (w_43 H) (w_44 H) (w_34 H) (w_45 H) (by decide) (rm_fe4N H E Fcode Ffield Fmessage Foperation) rfl rfl (lenOf pd_5 rfl) (fun _ q => q) rfl (by decide) (Nat.le_of_ble_eq_true rfl) rfl rfl (by decide) (by decide) d5_7 rfl ?_
  rintro _ h1 G - ⟨rfl, K1, F1, F2⟩
  refine nx_ (v := none) ?_
  show Go _ _ _ _ _ _ _ _ _ _ _ _ _ _ 10 #[.val (.ref x), .val (.ref ec), .val (.ref fs), .val (.null)] []
  exact go_return H (G := []) rfl d5_10 (by decide) (by decide) (fun _ q => nomatch q) ⟨rfl, K1, F1, F2⟩
set_option maxRecDepth 65536 in
set_option maxHeartbeats 4000000 in
theorem rm_fe4R {l : Launch} {Z : State} {a0 : Array Value} (H : Wd Z a0) {h : Heap} {x ec fs oe ms : Addr} (E : Exa Z h x "com/example/emendate/emendate/model/FieldError") (Fcode : Fld Z h x "com/example/emendate/emendate/model/FieldError" "code" "Lcom/example/emendate/emendate/model/ErrorCode;" .null) (Ffield : Fld Z h x "com/example/emendate/emendate/model/FieldError" "field" "Ljava/lang/String;" .null) (Fmessage : Fld Z h x "com/example/emendate/emendate/model/FieldError" "message" "Ljava/lang/String;" .null) (Foperation : Fld Z h x "com/example/emendate/emendate/model/FieldError" "operation" "Ljava/util/OptionalInt;" .null) : Met l Z (⟨"com/example/emendate/emendate/model/FieldError", "<init>", "(Lcom/example/emendate/emendate/model/ErrorCode;Ljava/lang/String;Ljava/lang/String;Ljava/util/OptionalInt;)V"⟩ : MethodName) prog_9_method_2_code 5 none ({ frames := 2, cells := 0, slots := 0, locals := 24 } : Room) h [x] #[.ref x, .ref ec, .ref fs, .ref ms, .ref oe] (fun v h' G => v = none ∧ Keep h h' [x] ∧ Fld Z h' x "com/example/emendate/emendate/model/FieldError" "code" "Lcom/example/emendate/emendate/model/ErrorCode;" (.ref ec) ∧ Fld Z h' x "com/example/emendate/emendate/model/FieldError" "message" "Ljava/lang/String;" (.ref ms)) := by
  refine Met.mk (L := #[.val (.ref x), .val (.ref ec), .val (.ref fs), .val (.ref ms), .val (.ref oe)]) (plainFor_of_name (by first | (simp [plainName, overriddenIn]; done) | decide +kernel)) (fun m => by first | (simp [entryFrame, mkF, argsToLocals, Value.category]; done) | rfl) (fun K => ?_)
  show Go _ _ K "com/example/emendate/emendate/model/FieldError" "<init>" _ _ _ _ _ _ _ _ _ 0 _ _
  have sl_code_field : RoadKit.slotOf Z "com/example/emendate/emendate/model/FieldError" "code" "Lcom/example/emendate/emendate/model/ErrorCode;" ≠ RoadKit.slotOf Z "com/example/emendate/emendate/model/FieldError" "field" "Ljava/lang/String;" := slot_ne (C := "com/example/emendate/emendate/model/FieldError") (Or.inr (w_53 H)) (Or.inr (w_55 H)) (by decide) (t := (.object "com/example/emendate/emendate/model/ErrorCode")) (t' := (.object "java/lang/String")) (by decide) (by decide)
  have sl_code_message : RoadKit.slotOf Z "com/example/emendate/emendate/model/FieldError" "code" "Lcom/example/emendate/emendate/model/ErrorCode;" ≠ RoadKit.slotOf Z "com/example/emendate/emendate/model/FieldError" "message" "Ljava/lang/String;" := slot_ne (C := "com/example/emendate/emendate/model/FieldError") (Or.inr (w_53 H)) (Or.inr (w_57 H)) (by decide) (t := (.object "com/example/emendate/emendate/model/ErrorCode")) (t' := (.object "java/lang/String")) (by decide) (by decide)
  have sl_code_operation : RoadKit.slotOf Z "com/example/emendate/emendate/model/FieldError" "code" "Lcom/example/emendate/emendate/model/ErrorCode;" ≠ RoadKit.slotOf Z "com/example/emendate/emendate/model/FieldError" "operation" "Ljava/util/OptionalInt;" := slot_ne (C := "com/example/emendate/emendate/model/FieldError") (Or.inr (w_53 H)) (Or.inr (w_59 H)) (by decide) (t := (.object "com/example/emendate/emendate/model/ErrorCode")) (t' := (.object "java/util/OptionalInt")) (by decide) (by decide)
  have sl_field_code : RoadKit.slotOf Z "com/example/emendate/emendate/model/FieldError" "field" "Ljava/lang/String;" ≠ RoadKit.slotOf Z "com/example/emendate/emendate/model/FieldError" "code" "Lcom/example/emendate/emendate/model/ErrorCode;" := slot_ne (C := "com/example/emendate/emendate/model/FieldError") (Or.inr (w_55 H)) (Or.inr (w_53 H)) (by decide) (t := (.object "java/lang/String")) (t' := (.object "com/example/emendate/emendate/model/ErrorCode")) (by decide) (by decide)
  have sl_field_message : RoadKit.slotOf Z "com/example/emendate/emendate/model/FieldError" "field" "Ljava/lang/String;" ≠ RoadKit.slotOf Z "com/example/emendate/emendate/model/FieldError" "message" "Ljava/lang/String;" := slot_ne (C := "com/example/emendate/emendate/model/FieldError") (Or.inr (w_55 H)) (Or.inr (w_57 H)) (by decide) (t := (.object "java/lang/String")) (t' := (.object "java/lang/String")) (by decide) (by decide)
  have sl_field_operation : RoadKit.slotOf Z "com/example/emendate/emendate/model/FieldError" "field" "Ljava/lang/String;" ≠ RoadKit.slotOf Z "com/example/emendate/emendate/model/FieldError" "operation" "Ljava/util/OptionalInt;" := slot_ne (C := "com/example/emendate/emendate/model/FieldError") (Or.inr (w_55 H)) (Or.inr (w_59 H)) (by decide) (t := (.object "java/lang/String")) (t' := (.object "java/util/OptionalInt")) (by decide) (by decide)
  have sl_message_code : RoadKit.slotOf Z "com/example/emendate/emendate/model/FieldError" "message" "Ljava/lang/String;" ≠ RoadKit.slotOf Z "com/example/emendate/emendate/model/FieldError" "code" "Lcom/example/emendate/emendate/model/ErrorCode;" := slot_ne (C := "com/example/emendate/emendate/model/FieldError") (Or.inr (w_57 H)) (Or.inr (w_53 H)) (by decide) (t := (.object "java/lang/String")) (t' := (.object "com/example/emendate/emendate/model/ErrorCode")) (by decide) (by decide)
  have sl_message_field : RoadKit.slotOf Z "com/example/emendate/emendate/model/FieldError" "message" "Ljava/lang/String;" ≠ RoadKit.slotOf Z "com/example/emendate/emendate/model/FieldError" "field" "Ljava/lang/String;" := slot_ne (C := "com/example/emendate/emendate/model/FieldError") (Or.inr (w_57 H)) (Or.inr (w_55 H)) (by decide) (t := (.object "java/lang/String")) (t' := (.object "java/lang/String")) (by decide) (by decide)
  have sl_message_operation : RoadKit.slotOf Z "com/example/emendate/emendate/model/FieldError" "message" "Ljava/lang/String;" ≠ RoadKit.slotOf Z "com/example/emendate/emendate/model/FieldError" "operation" "Ljava/util/OptionalInt;" := slot_ne (C := "com/example/emendate/emendate/model/FieldError") (Or.inr (w_57 H)) (Or.inr (w_59 H)) (by decide) (t := (.object "java/lang/String")) (t' := (.object "java/util/OptionalInt")) (by decide) (by decide)
  have sl_operation_code : RoadKit.slotOf Z "com/example/emendate/emendate/model/FieldError" "operation" "Ljava/util/OptionalInt;" ≠ RoadKit.slotOf Z "com/example/emendate/emendate/model/FieldError" "code" "Lcom/example/emendate/emendate/model/ErrorCode;" := slot_ne (C := "com/example/emendate/emendate/model/FieldError") (Or.inr (w_59 H)) (Or.inr (w_53 H)) (by decide) (t := (.object "java/util/OptionalInt")) (t' := (.object "com/example/emendate/emendate/model/ErrorCode")) (by decide) (by decide)
  have sl_operation_field : RoadKit.slotOf Z "com/example/emendate/emendate/model/FieldError" "operation" "Ljava/util/OptionalInt;" ≠ RoadKit.slotOf Z "com/example/emendate/emendate/model/FieldError" "field" "Ljava/lang/String;" := slot_ne (C := "com/example/emendate/emendate/model/FieldError") (Or.inr (w_59 H)) (Or.inr (w_55 H)) (by decide) (t := (.object "java/util/OptionalInt")) (t' := (.object "java/lang/String")) (by decide) (by decide)
  have sl_operation_message : RoadKit.slotOf Z "com/example/emendate/emendate/model/FieldError" "operation" "Ljava/util/OptionalInt;" ≠ RoadKit.slotOf Z "com/example/emendate/emendate/model/FieldError" "message" "Ljava/lang/String;" := slot_ne (C := "com/example/emendate/emendate/model/FieldError") (Or.inr (w_59 H)) (Or.inr (w_57 H)) (by decide) (t := (.object "java/util/OptionalInt")) (t' := (.object "java/lang/String")) (by decide) (by decide)
  refine go_aloadN (v := .ref x) (q := 1) d7_0 rfl rfl rfl ?_
  refine go_special (c' := 0) (s' := 0) (q := 4) (S := []) (argsL := []) H rfl (w_46 H) (w_47 H) (w_49 H) (w_50 H) (by decide) (rm_rec H) rfl rfl (lenOf pd_0 rfl) (fun _ q => nomatch q) rfl (by decide) (Nat.le_of_ble_eq_true rfl) rfl rfl (by decide) (by decide) d7_1 rfl ?_
  rintro _ _ G - ⟨rfl, rfl⟩
  refine nx_ (v := none) ?_
  show Go _ _ _ _ _ _ _ _ _ _ _ _ _ _ 4 #[.val (.ref x), .val (.ref ec), .val (.ref fs), .val (.ref ms), .val (.ref oe)] []
  refine go_aloadN (v := .ref x) (q := 5) d7_4 rfl rfl rfl ?_
  refine go_aloadN (v := .ref ec) (q := 6) d7_5 rfl rfl rfl ?_
  refine go_putfield (q := 9) (w_52 H) Via.refl Fcode E (Or.inr ⟨(w_53 H), rfl, rfl⟩) (w_33 H) (ty := (.object "com/example/emendate/emendate/model/ErrorCode")) (by decide) rfl rfl (by simp) d7_6 rfl ?_
  intro h1 W1
  refine go_aloadN (v := .ref x) (q := 10) d7_9 rfl rfl rfl ?_
  refine go_aloadN (v := .ref fs) (q := 11) d7_10 rfl rfl rfl ?_
  refine go_putfield (q := 14) (w_54 H) Via.refl (Ffield.other W1 (Or.inr sl_field_code)) (E.wr W1) (Or.inr ⟨(w_55 H), rfl, rfl⟩) (w_33 H) (ty := (.object "java/lang/String")) (by decide) rfl rfl (by simp) d7_11 rfl ?_
  intro h2 W2
  refine go_aloadN (v := .ref x) (q := 15) d7_14 rfl rfl rfl ?_
  refine go_aloadN (v := .ref ms) (q := 16) d7_15 rfl rfl rfl ?_
  refine go_putfield (q := 19) (w_56 H) Via.refl ((Fmessage.other W1 (Or.inr sl_message_code)).other W2 (Or.inr sl_message_field)) ((E.wr W1).wr W2) (Or.inr ⟨(w_57 H), rfl, rfl⟩) (w_33 H) (ty := (.object "java/lang/String")) (by decide) rfl rfl (by simp) d7_16 rfl ?_
  intro h3 W3
  refine go_aloadN (v := .ref x) (q := 20) d7_19 rfl rfl rfl ?_
  refine go_aload (v := .ref oe) (q := 22) d7_20 rfl rfl rfl ?_
  refine go_putfield (q := 25) (w_58 H) Via.refl (((Foperation.other W1 (Or.inr sl_operation_code)).other W2 (Or.inr sl_operation_field)).other W3 (Or.inr sl_operation_message)) (((E.wr W1).wr W2).wr W3) (Or.inr ⟨(w_59 H), rfl, rfl⟩) (w_33 H) (ty := (.object "java/util/OptionalInt")) (by decide) rfl rfl (by simp) d7_22 rfl ?_
  intro h4 W4
  exact go_return H (G := []) rfl d7_25 (by decide) (by decide) (fun _ q => nomatch q) ⟨rfl, (((Keep.of_wr W1).wr W2 (Or.inl (by simp))).wr W3 (Or.inl (by simp))).wr W4 (Or.inl (by simp)), ((((Fcode.same W1).other W2 (Or.inr sl_code_field)).other W3 (Or.inr sl_code_message)).other W4 (Or.inr sl_code_operation)), ((((Fmessage.other W1 (Or.inr sl_message_code)).other W2 (Or.inr sl_message_field)).same W3).other W4 (Or.inr sl_message_operation))⟩
set_option maxRecDepth 65536 in
set_option maxHeartbeats 4000000 in
theorem rm_fe3R {l : Launch} {Z : State} {a0 : Array Value} (H : Wd Z a0) {h : Heap} {x ec fs oe ms : Addr} (SO : Sta Z Z.heap "java/util/OptionalInt" "EMPTY" "Ljava/util/OptionalInt;" (.ref oe)) (E : Exa Z h x "com/example/emendate/emendate/model/FieldError") (Fcode : Fld Z h x "com/example/emendate/emendate/model/FieldError" "code" "Lcom/example/emendate/emendate/model/ErrorCode;" .null) (Ffield : Fld Z h x "com/example/emendate/emendate/model/FieldError" "field" "Ljava/lang/String;" .null) (Fmessage : Fld Z h x "com/example/emendate/emendate/model/FieldError" "message" "Ljava/lang/String;" .null) (Foperation : Fld Z h x "com/example/emendate/emendate/model/FieldError" "operation" "Ljava/util/OptionalInt;" .null) : Met l Z (⟨"com/example/emendate/emendate/model/FieldError", "<init>", "(Lcom/example/emendate/emendate/model/ErrorCode;Ljava/lang/String;Ljava/lang/String;)V"⟩ : MethodName) prog_9_method_1_code 4 none ({ frames := 3, cells := 0, slots := 0, locals := 42 } : Room) h [x] #[.ref x, .ref ec, .ref fs, .ref ms] (fun v h' G => v = none ∧ Keep h h' [x] ∧ Fld Z h' x "com/example/emendate/emendate/model/FieldError" "code" "Lcom/example/emendate/emendate/model/ErrorCode;" (.ref ec) ∧ Fld Z h' x "com/example/emendate/emendate/model/FieldError" "message" "Ljava/lang/String;" (.ref ms)) := by
  refine Met.mk (L := #[.val (.ref x), .val (.ref ec), .val (.ref fs), .val (.ref ms)]) (plainFor_of_name (by first | (simp [plainName, overriddenIn]; done) | decide +kernel)) (fun m => by first | (simp [entryFrame, mkF, argsToLocals, Value.category]; done) | rfl) (fun K => ?_)
  show Go _ _ K "com/example/emendate/emendate/model/FieldError" "<init>" _ _ _ _ _ _ _ _ _ 0 _ _
  refine go_aloadN (v := .ref x) (q := 1) d5_0 rfl rfl rfl ?_
  refine go_aloadN (v := .ref ec) (q := 2) d5_1 rfl rfl rfl ?_
  refine go_aloadN (v := .ref fs) (q := 3) d5_2 rfl rfl rfl ?_
  refine go_aloadN (v := .ref ms) (q := 4) d5_3 rfl rfl rfl ?_
  refine go_static (c' := 0) (s' := 0) (q := 7) (S := [.ref ms, .ref fs, .ref ec, .ref x]) (argsL := []) H (w_38 H) (w_39 H) (w_40 H) (w_41 H) (by decide) (rm_oe H SO) rfl rfl (lenOf pd_4 rfl) (fun _ q => nomatch q) rfl (by decide) (Nat.le_of_ble_eq_true rfl) rfl rfl (by decide) (by decide) d5_4 rfl ?_
  rintro _ _ G - ⟨rfl, rfl⟩
  refine nx_ (v := none) ?_
  show Go _ _ _ _ _ _ _ _ _ _ _ _ _ _ 7 #[.val (.ref x), .val (.ref ec), .val (.ref fs), .val (.ref ms)] [.ref oe, .ref ms, .ref fs, .ref ec, .ref x]
  refine go_special (c' := 0) (s' := 0) (q := 10) (S := []) (argsL := [.ref ec, .ref fs, .ref ms, .ref oe]) H rfl (w_43 H) (w_44 H) (w_34 H) (w_45 H) (by decide) (rm_fe4R H E Fcode Ffield Fmessage Foperation) rfl rfl (lenOf pd_5 rfl) (fun _ q => q) rfl (by decide) (Nat.le_of_ble_eq_true rfl) rfl rfl (by decide) (by decide) d5_7 rfl ?_
  rintro _ h1 G - ⟨rfl, K1, F1, F2⟩
  refine nx_ (v := none) ?_
  show Go _ _ _ _ _ _ _ _ _ _ _ _ _ _ 10 #[.val (.ref x), .val (.ref ec), .val (.ref fs), .val (.ref ms)] []
  exact go_return H (G := []) rfl d5_10 (by decide) (by decide) (fun _ q => nomatch q) ⟨rfl, K1, F1, F2⟩
set_option maxRecDepth 65536 in
set_option maxHeartbeats 4000000 in
theorem rm_thN {l : Launch} {Z : State} {a0 : Array Value} (H : Wd Z a0) {h : Heap} {x : Addr} {us sl : Value} (US : Sta Z Z.heap "java/lang/Throwable" "UNASSIGNED_STACK" "[Ljava/lang/StackTraceElement;" us) (hus : us.isRef = true) (SL : Sta Z Z.heap "java/lang/Throwable" "SUPPRESSED_SENTINEL" "Ljava/util/List;" sl) (hsl : sl.isRef = true) (E : Exa Z h x "com/example/emendate/emendate/model/Problem") (Fcause : Fld Z h x "java/lang/Throwable" "cause" "Ljava/lang/Throwable;" .null) (FstackTrace : Fld Z h x "java/lang/Throwable" "stackTrace" "[Ljava/lang/StackTraceElement;" .null) (FsuppressedExceptions : Fld Z h x "java/lang/Throwable" "suppressedExceptions" "Ljava/util/List;" .null) (FdetailMessage : Fld Z h x "java/lang/Throwable" "detailMessage" "Ljava/lang/String;" .null) (Fcode : Fld Z h x "com/example/emendate/emendate/model/Problem" "code" "Lcom/example/emendate/emendate/model/ErrorCode;" .null) (Ferrors : Fld Z h x "com/example/emendate/emendate/model/Problem" "errors" "Ljava/util/List;" .null) (FretryAfter : Fld Z h x "com/example/emendate/emendate/model/Problem" "retryAfter" "Ljava/time/Duration;" .null) : Met l Z (⟨"java/lang/Throwable", "<init>", "(Ljava/lang/String;Ljava/lang/Throwable;ZZ)V"⟩ : MethodName) jdk_78_method_5_code 5 none ({ frames := 1, cells := 0, slots := 0, locals := 13 } : Room) h [x] #[.ref x, .null, .null, .int 0, .int 0] (fun v h' G => v = none ∧ Keep h h' [x] ∧ Fld Z h' x "java/lang/Throwable" "detailMessage" "Ljava/lang/String;" .null ∧ Fld Z h' x "com/example/emendate/emendate/model/Problem" "code" "Lcom/example/emendate/emendate/model/ErrorCode;" .null ∧ Fld Z h' x "com/example/emendate/emendate/model/Problem" "errors" "Ljava/util/List;" .null ∧ Fld Z h' x "com/example/emendate/emendate/model/Problem" "retryAfter" "Ljava/time/Duration;" .null) := by
  refine Met.mk (L := #[.val (.ref x), .val (.null), .val (.null), .val (.int 0), .val (.int 0)]) (by decide +kernel) (fun m => by first | (simp [entryFrame, mkF, argsToLocals, Value.category]; done) | rfl) (fun K => ?_)
  show Go _ _ K "java/lang/Throwable" "<init>" _ _ _ _ _ _ _ _ _ 0 _ _
  have sl_stackTrace_cause : RoadKit.slotOf Z "java/lang/Throwable" "stackTrace" "[Ljava/lang/StackTraceElement;" ≠ RoadKit.slotOf Z "java/lang/Throwable" "cause" "Ljava/lang/Throwable;" := slot_ne (C := "com/example/emendate/emendate/model/Problem") (Or.inl (w_135 H)) (Or.inl (w_132 H)) (by decide) (t := (.array (.object "java/lang/StackTraceElement"))) (t' := (.object "java/lang/Throwable")) (by decide) (by decide)
  have sl_suppressedExceptions_cause : RoadKit.slotOf Z "java/lang/Throwable" "suppressedExceptions" "Ljava/util/List;" ≠ RoadKit.slotOf Z "java/lang/Throwable" "cause" "Ljava/lang/Throwable;" := slot_ne (C := "com/example/emendate/emendate/model/Problem") (Or.inl (w_138 H)) (Or.inl (w_132 H)) (by decide) (t := (.object "java/util/List")) (t' := (.object "java/lang/Throwable")) (by decide) (by decide)
  have sl_detailMessage_cause : RoadKit.slotOf Z "java/lang/Throwable" "detailMessage" "Ljava/lang/String;" ≠ RoadKit.slotOf Z "java/lang/Throwable" "cause" "Ljava/lang/Throwable;" := slot_ne (C := "com/example/emendate/emendate/model/Problem") (Or.inl (w_140 H)) (Or.inl (w_132 H)) (by decide) (t := (.object "java/lang/String")) (t' := (.object "java/lang/Throwable")) (by decide) (by decide)
  have sl_code_cause : RoadKit.slotOf Z "com/example/emendate/emendate/model/Problem" "code" "Lcom/example/emendate/emendate/model/ErrorCode;" ≠ RoadKit.slotOf Z "java/lang/Throwable" "cause" "Ljava/lang/Throwable;" := slot_ne (C := "com/example/emendate/emendate/model/Problem") (Or.inr (w_142 H)) (Or.inl (w_132 H)) (by decide) (t := (.object "com/example/emendate/emendate/model/ErrorCode")) (t' := (.object "java/lang/Throwable")) (by decide) (by decide)
  have sl_errors_cause : RoadKit.slotOf Z "com/example/emendate/emendate/model/Problem" "errors" "Ljava/util/List;" ≠ RoadKit.slotOf Z "java/lang/Throwable" "cause" "Ljava/lang/Throwable;" := slot_ne (C := "com/example/emendate/emendate/model/Problem") (Or.inr (w_153 H)) (Or.inl (w_132 H)) (by decide) (t := (.object "java/util/List")) (t' := (.object "java/lang/Throwable")) (by decide) (by decide)
  have sl_retryAfter_cause : RoadKit.slotOf Z "com/example/emendate/emendate/model/Problem" "retryAfter" "Ljava/time/Duration;" ≠ RoadKit.slotOf Z "java/lang/Throwable" "cause" "Ljava/lang/Throwable;" := slot_ne (C := "com/example/emendate/emendate/model/Problem") (Or.inr (w_155 H)) (Or.inl (w_132 H)) (by decide) (t := (.object "java/time/Duration")) (t' := (.object "java/lang/Throwable")) (by decide) (by decide)
  have sl_cause_stackTrace : RoadKit.slotOf Z "java/lang/Throwable" "cause" "Ljava/lang/Throwable;" ≠ RoadKit.slotOf Z "java/lang/Throwable" "stackTrace" "[Ljava/lang/StackTraceElement;" := slot_ne (C := "com/example/emendate/emendate/model/Problem") (Or.inl (w_132 H)) (Or.inl (w_135 H)) (by decide) (t := (.object "java/lang/Throwable")) (t' := (.array (.object "java/lang/StackTraceElement"))) (by decide) (by decide)
  have sl_suppressedExceptions_stackTrace : RoadKit.slotOf Z "java/lang/Throwable" "suppressedExceptions" "Ljava/util/List;" ≠ RoadKit.slotOf Z "java/lang/Throwable" "stackTrace" "[Ljava/lang/StackTraceElement;" := slot_ne (C := "com/example/emendate/emendate/model/Problem") (Or.inl (w_138 H)) (Or.inl (w_135 H)) (by decide) (t := (.object "java/util/List")) (t' := (.array (.object "java/lang/StackTraceElement"))) (by decide) (by decide)
  have sl_detailMessage_stackTrace : RoadKit.slotOf Z "java/lang/Throwable" "detailMessage" "Ljava/lang/String;" ≠ RoadKit.slotOf Z "java/lang/Throwable" "stackTrace" "[Ljava/lang/StackTraceElement;" := slot_ne (C := "com/example/emendate/emendate/model/Problem") (Or.inl (w_140 H)) (Or.inl (w_135 H)) (by decide) (t := (.object "java/lang/String")) (t' := (.array (.object "java/lang/StackTraceElement"))) (by decide) (by decide)
  have sl_code_stackTrace : RoadKit.slotOf Z "com/example/emendate/emendate/model/Problem" "code" "Lcom/example/emendate/emendate/model/ErrorCode;" ≠ RoadKit.slotOf Z "java/lang/Throwable" "stackTrace" "[Ljava/lang/StackTraceElement;" := slot_ne (C := "com/example/emendate/emendate/model/Problem") (Or.inr (w_142 H)) (Or.inl (w_135 H)) (by decide) (t := (.object "com/example/emendate/emendate/model/ErrorCode")) (t' := (.array (.object "java/lang/StackTraceElement"))) (by decide) (by decide)
  have sl_errors_stackTrace : RoadKit.slotOf Z "com/example/emendate/emendate/model/Problem" "errors" "Ljava/util/List;" ≠ RoadKit.slotOf Z "java/lang/Throwable" "stackTrace" "[Ljava/lang/StackTraceElement;" := slot_ne (C := "com/example/emendate/emendate/model/Problem") (Or.inr (w_153 H)) (Or.inl (w_135 H)) (by decide) (t := (.object "java/util/List")) (t' := (.array (.object "java/lang/StackTraceElement"))) (by decide) (by decide)
  have sl_retryAfter_stackTrace : RoadKit.slotOf Z "com/example/emendate/emendate/model/Problem" "retryAfter" "Ljava/time/Duration;" ≠ RoadKit.slotOf Z "java/lang/Throwable" "stackTrace" "[Ljava/lang/StackTraceElement;" := slot_ne (C := "com/example/emendate/emendate/model/Problem") (Or.inr (w_155 H)) (Or.inl (w_135 H)) (by decide) (t := (.object "java/time/Duration")) (t' := (.array (.object "java/lang/StackTraceElement"))) (by decide) (by decide)
  have sl_cause_suppressedExceptions : RoadKit.slotOf Z "java/lang/Throwable" "cause" "Ljava/lang/Throwable;" ≠ RoadKit.slotOf Z "java/lang/Throwable" "suppressedExceptions" "Ljava/util/List;" := slot_ne (C := "com/example/emendate/emendate/model/Problem") (Or.inl (w_132 H)) (Or.inl (w_138 H)) (by decide) (t := (.object "java/lang/Throwable")) (t' := (.object "java/util/List")) (by decide) (by decide)
  have sl_stackTrace_suppressedExceptions : RoadKit.slotOf Z "java/lang/Throwable" "stackTrace" "[Ljava/lang/StackTraceElement;" ≠ RoadKit.slotOf Z "java/lang/Throwable" "suppressedExceptions" "Ljava/util/List;" := slot_ne (C := "com/example/emendate/emendate/model/Problem") (Or.inl (w_135 H)) (Or.inl (w_138 H)) (by decide) (t := (.array (.object "java/lang/StackTraceElement"))) (t' := (.object "java/util/List")) (by decide) (by decide)
  have sl_detailMessage_suppressedExceptions : RoadKit.slotOf Z "java/lang/Throwable" "detailMessage" "Ljava/lang/String;" ≠ RoadKit.slotOf Z "java/lang/Throwable" "suppressedExceptions" "Ljava/util/List;" := slot_ne (C := "com/example/emendate/emendate/model/Problem") (Or.inl (w_140 H)) (Or.inl (w_138 H)) (by decide) (t := (.object "java/lang/String")) (t' := (.object "java/util/List")) (by decide) (by decide)
  have sl_code_suppressedExceptions : RoadKit.slotOf Z "com/example/emendate/emendate/model/Problem" "code" "Lcom/example/emendate/emendate/model/ErrorCode;" ≠ RoadKit.slotOf Z "java/lang/Throwable" "suppressedExceptions" "Ljava/util/List;" := slot_ne (C := "com/example/emendate/emendate/model/Problem") (Or.inr (w_142 H)) (Or.inl (w_138 H)) (by decide) (t := (.object "com/example/emendate/emendate/model/ErrorCode")) (t' := (.object "java/util/List")) (by decide) (by decide)
  have sl_errors_suppressedExceptions : RoadKit.slotOf Z "com/example/emendate/emendate/model/Problem" "errors" "Ljava/util/List;" ≠ RoadKit.slotOf Z "java/lang/Throwable" "suppressedExceptions" "Ljava/util/List;" := slot_ne (C := "com/example/emendate/emendate/model/Problem") (Or.inr (w_153 H)) (Or.inl (w_138 H)) (by decide) (t := (.object "java/util/List")) (t' := (.object "java/util/List")) (by decide) (by decide)
  have sl_retryAfter_suppressedExceptions : RoadKit.slotOf Z "com/example/emendate/emendate/model/Problem" "retryAfter" "Ljava/time/Duration;" ≠ RoadKit.slotOf Z "java/lang/Throwable" "suppressedExceptions" "Ljava/util/List;" := slot_ne (C := "com/example/emendate/emendate/model/Problem") (Or.inr (w_155 H)) (Or.inl (w_138 H)) (by decide) (t := (.object "java/time/Duration")) (t' := (.object "java/util/List")) (by decide) (by decide)
  have sl_cause_detailMessage : RoadKit.slotOf Z "java/lang/Throwable" "cause" "Ljava/lang/Throwable;" ≠ RoadKit.slotOf Z "java/lang/Throwable" "detailMessage" "Ljava/lang/String;" := slot_ne (C := "com/example/emendate/emendate/model/Problem") (Or.inl (w_132 H)) (Or.inl (w_140 H)) (by decide) (t := (.object "java/lang/Throwable")) (t' := (.object "java/lang/String")) (by decide) (by decide)
  have sl_stackTrace_detailMessage : RoadKit.slotOf Z "java/lang/Throwable" "stackTrace" "[Ljava/lang/StackTraceElement;" ≠ RoadKit.slotOf Z "java/lang/Throwable" "detailMessage" "Ljava/lang/String;" := slot_ne (C := "com/example/emendate/emendate/model/Problem") (Or.inl (w_135 H)) (Or.inl (w_140 H)) (by decide) (t := (.array (.object "java/lang/StackTraceElement"))) (t' := (.object "java/lang/String")) (by decide) (by decide)
  have sl_suppressedExceptions_detailMessage : RoadKit.slotOf Z "java/lang/Throwable" "suppressedExceptions" "Ljava/util/List;" ≠ RoadKit.slotOf Z "java/lang/Throwable" "detailMessage" "Ljava/lang/String;" := slot_ne (C := "com/example/emendate/emendate/model/Problem") (Or.inl (w_138 H)) (Or.inl (w_140 H)) (by decide) (t := (.object "java/util/List")) (t' := (.object "java/lang/String")) (by decide) (by decide)
  have sl_code_detailMessage : RoadKit.slotOf Z "com/example/emendate/emendate/model/Problem" "code" "Lcom/example/emendate/emendate/model/ErrorCode;" ≠ RoadKit.slotOf Z "java/lang/Throwable" "detailMessage" "Ljava/lang/String;" := slot_ne (C := "com/example/emendate/emendate/model/Problem") (Or.inr (w_142 H)) (Or.inl (w_140 H)) (by decide) (t := (.object "com/example/emendate/emendate/model/ErrorCode")) (t' := (.object "java/lang/String")) (by decide) (by decide)
  have sl_errors_detailMessage : RoadKit.slotOf Z "com/example/emendate/emendate/model/Problem" "errors" "Ljava/util/List;" ≠ RoadKit.slotOf Z "java/lang/Throwable" "detailMessage" "Ljava/lang/String;" := slot_ne (C := "com/example/emendate/emendate/model/Problem") (Or.inr (w_153 H)) (Or.inl (w_140 H)) (by decide) (t := (.object "java/util/List")) (t' := (.object "java/lang/String")) (by decide) (by decide)
  have sl_retryAfter_detailMessage : RoadKit.slotOf Z "com/example/emendate/emendate/model/Problem" "retryAfter" "Ljava/time/Duration;" ≠ RoadKit.slotOf Z "java/lang/Throwable" "detailMessage" "Ljava/lang/String;" := slot_ne (C := "com/example/emendate/emendate/model/Problem") (Or.inr (w_155 H)) (Or.inl (w_140 H)) (by decide) (t := (.object "java/time/Duration")) (t' := (.object "java/lang/String")) (by decide) (by decide)
  refine go_aloadN (v := .ref x) (q := 1) d20_0 rfl rfl rfl ?_
  refine go_initO (q := 4) (w_130 H) (w_22 H) (w_23 H) rfl d20_1 rfl (by decide) (Nat.le_of_ble_eq_true rfl) ?_
  refine go_aloadN (v := .ref x) (q := 5) d20_4 rfl rfl rfl ?_
  refine go_aloadN (v := .ref x) (q := 6) d20_5 rfl rfl rfl ?_
  refine go_putfield (q := 9) (w_131 H) Via.refl Fcause E (Or.inl (w_132 H)) (w_65 H) (ty := (.object "java/lang/Throwable")) (by decide) rfl rfl (by simp) d20_6 rfl ?_
  intro h1 W1
  refine go_aloadN (v := .ref x) (q := 10) d20_9 rfl rfl rfl ?_
  refine go_getstatic (v := us) (q := 13) (w_133 H) Via.refl US d20_10 rfl ?_
  refine go_putfield (q := 16) (w_134 H) Via.refl (FstackTrace.other W1 (Or.inr sl_stackTrace_cause)) (E.wr W1) (Or.inl (w_135 H)) (w_65 H) (ty := (.array (.object "java/lang/StackTraceElement"))) (by decide) (nref rfl hus) (fref rfl hus) (by simp) d20_13 rfl ?_
  intro h2 W2
  refine go_aloadN (v := .ref x) (q := 17) d20_16 rfl rfl rfl ?_
  refine go_getstatic (v := sl) (q := 20) (w_136 H) Via.refl SL d20_17 rfl ?_
  refine go_putfield (q := 23) (w_137 H) Via.refl ((FsuppressedExceptions.other W1 (Or.inr sl_suppressedExceptions_cause)).other W2 (Or.inr sl_suppressedExceptions_stackTrace)) ((E.wr W1).wr W2) (Or.inl (w_138 H)) (w_65 H) (ty := (.object "java/util/List")) (by decide) (nref rfl hsl) (fref rfl hsl) (by simp) d20_20 rfl ?_
  intro h3 W3
  refine go_iload (v := 0) (q := 25) d20_23 rfl rfl ?_
  refine go_ifY (q := 36) d20_25 (by decide) (by decide) (by decide) ?_
  refine go_aloadN (v := .ref x) (q := 37) d20_36 rfl rfl rfl ?_
  refine go_null (q := 38) d20_37 rfl ?_
  refine go_putfield (q := 41) (w_134 H) Via.refl (((FstackTrace.other W1 (Or.inr sl_stackTrace_cause)).same W2).other W3 (Or.inr sl_stackTrace_suppressedExceptions)) (((E.wr W1).wr W2).wr W3) (Or.inl (w_135 H)) (w_65 H) (ty := (.array (.object "java/lang/StackTraceElement"))) (by decide) rfl rfl (by simp) d20_38 rfl ?_
  intro h4 W4
  refine go_aloadN (v := .ref x) (q := 42) d20_41 rfl rfl rfl ?_
  refine go_aloadN (v := .null) (q := 43) d20_42 rfl rfl rfl ?_
  refine go_putfield (q := 46) (w_139 H) Via.refl ((((FdetailMessage.other W1 (Or.inr sl_detailMessage_cause)).other W2 (Or.inr sl_detailMessage_stackTrace)).other W3 (Or.inr sl_detailMessage_suppressedExceptions)).other W4 (Or.inr sl_detailMessage_stackTrace)) ((((E.wr W1).wr W2).wr W3).wr W4) (Or.inl (w_140 H)) (w_65 H) (ty := (.object "java/lang/String")) (by decide) rfl rfl (by simp) d20_43 rfl ?_
  intro h5 W5
  refine go_aloadN (v := .ref x) (q := 47) d20_46 rfl rfl rfl ?_
  refine go_aloadN (v := .null) (q := 48) d20_47 rfl rfl rfl ?_
  refine go_putfield (q := 51) (w_131 H) Via.refl (((((Fcause.same W1).other W2 (Or.inr sl_cause_stackTrace)).other W3 (Or.inr sl_cause_suppressedExceptions)).other W4 (Or.inr sl_cause_stackTrace)).other W5 (Or.inr sl_cause_detailMessage)) (((((E.wr W1).wr W2).wr W3).wr W4).wr W5) (Or.inl (w_132 H)) (w_65 H) (ty := (.object "java/lang/Throwable")) (by decide) rfl rfl (by simp) d20_48 rfl ?_
  intro h6 W6
  refine go_iloadN (v := 0) (q := 52) d20_51 rfl rfl ?_
  refine go_ifN (q := 55) d20_52 (by decide) rfl ?_
  refine go_aloadN (v := .ref x) (q := 56) d20_55 rfl rfl rfl ?_
  refine go_null (q := 57) d20_56 rfl ?_
  refine go_putfield (q := 60) (w_137 H) Via.refl ((((((FsuppressedExceptions.other W1 (Or.inr sl_suppressedExceptions_cause)).other W2 (Or.inr sl_suppressedExceptions_stackTrace)).same W3).other W4 (Or.inr sl_suppressedExceptions_stackTrace)).other W5 (Or.inr sl_suppressedExceptions_detailMessage)).other W6 (Or.inr sl_suppressedExceptions_cause)) ((((((E.wr W1).wr W2).wr W3).wr W4).wr W5).wr W6) (Or.inl (w_138 H)) (w_65 H) (ty := (.object "java/util/List")) (by decide) rfl rfl (by simp) d20_57 rfl ?_
  intro h7 W7
  exact go_return H (G := []) rfl d20_60 (by decide) (by decide) (fun _ q => nomatch q) ⟨rfl, ((((((Keep.of_wr W1).wr W2 (Or.inl (by simp))).wr W3 (Or.inl (by simp))).wr W4 (Or.inl (by simp))).wr W5 (Or.inl (by simp))).wr W6 (Or.inl (by simp))).wr W7 (Or.inl (by simp)), (((((((FdetailMessage.other W1 (Or.inr sl_detailMessage_cause)).other W2 (Or.inr sl_detailMessage_stackTrace)).other W3 (Or.inr sl_detailMessage_suppressedExceptions)).other W4 (Or.inr sl_detailMessage_stackTrace)).same W5).other W6 (Or.inr sl_detailMessage_cause)).other W7 (Or.inr sl_detailMessage_suppressedExceptions)), (((((((Fcode.other W1 (Or.inr sl_code_cause)).other W2 (Or.inr sl_code_stackTrace)).other W3 (Or.inr sl_code_suppressedExceptions)).other W4 (Or.inr sl_code_stackTrace)).other W5 (Or.inr sl_code_detailMessage)).other W6 (Or.inr sl_code_cause)).other W7 (Or.inr sl_code_suppressedExceptions)), (((((((Ferrors.other W1 (Or.inr sl_errors_cause)).other W2 (Or.inr sl_errors_stackTrace)).other W3 (Or.inr sl_errors_suppressedExceptions)).other W4 (Or.inr sl_errors_stackTrace)).other W5 (Or.inr sl_errors_detailMessage)).other W6 (Or.inr sl_errors_cause)).other W7 (Or.inr sl_errors_suppressedExceptions)), (((((((FretryAfter.other W1 (Or.inr sl_retryAfter_cause)).other W2 (Or.inr sl_retryAfter_stackTrace)).other W3 (Or.inr sl_retryAfter_suppressedExceptions)).other W4 (Or.inr sl_retryAfter_stackTrace)).other W5 (Or.inr sl_retryAfter_detailMessage)).other W6 (Or.inr sl_retryAfter_cause)).other W7 (Or.inr sl_retryAfter_suppressedExceptions))⟩
set_option maxRecDepth 65536 in
set_option maxHeartbeats 4000000 in
theorem rm_exN {l : Launch} {Z : State} {a0 : Array Value} (H : Wd Z a0) {h : Heap} {x : Addr} {us sl : Value} (US : Sta Z Z.heap "java/lang/Throwable" "UNASSIGNED_STACK" "[Ljava/lang/StackTraceElement;" us) (hus : us.isRef = true) (SL : Sta Z Z.heap "java/lang/Throwable" "SUPPRESSED_SENTINEL" "Ljava/util/List;" sl) (hsl : sl.isRef = true) (E : Exa Z h x "com/example/emendate/emendate/model/Problem") (Fcause : Fld Z h x "java/lang/Throwable" "cause" "Ljava/lang/Throwable;" .null) (FstackTrace : Fld Z h x "java/lang/Throwable" "stackTrace" "[Ljava/lang/StackTraceElement;" .null) (FsuppressedExceptions : Fld Z h x "java/lang/Throwable" "suppressedExceptions" "Ljava/util/List;" .null) (FdetailMessage : Fld Z h x "java/lang/Throwable" "detailMessage" "Ljava/lang/String;" .null) (Fcode : Fld Z h x "com/example/emendate/emendate/model/Problem" "code" "Lcom/example/emendate/emendate/model/ErrorCode;" .null) (Ferrors : Fld Z h x "com/example/emendate/emendate/model/Problem" "errors" "Ljava/util/List;" .null) (FretryAfter : Fld Z h x "com/example/emendate/emendate/model/Problem" "retryAfter" "Ljava/time/Duration;" .null) : Met l Z (⟨"java/lang/Exception", "<init>", "(Ljava/lang/String;Ljava/lang/Throwable;ZZ)V"⟩ : MethodName) jdk_59_method_5_code 5 none ({ frames := 2, cells := 0, slots := 0, locals := 30 } : Room) h [x] #[.ref x, .null, .null, .int 0, .int 0] (fun v h' G => v = none ∧ Keep h h' [x] ∧ Fld Z h' x "java/lang/Throwable" "detailMessage" "Ljava/lang/String;" .null ∧ Fld Z h' x "com/example/emendate/emendate/model/Problem" "code" "Lcom/example/emendate/emendate/model/ErrorCode;" .null ∧ Fld Z h' x "com/example/emendate/emendate/model/Problem" "errors" "Ljava/util/List;" .null ∧ Fld Z h' x "com/example/emendate/emendate/model/Problem" "retryAfter" "Ljava/time/Duration;" .null) := by
  refine Met.mk (L := #[.val (.ref x), .val (.null), .val (.null), .val (.int 0), .val (.int 0)]) (by decide +kernel) (fun m => by first | (simp [entryFrame, mkF, argsToLocals, Value.category]; done) | rfl) (fun K => ?_)
  show Go _ _ K "java/lang/Exception" "<init>" _ _ _ _ _ _ _ _ _ 0 _ _
  refine go_aloadN (v := .ref x) (q := 1) d19_0 rfl rfl rfl ?_
  refine go_aloadN (v := .null) (q := 2) d19_1 rfl rfl rfl ?_
  refine go_aloadN (v := .null) (q := 3) d19_2 rfl rfl rfl ?_
  refine go_iloadN (v := 0) (q := 4) d19_3 rfl rfl ?_
  refine go_iload (v := 0) (q := 6) d19_4 rfl rfl ?_
  refine go_special (c' := 0) (s' := 0) (q := 9) (S := []) (argsL := [.null, .null, .int 0, .int 0]) H rfl (w_124 H) (w_125 H) (w_128 H) (w_129 H) (by decide) (rm_thN H US hus SL hsl E Fcause FstackTrace FsuppressedExceptions FdetailMessage Fcode Ferrors FretryAfter) rfl rfl (lenOf pd_6 rfl) (fun _ q => q) rfl (by decide) (Nat.le_of_ble_eq_true rfl) rfl rfl (by decide) (by decide) d19_6 rfl ?_
  rintro _ h1 G - ⟨rfl, K1, F1, F2, F3, F4⟩
  refine nx_ (v := none) ?_
  show Go _ _ _ _ _ _ _ _ _ _ _ _ _ _ 9 #[.val (.ref x), .val (.null), .val (.null), .val (.int 0), .val (.int 0)] []
  exact go_return H (G := []) rfl d19_9 (by decide) (by decide) (fun _ q => nomatch q) ⟨rfl, K1, F1, F2, F3, F4⟩
set_option maxRecDepth 65536 in
set_option maxHeartbeats 4000000 in
theorem rm_pbN {l : Launch} {Z : State} {a0 : Array Value} (H : Wd Z a0) {h : Heap} {x ec li : Addr} {us sl : Value} (US : Sta Z Z.heap "java/lang/Throwable" "UNASSIGNED_STACK" "[Ljava/lang/StackTraceElement;" us) (hus : us.isRef = true) (SL : Sta Z Z.heap "java/lang/Throwable" "SUPPRESSED_SENTINEL" "Ljava/util/List;" sl) (hsl : sl.isRef = true) (E : Exa Z h x "com/example/emendate/emendate/model/Problem") (Fcause : Fld Z h x "java/lang/Throwable" "cause" "Ljava/lang/Throwable;" .null) (FstackTrace : Fld Z h x "java/lang/Throwable" "stackTrace" "[Ljava/lang/StackTraceElement;" .null) (FsuppressedExceptions : Fld Z h x "java/lang/Throwable" "suppressedExceptions" "Ljava/util/List;" .null) (FdetailMessage : Fld Z h x "java/lang/Throwable" "detailMessage" "Ljava/lang/String;" .null) (Fcode : Fld Z h x "com/example/emendate/emendate/model/Problem" "code" "Lcom/example/emendate/emendate/model/ErrorCode;" .null) (Ferrors : Fld Z h x "com/example/emendate/emendate/model/Problem" "errors" "Ljava/util/List;" .null) (FretryAfter : Fld Z h x "com/example/emendate/emendate/model/Problem" "retryAfter" "Ljava/time/Duration;" .null) (EL : Exa Z h li "java/util/ImmutableCollections$List12") : Met l Z (⟨"com/example/emendate/emendate/model/Problem", "<init>", "(Lcom/example/emendate/emendate/model/ErrorCode;Ljava/lang/String;Ljava/util/List;Ljava/time/Duration;)V"⟩ : MethodName) prog_10_method_3_code 5 none ({ frames := 3, cells := 0, slots := 0, locals := 48 } : Room) h [x] #[.ref x, .ref ec, .null, .ref li, .null] (fun v h' G => v = none ∧ Keep h h' [x] ∧ Fld Z h' x "java/lang/Throwable" "detailMessage" "Ljava/lang/String;" .null ∧ Fld Z h' x "com/example/emendate/emendate/model/Problem" "code" "Lcom/example/emendate/emendate/model/ErrorCode;" (.ref ec) ∧ Fld Z h' x "com/example/emendate/emendate/model/Problem" "errors" "Ljava/util/List;" (.ref li)) := by
  refine Met.mk (L := #[.val (.ref x), .val (.ref ec), .val (.null), .val (.ref li), .val (.null)]) (plainFor_of_name (by first | (simp [plainName, overriddenIn]; done) | decide +kernel)) (fun m => by first | (simp [entryFrame, mkF, argsToLocals, Value.category]; done) | rfl) (fun K => ?_)
  show Go _ _ K "com/example/emendate/emendate/model/Problem" "<init>" _ _ _ _ _ _ _ _ _ 0 _ _
  have sl_detailMessage_code : RoadKit.slotOf Z "java/lang/Throwable" "detailMessage" "Ljava/lang/String;" ≠ RoadKit.slotOf Z "com/example/emendate/emendate/model/Problem" "code" "Lcom/example/emendate/emendate/model/ErrorCode;" := slot_ne (C := "com/example/emendate/emendate/model/Problem") (Or.inl (w_140 H)) (Or.inr (w_142 H)) (by decide) (t := (.object "java/lang/String")) (t' := (.object "com/example/emendate/emendate/model/ErrorCode")) (by decide) (by decide)
  have sl_detailMessage_errors : RoadKit.slotOf Z "java/lang/Throwable" "detailMessage" "Ljava/lang/String;" ≠ RoadKit.slotOf Z "com/example/emendate/emendate/model/Problem" "errors" "Ljava/util/List;" := slot_ne (C := "com/example/emendate/emendate/model/Problem") (Or.inl (w_140 H)) (Or.inr (w_153 H)) (by decide) (t := (.object "java/lang/String")) (t' := (.object "java/util/List")) (by decide) (by decide)
  have sl_detailMessage_retryAfter : RoadKit.slotOf Z "java/lang/Throwable" "detailMessage" "Ljava/lang/String;" ≠ RoadKit.slotOf Z "com/example/emendate/emendate/model/Problem" "retryAfter" "Ljava/time/Duration;" := slot_ne (C := "com/example/emendate/emendate/model/Problem") (Or.inl (w_140 H)) (Or.inr (w_155 H)) (by decide) (t := (.object "java/lang/String")) (t' := (.object "java/time/Duration")) (by decide) (by decide)
  have sl_code_errors : RoadKit.slotOf Z "com/example/emendate/emendate/model/Problem" "code" "Lcom/example/emendate/emendate/model/ErrorCode;" ≠ RoadKit.slotOf Z "com/example/emendate/emendate/model/Problem" "errors" "Ljava/util/List;" := slot_ne (C := "com/example/emendate/emendate/model/Problem") (Or.inr (w_142 H)) (Or.inr (w_153 H)) (by decide) (t := (.object "com/example/emendate/emendate/model/ErrorCode")) (t' := (.object "java/util/List")) (by decide) (by decide)
  have sl_errors_code : RoadKit.slotOf Z "com/example/emendate/emendate/model/Problem" "errors" "Ljava/util/List;" ≠ RoadKit.slotOf Z "com/example/emendate/emendate/model/Problem" "code" "Lcom/example/emendate/emendate/model/ErrorCode;" := slot_ne (C := "com/example/emendate/emendate/model/Problem") (Or.inr (w_153 H)) (Or.inr (w_142 H)) (by decide) (t := (.object "java/util/List")) (t' := (.object "com/example/emendate/emendate/model/ErrorCode")) (by decide) (by decide)
  have sl_retryAfter_code : RoadKit.slotOf Z "com/example/emendate/emendate/model/Problem" "retryAfter" "Ljava/time/Duration;" ≠ RoadKit.slotOf Z "com/example/emendate/emendate/model/Problem" "code" "Lcom/example/emendate/emendate/model/ErrorCode;" := slot_ne (C := "com/example/emendate/emendate/model/Problem") (Or.inr (w_155 H)) (Or.inr (w_142 H)) (by decide) (t := (.object "java/time/Duration")) (t' := (.object "com/example/emendate/emendate/model/ErrorCode")) (by decide) (by decide)
  have sl_code_retryAfter : RoadKit.slotOf Z "com/example/emendate/emendate/model/Problem" "code" "Lcom/example/emendate/emendate/model/ErrorCode;" ≠ RoadKit.slotOf Z "com/example/emendate/emendate/model/Problem" "retryAfter" "Ljava/time/Duration;" := slot_ne (C := "com/example/emendate/emendate/model/Problem") (Or.inr (w_142 H)) (Or.inr (w_155 H)) (by decide) (t := (.object "com/example/emendate/emendate/model/ErrorCode")) (t' := (.object "java/time/Duration")) (by decide) (by decide)
  have sl_errors_retryAfter : RoadKit.slotOf Z "com/example/emendate/emendate/model/Problem" "errors" "Ljava/util/List;" ≠ RoadKit.slotOf Z "com/example/emendate/emendate/model/Problem" "retryAfter" "Ljava/time/Duration;" := slot_ne (C := "com/example/emendate/emendate/model/Problem") (Or.inr (w_153 H)) (Or.inr (w_155 H)) (by decide) (t := (.object "java/util/List")) (t' := (.object "java/time/Duration")) (by decide) (by decide)
  have sl_retryAfter_errors : RoadKit.slotOf Z "com/example/emendate/emendate/model/Problem" "retryAfter" "Ljava/time/Duration;" ≠ RoadKit.slotOf Z "com/example/emendate/emendate/model/Problem" "errors" "Ljava/util/List;" := slot_ne (C := "com/example/emendate/emendate/model/Problem") (Or.inr (w_155 H)) (Or.inr (w_153 H)) (by decide) (t := (.object "java/time/Duration")) (t' := (.object "java/util/List")) (by decide) (by decide)
  refine go_aloadN (v := .ref x) (q := 1) d18_0 rfl rfl rfl ?_
  refine go_aloadN (v := .null) (q := 2) d18_1 rfl rfl rfl ?_
  refine go_null (q := 3) d18_2 rfl ?_
  refine go_iconst (x := (0 : Int32)) (q := 4) d18_3 rfl rfl ?_
  refine go_iconst (x := (0 : Int32)) (q := 5) d18_4 rfl rfl ?_
  refine go_special (c' := 0) (s' := 0) (q := 8) (S := []) (argsL := [.null, .null, .int (0 : Int32), .int (0 : Int32)]) H rfl (w_119 H) (w_120 H) (w_122 H) (w_123 H) (by decide) (rm_exN H US hus SL hsl E Fcause FstackTrace FsuppressedExceptions FdetailMessage Fcode Ferrors FretryAfter) rfl rfl (lenOf pd_6 rfl) (fun _ q => q) rfl (by decide) (Nat.le_of_ble_eq_true rfl) rfl rfl (by decide) (by decide) d18_5 rfl ?_
  rintro _ h1 G - ⟨rfl, K1, G1, G2, G3, G4⟩
  refine nx_ (v := none) ?_
  show Go _ _ _ _ _ _ _ _ _ _ _ _ _ _ 8 #[.val (.ref x), .val (.ref ec), .val (.null), .val (.ref li), .val (.null)] []
  refine go_aloadN (v := .ref x) (q := 9) d18_8 rfl rfl rfl ?_
  refine go_aloadN (v := .ref ec) (q := 10) d18_9 rfl rfl rfl ?_
  refine go_putfield (q := 13) (w_141 H) Via.refl G2 (E.keep K1) (Or.inr ⟨(w_142 H), rfl, rfl⟩) (w_65 H) (ty := (.object "com/example/emendate/emendate/model/ErrorCode")) (by decide) rfl rfl (by simp) d18_10 rfl ?_
  intro h2 W2
  refine go_aloadN (v := .ref x) (q := 14) d18_13 rfl rfl rfl ?_
  refine go_aloadN (v := .ref li) (q := 15) d18_14 rfl rfl rfl ?_
  refine go_static (c' := 0) (s' := 0) (q := 18) (S := [.ref x]) (argsL := [.ref li]) H (w_143 H) (w_144 H) (w_78 H) (w_145 H) (by decide) (rm_co H ((EL.keep K1).wr W2)) rfl rfl (lenOf pd_3 rfl) (fun _ q => nomatch q) rfl (by decide) (Nat.le_of_ble_eq_true rfl) rfl rfl (by decide) (by decide) d18_15 rfl ?_
  rintro _ _ G - ⟨rfl, rfl⟩
  refine nx_ (v := none) ?_
  show Go _ _ _ _ _ _ _ _ _ _ _ _ _ _ 18 #[.val (.ref x), .val (.ref ec), .val (.null), .val (.ref li), .val (.null)] [.ref li, .ref x]
  refine go_putfield (q := 21) (w_152 H) Via.refl (G3.other W2 (Or.inr sl_errors_code)) ((E.keep K1).wr W2) (Or.inr ⟨(w_153 H), rfl, rfl⟩) (w_65 H) (ty := (.object "java/util/List")) (by decide) rfl rfl (by simp) d18_18 rfl ?_
  intro h3 W3
  refine go_aloadN (v := .ref x) (q := 22) d18_21 rfl rfl rfl ?_
  refine go_aload (v := .null) (q := 24) d18_22 rfl rfl rfl ?_
  refine go_putfield (q := 27) (w_154 H) Via.refl ((G4.other W2 (Or.inr sl_retryAfter_code)).other W3 (Or.inr sl_retryAfter_errors)) (((E.keep K1).wr W2).wr W3) (Or.inr ⟨(w_155 H), rfl, rfl⟩) (w_65 H) (ty := (.object "java/time/Duration")) (by decide) rfl rfl (by simp) d18_24 rfl ?_
  intro h4 W4
  exact go_return H (G := []) rfl d18_27 (by decide) (by decide) (fun _ q => nomatch q) ⟨rfl, ((K1.wr W2 (Or.inl (by simp))).wr W3 (Or.inl (by simp))).wr W4 (Or.inl (by simp)), (((G1.other W2 (Or.inr sl_detailMessage_code)).other W3 (Or.inr sl_detailMessage_errors)).other W4 (Or.inr sl_detailMessage_retryAfter)), (((G2.same W2).other W3 (Or.inr sl_code_errors)).other W4 (Or.inr sl_code_retryAfter)), (((G3.other W2 (Or.inr sl_errors_code)).same W3).other W4 (Or.inr sl_errors_retryAfter))⟩
set_option maxRecDepth 65536 in
set_option maxHeartbeats 4000000 in
theorem rm_thR {l : Launch} {Z : State} {a0 : Array Value} (H : Wd Z a0) {h : Heap} {x ms : Addr} {us sl : Value} (US : Sta Z Z.heap "java/lang/Throwable" "UNASSIGNED_STACK" "[Ljava/lang/StackTraceElement;" us) (hus : us.isRef = true) (SL : Sta Z Z.heap "java/lang/Throwable" "SUPPRESSED_SENTINEL" "Ljava/util/List;" sl) (hsl : sl.isRef = true) (E : Exa Z h x "com/example/emendate/emendate/model/Problem") (Fcause : Fld Z h x "java/lang/Throwable" "cause" "Ljava/lang/Throwable;" .null) (FstackTrace : Fld Z h x "java/lang/Throwable" "stackTrace" "[Ljava/lang/StackTraceElement;" .null) (FsuppressedExceptions : Fld Z h x "java/lang/Throwable" "suppressedExceptions" "Ljava/util/List;" .null) (FdetailMessage : Fld Z h x "java/lang/Throwable" "detailMessage" "Ljava/lang/String;" .null) (Fcode : Fld Z h x "com/example/emendate/emendate/model/Problem" "code" "Lcom/example/emendate/emendate/model/ErrorCode;" .null) (Ferrors : Fld Z h x "com/example/emendate/emendate/model/Problem" "errors" "Ljava/util/List;" .null) (FretryAfter : Fld Z h x "com/example/emendate/emendate/model/Problem" "retryAfter" "Ljava/time/Duration;" .null) : Met l Z (⟨"java/lang/Throwable", "<init>", "(Ljava/lang/String;Ljava/lang/Throwable;ZZ)V"⟩ : MethodName) jdk_78_method_5_code 5 none ({ frames := 1, cells := 0, slots := 0, locals := 13 } : Room) h [x] #[.ref x, .ref ms, .null, .int 0, .int 0] (fun v h' G => v = none ∧ Keep h h' [x] ∧ Fld Z h' x "java/lang/Throwable" "detailMessage" "Ljava/lang/String;" (.ref ms) ∧ Fld Z h' x "com/example/emendate/emendate/model/Problem" "code" "Lcom/example/emendate/emendate/model/ErrorCode;" .null ∧ Fld Z h' x "com/example/emendate/emendate/model/Problem" "errors" "Ljava/util/List;" .null ∧ Fld Z h' x "com/example/emendate/emendate/model/Problem" "retryAfter" "Ljava/time/Duration;" .null) := by
  refine Met.mk (L := #[.val (.ref x), .val (.ref ms), .val (.null), .val (.int 0), .val (.int 0)]) (by decide +kernel) (fun m => by first | (simp [entryFrame, mkF, argsToLocals, Value.category]; done) | rfl) (fun K => ?_)
  show Go _ _ K "java/lang/Throwable" "<init>" _ _ _ _ _ _ _ _ _ 0 _ _
  have sl_stackTrace_cause : RoadKit.slotOf Z "java/lang/Throwable" "stackTrace" "[Ljava/lang/StackTraceElement;" ≠ RoadKit.slotOf Z "java/lang/Throwable" "cause" "Ljava/lang/Throwable;" := slot_ne (C := "com/example/emendate/emendate/model/Problem") (Or.inl (w_135 H)) (Or.inl (w_132 H)) (by decide) (t := (.array (.object "java/lang/StackTraceElement"))) (t' := (.object "java/lang/Throwable")) (by decide) (by decide)
  have sl_suppressedExceptions_cause : RoadKit.slotOf Z "java/lang/Throwable" "suppressedExceptions" "Ljava/util/List;" ≠ RoadKit.slotOf Z "java/lang/Throwable" "cause" "Ljava/lang/Throwable;" := slot_ne (C := "com/example/emendate/emendate/model/Problem") (Or.inl (w_138 H)) (Or.inl (w_132 H)) (by decide) (t := (.object "java/util/List")) (t' := (.object "java/lang/Throwable")) (by decide) (by decide)
  have sl_detailMessage_cause : RoadKit.slotOf Z "java/lang/Throwable" "detailMessage" "Ljava/lang/String;" ≠ RoadKit.slotOf Z "java/lang/Throwable" "cause" "Ljava/lang/Throwable;" := slot_ne (C := "com/example/emendate/emendate/model/Problem") (Or.inl (w_140 H)) (Or.inl (w_132 H)) (by decide) (t := (.object "java/lang/String")) (t' := (.object "java/lang/Throwable")) (by decide) (by decide)
  have sl_code_cause : RoadKit.slotOf Z "com/example/emendate/emendate/model/Problem" "code" "Lcom/example/emendate/emendate/model/ErrorCode;" ≠ RoadKit.slotOf Z "java/lang/Throwable" "cause" "Ljava/lang/Throwable;" := slot_ne (C := "com/example/emendate/emendate/model/Problem") (Or.inr (w_142 H)) (Or.inl (w_132 H)) (by decide) (t := (.object "com/example/emendate/emendate/model/ErrorCode")) (t' := (.object "java/lang/Throwable")) (by decide) (by decide)
  have sl_errors_cause : RoadKit.slotOf Z "com/example/emendate/emendate/model/Problem" "errors" "Ljava/util/List;" ≠ RoadKit.slotOf Z "java/lang/Throwable" "cause" "Ljava/lang/Throwable;" := slot_ne (C := "com/example/emendate/emendate/model/Problem") (Or.inr (w_153 H)) (Or.inl (w_132 H)) (by decide) (t := (.object "java/util/List")) (t' := (.object "java/lang/Throwable")) (by decide) (by decide)
  have sl_retryAfter_cause : RoadKit.slotOf Z "com/example/emendate/emendate/model/Problem" "retryAfter" "Ljava/time/Duration;" ≠ RoadKit.slotOf Z "java/lang/Throwable" "cause" "Ljava/lang/Throwable;" := slot_ne (C := "com/example/emendate/emendate/model/Problem") (Or.inr (w_155 H)) (Or.inl (w_132 H)) (by decide) (t := (.object "java/time/Duration")) (t' := (.object "java/lang/Throwable")) (by decide) (by decide)
  have sl_cause_stackTrace : RoadKit.slotOf Z "java/lang/Throwable" "cause" "Ljava/lang/Throwable;" ≠ RoadKit.slotOf Z "java/lang/Throwable" "stackTrace" "[Ljava/lang/StackTraceElement;" := slot_ne (C := "com/example/emendate/emendate/model/Problem") (Or.inl (w_132 H)) (Or.inl (w_135 H)) (by decide) (t := (.object "java/lang/Throwable")) (t' := (.array (.object "java/lang/StackTraceElement"))) (by decide) (by decide)
  have sl_suppressedExceptions_stackTrace : RoadKit.slotOf Z "java/lang/Throwable" "suppressedExceptions" "Ljava/util/List;" ≠ RoadKit.slotOf Z "java/lang/Throwable" "stackTrace" "[Ljava/lang/StackTraceElement;" := slot_ne (C := "com/example/emendate/emendate/model/Problem") (Or.inl (w_138 H)) (Or.inl (w_135 H)) (by decide) (t := (.object "java/util/List")) (t' := (.array (.object "java/lang/StackTraceElement"))) (by decide) (by decide)
  have sl_detailMessage_stackTrace : RoadKit.slotOf Z "java/lang/Throwable" "detailMessage" "Ljava/lang/String;" ≠ RoadKit.slotOf Z "java/lang/Throwable" "stackTrace" "[Ljava/lang/StackTraceElement;" := slot_ne (C := "com/example/emendate/emendate/model/Problem") (Or.inl (w_140 H)) (Or.inl (w_135 H)) (by decide) (t := (.object "java/lang/String")) (t' := (.array (.object "java/lang/StackTraceElement"))) (by decide) (by decide)
  have sl_code_stackTrace : RoadKit.slotOf Z "com/example/emendate/emendate/model/Problem" "code" "Lcom/example/emendate/emendate/model/ErrorCode;" ≠ RoadKit.slotOf Z "java/lang/Throwable" "stackTrace" "[Ljava/lang/StackTraceElement;" := slot_ne (C := "com/example/emendate/emendate/model/Problem") (Or.inr (w_142 H)) (Or.inl (w_135 H)) (by decide) (t := (.object "com/example/emendate/emendate/model/ErrorCode")) (t' := (.array (.object "java/lang/StackTraceElement"))) (by decide) (by decide)
  have sl_errors_stackTrace : RoadKit.slotOf Z "com/example/emendate/emendate/model/Problem" "errors" "Ljava/util/List;" ≠ RoadKit.slotOf Z "java/lang/Throwable" "stackTrace" "[Ljava/lang/StackTraceElement;" := slot_ne (C := "com/example/emendate/emendate/model/Problem") (Or.inr (w_153 H)) (Or.inl (w_135 H)) (by decide) (t := (.object "java/util/List")) (t' := (.array (.object "java/lang/StackTraceElement"))) (by decide) (by decide)
  have sl_retryAfter_stackTrace : RoadKit.slotOf Z "com/example/emendate/emendate/model/Problem" "retryAfter" "Ljava/time/Duration;" ≠ RoadKit.slotOf Z "java/lang/Throwable" "stackTrace" "[Ljava/lang/StackTraceElement;" := slot_ne (C := "com/example/emendate/emendate/model/Problem") (Or.inr (w_155 H)) (Or.inl (w_135 H)) (by decide) (t := (.object "java/time/Duration")) (t' := (.array (.object "java/lang/StackTraceElement"))) (by decide) (by decide)
  have sl_cause_suppressedExceptions : RoadKit.slotOf Z "java/lang/Throwable" "cause" "Ljava/lang/Throwable;" ≠ RoadKit.slotOf Z "java/lang/Throwable" "suppressedExceptions" "Ljava/util/List;" := slot_ne (C := "com/example/emendate/emendate/model/Problem") (Or.inl (w_132 H)) (Or.inl (w_138 H)) (by decide) (t := (.object "java/lang/Throwable")) (t' := (.object "java/util/List")) (by decide) (by decide)
  have sl_stackTrace_suppressedExceptions : RoadKit.slotOf Z "java/lang/Throwable" "stackTrace" "[Ljava/lang/StackTraceElement;" ≠ RoadKit.slotOf Z "java/lang/Throwable" "suppressedExceptions" "Ljava/util/List;" := slot_ne (C := "com/example/emendate/emendate/model/Problem") (Or.inl (w_135 H)) (Or.inl (w_138 H)) (by decide) (t := (.array (.object "java/lang/StackTraceElement"))) (t' := (.object "java/util/List")) (by decide) (by decide)
  have sl_detailMessage_suppressedExceptions : RoadKit.slotOf Z "java/lang/Throwable" "detailMessage" "Ljava/lang/String;" ≠ RoadKit.slotOf Z "java/lang/Throwable" "suppressedExceptions" "Ljava/util/List;" := slot_ne (C := "com/example/emendate/emendate/model/Problem") (Or.inl (w_140 H)) (Or.inl (w_138 H)) (by decide) (t := (.object "java/lang/String")) (t' := (.object "java/util/List")) (by decide) (by decide)
  have sl_code_suppressedExceptions : RoadKit.slotOf Z "com/example/emendate/emendate/model/Problem" "code" "Lcom/example/emendate/emendate/model/ErrorCode;" ≠ RoadKit.slotOf Z "java/lang/Throwable" "suppressedExceptions" "Ljava/util/List;" := slot_ne (C := "com/example/emendate/emendate/model/Problem") (Or.inr (w_142 H)) (Or.inl (w_138 H)) (by decide) (t := (.object "com/example/emendate/emendate/model/ErrorCode")) (t' := (.object "java/util/List")) (by decide) (by decide)
  have sl_errors_suppressedExceptions : RoadKit.slotOf Z "com/example/emendate/emendate/model/Problem" "errors" "Ljava/util/List;" ≠ RoadKit.slotOf Z "java/lang/Throwable" "suppressedExceptions" "Ljava/util/List;" := slot_ne (C := "com/example/emendate/emendate/model/Problem") (Or.inr (w_153 H)) (Or.inl (w_138 H)) (by decide) (t := (.object "java/util/List")) (t' := (.object "java/util/List")) (by decide) (by decide)
  have sl_retryAfter_suppressedExceptions : RoadKit.slotOf Z "com/example/emendate/emendate/model/Problem" "retryAfter" "Ljava/time/Duration;" ≠ RoadKit.slotOf Z "java/lang/Throwable" "suppressedExceptions" "Ljava/util/List;" := slot_ne (C := "com/example/emendate/emendate/model/Problem") (Or.inr (w_155 H)) (Or.inl (w_138 H)) (by decide) (t := (.object "java/time/Duration")) (t' := (.object "java/util/List")) (by decide) (by decide)
  have sl_cause_detailMessage : RoadKit.slotOf Z "java/lang/Throwable" "cause" "Ljava/lang/Throwable;" ≠ RoadKit.slotOf Z "java/lang/Throwable" "detailMessage" "Ljava/lang/String;" := slot_ne (C := "com/example/emendate/emendate/model/Problem") (Or.inl (w_132 H)) (Or.inl (w_140 H)) (by decide) (t := (.object "java/lang/Throwable")) (t' := (.object "java/lang/String")) (by decide) (by decide)
  have sl_stackTrace_detailMessage : RoadKit.slotOf Z "java/lang/Throwable" "stackTrace" "[Ljava/lang/StackTraceElement;" ≠ RoadKit.slotOf Z "java/lang/Throwable" "detailMessage" "Ljava/lang/String;" := slot_ne (C := "com/example/emendate/emendate/model/Problem") (Or.inl (w_135 H)) (Or.inl (w_140 H)) (by decide) (t := (.array (.object "java/lang/StackTraceElement"))) (t' := (.object "java/lang/String")) (by decide) (by decide)
  have sl_suppressedExceptions_detailMessage : RoadKit.slotOf Z "java/lang/Throwable" "suppressedExceptions" "Ljava/util/List;" ≠ RoadKit.slotOf Z "java/lang/Throwable" "detailMessage" "Ljava/lang/String;" := slot_ne (C := "com/example/emendate/emendate/model/Problem") (Or.inl (w_138 H)) (Or.inl (w_140 H)) (by decide) (t := (.object "java/util/List")) (t' := (.object "java/lang/String")) (by decide) (by decide)
  have sl_code_detailMessage : RoadKit.slotOf Z "com/example/emendate/emendate/model/Problem" "code" "Lcom/example/emendate/emendate/model/ErrorCode;" ≠ RoadKit.slotOf Z "java/lang/Throwable" "detailMessage" "Ljava/lang/String;" := slot_ne (C := "com/example/emendate/emendate/model/Problem") (Or.inr (w_142 H)) (Or.inl (w_140 H)) (by decide) (t := (.object "com/example/emendate/emendate/model/ErrorCode")) (t' := (.object "java/lang/String")) (by decide) (by decide)
  have sl_errors_detailMessage : RoadKit.slotOf Z "com/example/emendate/emendate/model/Problem" "errors" "Ljava/util/List;" ≠ RoadKit.slotOf Z "java/lang/Throwable" "detailMessage" "Ljava/lang/String;" := slot_ne (C := "com/example/emendate/emendate/model/Problem") (Or.inr (w_153 H)) (Or.inl (w_140 H)) (by decide) (t := (.object "java/util/List")) (t' := (.object "java/lang/String")) (by decide) (by decide)
  have sl_retryAfter_detailMessage : RoadKit.slotOf Z "com/example/emendate/emendate/model/Problem" "retryAfter" "Ljava/time/Duration;" ≠ RoadKit.slotOf Z "java/lang/Throwable" "detailMessage" "Ljava/lang/String;" := slot_ne (C := "com/example/emendate/emendate/model/Problem") (Or.inr (w_155 H)) (Or.inl (w_140 H)) (by decide) (t := (.object "java/time/Duration")) (t' := (.object "java/lang/String")) (by decide) (by decide)
  refine go_aloadN (v := .ref x) (q := 1) d20_0 rfl rfl rfl ?_
  refine go_initO (q := 4) (w_130 H) (w_22 H) (w_23 H) rfl d20_1 rfl (by decide) (Nat.le_of_ble_eq_true rfl) ?_
  refine go_aloadN (v := .ref x) (q := 5) d20_4 rfl rfl rfl ?_
  refine go_aloadN (v := .ref x) (q := 6) d20_5 rfl rfl rfl ?_
  refine go_putfield (q := 9) (w_131 H) Via.refl Fcause E (Or.inl (w_132 H)) (w_65 H) (ty := (.object "java/lang/Throwable")) (by decide) rfl rfl (by simp) d20_6 rfl ?_
  intro h1 W1
  refine go_aloadN (v := .ref x) (q := 10) d20_9 rfl rfl rfl ?_
  refine go_getstatic (v := us) (q := 13) (w_133 H) Via.refl US d20_10 rfl ?_
  refine go_putfield (q := 16) (w_134 H) Via.refl (FstackTrace.other W1 (Or.inr sl_stackTrace_cause)) (E.wr W1) (Or.inl (w_135 H)) (w_65 H) (ty := (.array (.object "java/lang/StackTraceElement"))) (by decide) (nref rfl hus) (fref rfl hus) (by simp) d20_13 rfl ?_
  intro h2 W2
  refine go_aloadN (v := .ref x) (q := 17) d20_16 rfl rfl rfl ?_
  refine go_getstatic (v := sl) (q := 20) (w_136 H) Via.refl SL d20_17 rfl ?_
  refine go_putfield (q := 23) (w_137 H) Via.refl ((FsuppressedExceptions.other W1 (Or.inr sl_suppressedExceptions_cause)).other W2 (Or.inr sl_suppressedExceptions_stackTrace)) ((E.wr W1).wr W2) (Or.inl (w_138 H)) (w_65 H) (ty := (.object "java/util/List")) (by decide) (nref rfl hsl) (fref rfl hsl) (by simp) d20_20 rfl ?_
  intro h3 W3
  refine go_iload (v := 0) (q := 25) d20_23 rfl rfl ?_
  refine go_ifY (q := 36) d20_25 (by decide) (by decide) (by decide) ?_
  refine go_aloadN (v := .ref x) (q := 37) d20_36 rfl rfl rfl ?_
  refine go_null (q := 38) d20_37 rfl ?_
  refine go_putfield (q := 41) (w_134 H) Via.refl (((FstackTrace.other W1 (Or.inr sl_stackTrace_cause)).same W2).other W3 (Or.inr sl_stackTrace_suppressedExceptions)) (((E.wr W1).wr W2).wr W3) (Or.inl (w_135 H)) (w_65 H) (ty := (.array (.object "java/lang/StackTraceElement"))) (by decide) rfl rfl (by simp) d20_38 rfl ?_
  intro h4 W4
  refine go_aloadN (v := .ref x) (q := 42) d20_41 rfl rfl rfl ?_
  refine go_aloadN (v := .ref ms) (q := 43) d20_42 rfl rfl rfl ?_
  refine go_putfield (q := 46) (w_139 H) Via.refl ((((FdetailMessage.other W1 (Or.inr sl_detailMessage_cause)).other W2 (Or.inr sl_detailMessage_stackTrace)).other W3 (Or.inr sl_detailMessage_suppressedExceptions)).other W4 (Or.inr sl_detailMessage_stackTrace)) ((((E.wr W1).wr W2).wr W3).wr W4) (Or.inl (w_140 H)) (w_65 H) (ty := (.object "java/lang/String")) (by decide) rfl rfl (by simp) d20_43 rfl ?_
  intro h5 W5
  refine go_aloadN (v := .ref x) (q := 47) d20_46 rfl rfl rfl ?_
  refine go_aloadN (v := .null) (q := 48) d20_47 rfl rfl rfl ?_
  refine go_putfield (q := 51) (w_131 H) Via.refl (((((Fcause.same W1).other W2 (Or.inr sl_cause_stackTrace)).other W3 (Or.inr sl_cause_suppressedExceptions)).other W4 (Or.inr sl_cause_stackTrace)).other W5 (Or.inr sl_cause_detailMessage)) (((((E.wr W1).wr W2).wr W3).wr W4).wr W5) (Or.inl (w_132 H)) (w_65 H) (ty := (.object "java/lang/Throwable")) (by decide) rfl rfl (by simp) d20_48 rfl ?_
  intro h6 W6
  refine go_iloadN (v := 0) (q := 52) d20_51 rfl rfl ?_
  refine go_ifN (q := 55) d20_52 (by decide) rfl ?_
  refine go_aloadN (v := .ref x) (q := 56) d20_55 rfl rfl rfl ?_
  refine go_null (q := 57) d20_56 rfl ?_
  refine go_putfield (q := 60) (w_137 H) Via.refl ((((((FsuppressedExceptions.other W1 (Or.inr sl_suppressedExceptions_cause)).other W2 (Or.inr sl_suppressedExceptions_stackTrace)).same W3).other W4 (Or.inr sl_suppressedExceptions_stackTrace)).other W5 (Or.inr sl_suppressedExceptions_detailMessage)).other W6 (Or.inr sl_suppressedExceptions_cause)) ((((((E.wr W1).wr W2).wr W3).wr W4).wr W5).wr W6) (Or.inl (w_138 H)) (w_65 H) (ty := (.object "java/util/List")) (by decide) rfl rfl (by simp) d20_57 rfl ?_
  intro h7 W7
  exact go_return H (G := []) rfl d20_60 (by decide) (by decide) (fun _ q => nomatch q) ⟨rfl, ((((((Keep.of_wr W1).wr W2 (Or.inl (by simp))).wr W3 (Or.inl (by simp))).wr W4 (Or.inl (by simp))).wr W5 (Or.inl (by simp))).wr W6 (Or.inl (by simp))).wr W7 (Or.inl (by simp)), (((((((FdetailMessage.other W1 (Or.inr sl_detailMessage_cause)).other W2 (Or.inr sl_detailMessage_stackTrace)).other W3 (Or.inr sl_detailMessage_suppressedExceptions)).other W4 (Or.inr sl_detailMessage_stackTrace)).same W5).other W6 (Or.inr sl_detailMessage_cause)).other W7 (Or.inr sl_detailMessage_suppressedExceptions)), (((((((Fcode.other W1 (Or.inr sl_code_cause)).other W2 (Or.inr sl_code_stackTrace)).other W3 (Or.inr sl_code_suppressedExceptions)).other W4 (Or.inr sl_code_stackTrace)).other W5 (Or.inr sl_code_detailMessage)).other W6 (Or.inr sl_code_cause)).other W7 (Or.inr sl_code_suppressedExceptions)), (((((((Ferrors.other W1 (Or.inr sl_errors_cause)).other W2 (Or.inr sl_errors_stackTrace)).other W3 (Or.inr sl_errors_suppressedExceptions)).other W4 (Or.inr sl_errors_stackTrace)).other W5 (Or.inr sl_errors_detailMessage)).other W6 (Or.inr sl_errors_cause)).other W7 (Or.inr sl_errors_suppressedExceptions)), (((((((FretryAfter.other W1 (Or.inr sl_retryAfter_cause)).other W2 (Or.inr sl_retryAfter_stackTrace)).other W3 (Or.inr sl_retryAfter_suppressedExceptions)).other W4 (Or.inr sl_retryAfter_stackTrace)).other W5 (Or.inr sl_retryAfter_detailMessage)).other W6 (Or.inr sl_retryAfter_cause)).other W7 (Or.inr sl_retryAfter_suppressedExceptions))⟩
set_option maxRecDepth 65536 in
set_option maxHeartbeats 4000000 in
theorem rm_exR {l : Launch} {Z : State} {a0 : Array Value} (H : Wd Z a0) {h : Heap} {x ms : Addr} {us sl : Value} (US : Sta Z Z.heap "java/lang/Throwable" "UNASSIGNED_STACK" "[Ljava/lang/StackTraceElement;" us) (hus : us.isRef = true) (SL : Sta Z Z.heap "java/lang/Throwable" "SUPPRESSED_SENTINEL" "Ljava/util/List;" sl) (hsl : sl.isRef = true) (E : Exa Z h x "com/example/emendate/emendate/model/Problem") (Fcause : Fld Z h x "java/lang/Throwable" "cause" "Ljava/lang/Throwable;" .null) (FstackTrace : Fld Z h x "java/lang/Throwable" "stackTrace" "[Ljava/lang/StackTraceElement;" .null) (FsuppressedExceptions : Fld Z h x "java/lang/Throwable" "suppressedExceptions" "Ljava/util/List;" .null) (FdetailMessage : Fld Z h x "java/lang/Throwable" "detailMessage" "Ljava/lang/String;" .null) (Fcode : Fld Z h x "com/example/emendate/emendate/model/Problem" "code" "Lcom/example/emendate/emendate/model/ErrorCode;" .null) (Ferrors : Fld Z h x "com/example/emendate/emendate/model/Problem" "errors" "Ljava/util/List;" .null) (FretryAfter : Fld Z h x "com/example/emendate/emendate/model/Problem" "retryAfter" "Ljava/time/Duration;" .null) : Met l Z (⟨"java/lang/Exception", "<init>", "(Ljava/lang/String;Ljava/lang/Throwable;ZZ)V"⟩ : MethodName) jdk_59_method_5_code 5 none ({ frames := 2, cells := 0, slots := 0, locals := 30 } : Room) h [x] #[.ref x, .ref ms, .null, .int 0, .int 0] (fun v h' G => v = none ∧ Keep h h' [x] ∧ Fld Z h' x "java/lang/Throwable" "detailMessage" "Ljava/lang/String;" (.ref ms) ∧ Fld Z h' x "com/example/emendate/emendate/model/Problem" "code" "Lcom/example/emendate/emendate/model/ErrorCode;" .null ∧ Fld Z h' x "com/example/emendate/emendate/model/Problem" "errors" "Ljava/util/List;" .null ∧ Fld Z h' x "com/example/emendate/emendate/model/Problem" "retryAfter" "Ljava/time/Duration;" .null) := by
  refine Met.mk (L := #[.val (.ref x), .val (.ref ms), .val (.null), .val (.int 0), .val (.int 0)]) (by decide +kernel) (fun m => by first | (simp [entryFrame, mkF, argsToLocals, Value.category]; done) | rfl) (fun K => ?_)
  show Go _ _ K "java/lang/Exception" "<init>" _ _ _ _ _ _ _ _ _ 0 _ _
  refine go_aloadN (v := .ref x) (q := 1) d19_0 rfl rfl rfl ?_
  refine go_aloadN (v := .ref ms) (q := 2) d19_1 rfl rfl rfl ?_
  refine go_aloadN (v := .null) (q := 3) d19_2 rfl rfl rfl ?_
  refine go_iloadN (v := 0) (q := 4) d19_3 rfl rfl ?_
  refine go_iload (v := 0) (q := 6) d19_4 rfl rfl ?_
  refine go_special (c' := 0) (s' := 0) (q := 9) (S := []) (argsL := [.ref ms, .null, .int 0, .int 0]) H rfl (w_124 H) (w_125 H) (w_128 H) (w_129 H) (by decide) (rm_thR H US hus SL hsl E Fcause FstackTrace FsuppressedExceptions FdetailMessage Fcode Ferrors FretryAfter) rfl rfl (lenOf pd_6 rfl) (fun _ q => q) rfl (by decide) (Nat.le_of_ble_eq_true rfl) rfl rfl (by decide) (by decide) d19_6 rfl ?_
  rintro _ h1 G - ⟨rfl, K1, F1, F2, F3, F4⟩
  refine nx_ (v := none) ?_
  show Go _ _ _ _ _ _ _ _ _ _ _ _ _ _ 9 #[.val (.ref x), .val (.ref ms), .val (.null), .val (.int 0), .val (.int 0)] []
  exact go_return H (G := []) rfl d19_9 (by decide) (by decide) (fun _ q => nomatch q) ⟨rfl, K1, F1, F2, F3, F4⟩
set_option maxRecDepth 65536 in
set_option maxHeartbeats 4000000 in
theorem rm_pbR {l : Launch} {Z : State} {a0 : Array Value} (H : Wd Z a0) {h : Heap} {x ec li ms : Addr} {us sl : Value} (US : Sta Z Z.heap "java/lang/Throwable" "UNASSIGNED_STACK" "[Ljava/lang/StackTraceElement;" us) (hus : us.isRef = true) (SL : Sta Z Z.heap "java/lang/Throwable" "SUPPRESSED_SENTINEL" "Ljava/util/List;" sl) (hsl : sl.isRef = true) (E : Exa Z h x "com/example/emendate/emendate/model/Problem") (Fcause : Fld Z h x "java/lang/Throwable" "cause" "Ljava/lang/Throwable;" .null) (FstackTrace : Fld Z h x "java/lang/Throwable" "stackTrace" "[Ljava/lang/StackTraceElement;" .null) (FsuppressedExceptions : Fld Z h x "java/lang/Throwable" "suppressedExceptions" "Ljava/util/List;" .null) (FdetailMessage : Fld Z h x "java/lang/Throwable" "detailMessage" "Ljava/lang/String;" .null) (Fcode : Fld Z h x "com/example/emendate/emendate/model/Problem" "code" "Lcom/example/emendate/emendate/model/ErrorCode;" .null) (Ferrors : Fld Z h x "com/example/emendate/emendate/model/Problem" "errors" "Ljava/util/List;" .null) (FretryAfter : Fld Z h x "com/example/emendate/emendate/model/Problem" "retryAfter" "Ljava/time/Duration;" .null) (EL : Exa Z h li "java/util/ImmutableCollections$List12") : Met l Z (⟨"com/example/emendate/emendate/model/Problem", "<init>", "(Lcom/example/emendate/emendate/model/ErrorCode;Ljava/lang/String;Ljava/util/List;Ljava/time/Duration;)V"⟩ : MethodName) prog_10_method_3_code 5 none ({ frames := 3, cells := 0, slots := 0, locals := 48 } : Room) h [x] #[.ref x, .ref ec, .ref ms, .ref li, .null] (fun v h' G => v = none ∧ Keep h h' [x] ∧ Fld Z h' x "java/lang/Throwable" "detailMessage" "Ljava/lang/String;" (.ref ms) ∧ Fld Z h' x "com/example/emendate/emendate/model/Problem" "code" "Lcom/example/emendate/emendate/model/ErrorCode;" (.ref ec) ∧ Fld Z h' x "com/example/emendate/emendate/model/Problem" "errors" "Ljava/util/List;" (.ref li)) := by
  refine Met.mk (L := #[.val (.ref x), .val (.ref ec), .val (.ref ms), .val (.ref li), .val (.null)]) (plainFor_of_name (by first | (simp [plainName, overriddenIn]; done) | decide +kernel)) (fun m => by first | (simp [entryFrame, mkF, argsToLocals, Value.category]; done) | rfl) (fun K => ?_)
  show Go _ _ K "com/example/emendate/emendate/model/Problem" "<init>" _ _ _ _ _ _ _ _ _ 0 _ _
  have sl_detailMessage_code : RoadKit.slotOf Z "java/lang/Throwable" "detailMessage" "Ljava/lang/String;" ≠ RoadKit.slotOf Z "com/example/emendate/emendate/model/Problem" "code" "Lcom/example/emendate/emendate/model/ErrorCode;" := slot_ne (C := "com/example/emendate/emendate/model/Problem") (Or.inl (w_140 H)) (Or.inr (w_142 H)) (by decide) (t := (.object "java/lang/String")) (t' := (.object "com/example/emendate/emendate/model/ErrorCode")) (by decide) (by decide)
  have sl_detailMessage_errors : RoadKit.slotOf Z "java/lang/Throwable" "detailMessage" "Ljava/lang/String;" ≠ RoadKit.slotOf Z "com/example/emendate/emendate/model/Problem" "errors" "Ljava/util/List;" := slot_ne (C := "com/example/emendate/emendate/model/Problem") (Or.inl (w_140 H)) (Or.inr (w_153 H)) (by decide) (t := (.object "java/lang/String")) (t' := (.object "java/util/List")) (by decide) (by decide)
  have sl_detailMessage_retryAfter : RoadKit.slotOf Z "java/lang/Throwable" "detailMessage" "Ljava/lang/String;" ≠ RoadKit.slotOf Z "com/example/emendate/emendate/model/Problem" "retryAfter" "Ljava/time/Duration;" := slot_ne (C := "com/example/emendate/emendate/model/Problem") (Or.inl (w_140 H)) (Or.inr (w_155 H)) (by decide) (t := (.object "java/lang/String")) (t' := (.object "java/time/Duration")) (by decide) (by decide)
  have sl_code_errors : RoadKit.slotOf Z "com/example/emendate/emendate/model/Problem" "code" "Lcom/example/emendate/emendate/model/ErrorCode;" ≠ RoadKit.slotOf Z "com/example/emendate/emendate/model/Problem" "errors" "Ljava/util/List;" := slot_ne (C := "com/example/emendate/emendate/model/Problem") (Or.inr (w_142 H)) (Or.inr (w_153 H)) (by decide) (t := (.object "com/example/emendate/emendate/model/ErrorCode")) (t' := (.object "java/util/List")) (by decide) (by decide)
  have sl_errors_code : RoadKit.slotOf Z "com/example/emendate/emendate/model/Problem" "errors" "Ljava/util/List;" ≠ RoadKit.slotOf Z "com/example/emendate/emendate/model/Problem" "code" "Lcom/example/emendate/emendate/model/ErrorCode;" := slot_ne (C := "com/example/emendate/emendate/model/Problem") (Or.inr (w_153 H)) (Or.inr (w_142 H)) (by decide) (t := (.object "java/util/List")) (t' := (.object "com/example/emendate/emendate/model/ErrorCode")) (by decide) (by decide)
  have sl_retryAfter_code : RoadKit.slotOf Z "com/example/emendate/emendate/model/Problem" "retryAfter" "Ljava/time/Duration;" ≠ RoadKit.slotOf Z "com/example/emendate/emendate/model/Problem" "code" "Lcom/example/emendate/emendate/model/ErrorCode;" := slot_ne (C := "com/example/emendate/emendate/model/Problem") (Or.inr (w_155 H)) (Or.inr (w_142 H)) (by decide) (t := (.object "java/time/Duration")) (t' := (.object "com/example/emendate/emendate/model/ErrorCode")) (by decide) (by decide)
  have sl_code_retryAfter : RoadKit.slotOf Z "com/example/emendate/emendate/model/Problem" "code" "Lcom/example/emendate/emendate/model/ErrorCode;" ≠ RoadKit.slotOf Z "com/example/emendate/emendate/model/Problem" "retryAfter" "Ljava/time/Duration;" := slot_ne (C := "com/example/emendate/emendate/model/Problem") (Or.inr (w_142 H)) (Or.inr (w_155 H)) (by decide) (t := (.object "com/example/emendate/emendate/model/ErrorCode")) (t' := (.object "java/time/Duration")) (by decide) (by decide)
  have sl_errors_retryAfter : RoadKit.slotOf Z "com/example/emendate/emendate/model/Problem" "errors" "Ljava/util/List;" ≠ RoadKit.slotOf Z "com/example/emendate/emendate/model/Problem" "retryAfter" "Ljava/time/Duration;" := slot_ne (C := "com/example/emendate/emendate/model/Problem") (Or.inr (w_153 H)) (Or.inr (w_155 H)) (by decide) (t := (.object "java/util/List")) (t' := (.object "java/time/Duration")) (by decide) (by decide)
  have sl_retryAfter_errors : RoadKit.slotOf Z "com/example/emendate/emendate/model/Problem" "retryAfter" "Ljava/time/Duration;" ≠ RoadKit.slotOf Z "com/example/emendate/emendate/model/Problem" "errors" "Ljava/util/List;" := slot_ne (C := "com/example/emendate/emendate/model/Problem") (Or.inr (w_155 H)) (Or.inr (w_153 H)) (by decide) (t := (.object "java/time/Duration")) (t' := (.object "java/util/List")) (by decide) (by decide)
  refine go_aloadN (v := .ref x) (q := 1) d18_0 rfl rfl rfl ?_
  refine go_aloadN (v := .ref ms) (q := 2) d18_1 rfl rfl rfl ?_
  refine go_null (q := 3) d18_2 rfl ?_
  refine go_iconst (x := (0 : Int32)) (q := 4) d18_3 rfl rfl ?_
  refine go_iconst (x := (0 : Int32)) (q := 5) d18_4 rfl rfl ?_
  refine go_special (c' := 0) (s' := 0) (q := 8) (S := []) (argsL := [.ref ms, .null, .int (0 : Int32), .int (0 : Int32)]) H rfl (w_119 H) (w_120 H) (w_122 H) (w_123 H) (by decide) (rm_exR H US hus SL hsl E Fcause FstackTrace FsuppressedExceptions FdetailMessage Fcode Ferrors FretryAfter) rfl rfl (lenOf pd_6 rfl) (fun _ q => q) rfl (by decide) (Nat.le_of_ble_eq_true rfl) rfl rfl (by decide) (by decide) d18_5 rfl ?_
  rintro _ h1 G - ⟨rfl, K1, G1, G2, G3, G4⟩
  refine nx_ (v := none) ?_
  show Go _ _ _ _ _ _ _ _ _ _ _ _ _ _ 8 #[.val (.ref x), .val (.ref ec), .val (.ref ms), .val (.ref li), .val (.null)] []
  refine go_aloadN (v := .ref x) (q := 9) d18_8 rfl rfl rfl ?_
  refine go_aloadN (v := .ref ec) (q := 10) d18_9 rfl rfl rfl ?_
  refine go_putfield (q := 13) (w_141 H) Via.refl G2 (E.keep K1) (Or.inr ⟨(w_142 H), rfl, rfl⟩) (w_65 H) (ty := (.object "com/example/emendate/emendate/model/ErrorCode")) (by decide) rfl rfl (by simp) d18_10 rfl ?_
  intro h2 W2
  refine go_aloadN (v := .ref x) (q := 14) d18_13 rfl rfl rfl ?_
  refine go_aloadN (v := .ref li) (q := 15) d18_14 rfl rfl rfl ?_
  refine go_static (c' := 0) (s' := 0) (q := 18) (S := [.ref x]) (argsL := [.ref li]) H (w_143 H) (w_144 H) (w_78 H) (w_145 H) (by decide) (rm_co H ((EL.keep K1).wr W2)) rfl rfl (lenOf pd_3 rfl) (fun _ q => nomatch q) rfl (by decide) (Nat.le_of_ble_eq_true rfl) rfl rfl (by decide) (by decide) d18_15 rfl ?_
  rintro _ _ G - ⟨rfl, rfl⟩
  refine nx_ (v := none) ?_
  show Go _ _ _ _ _ _ _ _ _ _ _ _ _ _ 18 #[.val (.ref x), .val (.ref ec), .val (.ref ms), .val (.ref li), .val (.null)] [.ref li, .ref x]
  refine go_putfield (q := 21) (w_152 H) Via.refl (G3.other W2 (Or.inr sl_errors_code)) ((E.keep K1).wr W2) (Or.inr ⟨(w_153 H), rfl, rfl⟩) (w_65 H) (ty := (.object "java/util/List")) (by decide) rfl rfl (by simp) d18_18 rfl ?_
  intro h3 W3
  refine go_aloadN (v := .ref x) (q := 22) d18_21 rfl rfl rfl ?_
  refine go_aload (v := .null) (q := 24) d18_22 rfl rfl rfl ?_
  refine go_putfield (q := 27) (w_154 H) Via.refl ((G4.other W2 (Or.inr sl_retryAfter_code)).other W3 (Or.inr sl_retryAfter_errors)) (((E.keep K1).wr W2).wr W3) (Or.inr ⟨(w_155 H), rfl, rfl⟩) (w_65 H) (ty := (.object "java/time/Duration")) (by decide) rfl rfl (by simp) d18_24 rfl ?_
  intro h4 W4
  exact go_return H (G := []) rfl d18_27 (by decide) (by decide) (fun _ q => nomatch q) ⟨rfl, ((K1.wr W2 (Or.inl (by simp))).wr W3 (Or.inl (by simp))).wr W4 (Or.inl (by simp)), (((G1.other W2 (Or.inr sl_detailMessage_code)).other W3 (Or.inr sl_detailMessage_errors)).other W4 (Or.inr sl_detailMessage_retryAfter)), (((G2.same W2).other W3 (Or.inr sl_code_errors)).other W4 (Or.inr sl_code_retryAfter)), (((G3.other W2 (Or.inr sl_errors_code)).same W3).other W4 (Or.inr sl_errors_retryAfter))⟩
set_option maxRecDepth 65536 in
set_option maxHeartbeats 4000000 in
theorem rm_fc {l : Launch} {Z : State} {a0 : Array Value} (H : Wd Z a0) {h : Heap} {x : Addr} {v : Value} (Fv : Fld Z h x "com/example/emendate/emendate/model/FieldError" "code" "Lcom/example/emendate/emendate/model/ErrorCode;" v) (hv : v.isRef = true) : Met l Z (⟨"com/example/emendate/emendate/model/FieldError", "code", "()Lcom/example/emendate/emendate/model/ErrorCode;"⟩ : MethodName) prog_9_method_6_code 1 (some (.object "com/example/emendate/emendate/model/ErrorCode")) ({ frames := 0, cells := 0, slots := 0, locals := 0 } : Room) h [] #[.ref x] (fun u h' G => u = some v ∧ h = h') := by
  refine Met.mk (L := #[.val (.ref x)]) (plainFor_of_name (by first | (simp [plainName, overriddenIn]; done) | decide +kernel)) (fun m => by first | (simp [entryFrame, mkF, argsToLocals, Value.category]; done) | rfl) (fun K => ?_)
  show Go _ _ K "com/example/emendate/emendate/model/FieldError" "code" _ _ _ _ _ _ _ _ _ 0 _ _
  refine go_aloadN (v := .ref x) (q := 1) d10_0 rfl rfl rfl ?_
  refine go_getfield (v := v) (q := 4) (w_52 H) Via.refl Fv d10_1 rfl ?_
  exact go_areturn H (G := []) (t := (.object "com/example/emendate/emendate/model/ErrorCode")) rfl rfl hv d10_4 (by decide) (by decide) (fun _ q => nomatch q) ⟨rfl, rfl⟩
set_option maxRecDepth 65536 in
set_option maxHeartbeats 4000000 in
theorem rm_fm {l : Launch} {Z : State} {a0 : Array Value} (H : Wd Z a0) {h : Heap} {x : Addr} {v : Value} (Fv : Fld Z h x "com/example/emendate/emendate/model/FieldError" "message" "Ljava/lang/String;" v) (hv : v.isRef = true) : Met l Z (⟨"com/example/emendate/emendate/model/FieldError", "message", "()Ljava/lang/String;"⟩ : MethodName) prog_9_method_8_code 1 (some (.object "java/lang/String")) ({ frames := 0, cells := 0, slots := 0, locals := 0 } : Room) h [] #[.ref x] (fun u h' G => u = some v ∧ h = h') := by
  refine Met.mk (L := #[.val (.ref x)]) (plainFor_of_name (by first | (simp [plainName, overriddenIn]; done) | decide +kernel)) (fun m => by first | (simp [entryFrame, mkF, argsToLocals, Value.category]; done) | rfl) (fun K => ?_)
  show Go _ _ K "com/example/emendate/emendate/model/FieldError" "message" _ _ _ _ _ _ _ _ _ 0 _ _
  refine go_aloadN (v := .ref x) (q := 1) d11_0 rfl rfl rfl ?_
  refine go_getfield (v := v) (q := 4) (w_56 H) Via.refl Fv d11_1 rfl ?_
  exact go_areturn H (G := []) (t := (.object "java/lang/String")) rfl rfl hv d11_4 (by decide) (by decide) (fun _ q => nomatch q) ⟨rfl, rfl⟩
set_option maxRecDepth 65536 in
set_option maxHeartbeats 4000000 in
theorem rm_pc {l : Launch} {Z : State} {a0 : Array Value} (H : Wd Z a0) {h : Heap} {x : Addr} {v : Value} (Fv : Fld Z h x "com/example/emendate/emendate/model/Problem" "code" "Lcom/example/emendate/emendate/model/ErrorCode;" v) (hv : v.isRef = true) : Met l Z (⟨"com/example/emendate/emendate/model/Problem", "code", "()Lcom/example/emendate/emendate/model/ErrorCode;"⟩ : MethodName) prog_10_method_7_code 1 (some (.object "com/example/emendate/emendate/model/ErrorCode")) ({ frames := 0, cells := 0, slots := 0, locals := 0 } : Room) h [] #[.ref x] (fun u h' G => u = some v ∧ h = h') := by
  refine Met.mk (L := #[.val (.ref x)]) (plainFor_of_name (by first | (simp [plainName, overriddenIn]; done) | decide +kernel)) (fun m => by first | (simp [entryFrame, mkF, argsToLocals, Value.category]; done) | rfl) (fun K => ?_)
  show Go _ _ K "com/example/emendate/emendate/model/Problem" "code" _ _ _ _ _ _ _ _ _ 0 _ _
  refine go_aloadN (v := .ref x) (q := 1) d23_0 rfl rfl rfl ?_
  refine go_getfield (v := v) (q := 4) (w_141 H) Via.refl Fv d23_1 rfl ?_
  exact go_areturn H (G := []) (t := (.object "com/example/emendate/emendate/model/ErrorCode")) rfl rfl hv d23_4 (by decide) (by decide) (fun _ q => nomatch q) ⟨rfl, rfl⟩
set_option maxRecDepth 65536 in
set_option maxHeartbeats 4000000 in
theorem rm_pe {l : Launch} {Z : State} {a0 : Array Value} (H : Wd Z a0) {h : Heap} {x : Addr} {v : Value} (Fv : Fld Z h x "com/example/emendate/emendate/model/Problem" "errors" "Ljava/util/List;" v) (hv : v.isRef = true) : Met l Z (⟨"com/example/emendate/emendate/model/Problem", "errors", "()Ljava/util/List;"⟩ : MethodName) prog_10_method_9_code 1 (some (.object "java/util/List")) ({ frames := 0, cells := 0, slots := 0, locals := 0 } : Room) h [] #[.ref x] (fun u h' G => u = some v ∧ h = h') := by
  refine Met.mk (L := #[.val (.ref x)]) (plainFor_of_name (by first | (simp [plainName, overriddenIn]; done) | decide +kernel)) (fun m => by first | (simp [entryFrame, mkF, argsToLocals, Value.category]; done) | rfl) (fun K => ?_)
  show Go _ _ K "com/example/emendate/emendate/model/Problem" "errors" _ _ _ _ _ _ _ _ _ 0 _ _
  refine go_aloadN (v := .ref x) (q := 1) d26_0 rfl rfl rfl ?_
  refine go_getfield (v := v) (q := 4) (w_152 H) Via.refl Fv d26_1 rfl ?_
  exact go_areturn H (G := []) (t := (.object "java/util/List")) rfl rfl hv d26_4 (by decide) (by decide) (fun _ q => nomatch q) ⟨rfl, rfl⟩
set_option maxRecDepth 65536 in
set_option maxHeartbeats 4000000 in
theorem rm_gm {l : Launch} {Z : State} {a0 : Array Value} (H : Wd Z a0) {h : Heap} {x : Addr} {v : Value} (Fv : Fld Z h x "java/lang/Throwable" "detailMessage" "Ljava/lang/String;" v) (hv : v.isRef = true) : Met l Z (⟨"java/lang/Throwable", "getMessage", "()Ljava/lang/String;"⟩ : MethodName) jdk_78_method_6_code 1 (some (.object "java/lang/String")) ({ frames := 0, cells := 0, slots := 0, locals := 0 } : Room) h [] #[.ref x] (fun u h' G => u = some v ∧ h = h') := by
  refine Met.mk (L := #[.val (.ref x)]) (by decide +kernel) (fun m => by first | (simp [entryFrame, mkF, argsToLocals, Value.category]; done) | rfl) (fun K => ?_)
  show Go _ _ K "java/lang/Throwable" "getMessage" _ _ _ _ _ _ _ _ _ 0 _ _
  refine go_aloadN (v := .ref x) (q := 1) d25_0 rfl rfl rfl ?_
  refine go_getfield (v := v) (q := 4) (w_139 H) Via.refl Fv d25_1 rfl ?_
  exact go_areturn H (G := []) (t := (.object "java/lang/String")) rfl rfl hv d25_4 (by decide) (by decide) (fun _ q => nomatch q) ⟨rfl, rfl⟩
set_option maxRecDepth 65536 in
set_option maxHeartbeats 4000000 in
theorem rm_dtN {l : Launch} {Z : State} {a0 : Array Value} (H : Wd Z a0) {h : Heap} {p : Addr} (E : Exa Z h p "com/example/emendate/emendate/model/Problem") (FD : Fld Z h p "java/lang/Throwable" "detailMessage" "Ljava/lang/String;" .null) : Met l Z (⟨"com/example/emendate/emendate/model/Problem", "detail", "()Ljava/lang/String;"⟩ : MethodName) prog_10_method_8_code 1 (some (.object "java/lang/String")) ({ frames := 1, cells := 0, slots := 0, locals := 13 } : Room) h [] #[.ref p] (fun v h' G => v = some .null ∧ h = h') := by
  refine Met.mk (L := #[.val (.ref p)]) (plainFor_of_name (by first | (simp [plainName, overriddenIn]; done) | decide +kernel)) (fun m => by first | (simp [entryFrame, mkF, argsToLocals, Value.category]; done) | rfl) (fun K => ?_)
  show Go _ _ K "com/example/emendate/emendate/model/Problem" "detail" _ _ _ _ _ _ _ _ _ 0 _ _
  refine go_aloadN (v := .ref p) (q := 1) d24_0 rfl rfl rfl ?_
  refine go_virtualUp (c' := 0) (s' := 0) (q := 4) (S := []) (argsL := []) H (C := "com/example/emendate/emendate/model/Problem") (owner := "java/lang/Throwable") (w_166 H) (w_167 H) (w_168 H) (by decide) (w_170 H) (w_169 H) (w_128 H) (w_171 H) E (rm_gm H FD rfl) rfl rfl (lenOf pd_11 rfl) (fun _ q => nomatch q) rfl (by decide) (Nat.le_of_ble_eq_true rfl) rfl rfl (by decide) (by decide) d24_1 rfl ?_
  rintro _ _ G - ⟨rfl, rfl⟩
  refine nx_ (v := none) ?_
  show Go _ _ _ _ _ _ _ _ _ _ _ _ _ _ 4 #[.val (.ref p)] [.null]
  exact go_areturn H (G := []) (t := (.object "java/lang/String")) rfl rfl rfl d24_4 (by decide) (by decide) (fun _ q => nomatch q) ⟨rfl, rfl⟩
set_option maxRecDepth 65536 in
set_option maxHeartbeats 4000000 in
theorem rm_dtR {l : Launch} {Z : State} {a0 : Array Value} (H : Wd Z a0) {h : Heap} {p ms : Addr} (E : Exa Z h p "com/example/emendate/emendate/model/Problem") (FD : Fld Z h p "java/lang/Throwable" "detailMessage" "Ljava/lang/String;" (.ref ms)) : Met l Z (⟨"com/example/emendate/emendate/model/Problem", "detail", "()Ljava/lang/String;"⟩ : MethodName) prog_10_method_8_code 1 (some (.object "java/lang/String")) ({ frames := 1, cells := 0, slots := 0, locals := 13 } : Room) h [] #[.ref p] (fun v h' G => v = some (.ref ms) ∧ h = h') := by
  refine Met.mk (L := #[.val (.ref p)]) (plainFor_of_name (by first | (simp [plainName, overriddenIn]; done) | decide +kernel)) (fun m => by first | (simp [entryFrame, mkF, argsToLocals, Value.category]; done) | rfl) (fun K => ?_)
  show Go _ _ K "com/example/emendate/emendate/model/Problem" "detail" _ _ _ _ _ _ _ _ _ 0 _ _
  refine go_aloadN (v := .ref p) (q := 1) d24_0 rfl rfl rfl ?_
  refine go_virtualUp (c' := 0) (s' := 0) (q := 4) (S := []) (argsL := []) H (C := "com/example/emendate/emendate/model/Problem") (owner := "java/lang/Throwable") (w_166 H) (w_167 H) (w_168 H) (by decide) (w_170 H) (w_169 H) (w_128 H) (w_171 H) E (rm_gm H FD rfl) rfl rfl (lenOf pd_11 rfl) (fun _ q => nomatch q) rfl (by decide) (Nat.le_of_ble_eq_true rfl) rfl rfl (by decide) (by decide) d24_1 rfl ?_
  rintro _ _ G - ⟨rfl, rfl⟩
  refine nx_ (v := none) ?_
  show Go _ _ _ _ _ _ _ _ _ _ _ _ _ _ 4 #[.val (.ref p)] [.ref ms]
  exact go_areturn H (G := []) (t := (.object "java/lang/String")) rfl rfl rfl d24_4 (by decide) (by decide) (fun _ q => nomatch q) ⟨rfl, rfl⟩
set_option maxRecDepth 65536 in
set_option maxHeartbeats 4000000 in
theorem rm_pick {l : Launch} {Z : State} {a0 : Array Value} (H : Wd Z a0) {h : Heap} {i : Int32} (EC : ECs Z) : Met l Z (⟨"com/example/emendate/emendate/model/ProblemOfPinLaw", "pick", "(I)Lcom/example/emendate/emendate/model/ErrorCode;"⟩ : MethodName) method_3_code 2 (some (.object "com/example/emendate/emendate/model/ErrorCode")) ({ frames := 0, cells := 0, slots := 0, locals := 0 } : Room) h [] #[.int i] (fun v h' G => ∃ a, v = some (.ref a) ∧ h = h') := by
  refine Met.mk (L := #[.val (.int i), .unset]) (plainFor_of_name (by first | (simp [plainName, overriddenIn]; done) | decide +kernel)) (fun m => by first | (simp [entryFrame, mkF, argsToLocals, Value.category]; done) | rfl) (fun K => ?_)
  show Go _ _ K "com/example/emendate/emendate/model/ProblemOfPinLaw" "pick" _ _ _ _ _ _ _ _ _ 0 _ _
  obtain ⟨⟨a0, s0⟩, ⟨a1, s1⟩, ⟨a2, s2⟩, ⟨a3, s3⟩, ⟨a4, s4⟩, ⟨a5, s5⟩, ⟨a6, s6⟩, ⟨a7, s7⟩⟩ := EC
  refine go_iloadN (v := i) (q := 1) d0_0 rfl rfl ?_
  refine go_bipush (x := (7 : Int32)) (q := 3) d0_1 rfl rfl ?_
  refine go_iand (r := i &&& (7 : Int32)) (q := 4) d0_3 rfl rfl ?_
  refine go_istoreN (L' := #[.val (.int i), .val (.int (i &&& (7 : Int32)))]) (q := 5) d0_4 rfl rfl ?_
  obtain ⟨n, hn⟩ : ∃ n, n = i &&& 7 := ⟨_, rfl⟩
  rw [← hn]
  show Go _ _ _ _ _ _ _ _ _ _ _ _ _ _ 5 #[.val (.int i), .val (.int n)] []
  clear hn
  refine go_iloadN (v := n) (q := 6) d0_5 rfl rfl ?_
  by_cases q0 : n = 0
  · refine go_ifN (q := 9) d0_6 q0 rfl ?_
    refine go_getstatic (v := .ref a0) (q := 12) (w_4 H) Via.refl s0 d0_9 rfl ?_
    exact go_areturn H (G := []) (t := (.object "com/example/emendate/emendate/model/ErrorCode")) rfl rfl rfl d0_12 (by decide) (by decide) (fun _ q => nomatch q) ⟨a0, rfl, rfl⟩
  refine go_ifY (q := 13) d0_6 q0 (by decide) (by decide) ?_
  refine go_iloadN (v := n) (q := 14) d0_13 rfl rfl ?_
  refine go_iconst (x := (1 : Int32)) (q := 15) d0_14 rfl rfl ?_
  by_cases q1 : n = 1
  · refine go_icN (q := 18) d0_15 q1 rfl ?_
    refine go_getstatic (v := .ref a1) (q := 21) (w_215 H) Via.refl s1 d0_18 rfl ?_
    exact go_areturn H (G := []) (t := (.object "com/example/emendate/emendate/model/ErrorCode")) rfl rfl rfl d0_21 (by decide) (by decide) (fun _ q => nomatch q) ⟨a1, rfl, rfl⟩
  refine go_icY (q := 22) d0_15 q1 (by decide) (by decide) ?_
  refine go_iloadN (v := n) (q := 23) d0_22 rfl rfl ?_
  refine go_iconst (x := (2 : Int32)) (q := 24) d0_23 rfl rfl ?_
  by_cases q2 : n = 2
  · refine go_icN (q := 27) d0_24 q2 rfl ?_
    refine go_getstatic (v := .ref a2) (q := 30) (w_202 H) Via.refl s2 d0_27 rfl ?_
    exact go_areturn H (G := []) (t := (.object "com/example/emendate/emendate/model/ErrorCode")) rfl rfl rfl d0_30 (by decide) (by decide) (fun _ q => nomatch q) ⟨a2, rfl, rfl⟩
  refine go_icY (q := 31) d0_24 q2 (by decide) (by decide) ?_
  refine go_iloadN (v := n) (q := 32) d0_31 rfl rfl ?_
  refine go_iconst (x := (3 : Int32)) (q := 33) d0_32 rfl rfl ?_
  by_cases q3 : n = 3
  · refine go_icN (q := 36) d0_33 q3 rfl ?_
    refine go_getstatic (v := .ref a3) (q := 39) (w_217 H) Via.refl s3 d0_36 rfl ?_
    exact go_areturn H (G := []) (t := (.object "com/example/emendate/emendate/model/ErrorCode")) rfl rfl rfl d0_39 (by decide) (by decide) (fun _ q => nomatch q) ⟨a3, rfl, rfl⟩
  refine go_icY (q := 40) d0_33 q3 (by decide) (by decide) ?_
  refine go_iloadN (v := n) (q := 41) d0_40 rfl rfl ?_
  refine go_iconst (x := (4 : Int32)) (q := 42) d0_41 rfl rfl ?_
  by_cases q4 : n = 4
  · refine go_icN (q := 45) d0_42 q4 rfl ?_
    refine go_getstatic (v := .ref a4) (q := 48) (w_193 H) Via.refl s4 d0_45 rfl ?_
    exact go_areturn H (G := []) (t := (.object "com/example/emendate/emendate/model/ErrorCode")) rfl rfl rfl d0_48 (by decide) (by decide) (fun _ q => nomatch q) ⟨a4, rfl, rfl⟩
  refine go_icY (q := 49) d0_42 q4 (by decide) (by decide) ?_
  refine go_iloadN (v := n) (q := 50) d0_49 rfl rfl ?_
  refine go_iconst (x := (5 : Int32)) (q := 51) d0_50 rfl rfl ?_
  by_cases q5 : n = 5
  · refine go_icN (q := 54) d0_51 q5 rfl ?_
    refine go_getstatic (v := .ref a5) (q := 57) (w_219 H) Via.refl s5 d0_54 rfl ?_
    exact go_areturn H (G := []) (t := (.object "com/example/emendate/emendate/model/ErrorCode")) rfl rfl rfl d0_57 (by decide) (by decide) (fun _ q => nomatch q) ⟨a5, rfl, rfl⟩
  refine go_icY (q := 58) d0_51 q5 (by decide) (by decide) ?_
  refine go_iloadN (v := n) (q := 59) d0_58 rfl rfl ?_
  refine go_bipush (x := (6 : Int32)) (q := 61) d0_59 rfl rfl ?_
  by_cases q6 : n = 6
  · refine go_icN (q := 64) d0_61 q6 rfl ?_
    refine go_getstatic (v := .ref a6) (q := 67) (w_221 H) Via.refl s6 d0_64 rfl ?_
    exact go_areturn H (G := []) (t := (.object "com/example/emendate/emendate/model/ErrorCode")) rfl rfl rfl d0_67 (by decide) (by decide) (fun _ q => nomatch q) ⟨a6, rfl, rfl⟩
  refine go_icY (q := 68) d0_61 q6 (by decide) (by decide) ?_
  refine go_getstatic (v := .ref a7) (q := 71) (w_200 H) Via.refl s7 d0_68 rfl ?_
  exact go_areturn H (G := []) (t := (.object "com/example/emendate/emendate/model/ErrorCode")) rfl rfl rfl d0_71 (by decide) (by decide) (fun _ q => nomatch q) ⟨a7, rfl, rfl⟩
set_option maxRecDepth 65536 in
set_option maxHeartbeats 4000000 in
theorem rm_str {l : Launch} {Z : State} {a0 : Array Value} (H : Wd Z a0) {h : Heap} {F : List Addr} {p : Int32} {cs : List Int32} (D : Dr (XT.ushr p 24 &&& 3) (p &&& 255) ((XT.ushr p 8) &&& 255) ((XT.ushr p 16) &&& 255) cs) (hFl : ∀ x ∈ F, x < h.size) : Met l Z (⟨"com/example/emendate/emendate/model/ProblemOfPinLaw", "str", "(I)Ljava/lang/String;"⟩ : MethodName) method_2_code 5 (some (.object "java/lang/String")) ({ frames := 4, cells := 6, slots := 23, locals := 66 } : Room) h F #[.int p] (fun v h' G => ∃ a, v = some (.ref a) ∧ Keep h h' [] ∧ Str Z h' F a cs) := by
  refine Met.mk (L := #[.val (.int p), .unset, .unset, .unset, .unset]) (plainFor_of_name (by first | (simp [plainName, overriddenIn]; done) | decide +kernel)) (fun m => by first | (simp [entryFrame, mkF, argsToLocals, Value.category]; done) | rfl) (fun K => ?_)
  show Go _ _ K "com/example/emendate/emendate/model/ProblemOfPinLaw" "str" _ _ _ _ _ _ _ _ _ 0 _ _
  have Ka : Keep h h [] := Keep.refl _ _
  refine go_iloadN (v := p) (q := 1) d1_0 rfl rfl ?_
  refine go_bipush (x := (24 : Int32)) (q := 3) d1_1 rfl rfl ?_
  refine go_iushr (r := (XT.ushr p 24)) (q := 4) d1_3 rfl rfl ?_
  refine go_iconst (x := (3 : Int32)) (q := 5) d1_4 rfl rfl ?_
  refine go_iand (r := (XT.ushr p 24) &&& (3 : Int32)) (q := 6) d1_5 rfl rfl ?_
  refine go_istoreN (L' := #[.val (.int p), .val (.int ((XT.ushr p 24) &&& (3 : Int32))), .unset, .unset, .unset]) (q := 7) d1_6 rfl rfl ?_
  refine go_iloadN (v := p) (q := 8) d1_7 rfl rfl ?_
  refine go_sipush (x := (255 : Int32)) (q := 11) d1_8 rfl rfl ?_
  refine go_iand (r := p &&& (255 : Int32)) (q := 12) d1_11 rfl rfl ?_
  refine go_i2c (r := (p &&& 255)) (q := 13) d1_12 (i2c_msk _) rfl ?_
  refine go_istoreN (L' := #[.val (.int p), .val (.int ((XT.ushr p 24) &&& (3 : Int32))), .val (.int (p &&& 255)), .unset, .unset]) (q := 14) d1_13 rfl rfl ?_
  refine go_iloadN (v := p) (q := 15) d1_14 rfl rfl ?_
  refine go_bipush (x := (8 : Int32)) (q := 17) d1_15 rfl rfl ?_
  refine go_iushr (r := (XT.ushr p 8)) (q := 18) d1_17 rfl rfl ?_
  refine go_sipush (x := (255 : Int32)) (q := 21) d1_18 rfl rfl ?_
  refine go_iand (r := (XT.ushr p 8) &&& (255 : Int32)) (q := 22) d1_21 rfl rfl ?_
  refine go_i2c (r := ((XT.ushr p 8) &&& 255)) (q := 23) d1_22 (i2c_msk _) rfl ?_
  refine go_istoreN (L' := #[.val (.int p), .val (.int ((XT.ushr p 24) &&& (3 : Int32))), .val (.int (p &&& 255)), .val (.int ((XT.ushr p 8) &&& 255)), .unset]) (q := 24) d1_23 rfl rfl ?_
  refine go_iloadN (v := p) (q := 25) d1_24 rfl rfl ?_
  refine go_bipush (x := (16 : Int32)) (q := 27) d1_25 rfl rfl ?_
  refine go_iushr (r := (XT.ushr p 16)) (q := 28) d1_27 rfl rfl ?_
  refine go_sipush (x := (255 : Int32)) (q := 31) d1_28 rfl rfl ?_
  refine go_iand (r := (XT.ushr p 16) &&& (255 : Int32)) (q := 32) d1_31 rfl rfl ?_
  refine go_i2c (r := ((XT.ushr p 16) &&& 255)) (q := 33) d1_32 (i2c_msk _) rfl ?_
  refine go_istore (L' := #[.val (.int p), .val (.int ((XT.ushr p 24) &&& (3 : Int32))), .val (.int (p &&& 255)), .val (.int ((XT.ushr p 8) &&& 255)), .val (.int ((XT.ushr p 16) &&& 255))]) (q := 35) d1_33 rfl rfl ?_
  obtain ⟨m, hm⟩ : ∃ m, m = XT.ushr p 24 &&& 3 := ⟨_, rfl⟩
  rw [← hm] at D
  rw [← hm]
  show Go _ _ _ _ _ _ _ _ _ _ _ _ _ _ 35 #[.val (.int p), .val (.int m), .val (.int (p &&& 255)), .val (.int ((XT.ushr p 8) &&& 255)), .val (.int ((XT.ushr p 16) &&& 255))] []
  clear hm
  rcases D with ⟨rfl, rfl⟩ | ⟨rfl, rfl⟩ | ⟨rfl, rfl⟩ | ⟨rfl, rfl⟩
  · refine go_iloadN (v := (0 : Int32)) (q := 36) d1_35 rfl rfl ?_
    refine go_ifN (q := 39) d1_36 (by decide) rfl ?_
    refine go_new (c' := 1) (s' := 4) (q := 42) (w_10 H) (w_11 H) (w_12 H) d1_39 rfl rfl rfl (by decide) (by decide) ?_
    intro h1 x g1 E1 A1 D1
    have f_Ka_x : h.size ≤ x := by rw [g1]; exact Ka.1
    have Ka : Keep h h1 [] := Ka.ext E1
    have C1 : Fld Z h1 x ST "coder" "B" (.int 0) := D1 (Or.inr (w_27 H)) (ty := .byte) (by decide)
    have V1 : Fld Z h1 x ST "value" "[B" .null := D1 (Or.inr (w_26 H)) (ty := .array .byte) (by decide)
    have Kb : Keep h1 h1 [] := Keep.refl _ _
    refine go_dup (q := 43) d1_42 rfl rfl ?_
    refine go_iconst (x := (0 : Int32)) (q := 44) d1_43 rfl rfl ?_
    refine go_newarray (ty := .char) (dv := .int 0) (n := 0) (cap := 0) (ad := "[C") (c' := 2) (s' := 4) (q := 46) rfl rfl (by decide) (w_13 H) d1_44 (by decide) (by decide) (by decide) rfl rfl rfl rfl (by decide) (by decide) ?_
    intro h2 y k g2 E2 W2 X2
    have f_Ka_y : h.size ≤ y := by rw [g2]; exact Ka.1
    have f_Kb_y : h1.size ≤ y := by rw [g2]; exact Kb.1
    have Ka : Keep h h2 [] := Ka.ext E2
    have Kb : Keep h1 h2 [] := Kb.ext E2
    have W2 : Arv Z h2 y k .char (0 : Int32) [] (.int 0) := W2
    have Lt : Lat [] := ⟨Nat.le_of_ble_eq_true rfl, (by intro c hc; simp only [List.mem_cons, List.not_mem_nil, or_false] at hc)⟩
    refine go_mine fun hM _ => ?_
    have nF : x ∉ F := fun q => absurd (hFl x q) (Nat.not_lt.mpr f_Ka_x)
    refine go_special (c' := 6) (s' := 20) (q := 49) (S := [.ref x]) (argsL := [.ref y]) H rfl (w_14 H) (w_15 H) (w_12 H) (w_16 H) (by decide) (rm_new1 H (cs := []) (F := F) (A1.keep Kb) (C1.keep Kb nin0) (V1.keep Kb nin0) W2 Lt (Nat.le_of_ble_eq_true rfl) nF) rfl rfl (lenOf pd_12 rfl) (by intro z hz; simp only [List.mem_cons, List.not_mem_nil, or_false] at hz ⊢; first | exact hz | exact Or.inl hz | (rcases hz with hz | hz <;> simp [hz]; done) | (rcases hz with rfl | rfl <;> simp)) rfl (by decide) (Nat.le_of_ble_eq_true rfl) rfl rfl (by decide) (by decide) d1_46 rfl ?_
    rintro _ hz G - ⟨rfl, Kc, S⟩
    refine nx_ (v := none) ?_
    have Ka : Keep h hz [] := kfresh Ka Kc f_Ka_x
    show Go _ _ _ _ _ _ _ _ _ _ _ _ _ _ 49 #[.val (.int p), .val (.int (0 : Int32)), .val (.int (p &&& 255)), .val (.int ((XT.ushr p 8) &&& 255)), .val (.int ((XT.ushr p 16) &&& 255))] [.ref x]
    refine go_less (F' := F) (by intro y hy; simp [hy]) (Nat.le_refl _) (Nat.le_refl _) ?_
    exact go_areturn H (G := []) (t := (.object "java/lang/String")) rfl rfl rfl d1_49 (by decide) (by decide) (fun _ q => nomatch q) ⟨x, rfl, Ka, S⟩
  · refine go_iloadN (v := (1 : Int32)) (q := 36) d1_35 rfl rfl ?_
    refine go_ifY (q := 50) d1_36 (by decide) (by decide) (by decide) ?_
    refine go_iloadN (v := (1 : Int32)) (q := 51) d1_50 rfl rfl ?_
    refine go_iconst (x := (1 : Int32)) (q := 52) d1_51 rfl rfl ?_
    refine go_icN (q := 55) d1_52 (by decide) rfl ?_
    refine go_new (c' := 1) (s' := 4) (q := 58) (w_10 H) (w_11 H) (w_12 H) d1_55 rfl rfl rfl (by decide) (by decide) ?_
    intro h1 x g1 E1 A1 D1
    have f_Ka_x : h.size ≤ x := by rw [g1]; exact Ka.1
    have Ka : Keep h h1 [] := Ka.ext E1
    have C1 : Fld Z h1 x ST "coder" "B" (.int 0) := D1 (Or.inr (w_27 H)) (ty := .byte) (by decide)
    have V1 : Fld Z h1 x ST "value" "[B" .null := D1 (Or.inr (w_26 H)) (ty := .array .byte) (by decide)
    have Kb : Keep h1 h1 [] := Keep.refl _ _
    refine go_dup (q := 59) d1_58 rfl rfl ?_
    refine go_iconst (x := (1 : Int32)) (q := 60) d1_59 rfl rfl ?_
    refine go_newarray (ty := .char) (dv := .int 0) (n := 1) (cap := 1) (ad := "[C") (c' := 2) (s' := 5) (q := 62) rfl rfl (by decide) (w_13 H) d1_60 (by decide) (by decide) (by decide) rfl rfl rfl rfl (by decide) (by decide) ?_
    intro h2 y k g2 E2 W2 X2
    have f_Ka_y : h.size ≤ y := by rw [g2]; exact Ka.1
    have f_Kb_y : h1.size ≤ y := by rw [g2]; exact Kb.1
    have Ka : Keep h h2 [] := Ka.ext E2
    have Kb : Keep h1 h2 [] := Kb.ext E2
    have W2 : Arv Z h2 y k .char (1 : Int32) [.int 0] (.int 0) := W2
    refine go_dup (q := 63) d1_62 rfl rfl ?_
    refine go_iconst (x := (0 : Int32)) (q := 64) d1_63 rfl rfl ?_
    refine go_iloadN (v := (p &&& 255)) (q := 65) d1_64 rfl rfl ?_
    refine go_castore (i := 0) (y := (p &&& 255)) (q := 66) W2 (by decide) rfl (Nat.le_of_ble_eq_true rfl) (by simp) (nar_char ((msk p)).1 ((msk p)).2) d1_65 rfl ?_
    intro h3 K3 z3 W3
    have Ka : Keep h h3 [] := kfresh Ka K3 f_Ka_y
    have Kb : Keep h1 h3 [] := kfresh Kb K3 f_Kb_y
    have W3 : Arv Z h3 y k .char (1 : Int32) [.int (p &&& 255)] (.int 0) := W3
    have Lt : Lat [(p &&& 255)] := ⟨Nat.le_of_ble_eq_true rfl, (by intro c hc; simp only [List.mem_cons, List.not_mem_nil, or_false] at hc; subst hc; exact (msk p))⟩
    refine go_mine fun hM _ => ?_
    have nF : x ∉ F := fun q => absurd (hFl x q) (Nat.not_lt.mpr f_Ka_x)
    refine go_special (c' := 6) (s' := 21) (q := 69) (S := [.ref x]) (argsL := [.ref y]) H rfl (w_14 H) (w_15 H) (w_12 H) (w_16 H) (by decide) (rm_new1 H (cs := [(p &&& 255)]) (F := F) (A1.keep Kb) (C1.keep Kb nin0) (V1.keep Kb nin0) W3 Lt (Nat.le_of_ble_eq_true rfl) nF) rfl rfl (lenOf pd_12 rfl) (by intro z hz; simp only [List.mem_cons, List.not_mem_nil, or_false] at hz ⊢; first | exact hz | exact Or.inl hz | (rcases hz with hz | hz <;> simp [hz]; done) | (rcases hz with rfl | rfl <;> simp)) rfl (by decide) (Nat.le_of_ble_eq_true rfl) rfl rfl (by decide) (by decide) d1_66 rfl ?_
    rintro _ hz G - ⟨rfl, Kc, S⟩
    refine nx_ (v := none) ?_
    have Ka : Keep h hz [] := kfresh Ka Kc f_Ka_x
    show Go _ _ _ _ _ _ _ _ _ _ _ _ _ _ 69 #[.val (.int p), .val (.int (1 : Int32)), .val (.int (p &&& 255)), .val (.int ((XT.ushr p 8) &&& 255)), .val (.int ((XT.ushr p 16) &&& 255))] [.ref x]
    refine go_less (F' := F) (by intro y hy; simp [hy]) (Nat.le_refl _) (Nat.le_refl _) ?_
    exact go_areturn H (G := []) (t := (.object "java/lang/String")) rfl rfl rfl d1_69 (by decide) (by decide) (fun _ q => nomatch q) ⟨x, rfl, Ka, S⟩
  · refine go_iloadN (v := (2 : Int32)) (q := 36) d1_35 rfl rfl ?_
    refine go_ifY (q := 50) d1_36 (by decide) (by decide) (by decide) ?_
    refine go_iloadN (v := (2 : Int32)) (q := 51) d1_50 rfl rfl ?_
    refine go_iconst (x := (1 : Int32)) (q := 52) d1_51 rfl rfl ?_
    refine go_icY (q := 70) d1_52 (by decide) (by decide) (by decide) ?_
    refine go_iloadN (v := (2 : Int32)) (q := 71) d1_70 rfl rfl ?_
    refine go_iconst (x := (2 : Int32)) (q := 72) d1_71 rfl rfl ?_
    refine go_icN (q := 75) d1_72 (by decide) rfl ?_
    refine go_new (c' := 1) (s' := 4) (q := 78) (w_10 H) (w_11 H) (w_12 H) d1_75 rfl rfl rfl (by decide) (by decide) ?_
    intro h1 x g1 E1 A1 D1
    have f_Ka_x : h.size ≤ x := by rw [g1]; exact Ka.1
    have Ka : Keep h h1 [] := Ka.ext E1
    have C1 : Fld Z h1 x ST "coder" "B" (.int 0) := D1 (Or.inr (w_27 H)) (ty := .byte) (by decide)
    have V1 : Fld Z h1 x ST "value" "[B" .null := D1 (Or.inr (w_26 H)) (ty := .array .byte) (by decide)
    have Kb : Keep h1 h1 [] := Keep.refl _ _
    refine go_dup (q := 79) d1_78 rfl rfl ?_
    refine go_iconst (x := (2 : Int32)) (q := 80) d1_79 rfl rfl ?_
    refine go_newarray (ty := .char) (dv := .int 0) (n := 2) (cap := 2) (ad := "[C") (c' := 2) (s' := 6) (q := 82) rfl rfl (by decide) (w_13 H) d1_80 (by decide) (by decide) (by decide) rfl rfl rfl rfl (by decide) (by decide) ?_
    intro h2 y k g2 E2 W2 X2
    have f_Ka_y : h.size ≤ y := by rw [g2]; exact Ka.1
    have f_Kb_y : h1.size ≤ y := by rw [g2]; exact Kb.1
    have Ka : Keep h h2 [] := Ka.ext E2
    have Kb : Keep h1 h2 [] := Kb.ext E2
    have W2 : Arv Z h2 y k .char (2 : Int32) [.int 0, .int 0] (.int 0) := W2
    refine go_dup (q := 83) d1_82 rfl rfl ?_
    refine go_iconst (x := (0 : Int32)) (q := 84) d1_83 rfl rfl ?_
    refine go_iloadN (v := (p &&& 255)) (q := 85) d1_84 rfl rfl ?_
    refine go_castore (i := 0) (y := (p &&& 255)) (q := 86) W2 (by decide) rfl (Nat.le_of_ble_eq_true rfl) (by simp) (nar_char ((msk p)).1 ((msk p)).2) d1_85 rfl ?_
    intro h3 K3 z3 W3
    have Ka : Keep h h3 [] := kfresh Ka K3 f_Ka_y
    have Kb : Keep h1 h3 [] := kfresh Kb K3 f_Kb_y
    have W3 : Arv Z h3 y k .char (2 : Int32) [.int (p &&& 255), .int 0] (.int 0) := W3
    refine go_dup (q := 87) d1_86 rfl rfl ?_
    refine go_iconst (x := (1 : Int32)) (q := 88) d1_87 rfl rfl ?_
    refine go_iloadN (v := ((XT.ushr p 8) &&& 255)) (q := 89) d1_88 rfl rfl ?_
    refine go_castore (i := 1) (y := ((XT.ushr p 8) &&& 255)) (q := 90) W3 (by decide) rfl (Nat.le_of_ble_eq_true rfl) (by simp) (nar_char ((msk (XT.ushr p 8))).1 ((msk (XT.ushr p 8))).2) d1_89 rfl ?_
    intro h4 K4 z4 W4
    have Ka : Keep h h4 [] := kfresh Ka K4 f_Ka_y
    have Kb : Keep h1 h4 [] := kfresh Kb K4 f_Kb_y
    have W4 : Arv Z h4 y k .char (2 : Int32) [.int (p &&& 255), .int ((XT.ushr p 8) &&& 255)] (.int 0) := W4
    have Lt : Lat [(p &&& 255), ((XT.ushr p 8) &&& 255)] := ⟨Nat.le_of_ble_eq_true rfl, (by intro c hc; simp only [List.mem_cons, List.not_mem_nil, or_false] at hc; rcases hc with rfl | rfl <;> first | exact (msk p) | exact (msk (XT.ushr p 8)))⟩
    refine go_mine fun hM _ => ?_
    have nF : x ∉ F := fun q => absurd (hFl x q) (Nat.not_lt.mpr f_Ka_x)
    refine go_special (c' := 6) (s' := 22) (q := 93) (S := [.ref x]) (argsL := [.ref y]) H rfl (w_14 H) (w_15 H) (w_12 H) (w_16 H) (by decide) (rm_new1 H (cs := [(p &&& 255), ((XT.ushr p 8) &&& 255)]) (F := F) (A1.keep Kb) (C1.keep Kb nin0) (V1.keep Kb nin0) W4 Lt (Nat.le_of_ble_eq_true rfl) nF) rfl rfl (lenOf pd_12 rfl) (by intro z hz; simp only [List.mem_cons, List.not_mem_nil, or_false] at hz ⊢; first | exact hz | exact Or.inl hz | (rcases hz with hz | hz <;> simp [hz]; done) | (rcases hz with rfl | rfl <;> simp)) rfl (by decide) (Nat.le_of_ble_eq_true rfl) rfl rfl (by decide) (by decide) d1_90 rfl ?_
    rintro _ hz G - ⟨rfl, Kc, S⟩
    refine nx_ (v := none) ?_
    have Ka : Keep h hz [] := kfresh Ka Kc f_Ka_x
    show Go _ _ _ _ _ _ _ _ _ _ _ _ _ _ 93 #[.val (.int p), .val (.int (2 : Int32)), .val (.int (p &&& 255)), .val (.int ((XT.ushr p 8) &&& 255)), .val (.int ((XT.ushr p 16) &&& 255))] [.ref x]
    refine go_less (F' := F) (by intro y hy; simp [hy]) (Nat.le_refl _) (Nat.le_refl _) ?_
    exact go_areturn H (G := []) (t := (.object "java/lang/String")) rfl rfl rfl d1_93 (by decide) (by decide) (fun _ q => nomatch q) ⟨x, rfl, Ka, S⟩
  · refine go_iloadN (v := (3 : Int32)) (q := 36) d1_35 rfl rfl ?_
    refine go_ifY (q := 50) d1_36 (by decide) (by decide) (by decide) ?_
    refine go_iloadN (v := (3 : Int32)) (q := 51) d1_50 rfl rfl ?_
    refine go_iconst (x := (1 : Int32)) (q := 52) d1_51 rfl rfl ?_
    refine go_icY (q := 70) d1_52 (by decide) (by decide) (by decide) ?_
    refine go_iloadN (v := (3 : Int32)) (q := 71) d1_70 rfl rfl ?_
    refine go_iconst (x := (2 : Int32)) (q := 72) d1_71 rfl rfl ?_
    refine go_icY (q := 94) d1_72 (by decide) (by decide) (by decide) ?_
    refine go_new (c' := 1) (s' := 4) (q := 97) (w_10 H) (w_11 H) (w_12 H) d1_94 rfl rfl rfl (by decide) (by decide) ?_
    intro h1 x g1 E1 A1 D1
    have f_Ka_x : h.size ≤ x := by rw [g1]; exact Ka.1
    have Ka : Keep h h1 [] := Ka.ext E1
    have C1 : Fld Z h1 x ST "coder" "B" (.int 0) := D1 (Or.inr (w_27 H)) (ty := .byte) (by decide)
    have V1 : Fld Z h1 x ST "value" "[B" .null := D1 (Or.inr (w_26 H)) (ty := .array .byte) (by decide)
    have Kb : Keep h1 h1 [] := Keep.refl _ _
    refine go_dup (q := 98) d1_97 rfl rfl ?_
    refine go_iconst (x := (3 : Int32)) (q := 99) d1_98 rfl rfl ?_
    refine go_newarray (ty := .char) (dv := .int 0) (n := 3) (cap := 3) (ad := "[C") (c' := 2) (s' := 7) (q := 101) rfl rfl (by decide) (w_13 H) d1_99 (by decide) (by decide) (by decide) rfl rfl rfl rfl (by decide) (by decide) ?_
    intro h2 y k g2 E2 W2 X2
    have f_Ka_y : h.size ≤ y := by rw [g2]; exact Ka.1
    have f_Kb_y : h1.size ≤ y := by rw [g2]; exact Kb.1
    have Ka : Keep h h2 [] := Ka.ext E2
    have Kb : Keep h1 h2 [] := Kb.ext E2
    have W2 : Arv Z h2 y k .char (3 : Int32) [.int 0, .int 0, .int 0] (.int 0) := W2
    refine go_dup (q := 102) d1_101 rfl rfl ?_
    refine go_iconst (x := (0 : Int32)) (q := 103) d1_102 rfl rfl ?_
    refine go_iloadN (v := (p &&& 255)) (q := 104) d1_103 rfl rfl ?_
    refine go_castore (i := 0) (y := (p &&& 255)) (q := 105) W2 (by decide) rfl (Nat.le_of_ble_eq_true rfl) (by simp) (nar_char ((msk p)).1 ((msk p)).2) d1_104 rfl ?_
    intro h3 K3 z3 W3
    have Ka : Keep h h3 [] := kfresh Ka K3 f_Ka_y
    have Kb : Keep h1 h3 [] := kfresh Kb K3 f_Kb_y
    have W3 : Arv Z h3 y k .char (3 : Int32) [.int (p &&& 255), .int 0, .int 0] (.int 0) := W3
    refine go_dup (q := 106) d1_105 rfl rfl ?_
    refine go_iconst (x := (1 : Int32)) (q := 107) d1_106 rfl rfl ?_
    refine go_iloadN (v := ((XT.ushr p 8) &&& 255)) (q := 108) d1_107 rfl rfl ?_
    refine go_castore (i := 1) (y := ((XT.ushr p 8) &&& 255)) (q := 109) W3 (by decide) rfl (Nat.le_of_ble_eq_true rfl) (by simp) (nar_char ((msk (XT.ushr p 8))).1 ((msk (XT.ushr p 8))).2) d1_108 rfl ?_
    intro h4 K4 z4 W4
    have Ka : Keep h h4 [] := kfresh Ka K4 f_Ka_y
    have Kb : Keep h1 h4 [] := kfresh Kb K4 f_Kb_y
    have W4 : Arv Z h4 y k .char (3 : Int32) [.int (p &&& 255), .int ((XT.ushr p 8) &&& 255), .int 0] (.int 0) := W4
    refine go_dup (q := 110) d1_109 rfl rfl ?_
    refine go_iconst (x := (2 : Int32)) (q := 111) d1_110 rfl rfl ?_
    refine go_iload (v := ((XT.ushr p 16) &&& 255)) (q := 113) d1_111 rfl rfl ?_
    refine go_castore (i := 2) (y := ((XT.ushr p 16) &&& 255)) (q := 114) W4 (by decide) rfl (Nat.le_of_ble_eq_true rfl) (by simp) (nar_char ((msk (XT.ushr p 16))).1 ((msk (XT.ushr p 16))).2) d1_113 rfl ?_
    intro h5 K5 z5 W5
    have Ka : Keep h h5 [] := kfresh Ka K5 f_Ka_y
    have Kb : Keep h1 h5 [] := kfresh Kb K5 f_Kb_y
    have W5 : Arv Z h5 y k .char (3 : Int32) [.int (p &&& 255), .int ((XT.ushr p 8) &&& 255), .int ((XT.ushr p 16) &&& 255)] (.int 0) := W5
    have Lt : Lat [(p &&& 255), ((XT.ushr p 8) &&& 255), ((XT.ushr p 16) &&& 255)] := ⟨Nat.le_of_ble_eq_true rfl, (by intro c hc; simp only [List.mem_cons, List.not_mem_nil, or_false] at hc; rcases hc with rfl | rfl | rfl <;> first | exact (msk p) | exact (msk (XT.ushr p 8)) | exact (msk (XT.ushr p 16)))⟩
    refine go_mine fun hM _ => ?_
    have nF : x ∉ F := fun q => absurd (hFl x q) (Nat.not_lt.mpr f_Ka_x)
    refine go_special (c' := 6) (s' := 23) (q := 117) (S := [.ref x]) (argsL := [.ref y]) H rfl (w_14 H) (w_15 H) (w_12 H) (w_16 H) (by decide) (rm_new1 H (cs := [(p &&& 255), ((XT.ushr p 8) &&& 255), ((XT.ushr p 16) &&& 255)]) (F := F) (A1.keep Kb) (C1.keep Kb nin0) (V1.keep Kb nin0) W5 Lt (Nat.le_of_ble_eq_true rfl) nF) rfl rfl (lenOf pd_12 rfl) (by intro z hz; simp only [List.mem_cons, List.not_mem_nil, or_false] at hz ⊢; first | exact hz | exact Or.inl hz | (rcases hz with hz | hz <;> simp [hz]; done) | (rcases hz with rfl | rfl <;> simp)) rfl (by decide) (Nat.le_of_ble_eq_true rfl) rfl rfl (by decide) (by decide) d1_114 rfl ?_
    rintro _ hz G - ⟨rfl, Kc, S⟩
    refine nx_ (v := none) ?_
    have Ka : Keep h hz [] := kfresh Ka Kc f_Ka_x
    show Go _ _ _ _ _ _ _ _ _ _ _ _ _ _ 117 #[.val (.int p), .val (.int (3 : Int32)), .val (.int (p &&& 255)), .val (.int ((XT.ushr p 8) &&& 255)), .val (.int ((XT.ushr p 16) &&& 255))] [.ref x]
    refine go_less (F' := F) (by intro y hy; simp [hy]) (Nat.le_refl _) (Nat.le_refl _) ?_
    exact go_areturn H (G := []) (t := (.object "java/lang/String")) rfl rfl rfl d1_117 (by decide) (by decide) (fun _ q => nomatch q) ⟨x, rfl, Ka, S⟩
abbrev GL (l : Launch) (Z : State) (K : Cx) (h : Heap) (F : List Addr) (c s pc : Nat) (L : Array Slot) (S : List Value) : Prop := Go l Z K "com/example/emendate/emendate/model/ProblemOfPinLaw" "law" code 11 ret ({ frames := 10, cells := 32, slots := 1216, locals := 192 } : Room) (fun v h' G => v = some (.int 1)) h F c s pc L S
set_option maxRecDepth 65536 in
set_option maxHeartbeats 4000000 in
theorem rm_pofN {l : Launch} {Z : State} {a0 : Array Value} (H : Wd Z a0) {h : Heap} {e ec em : Addr} {us sl : Value} (SE : Sta Z Z.heap "java/util/ImmutableCollections" "EMPTY" "Ljava/lang/Object;" (.ref em)) (US : Sta Z Z.heap "java/lang/Throwable" "UNASSIGNED_STACK" "[Ljava/lang/StackTraceElement;" us) (hus : us.isRef = true) (SL : Sta Z Z.heap "java/lang/Throwable" "SUPPRESSED_SENTINEL" "Ljava/util/List;" sl) (hsl : sl.isRef = true) (Ee : Exa Z h e "com/example/emendate/emendate/model/FieldError") (FC : Fld Z h e "com/example/emendate/emendate/model/FieldError" "code" "Lcom/example/emendate/emendate/model/ErrorCode;" (.ref ec)) (FM : Fld Z h e "com/example/emendate/emendate/model/FieldError" "message" "Ljava/lang/String;" .null) : Met l Z (⟨"com/example/emendate/emendate/model/Problem", "of", "(Lcom/example/emendate/emendate/model/FieldError;)Lcom/example/emendate/emendate/model/Problem;"⟩ : MethodName) prog_10_method_4_code 1 (some (.object "com/example/emendate/emendate/model/Problem")) ({ frames := 6, cells := 2, slots := 11, locals := 84 } : Room) h [] #[.ref e] (fun v h' G => ∃ p li, v = some (.ref p) ∧ Keep h h' [] ∧ Exa Z h' p "com/example/emendate/emendate/model/Problem" ∧ Fld Z h' p "com/example/emendate/emendate/model/Problem" "code" "Lcom/example/emendate/emendate/model/ErrorCode;" (.ref ec) ∧ Fld Z h' p "java/lang/Throwable" "detailMessage" "Ljava/lang/String;" .null ∧ Fld Z h' p "com/example/emendate/emendate/model/Problem" "errors" "Ljava/util/List;" (.ref li) ∧ Exa Z h' li "java/util/ImmutableCollections$List12" ∧ Fld Z h' li "java/util/ImmutableCollections$List12" "e0" "Ljava/lang/Object;" (.ref e) ∧ Fld Z h' li "java/util/ImmutableCollections$List12" "e1" "Ljava/lang/Object;" (.ref em)) := by
  refine Met.mk (L := #[.val (.ref e)]) (plainFor_of_name (by first | (simp [plainName, overriddenIn]; done) | decide +kernel)) (fun m => by first | (simp [entryFrame, mkF, argsToLocals, Value.category]; done) | rfl) (fun K => ?_)
  show Go _ _ K "com/example/emendate/emendate/model/Problem" "of" _ _ _ _ _ _ _ _ _ 0 _ _
  have Ka : Keep h h [] := Keep.refl _ _
  refine go_new (c' := 1) (s' := 9) (q := 3) (w_64 H) (w_65 H) (w_62 H) d9_0 rfl rfl rfl (by decide) (by decide) ?_
  intro h1 p g1 E1 A1 D1
  have f_Ka_p : h.size ≤ p := by rw [g1]; exact Ka.1
  have Ka : Keep h h1 [] := Ka.ext E1
  have Fcause : Fld Z h1 p "java/lang/Throwable" "cause" "Ljava/lang/Throwable;" .null := D1 (Or.inl (w_132 H)) (ty := (.object "java/lang/Throwable")) (by decide)
  have FstackTrace : Fld Z h1 p "java/lang/Throwable" "stackTrace" "[Ljava/lang/StackTraceElement;" .null := D1 (Or.inl (w_135 H)) (ty := (.array (.object "java/lang/StackTraceElement"))) (by decide)
  have FsuppressedExceptions : Fld Z h1 p "java/lang/Throwable" "suppressedExceptions" "Ljava/util/List;" .null := D1 (Or.inl (w_138 H)) (ty := (.object "java/util/List")) (by decide)
  have FdetailMessage : Fld Z h1 p "java/lang/Throwable" "detailMessage" "Ljava/lang/String;" .null := D1 (Or.inl (w_140 H)) (ty := (.object "java/lang/String")) (by decide)
  have Fcode : Fld Z h1 p "com/example/emendate/emendate/model/Problem" "code" "Lcom/example/emendate/emendate/model/ErrorCode;" .null := D1 (Or.inr (w_142 H)) (ty := (.object "com/example/emendate/emendate/model/ErrorCode")) (by decide)
  have Ferrors : Fld Z h1 p "com/example/emendate/emendate/model/Problem" "errors" "Ljava/util/List;" .null := D1 (Or.inr (w_153 H)) (ty := (.object "java/util/List")) (by decide)
  have FretryAfter : Fld Z h1 p "com/example/emendate/emendate/model/Problem" "retryAfter" "Ljava/time/Duration;" .null := D1 (Or.inr (w_155 H)) (ty := (.object "java/time/Duration")) (by decide)
  refine go_dup (q := 4) d9_3 rfl rfl ?_
  refine go_aloadN (v := .ref e) (q := 5) d9_4 rfl rfl rfl ?_
  refine go_virtual (c' := 1) (s' := 9) (q := 8) (S := [.ref p, .ref p]) (argsL := []) H (C := "com/example/emendate/emendate/model/FieldError") (w_66 H) (w_67 H) (nf_self (w_69 H)) (w_69 H) (w_68 H) (w_34 H) (w_70 H) (by decide) (Ee.ext E1) (rm_fc H (FC.ext E1) rfl) rfl rfl (lenOf pd_13 rfl) (fun _ q => nomatch q) rfl (by decide) (Nat.le_of_ble_eq_true rfl) rfl rfl (by decide) (by decide) d9_5 rfl ?_
  rintro _ _ G - ⟨rfl, rfl⟩
  refine nx_ (v := none) ?_
  show Go _ _ _ _ _ _ _ _ _ _ _ _ _ _ 8 #[.val (.ref e)] [.ref ec, .ref p, .ref p]
  refine go_aloadN (v := .ref e) (q := 9) d9_8 rfl rfl rfl ?_
  refine go_virtual (c' := 1) (s' := 9) (q := 12) (S := [.ref ec, .ref p, .ref p]) (argsL := []) H (C := "com/example/emendate/emendate/model/FieldError") (w_71 H) (w_72 H) (nf_self (w_74 H)) (w_74 H) (w_73 H) (w_34 H) (w_75 H) (by decide) (Ee.ext E1) (rm_fm H (FM.ext E1) rfl) rfl rfl (lenOf pd_11 rfl) (fun _ q => nomatch q) rfl (by decide) (Nat.le_of_ble_eq_true rfl) rfl rfl (by decide) (by decide) d9_9 rfl ?_
  rintro _ _ G - ⟨rfl, rfl⟩
  refine nx_ (v := none) ?_
  show Go _ _ _ _ _ _ _ _ _ _ _ _ _ _ 12 #[.val (.ref e)] [.null, .ref ec, .ref p, .ref p]
  refine go_aloadN (v := .ref e) (q := 13) d9_12 rfl rfl rfl ?_
  refine go_static (c' := 2) (s' := 11) (q := 16) (S := [.null, .ref ec, .ref p, .ref p]) (argsL := [.ref e]) H (w_76 H) (w_77 H) (w_78 H) (w_79 H) (by decide) (rm_of H SE) rfl rfl (lenOf pd_14 rfl) (fun _ q => nomatch q) rfl (by decide) (Nat.le_of_ble_eq_true rfl) rfl rfl (by decide) (by decide) d9_13 rfl ?_
  rintro _ h2 G - ⟨li, rfl, gl, K2, AL2, L0, L1⟩
  refine nx_ (v := none) ?_
  have Ka : Keep h h2 [] := Ka.trans K2 (fun _ q => nomatch q)
  show Go _ _ _ _ _ _ _ _ _ _ _ _ _ _ 16 #[.val (.ref e)] [.ref li, .null, .ref ec, .ref p, .ref p]
  refine go_null (q := 17) d9_16 rfl ?_
  have nlp : li ≠ p := (Nat.ne_of_lt (Nat.lt_of_lt_of_le A1.lt gl)).symm
  refine go_special (c' := 2) (s' := 11) (q := 20) (S := [.ref p]) (argsL := [.ref ec, .null, .ref li, .null]) H rfl (w_116 H) (w_117 H) (w_62 H) (w_118 H) (by decide) (rm_pbN H US hus SL hsl (A1.keep K2) (Fcause.keep K2 nin0) (FstackTrace.keep K2 nin0) (FsuppressedExceptions.keep K2 nin0) (FdetailMessage.keep K2 nin0) (Fcode.keep K2 nin0) (Ferrors.keep K2 nin0) (FretryAfter.keep K2 nin0) AL2) rfl rfl (lenOf pd_15 rfl) (by intro z hz; simp only [List.mem_cons, List.not_mem_nil, or_false] at hz ⊢; first | exact hz | exact Or.inl hz | (rcases hz with hz | hz <;> simp [hz]; done) | (rcases hz with rfl | rfl <;> simp)) rfl (by decide) (Nat.le_of_ble_eq_true rfl) rfl rfl (by decide) (by decide) d9_17 rfl ?_
  rintro _ h3 G - ⟨rfl, K3, G1, G2, G3⟩
  refine nx_ (v := none) ?_
  have Ka : Keep h h3 [] := kfresh Ka K3 f_Ka_p
  show Go _ _ _ _ _ _ _ _ _ _ _ _ _ _ 20 #[.val (.ref e)] [.ref p]
  exact go_areturn H (G := []) (t := (.object "com/example/emendate/emendate/model/Problem")) rfl rfl rfl d9_20 (by decide) (by decide) (fun _ q => nomatch q) ⟨p, li, rfl, Ka, (A1.keep K2).keep K3, G2, G1, G3, AL2.keep K3, L0.keep K3 (ninS nlp nin0), L1.keep K3 (ninS nlp nin0)⟩
set_option maxRecDepth 65536 in
set_option maxHeartbeats 8000000 in
theorem j28N {l : Launch} {Z : State} {a0 : Array Value} (H : Wd Z a0) {K : Cx} {h : Heap} {ec fs em oe : Addr} {i0 i1 i2 i3 : Int32} {us sl : Value} (SE : Sta Z Z.heap "java/util/ImmutableCollections" "EMPTY" "Ljava/lang/Object;" (.ref em)) (SO : Sta Z Z.heap "java/util/OptionalInt" "EMPTY" "Ljava/util/OptionalInt;" (.ref oe)) (US : Sta Z Z.heap "java/lang/Throwable" "UNASSIGNED_STACK" "[Ljava/lang/StackTraceElement;" us) (hus : us.isRef = true) (SL : Sta Z Z.heap "java/lang/Throwable" "SUPPRESSED_SENTINEL" "Ljava/util/List;" sl) (hsl : sl.isRef = true) : GL l Z K h [] 12 46 28 #[.val (.int i0), .val (.int i1), .val (.int i2), .val (.int i3), .val (.ref ec), .val (.ref fs), .val (.null), .unset, .unset, .unset, .unset] [] := by
  have Ka : Keep h h [] := Keep.refl _ _
  refine go_new (c' := 13) (s' := 50) (q := 31) (w_32 H) (w_33 H) (w_34 H) at_28 rfl rfl rfl (by decide) (by decide) ?_
  intro h1 e g1 E1 A1 D1
  have f_Ka_e : h.size ≤ e := by rw [g1]; exact Ka.1
  have Ka : Keep h h1 [] := Ka.ext E1
  have Fcode : Fld Z h1 e "com/example/emendate/emendate/model/FieldError" "code" "Lcom/example/emendate/emendate/model/ErrorCode;" .null := D1 (Or.inr (w_53 H)) (ty := (.object "com/example/emendate/emendate/model/ErrorCode")) (by decide)
  have Ffield : Fld Z h1 e "com/example/emendate/emendate/model/FieldError" "field" "Ljava/lang/String;" .null := D1 (Or.inr (w_55 H)) (ty := (.object "java/lang/String")) (by decide)
  have Fmessage : Fld Z h1 e "com/example/emendate/emendate/model/FieldError" "message" "Ljava/lang/String;" .null := D1 (Or.inr (w_57 H)) (ty := (.object "java/lang/String")) (by decide)
  have Foperation : Fld Z h1 e "com/example/emendate/emendate/model/FieldError" "operation" "Ljava/util/OptionalInt;" .null := D1 (Or.inr (w_59 H)) (ty := (.object "java/util/OptionalInt")) (by decide)
  refine go_dup (q := 32) at_31 rfl rfl ?_
  refine go_aload (v := .ref ec) (q := 34) at_32 rfl rfl rfl ?_
  refine go_aload (v := .ref fs) (q := 36) at_34 rfl rfl rfl ?_
  refine go_aload (v := .null) (q := 38) at_36 rfl rfl rfl ?_
  refine go_special (c' := 13) (s' := 50) (q := 41) (S := [.ref e]) (argsL := [.ref ec, .ref fs, .null]) H rfl (w_35 H) (w_36 H) (w_34 H) (w_37 H) (by decide) (rm_fe3N H SO A1 Fcode Ffield Fmessage Foperation) rfl rfl (lenOf pd_16 rfl) (fun _ q => q) rfl (by decide) (Nat.le_of_ble_eq_true rfl) rfl rfl (by decide) (by decide) at_38 rfl ?_
  rintro _ h2 G - ⟨rfl, K2, FC, FM⟩
  refine nx_ (v := none) ?_
  have Ka : Keep h h2 [] := kfresh Ka K2 f_Ka_e
  show Go _ _ _ _ _ _ _ _ _ _ _ _ _ _ 41 #[.val (.int i0), .val (.int i1), .val (.int i2), .val (.int i3), .val (.ref ec), .val (.ref fs), .val (.null), .unset, .unset, .unset, .unset] [.ref e]
  refine go_astore (L' := #[.val (.int i0), .val (.int i1), .val (.int i2), .val (.int i3), .val (.ref ec), .val (.ref fs), .val (.null), .val (.ref e), .unset, .unset, .unset]) (q := 43) at_41 rfl rfl rfl ?_
  refine go_aload (v := .ref e) (q := 45) at_43 rfl rfl rfl ?_
  refine go_static (c' := 15) (s' := 61) (q := 48) (S := []) (argsL := [.ref e]) H (w_60 H) (w_61 H) (w_62 H) (w_63 H) (by decide) (rm_pofN H SE US hus SL hsl (A1.keep K2) FC FM) rfl rfl (lenOf pd_17 rfl) (fun _ q => nomatch q) rfl (by decide) (Nat.le_of_ble_eq_true rfl) rfl rfl (by decide) (by decide) at_45 rfl ?_
  rintro _ h3 G - ⟨p, li, rfl, K3, EP, PC, PD, PE, EL, L0, L1⟩
  refine nx_ (v := none) ?_
  have Ka : Keep h h3 [] := Ka.trans K3 (fun _ q => nomatch q)
  show Go _ _ _ _ _ _ _ _ _ _ _ _ _ _ 48 #[.val (.int i0), .val (.int i1), .val (.int i2), .val (.int i3), .val (.ref ec), .val (.ref fs), .val (.null), .val (.ref e), .unset, .unset, .unset] [.ref p]
  refine go_astore (L' := #[.val (.int i0), .val (.int i1), .val (.int i2), .val (.int i3), .val (.ref ec), .val (.ref fs), .val (.null), .val (.ref e), .val (.ref p), .unset, .unset]) (q := 50) at_48 rfl rfl rfl ?_
  refine go_aload (v := .ref p) (q := 52) at_50 rfl rfl rfl ?_
  refine go_virtual (c' := 15) (s' := 61) (q := 55) (S := []) (argsL := []) H (C := "com/example/emendate/emendate/model/Problem") (w_156 H) (w_157 H) (nf_self (w_159 H)) (w_159 H) (w_158 H) (w_62 H) (w_160 H) (by decide) EP (rm_pc H PC rfl) rfl rfl (lenOf pd_13 rfl) (fun _ q => nomatch q) rfl (by decide) (Nat.le_of_ble_eq_true rfl) rfl rfl (by decide) (by decide) at_52 rfl ?_
  rintro _ _ G - ⟨rfl, rfl⟩
  refine nx_ (v := none) ?_
  show Go _ _ _ _ _ _ _ _ _ _ _ _ _ _ 55 #[.val (.int i0), .val (.int i1), .val (.int i2), .val (.int i3), .val (.ref ec), .val (.ref fs), .val (.null), .val (.ref e), .val (.ref p), .unset, .unset] [.ref ec]
  refine go_aload (v := .ref ec) (q := 57) at_55 rfl rfl rfl ?_
  refine go_acY (q := 62) at_57 rfl rfl (by simp [XT.acmp]) (by decide) (by decide) ?_
  refine go_aload (v := .ref p) (q := 64) at_62 rfl rfl rfl ?_
  refine go_virtual (c' := 15) (s' := 61) (q := 67) (S := []) (argsL := []) H (C := "com/example/emendate/emendate/model/Problem") (w_161 H) (w_162 H) (nf_self (w_164 H)) (w_164 H) (w_163 H) (w_62 H) (w_165 H) (by decide) EP (rm_dtN H EP PD) rfl rfl (lenOf pd_11 rfl) (fun _ q => nomatch q) rfl (by decide) (Nat.le_of_ble_eq_true rfl) rfl rfl (by decide) (by decide) at_64 rfl ?_
  rintro _ _ G - ⟨rfl, rfl⟩
  refine nx_ (v := none) ?_
  show Go _ _ _ _ _ _ _ _ _ _ _ _ _ _ 67 #[.val (.int i0), .val (.int i1), .val (.int i2), .val (.int i3), .val (.ref ec), .val (.ref fs), .val (.null), .val (.ref e), .val (.ref p), .unset, .unset] [.null]
  refine go_astore (L' := #[.val (.int i0), .val (.int i1), .val (.int i2), .val (.int i3), .val (.ref ec), .val (.ref fs), .val (.null), .val (.ref e), .val (.ref p), .val (.null), .unset]) (q := 69) at_67 rfl rfl rfl ?_
  refine go_aload (v := .null) (q := 71) at_69 rfl rfl rfl ?_
  refine go_nnN (q := 74) at_71 rfl ?_
  refine go_aload (v := .null) (q := 76) at_74 rfl rfl rfl ?_
  refine go_nullY (q := 98) at_76 (by decide) (by decide) ?_
  refine go_aload (v := .ref p) (q := 100) at_98 rfl rfl rfl ?_
  refine go_virtual (c' := 15) (s' := 61) (q := 103) (S := []) (argsL := []) H (C := "com/example/emendate/emendate/model/Problem") (w_172 H) (w_173 H) (nf_self (w_175 H)) (w_175 H) (w_174 H) (w_62 H) (w_176 H) (by decide) EP (rm_pe H PE rfl) rfl rfl (lenOf pd_18 rfl) (fun _ q => nomatch q) rfl (by decide) (Nat.le_of_ble_eq_true rfl) rfl rfl (by decide) (by decide) at_100 rfl ?_
  rintro _ _ G - ⟨rfl, rfl⟩
  refine nx_ (v := none) ?_
  show Go _ _ _ _ _ _ _ _ _ _ _ _ _ _ 103 #[.val (.int i0), .val (.int i1), .val (.int i2), .val (.int i3), .val (.ref ec), .val (.ref fs), .val (.null), .val (.ref e), .val (.ref p), .val (.null), .unset] [.ref li]
  refine go_astore (L' := #[.val (.int i0), .val (.int i1), .val (.int i2), .val (.int i3), .val (.ref ec), .val (.ref fs), .val (.null), .val (.ref e), .val (.ref p), .val (.null), .val (.ref li)]) (q := 105) at_103 rfl rfl rfl ?_
  refine go_aload (v := .ref li) (q := 107) at_105 rfl rfl rfl ?_
  refine go_interface (c' := 15) (s' := 61) (q := 112) (S := []) (argsL := []) H (C := "java/util/ImmutableCollections$List12") (w_177 H) (w_178 H) (fun s args hZ => mvT hZ (w_179 H)) (w_180 H) (w_181 H) (w_182 H) (w_183 H) (w_151 H) (w_82 H) (w_184 H) (by decide) EL (rm_lsz H SE L1) rfl rfl (lenOf pd_19 rfl) (fun _ q => nomatch q) rfl (by decide) (Nat.le_of_ble_eq_true rfl) rfl rfl (by decide) (by decide) at_107 rfl ?_
  rintro _ _ G - ⟨rfl, rfl⟩
  refine nx_ (v := none) ?_
  show Go _ _ _ _ _ _ _ _ _ _ _ _ _ _ 112 #[.val (.int i0), .val (.int i1), .val (.int i2), .val (.int i3), .val (.ref ec), .val (.ref fs), .val (.null), .val (.ref e), .val (.ref p), .val (.null), .val (.ref li)] [.int (1 : Int32)]
  refine go_iconst (x := (1 : Int32)) (q := 113) at_112 rfl rfl ?_
  refine go_icN (q := 116) at_113 (by decide) rfl ?_
  refine go_aload (v := .ref li) (q := 118) at_116 rfl rfl rfl ?_
  refine go_iconst (x := (0 : Int32)) (q := 119) at_118 rfl rfl ?_
  refine go_interface (c' := 15) (s' := 61) (q := 124) (S := []) (argsL := [.int (0 : Int32)]) H (C := "java/util/ImmutableCollections$List12") (w_185 H) (w_186 H) (fun s args hZ => mvT hZ (w_187 H)) (w_188 H) (w_189 H) (w_190 H) (w_191 H) (w_151 H) (w_82 H) (w_192 H) (by decide) EL (rm_lget H L0) rfl rfl (lenOf pd_20 rfl) (fun _ q => nomatch q) rfl (by decide) (Nat.le_of_ble_eq_true rfl) rfl rfl (by decide) (by decide) at_119 rfl ?_
  rintro _ _ G - ⟨rfl, rfl⟩
  refine nx_ (v := none) ?_
  show Go _ _ _ _ _ _ _ _ _ _ _ _ _ _ 124 #[.val (.int i0), .val (.int i1), .val (.int i2), .val (.int i3), .val (.ref ec), .val (.ref fs), .val (.null), .val (.ref e), .val (.ref p), .val (.null), .val (.ref li)] [.ref e]
  refine go_aload (v := .ref e) (q := 126) at_124 rfl rfl rfl ?_
  refine go_acN (q := 129) at_126 rfl rfl (by simp [XT.acmp]) rfl ?_
  refine go_iconst (x := (1 : Int32)) (q := 130) at_129 rfl rfl ?_
  refine go_goto (q := 134) at_130 (by decide) (by decide) ?_
  exact go_ireturn H (G := []) (t := .boolean) rfl (by decide) rfl at_134 (by decide) (by decide) (fun _ q => nomatch q) rfl
set_option maxRecDepth 65536 in
set_option maxHeartbeats 4000000 in
theorem rm_pofR {l : Launch} {Z : State} {a0 : Array Value} (H : Wd Z a0) {h : Heap} {e ec em ms : Addr} {us sl : Value} (SE : Sta Z Z.heap "java/util/ImmutableCollections" "EMPTY" "Ljava/lang/Object;" (.ref em)) (US : Sta Z Z.heap "java/lang/Throwable" "UNASSIGNED_STACK" "[Ljava/lang/StackTraceElement;" us) (hus : us.isRef = true) (SL : Sta Z Z.heap "java/lang/Throwable" "SUPPRESSED_SENTINEL" "Ljava/util/List;" sl) (hsl : sl.isRef = true) (Ee : Exa Z h e "com/example/emendate/emendate/model/FieldError") (FC : Fld Z h e "com/example/emendate/emendate/model/FieldError" "code" "Lcom/example/emendate/emendate/model/ErrorCode;" (.ref ec)) (FM : Fld Z h e "com/example/emendate/emendate/model/FieldError" "message" "Ljava/lang/String;" (.ref ms)) : Met l Z (⟨"com/example/emendate/emendate/model/Problem", "of", "(Lcom/example/emendate/emendate/model/FieldError;)Lcom/example/emendate/emendate/model/Problem;"⟩ : MethodName) prog_10_method_4_code 1 (some (.object "com/example/emendate/emendate/model/Problem")) ({ frames := 6, cells := 2, slots := 11, locals := 84 } : Room) h [] #[.ref e] (fun v h' G => ∃ p li, v = some (.ref p) ∧ Keep h h' [] ∧ Exa Z h' p "com/example/emendate/emendate/model/Problem" ∧ Fld Z h' p "com/example/emendate/emendate/model/Problem" "code" "Lcom/example/emendate/emendate/model/ErrorCode;" (.ref ec) ∧ Fld Z h' p "java/lang/Throwable" "detailMessage" "Ljava/lang/String;" (.ref ms) ∧ Fld Z h' p "com/example/emendate/emendate/model/Problem" "errors" "Ljava/util/List;" (.ref li) ∧ Exa Z h' li "java/util/ImmutableCollections$List12" ∧ Fld Z h' li "java/util/ImmutableCollections$List12" "e0" "Ljava/lang/Object;" (.ref e) ∧ Fld Z h' li "java/util/ImmutableCollections$List12" "e1" "Ljava/lang/Object;" (.ref em)) := by
  refine Met.mk (L := #[.val (.ref e)]) (plainFor_of_name (by first | (simp [plainName, overriddenIn]; done) | decide +kernel)) (fun m => by first | (simp [entryFrame, mkF, argsToLocals, Value.category]; done) | rfl) (fun K => ?_)
  show Go _ _ K "com/example/emendate/emendate/model/Problem" "of" _ _ _ _ _ _ _ _ _ 0 _ _
  have Ka : Keep h h [] := Keep.refl _ _
  refine go_new (c' := 1) (s' := 9) (q := 3) (w_64 H) (w_65 H) (w_62 H) d9_0 rfl rfl rfl (by decide) (by decide) ?_
  intro h1 p g1 E1 A1 D1
  have f_Ka_p : h.size ≤ p := by rw [g1]; exact Ka.1
  have Ka : Keep h h1 [] := Ka.ext E1
  have Fcause : Fld Z h1 p "java/lang/Throwable" "cause" "Ljava/lang/Throwable;" .null := D1 (Or.inl (w_132 H)) (ty := (.object "java/lang/Throwable")) (by decide)
  have FstackTrace : Fld Z h1 p "java/lang/Throwable" "stackTrace" "[Ljava/lang/StackTraceElement;" .null := D1 (Or.inl (w_135 H)) (ty := (.array (.object "java/lang/StackTraceElement"))) (by decide)
  have FsuppressedExceptions : Fld Z h1 p "java/lang/Throwable" "suppressedExceptions" "Ljava/util/List;" .null := D1 (Or.inl (w_138 H)) (ty := (.object "java/util/List")) (by decide)
  have FdetailMessage : Fld Z h1 p "java/lang/Throwable" "detailMessage" "Ljava/lang/String;" .null := D1 (Or.inl (w_140 H)) (ty := (.object "java/lang/String")) (by decide)
  have Fcode : Fld Z h1 p "com/example/emendate/emendate/model/Problem" "code" "Lcom/example/emendate/emendate/model/ErrorCode;" .null := D1 (Or.inr (w_142 H)) (ty := (.object "com/example/emendate/emendate/model/ErrorCode")) (by decide)
  have Ferrors : Fld Z h1 p "com/example/emendate/emendate/model/Problem" "errors" "Ljava/util/List;" .null := D1 (Or.inr (w_153 H)) (ty := (.object "java/util/List")) (by decide)
  have FretryAfter : Fld Z h1 p "com/example/emendate/emendate/model/Problem" "retryAfter" "Ljava/time/Duration;" .null := D1 (Or.inr (w_155 H)) (ty := (.object "java/time/Duration")) (by decide)
  refine go_dup (q := 4) d9_3 rfl rfl ?_
  refine go_aloadN (v := .ref e) (q := 5) d9_4 rfl rfl rfl ?_
  refine go_virtual (c' := 1) (s' := 9) (q := 8) (S := [.ref p, .ref p]) (argsL := []) H (C := "com/example/emendate/emendate/model/FieldError") (w_66 H) (w_67 H) (nf_self (w_69 H)) (w_69 H) (w_68 H) (w_34 H) (w_70 H) (by decide) (Ee.ext E1) (rm_fc H (FC.ext E1) rfl) rfl rfl (lenOf pd_13 rfl) (fun _ q => nomatch q) rfl (by decide) (Nat.le_of_ble_eq_true rfl) rfl rfl (by decide) (by decide) d9_5 rfl ?_
  rintro _ _ G - ⟨rfl, rfl⟩
  refine nx_ (v := none) ?_
  show Go _ _ _ _ _ _ _ _ _ _ _ _ _ _ 8 #[.val (.ref e)] [.ref ec, .ref p, .ref p]
  refine go_aloadN (v := .ref e) (q := 9) d9_8 rfl rfl rfl ?_
  refine go_virtual (c' := 1) (s' := 9) (q := 12) (S := [.ref ec, .ref p, .ref p]) (argsL := []) H (C := "com/example/emendate/emendate/model/FieldError") (w_71 H) (w_72 H) (nf_self (w_74 H)) (w_74 H) (w_73 H) (w_34 H) (w_75 H) (by decide) (Ee.ext E1) (rm_fm H (FM.ext E1) rfl) rfl rfl (lenOf pd_11 rfl) (fun _ q => nomatch q) rfl (by decide) (Nat.le_of_ble_eq_true rfl) rfl rfl (by decide) (by decide) d9_9 rfl ?_
  rintro _ _ G - ⟨rfl, rfl⟩
  refine nx_ (v := none) ?_
  show Go _ _ _ _ _ _ _ _ _ _ _ _ _ _ 12 #[.val (.ref e)] [.ref ms, .ref ec, .ref p, .ref p]
  refine go_aloadN (v := .ref e) (q := 13) d9_12 rfl rfl rfl ?_
  refine go_static (c' := 2) (s' := 11) (q := 16) (S := [.ref ms, .ref ec, .ref p, .ref p]) (argsL := [.ref e]) H (w_76 H) (w_77 H) (w_78 H) (w_79 H) (by decide) (rm_of H SE) rfl rfl (lenOf pd_14 rfl) (fun _ q => nomatch q) rfl (by decide) (Nat.le_of_ble_eq_true rfl) rfl rfl (by decide) (by decide) d9_13 rfl ?_
  rintro _ h2 G - ⟨li, rfl, gl, K2, AL2, L0, L1⟩
  refine nx_ (v := none) ?_
  have Ka : Keep h h2 [] := Ka.trans K2 (fun _ q => nomatch q)
  show Go _ _ _ _ _ _ _ _ _ _ _ _ _ _ 16 #[.val (.ref e)] [.ref li, .ref ms, .ref ec, .ref p, .ref p]
  refine go_null (q := 17) d9_16 rfl ?_
  have nlp : li ≠ p := (Nat.ne_of_lt (Nat.lt_of_lt_of_le A1.lt gl)).symm
  refine go_special (c' := 2) (s' := 11) (q := 20) (S := [.ref p]) (argsL := [.ref ec, .ref ms, .ref li, .null]) H rfl (w_116 H) (w_117 H) (w_62 H) (w_118 H) (by decide) (rm_pbR H US hus SL hsl (A1.keep K2) (Fcause.keep K2 nin0) (FstackTrace.keep K2 nin0) (FsuppressedExceptions.keep K2 nin0) (FdetailMessage.keep K2 nin0) (Fcode.keep K2 nin0) (Ferrors.keep K2 nin0) (FretryAfter.keep K2 nin0) AL2) rfl rfl (lenOf pd_15 rfl) (by intro z hz; simp only [List.mem_cons, List.not_mem_nil, or_false] at hz ⊢; first | exact hz | exact Or.inl hz | (rcases hz with hz | hz <;> simp [hz]; done) | (rcases hz with rfl | rfl <;> simp)) rfl (by decide) (Nat.le_of_ble_eq_true rfl) rfl rfl (by decide) (by decide) d9_17 rfl ?_
  rintro _ h3 G - ⟨rfl, K3, G1, G2, G3⟩
  refine nx_ (v := none) ?_
  have Ka : Keep h h3 [] := kfresh Ka K3 f_Ka_p
  show Go _ _ _ _ _ _ _ _ _ _ _ _ _ _ 20 #[.val (.ref e)] [.ref p]
  exact go_areturn H (G := []) (t := (.object "com/example/emendate/emendate/model/Problem")) rfl rfl rfl d9_20 (by decide) (by decide) (fun _ q => nomatch q) ⟨p, li, rfl, Ka, (A1.keep K2).keep K3, G2, G1, G3, AL2.keep K3, L0.keep K3 (ninS nlp nin0), L1.keep K3 (ninS nlp nin0)⟩
set_option maxRecDepth 65536 in
set_option maxHeartbeats 8000000 in
theorem j28R {l : Launch} {Z : State} {a0 : Array Value} (H : Wd Z a0) {K : Cx} {h : Heap} {ec fs em oe ms : Addr} {i0 i1 i2 i3 : Int32} {us sl : Value} (SE : Sta Z Z.heap "java/util/ImmutableCollections" "EMPTY" "Ljava/lang/Object;" (.ref em)) (SO : Sta Z Z.heap "java/util/OptionalInt" "EMPTY" "Ljava/util/OptionalInt;" (.ref oe)) (US : Sta Z Z.heap "java/lang/Throwable" "UNASSIGNED_STACK" "[Ljava/lang/StackTraceElement;" us) (hus : us.isRef = true) (SL : Sta Z Z.heap "java/lang/Throwable" "SUPPRESSED_SENTINEL" "Ljava/util/List;" sl) (hsl : sl.isRef = true) (Em : Exa Z h ms ST) : GL l Z K h [] 12 46 28 #[.val (.int i0), .val (.int i1), .val (.int i2), .val (.int i3), .val (.ref ec), .val (.ref fs), .val (.ref ms), .unset, .unset, .unset, .unset] [] := by
  have Ka : Keep h h [] := Keep.refl _ _
  refine go_new (c' := 13) (s' := 50) (q := 31) (w_32 H) (w_33 H) (w_34 H) at_28 rfl rfl rfl (by decide) (by decide) ?_
  intro h1 e g1 E1 A1 D1
  have f_Ka_e : h.size ≤ e := by rw [g1]; exact Ka.1
  have Ka : Keep h h1 [] := Ka.ext E1
  have Fcode : Fld Z h1 e "com/example/emendate/emendate/model/FieldError" "code" "Lcom/example/emendate/emendate/model/ErrorCode;" .null := D1 (Or.inr (w_53 H)) (ty := (.object "com/example/emendate/emendate/model/ErrorCode")) (by decide)
  have Ffield : Fld Z h1 e "com/example/emendate/emendate/model/FieldError" "field" "Ljava/lang/String;" .null := D1 (Or.inr (w_55 H)) (ty := (.object "java/lang/String")) (by decide)
  have Fmessage : Fld Z h1 e "com/example/emendate/emendate/model/FieldError" "message" "Ljava/lang/String;" .null := D1 (Or.inr (w_57 H)) (ty := (.object "java/lang/String")) (by decide)
  have Foperation : Fld Z h1 e "com/example/emendate/emendate/model/FieldError" "operation" "Ljava/util/OptionalInt;" .null := D1 (Or.inr (w_59 H)) (ty := (.object "java/util/OptionalInt")) (by decide)
  refine go_dup (q := 32) at_31 rfl rfl ?_
  refine go_aload (v := .ref ec) (q := 34) at_32 rfl rfl rfl ?_
  refine go_aload (v := .ref fs) (q := 36) at_34 rfl rfl rfl ?_
  refine go_aload (v := .ref ms) (q := 38) at_36 rfl rfl rfl ?_
  refine go_special (c' := 13) (s' := 50) (q := 41) (S := [.ref e]) (argsL := [.ref ec, .ref fs, .ref ms]) H rfl (w_35 H) (w_36 H) (w_34 H) (w_37 H) (by decide) (rm_fe3R H SO A1 Fcode Ffield Fmessage Foperation) rfl rfl (lenOf pd_16 rfl) (fun _ q => q) rfl (by decide) (Nat.le_of_ble_eq_true rfl) rfl rfl (by decide) (by decide) at_38 rfl ?_
  rintro _ h2 G - ⟨rfl, K2, FC, FM⟩
  refine nx_ (v := none) ?_
  have Ka : Keep h h2 [] := kfresh Ka K2 f_Ka_e
  show Go _ _ _ _ _ _ _ _ _ _ _ _ _ _ 41 #[.val (.int i0), .val (.int i1), .val (.int i2), .val (.int i3), .val (.ref ec), .val (.ref fs), .val (.ref ms), .unset, .unset, .unset, .unset] [.ref e]
  refine go_astore (L' := #[.val (.int i0), .val (.int i1), .val (.int i2), .val (.int i3), .val (.ref ec), .val (.ref fs), .val (.ref ms), .val (.ref e), .unset, .unset, .unset]) (q := 43) at_41 rfl rfl rfl ?_
  refine go_aload (v := .ref e) (q := 45) at_43 rfl rfl rfl ?_
  refine go_static (c' := 15) (s' := 61) (q := 48) (S := []) (argsL := [.ref e]) H (w_60 H) (w_61 H) (w_62 H) (w_63 H) (by decide) (rm_pofR H SE US hus SL hsl (A1.keep K2) FC FM) rfl rfl (lenOf pd_17 rfl) (fun _ q => nomatch q) rfl (by decide) (Nat.le_of_ble_eq_true rfl) rfl rfl (by decide) (by decide) at_45 rfl ?_
  rintro _ h3 G - ⟨p, li, rfl, K3, EP, PC, PD, PE, EL, L0, L1⟩
  refine nx_ (v := none) ?_
  have Ka : Keep h h3 [] := Ka.trans K3 (fun _ q => nomatch q)
  show Go _ _ _ _ _ _ _ _ _ _ _ _ _ _ 48 #[.val (.int i0), .val (.int i1), .val (.int i2), .val (.int i3), .val (.ref ec), .val (.ref fs), .val (.ref ms), .val (.ref e), .unset, .unset, .unset] [.ref p]
  refine go_astore (L' := #[.val (.int i0), .val (.int i1), .val (.int i2), .val (.int i3), .val (.ref ec), .val (.ref fs), .val (.ref ms), .val (.ref e), .val (.ref p), .unset, .unset]) (q := 50) at_48 rfl rfl rfl ?_
  refine go_aload (v := .ref p) (q := 52) at_50 rfl rfl rfl ?_
  refine go_virtual (c' := 15) (s' := 61) (q := 55) (S := []) (argsL := []) H (C := "com/example/emendate/emendate/model/Problem") (w_156 H) (w_157 H) (nf_self (w_159 H)) (w_159 H) (w_158 H) (w_62 H) (w_160 H) (by decide) EP (rm_pc H PC rfl) rfl rfl (lenOf pd_13 rfl) (fun _ q => nomatch q) rfl (by decide) (Nat.le_of_ble_eq_true rfl) rfl rfl (by decide) (by decide) at_52 rfl ?_
  rintro _ _ G - ⟨rfl, rfl⟩
  refine nx_ (v := none) ?_
  show Go _ _ _ _ _ _ _ _ _ _ _ _ _ _ 55 #[.val (.int i0), .val (.int i1), .val (.int i2), .val (.int i3), .val (.ref ec), .val (.ref fs), .val (.ref ms), .val (.ref e), .val (.ref p), .unset, .unset] [.ref ec]
  refine go_aload (v := .ref ec) (q := 57) at_55 rfl rfl rfl ?_
  refine go_acY (q := 62) at_57 rfl rfl (by simp [XT.acmp]) (by decide) (by decide) ?_
  refine go_aload (v := .ref p) (q := 64) at_62 rfl rfl rfl ?_
  refine go_virtual (c' := 15) (s' := 61) (q := 67) (S := []) (argsL := []) H (C := "com/example/emendate/emendate/model/Problem") (w_161 H) (w_162 H) (nf_self (w_164 H)) (w_164 H) (w_163 H) (w_62 H) (w_165 H) (by decide) EP (rm_dtR H EP PD) rfl rfl (lenOf pd_11 rfl) (fun _ q => nomatch q) rfl (by decide) (Nat.le_of_ble_eq_true rfl) rfl rfl (by decide) (by decide) at_64 rfl ?_
  rintro _ _ G - ⟨rfl, rfl⟩
  refine nx_ (v := none) ?_
  show Go _ _ _ _ _ _ _ _ _ _ _ _ _ _ 67 #[.val (.int i0), .val (.int i1), .val (.int i2), .val (.int i3), .val (.ref ec), .val (.ref fs), .val (.ref ms), .val (.ref e), .val (.ref p), .unset, .unset] [.ref ms]
  refine go_astore (L' := #[.val (.int i0), .val (.int i1), .val (.int i2), .val (.int i3), .val (.ref ec), .val (.ref fs), .val (.ref ms), .val (.ref e), .val (.ref p), .val (.ref ms), .unset]) (q := 69) at_67 rfl rfl rfl ?_
  refine go_aload (v := .ref ms) (q := 71) at_69 rfl rfl rfl ?_
  refine go_nnY (q := 81) at_71 (by decide) (by decide) ?_
  refine go_aload (v := .ref ms) (q := 83) at_81 rfl rfl rfl ?_
  refine go_nullN (q := 86) at_83 rfl ?_
  refine go_aload (v := .ref ms) (q := 88) at_86 rfl rfl rfl ?_
  refine go_aload (v := .ref ms) (q := 90) at_88 rfl rfl rfl ?_
  refine go_virtual (c' := 15) (s' := 61) (q := 93) (S := []) (argsL := [.ref ms]) H (C := "java/lang/String") (w_195 H) (w_196 H) (nf_self (w_198 H)) (w_198 H) (w_197 H) (w_12 H) (w_199 H) (by decide) (Em.keep Ka) (rm_eqSame H) rfl rfl (lenOf pd_21 rfl) (fun _ q => nomatch q) rfl (by decide) (Nat.le_of_ble_eq_true rfl) rfl rfl (by decide) (by decide) at_90 rfl ?_
  rintro _ _ G - ⟨rfl, rfl⟩
  refine nx_ (v := none) ?_
  show Go _ _ _ _ _ _ _ _ _ _ _ _ _ _ 93 #[.val (.int i0), .val (.int i1), .val (.int i2), .val (.int i3), .val (.ref ec), .val (.ref fs), .val (.ref ms), .val (.ref e), .val (.ref p), .val (.ref ms), .unset] [.int 1]
  refine go_ifY (q := 98) at_93 (by decide) (by decide) (by decide) ?_
  refine go_aload (v := .ref p) (q := 100) at_98 rfl rfl rfl ?_
  refine go_virtual (c' := 15) (s' := 61) (q := 103) (S := []) (argsL := []) H (C := "com/example/emendate/emendate/model/Problem") (w_172 H) (w_173 H) (nf_self (w_175 H)) (w_175 H) (w_174 H) (w_62 H) (w_176 H) (by decide) EP (rm_pe H PE rfl) rfl rfl (lenOf pd_18 rfl) (fun _ q => nomatch q) rfl (by decide) (Nat.le_of_ble_eq_true rfl) rfl rfl (by decide) (by decide) at_100 rfl ?_
  rintro _ _ G - ⟨rfl, rfl⟩
  refine nx_ (v := none) ?_
  show Go _ _ _ _ _ _ _ _ _ _ _ _ _ _ 103 #[.val (.int i0), .val (.int i1), .val (.int i2), .val (.int i3), .val (.ref ec), .val (.ref fs), .val (.ref ms), .val (.ref e), .val (.ref p), .val (.ref ms), .unset] [.ref li]
  refine go_astore (L' := #[.val (.int i0), .val (.int i1), .val (.int i2), .val (.int i3), .val (.ref ec), .val (.ref fs), .val (.ref ms), .val (.ref e), .val (.ref p), .val (.ref ms), .val (.ref li)]) (q := 105) at_103 rfl rfl rfl ?_
  refine go_aload (v := .ref li) (q := 107) at_105 rfl rfl rfl ?_
  refine go_interface (c' := 15) (s' := 61) (q := 112) (S := []) (argsL := []) H (C := "java/util/ImmutableCollections$List12") (w_177 H) (w_178 H) (fun s args hZ => mvT hZ (w_179 H)) (w_180 H) (w_181 H) (w_182 H) (w_183 H) (w_151 H) (w_82 H) (w_184 H) (by decide) EL (rm_lsz H SE L1) rfl rfl (lenOf pd_19 rfl) (fun _ q => nomatch q) rfl (by decide) (Nat.le_of_ble_eq_true rfl) rfl rfl (by decide) (by decide) at_107 rfl ?_
  rintro _ _ G - ⟨rfl, rfl⟩
  refine nx_ (v := none) ?_
  show Go _ _ _ _ _ _ _ _ _ _ _ _ _ _ 112 #[.val (.int i0), .val (.int i1), .val (.int i2), .val (.int i3), .val (.ref ec), .val (.ref fs), .val (.ref ms), .val (.ref e), .val (.ref p), .val (.ref ms), .val (.ref li)] [.int (1 : Int32)]
  refine go_iconst (x := (1 : Int32)) (q := 113) at_112 rfl rfl ?_
  refine go_icN (q := 116) at_113 (by decide) rfl ?_
  refine go_aload (v := .ref li) (q := 118) at_116 rfl rfl rfl ?_
  refine go_iconst (x := (0 : Int32)) (q := 119) at_118 rfl rfl ?_
  refine go_interface (c' := 15) (s' := 61) (q := 124) (S := []) (argsL := [.int (0 : Int32)]) H (C := "java/util/ImmutableCollections$List12") (w_185 H) (w_186 H) (fun s args hZ => mvT hZ (w_187 H)) (w_188 H) (w_189 H) (w_190 H) (w_191 H) (w_151 H) (w_82 H) (w_192 H) (by decide) EL (rm_lget H L0) rfl rfl (lenOf pd_20 rfl) (fun _ q => nomatch q) rfl (by decide) (Nat.le_of_ble_eq_true rfl) rfl rfl (by decide) (by decide) at_119 rfl ?_
  rintro _ _ G - ⟨rfl, rfl⟩
  refine nx_ (v := none) ?_
  show Go _ _ _ _ _ _ _ _ _ _ _ _ _ _ 124 #[.val (.int i0), .val (.int i1), .val (.int i2), .val (.int i3), .val (.ref ec), .val (.ref fs), .val (.ref ms), .val (.ref e), .val (.ref p), .val (.ref ms), .val (.ref li)] [.ref e]
  refine go_aload (v := .ref e) (q := 126) at_124 rfl rfl rfl ?_
  refine go_acN (q := 129) at_126 rfl rfl (by simp [XT.acmp]) rfl ?_
  refine go_iconst (x := (1 : Int32)) (q := 130) at_129 rfl rfl ?_
  refine go_goto (q := 134) at_130 (by decide) (by decide) ?_
  exact go_ireturn H (G := []) (t := .boolean) rfl (by decide) rfl at_134 (by decide) (by decide) (fun _ q => nomatch q) rfl
set_option maxRecDepth 65536 in
set_option maxHeartbeats 8000000 in
theorem rm_law {l : Launch} {Z : State} {a0 : Array Value} (H : Wd Z a0) {i0 i1 i2 i3 : Int32} {em oe : Addr} {us sl : Value} (EC : ECs Z) (SE : Sta Z Z.heap "java/util/ImmutableCollections" "EMPTY" "Ljava/lang/Object;" (.ref em)) (SO : Sta Z Z.heap "java/util/OptionalInt" "EMPTY" "Ljava/util/OptionalInt;" (.ref oe)) (US : Sta Z Z.heap "java/lang/Throwable" "UNASSIGNED_STACK" "[Ljava/lang/StackTraceElement;" us) (hus : us.isRef = true) (SL : Sta Z Z.heap "java/lang/Throwable" "SUPPRESSED_SENTINEL" "Ljava/util/List;" sl) (hsl : sl.isRef = true) : MetL l Z x code maxLocals ret room_1 Z.heap [] #[.int i0, .int i1, .int i2, .int i3] (fun v h' G => v = some (.int 1)) := by
  refine MetL.mk (L := #[.val (.int i0), .val (.int i1), .val (.int i2), .val (.int i3), .unset, .unset, .unset, .unset, .unset, .unset, .unset]) (plainFor_of_name (by first | (simp [plainName, overriddenIn, x]; done) | decide +kernel)) (fun m => by first | (simp [entryFrame, mkF, argsToLocals, Value.category, maxLocals]; done) | rfl) (fun K => ?_)
  show Go _ _ K "com/example/emendate/emendate/model/ProblemOfPinLaw" "law" _ 11 _ ({ frames := 10, cells := 32, slots := 1216, locals := 192 } : Room) _ _ _ _ _ 0 _ _
  obtain ⟨csi1, Di1⟩ := Dr.any (XT.ushr i1 24) (i1 &&& 255) (XT.ushr i1 8 &&& 255) (XT.ushr i1 16 &&& 255)
  obtain ⟨csi2, Di2⟩ := Dr.any (XT.ushr i2 24) (i2 &&& 255) (XT.ushr i2 8 &&& 255) (XT.ushr i2 16 &&& 255)
  refine go_iloadN (v := i0) (q := 1) at_0 rfl rfl ?_
  refine go_static (c' := 0) (s' := 0) (q := 4) (S := []) (argsL := [.int i0]) H (w_0 H) (w_1 H) (w_2 H) (w_3 H) (by decide) (rm_pick H EC) rfl rfl (lenOf pd_22 rfl) (fun _ q => nomatch q) rfl (by decide) (Nat.le_of_ble_eq_true rfl) rfl rfl (by decide) (by decide) at_1 rfl ?_
  rintro _ _ G - ⟨ec, rfl, rfl⟩
  refine nx_ (v := none) ?_
  show Go _ _ _ _ _ _ _ _ _ _ _ _ _ _ 4 #[.val (.int i0), .val (.int i1), .val (.int i2), .val (.int i3), .unset, .unset, .unset, .unset, .unset, .unset, .unset] [.ref ec]
  refine go_astore (L' := #[.val (.int i0), .val (.int i1), .val (.int i2), .val (.int i3), .val (.ref ec), .unset, .unset, .unset, .unset, .unset, .unset]) (q := 6) at_4 rfl rfl rfl ?_
  refine go_iloadN (v := i2) (q := 7) at_6 rfl rfl ?_
  refine go_static (c' := 6) (s' := 23) (q := 10) (S := []) (argsL := [.int i2]) H (w_7 H) (w_8 H) (w_2 H) (w_9 H) (by decide) (rm_str H (F := []) Di2 (fun _ q => nomatch q)) rfl rfl (lenOf pd_23 rfl) (fun _ q => nomatch q) rfl (by decide) (Nat.le_of_ble_eq_true rfl) rfl rfl (by decide) (by decide) at_7 rfl ?_
  rintro _ h1 G - ⟨fs, rfl, K1, S1⟩
  refine nx_ (v := none) ?_
  show Go _ _ _ _ _ _ _ _ _ _ _ _ _ _ 10 #[.val (.int i0), .val (.int i1), .val (.int i2), .val (.int i3), .val (.ref ec), .unset, .unset, .unset, .unset, .unset, .unset] [.ref fs]
  refine go_astore (L' := #[.val (.int i0), .val (.int i1), .val (.int i2), .val (.int i3), .val (.ref ec), .val (.ref fs), .unset, .unset, .unset, .unset, .unset]) (q := 12) at_10 rfl rfl rfl ?_
  refine go_iloadN (v := i3) (q := 13) at_12 rfl rfl ?_
  refine go_iconst (x := (1 : Int32)) (q := 14) at_13 rfl rfl ?_
  refine go_iand (r := i3 &&& (1 : Int32)) (q := 15) at_14 rfl rfl ?_
  by_cases q1 : i3 &&& 1 = 0
  · refine go_ifY (q := 22) at_15 q1 (by decide) (by decide) ?_
    refine go_iloadN (v := i1) (q := 23) at_22 rfl rfl ?_
    refine go_static (c' := 12) (s' := 46) (q := 26) (S := []) (argsL := [.int i1]) H (w_7 H) (w_8 H) (w_2 H) (w_9 H) (by decide) (rm_str H (F := []) Di1 (fun _ q => nomatch q)) rfl rfl (lenOf pd_23 rfl) (fun _ q => nomatch q) rfl (by decide) (Nat.le_of_ble_eq_true rfl) rfl rfl (by decide) (by decide) at_23 rfl ?_
    rintro _ h2 G - ⟨ms, rfl, K2, S2⟩
    refine nx_ (v := none) ?_
    show Go _ _ _ _ _ _ _ _ _ _ _ _ _ _ 26 #[.val (.int i0), .val (.int i1), .val (.int i2), .val (.int i3), .val (.ref ec), .val (.ref fs), .unset, .unset, .unset, .unset, .unset] [.ref ms]
    refine go_astore (L' := #[.val (.int i0), .val (.int i1), .val (.int i2), .val (.int i3), .val (.ref ec), .val (.ref fs), .val (.ref ms), .unset, .unset, .unset, .unset]) (q := 28) at_26 rfl rfl rfl ?_
    exact j28R H SE SO US hus SL hsl S2.exa
  · refine go_ifN (q := 18) at_15 q1 rfl ?_
    refine go_null (q := 19) at_18 rfl ?_
    refine go_goto (q := 26) at_19 (by decide) (by decide) ?_
    refine go_astore (L' := #[.val (.int i0), .val (.int i1), .val (.int i2), .val (.int i3), .val (.ref ec), .val (.ref fs), .val (.null), .unset, .unset, .unset, .unset]) (q := 28) at_26 rfl rfl rfl ?_
    refine go_less (F' := []) (c' := 12) (s' := 46) (fun _ q => nomatch q) (by decide) (by decide) ?_
    exact j28N H SE SO US hus SL hsl
set_option maxRecDepth 65536 in
set_option maxHeartbeats 4000000 in
theorem comes_1 {Post : Tables → Env → Array Value → State → Outcome → State → Prop} (hpost : ∀ tb e args s v u, (limb_1_1.after args s (.returned v) u = true ∧ limb_1_2.after args s (.returned v) u = true ∧ True) → Jvm.D.FramedW s (.returned v) u (Jvm.fieldLocs frame_1_writes args s ++ Jvm.arrayLocs frame_1_arrays args s ++ Jvm.staticLocs frame_1_statics s) 32 1216 → Post tb e args s (.returned v) u) :
    Jvm.D.ArmFor flags0 classFile x code maxLocals ret World_1 tables_1 room_1 Calls_1 rest_1 Pre_1 Post := by
  intro l hfl _ _ p e ha hc hk s m args below hf hA hF happ hP
  obtain ⟨hcalls, hrest, hpre⟩ := hP
  obtain ⟨-, -, -, hnamed, -, -, -, hat⟩ := (Spec.applies_iff hf).mp happ
  obtain ⟨hg, hn⟩ := and_e (Cond.before_iff.mp (show (Jvm.Cond.and given_1 narrow_1).before args s = true from hpre))
  obtain ⟨g0, r0⟩ := and_e hg
  obtain ⟨g1, r1⟩ := and_e r0
  obtain ⟨g2, r2⟩ := and_e r1
  obtain ⟨g3, r3⟩ := and_e r2
  obtain ⟨w0, w1, w2, w3, rfl⟩ : ∃ w0 w1 w2 w3 : Value, args = #[w0, w1, w2, w3] := by
    have hs : args.size = 4 := by simpa [Cond.value, given_1] using g0
    obtain ⟨L⟩ := args
    match L, hs with
    | [w0, w1, w2, w3], _ => exact ⟨w0, w1, w2, w3, rfl⟩
  have hw := fun d (hd : d ∈ tables_1) => atoms_spec (ws := Jvm.Cond.code x code maxLocals ret :: tables_1) hat d (List.mem_cons_of_mem _ hd)
  obtain ⟨hsets, hown0⟩ := atoms_of _ (rest_1_c_eq ▸ (show rest_1_c.before _ s = true from hrest))
  have hfit : Fit s := fun {y c} hc i hi => by
    obtain ⟨ha, rfl⟩ := Array.getElem?_eq_some_iff.mp hc
    have q := List.all_eq_true.mp ((Array.all_eq_true_iff_forall_mem.mp hF) _ (Array.getElem_mem ha)) i (List.mem_range.mpr hi)
    simpa [Array.getElem?_eq_getElem hi] using q
  obtain ⟨i0, e0⟩ := is_v g1
  obtain rfl : w0 = (.int i0) := Option.some.inj e0
  obtain ⟨i1, e1⟩ := is_v g2
  obtain rfl : w1 = (.int i1) := Option.some.inj e1
  obtain ⟨i2, e2⟩ := is_v g3
  obtain rfl : w2 = (.int i2) := Option.some.inj e2
  obtain ⟨i3, e3⟩ := is_v r3
  obtain rfl : w3 = (.int i3) := Option.some.inj e3
  obtain ⟨cz, ecz⟩ := is_v (Cond.before_iff.mp (hsets _ (List.mem_of_getElem? (i := 35) rfl)))
  have Scz : Sta s s.heap "java/lang/String" "COMPACT_STRINGS" "Z" (.int cz) := Sta.start ecz (Or.inl (hsets _ (List.mem_of_getElem? (i := 34) rfl)))
  have ncz : ¬ cz = (0 : Int32) := gotF (Cond.eq_ints ecz (Term.int_eval (0))) (not_v (Cond.before_iff.mp (hsets _ (List.mem_of_getElem? (i := 36) rfl))))
  obtain ⟨fm, efm, rfm⟩ := isR_v (Cond.before_iff.mp (hsets _ (List.mem_of_getElem? (i := 42) rfl)))
  have Sfm : Sta s s.heap "jdk/internal/util/Preconditions" "SIOOBE_FORMATTER" "Ljava/util/function/BiFunction;" fm := Sta.start efm (Or.inl (hsets _ (List.mem_of_getElem? (i := 41) rfl)))
  have hS : ∀ d ∈ Bundle.stringAtoms, d.before #[.int i0, .int i1, .int i2, .int i3] s = true := by
    intro d hd
    simp only [Bundle.stringAtoms, List.mem_cons, List.not_mem_nil, or_false] at hd
    rcases hd with rfl | rfl | rfl | rfl | rfl | rfl | rfl
    · exact hw _ (List.mem_of_getElem? (i := 12) rfl)
    · exact hw _ (List.mem_of_getElem? (i := 11) rfl)
    · exact hw _ (List.mem_of_getElem? (i := 25) rfl)
    · exact hw _ (List.mem_of_getElem? (i := 26) rfl)
    · exact hw _ (List.mem_of_getElem? (i := 27) rfl)
    · exact hw _ (List.mem_of_getElem? (i := 28) rfl)
    · exact hw _ (List.mem_of_getElem? (i := 29) rfl)
  have hE : EW s #[.int i0, .int i1, .int i2, .int i3] consts_1 := (EW.cons (hw _ (List.mem_of_getElem? (i := 24) rfl)) (by decide) EW.nil)
  have H : Wd s #[.int i0, .int i1, .int i2, .int i3] := ⟨hw, hE, hS, ⟨cz, Scz, ncz⟩, ⟨fm, Sfm, rfm⟩, hsets⟩
  have hC : CHv s consts_1 s.vm s.heap := CHv.start hE (fun q hq => hcalls.1 q hq) (Cond.before_iff.mpr (Cond.before_iff.mp (hsets _ (List.mem_of_getElem? (i := 36) rfl)))) (hw _ (List.mem_of_getElem? (i := 25) rfl)) (hw _ (List.mem_of_getElem? (i := 11) rfl))
  obtain ⟨xE, -, -, -, exE, -⟩ := Cond.exactly_spec (hsets _ (List.mem_of_getElem? (i := 7) rfl))
  have SE : Sta s s.heap "java/util/ImmutableCollections" "EMPTY" "Ljava/lang/Object;" (.ref xE) := Sta.start exE (Or.inl (hsets _ (List.mem_of_getElem? (i := 6) rfl)))
  obtain ⟨xO, -, -, -, exO, -⟩ := Cond.exactly_spec (hsets _ (List.mem_of_getElem? (i := 2) rfl))
  have SO : Sta s s.heap "java/util/OptionalInt" "EMPTY" "Ljava/util/OptionalInt;" (.ref xO) := Sta.start exO (Or.inl (hsets _ (List.mem_of_getElem? (i := 1) rfl)))
  obtain ⟨us, eus, hus⟩ := isR_v (Cond.before_iff.mp (hsets _ (List.mem_of_getElem? (i := 21) rfl)))
  have Tus : Sta s s.heap "java/lang/Throwable" "UNASSIGNED_STACK" "[Ljava/lang/StackTraceElement;" us := Sta.start eus (Or.inl (hsets _ (List.mem_of_getElem? (i := 20) rfl)))
  obtain ⟨sl, esl, hsl⟩ := isR_v (Cond.before_iff.mp (hsets _ (List.mem_of_getElem? (i := 26) rfl)))
  have Tsl : Sta s s.heap "java/lang/Throwable" "SUPPRESSED_SENTINEL" "Ljava/util/List;" sl := Sta.start esl (Or.inl (hsets _ (List.mem_of_getElem? (i := 25) rfl)))
  obtain ⟨m0, r0n⟩ := and_e hn
  obtain ⟨c0, -, -, -, ce0, -⟩ := Cond.exactly_spec (Cond.before_iff.mpr m0)
  obtain ⟨m1, r1n⟩ := and_e r0n
  obtain ⟨c1, -, -, -, ce1, -⟩ := Cond.exactly_spec (Cond.before_iff.mpr m1)
  obtain ⟨m2, r2n⟩ := and_e r1n
  obtain ⟨c2, -, -, -, ce2, -⟩ := Cond.exactly_spec (Cond.before_iff.mpr m2)
  obtain ⟨m3, r3n⟩ := and_e r2n
  obtain ⟨c3, -, -, -, ce3, -⟩ := Cond.exactly_spec (Cond.before_iff.mpr m3)
  obtain ⟨m4, r4n⟩ := and_e r3n
  obtain ⟨c4, -, -, -, ce4, -⟩ := Cond.exactly_spec (Cond.before_iff.mpr m4)
  obtain ⟨m5, r5n⟩ := and_e r4n
  obtain ⟨c5, -, -, -, ce5, -⟩ := Cond.exactly_spec (Cond.before_iff.mpr m5)
  obtain ⟨m6, r6n⟩ := and_e r5n
  obtain ⟨c6, -, -, -, ce6, -⟩ := Cond.exactly_spec (Cond.before_iff.mpr m6)
  obtain ⟨c7, -, -, -, ce7, -⟩ := Cond.exactly_spec (Cond.before_iff.mpr r6n)
  have EC : ECs s := ⟨⟨c0, Sta.start ce0 (Or.inr ⟨hw _ (List.mem_of_getElem? (i := 5) rfl), hw _ (List.mem_of_getElem? (i := 6) rfl)⟩)⟩, ⟨c4, Sta.start ce4 (Or.inr ⟨hw _ (List.mem_of_getElem? (i := 5) rfl), hw _ (List.mem_of_getElem? (i := 216) rfl)⟩)⟩, ⟨c3, Sta.start ce3 (Or.inr ⟨hw _ (List.mem_of_getElem? (i := 5) rfl), hw _ (List.mem_of_getElem? (i := 203) rfl)⟩)⟩, ⟨c5, Sta.start ce5 (Or.inr ⟨hw _ (List.mem_of_getElem? (i := 5) rfl), hw _ (List.mem_of_getElem? (i := 218) rfl)⟩)⟩, ⟨c1, Sta.start ce1 (Or.inr ⟨hw _ (List.mem_of_getElem? (i := 5) rfl), hw _ (List.mem_of_getElem? (i := 194) rfl)⟩)⟩, ⟨c6, Sta.start ce6 (Or.inr ⟨hw _ (List.mem_of_getElem? (i := 5) rfl), hw _ (List.mem_of_getElem? (i := 220) rfl)⟩)⟩, ⟨c7, Sta.start ce7 (Or.inr ⟨hw _ (List.mem_of_getElem? (i := 5) rfl), hw _ (List.mem_of_getElem? (i := 222) rfl)⟩)⟩, ⟨c2, Sta.start ce2 (Or.inr ⟨hw _ (List.mem_of_getElem? (i := 5) rfl), hw _ (List.mem_of_getElem? (i := 201) rfl)⟩)⟩⟩
  obtain ⟨n, o, h1, h2, h3, v, L, G, rfl, hq, N, -, -, -, hE2⟩ := rm_law (l := l) H EC SE SO Tus hus Tsl hsl p e ha hc hk s m _ below hf ((Spec.applies_iff_loose hf).mp happ).1 ⟨rfl, State.Warmed39.refl s, rfl, hC, (fun _ q => nomatch q), Old.start s⟩ trivial
  subst hq
  refine ⟨n, _, h1, h2, h3, hpost _ _ _ _ _ _ ⟨Cond.after_iff.mpr rfl, Cond.after_iff.mpr (eq_i res_at (Term.int_eval (1)) rfl), trivial⟩ ⟨hE2.1, hE2.2.1, hE2.2.2.1, (hE2.2.2.2.sift fun y hy => Or.inr (N y hy)).mono (by decide) (by decide)⟩⟩
end Own
end Jvm.Pilot.@@N@@
namespace Jvm.Pilot.@@N@@
theorem main_1_1 : Claimed_1_1 := Own.comes_1 fun _ _ _ _ _ _ h hF => ⟨h.1, hF⟩
theorem main_1_2 : Claimed_1_2 := Own.comes_1 fun _ _ _ _ _ _ h hF => ⟨h.2.1, hF⟩
end Jvm.Pilot.@@N@@
namespace Jvm.Pilot.@@N@@
open Jvm Jvm.ClassFile Sem Op Lib Jvm.Free Jvm.Stand Jvm.Pilot.@@N@@.Jvm.D
/-! MADE BY PROGRAM (witnessworld.py) out of the Statement's table words and the real class files: 45 classes; the members and pool entries that the words name. The judged class is class 1, her method 3. -/
namespace start1
open Jvm.ClassFile
def u (s : String) : CpInfo := .utf8 (stringToUtf16 s)
/-- a pool by its gaps: so many unusable entries, then the entry; so many at the end -/
def gap : Nat → List CpInfo → List CpInfo
  | 0, r => r
  | n + 1, r => .unusable :: gap n r
def poolList (es : List (Nat × CpInfo)) (last : Nat) : List CpInfo := es.foldr (fun e r => gap e.1 (e.2 :: r)) (gap last [])
def pool (es : List (Nat × CpInfo)) (last : Nat) : Array CpInfo := ⟨poolList es last⟩
def fileOf (pool : Array CpInfo) (this : Nat) (attrs : Array Attribute := #[]) (ms : Array MethodInfo := #[]) (fl : Nat := 33) (sup : Nat := 0) (ifs : Array Nat := #[]) (fds : Array FieldInfo := #[]) : ClassFile where
  minorVersion := 0
  majorVersion := 65
  constantPool := pool
  accessFlags := fl
  thisClass := this
  superClass := sup
  interfaces := ifs
  fields := fds
  methods := ms
  attributes := attrs
def plain (name : String) (sup : Option ClassId) : Class where
  name := name
  kind := .ordinary
  loader := none
  accessFlags := 33
  super := sup
  interfaces := #[]
  cf := none
  fields := #[]
  methods := #[]
  instanceTypes := #[]
  staticTypes := #[]
  resolved := #[]
  callSites := []
  init := .initialized
  statics := none
  mirror := none

def pool0 : Array CpInfo := pool [(5, u "<init>"), (0, u "()V"), (1, .class_ 10), (1, u "java/lang/Object")] 113

def k0c0 : Code := { maxStack := 0, maxLocals := 1, code := object_method_1_code, exceptionTable := #[], attributes := #[] }
def k0m0 : Method := { name := "<init>", desc := "()V", sig := { parameters := [], returnType := none }, accessFlags := 1, code := some k0c0 }
/-- java/lang/Object -/
def k0 : Class := { plain "java/lang/Object" none with
  accessFlags := 33
  interfaces := #[]
  cf := some (fileOf pool0 8 #[] #[{ accessFlags := 1, nameIndex := 5, descriptorIndex := 6, attributes := #[] }] 33 0 #[] #[])
  fields := #[]
  methods := #[k0m0]
  instanceTypes := #[]
  staticTypes := #[]
  resolved := Array.replicate 124 none
  statics := none }

def pool1 : Array CpInfo := pool [(2, .class_ 4), (1, u "java/lang/Object"), (0, u "<init>"), (0, u "()V"), (0, .class_ 8), (0, u "java/lang/String"), (0, .methodref 7 10), (0, .nameAndType 5 11), (0, u "([C)V"), (0, .fieldref 13 14), (0, .class_ 15), (0, .nameAndType 16 17), (0, u "com/example/emendate/emendate/model/ErrorCode"), (0, u "USER_INVALID"), (0, u "Lcom/example/emendate/emendate/model/ErrorCode;"), (0, .fieldref 13 19), (0, .nameAndType 20 17), (0, u "USER_FORBIDDEN"), (0, .fieldref 13 22), (0, .nameAndType 23 17), (0, u "USER_CONFLICT"), (0, .fieldref 13 25), (0, .nameAndType 26 17), (0, u "PATCH_MALFORMED"), (0, .fieldref 13 28), (0, .nameAndType 29 17), (0, u "PATCH_TEST_FAILED"), (0, .fieldref 13 31), (0, .nameAndType 32 17), (0, u "PATCH_CANNOT_APPLY"), (0, .fieldref 13 34), (0, .nameAndType 35 17), (0, u "USER_EMAIL_INVALID"), (0, .fieldref 13 37), (0, .nameAndType 38 17), (0, u "USER_BUILTIN_IMMUTABLE"), (0, .methodref 40 41), (0, .class_ 42), (0, .nameAndType 43 44), (0, u "com/example/emendate/emendate/model/ProblemOfPinLaw"), (0, u "pick"), (0, u "(I)Lcom/example/emendate/emendate/model/ErrorCode;"), (0, .methodref 40 46), (0, .nameAndType 47 48), (0, u "str"), (0, u "(I)Ljava/lang/String;"), (0, .class_ 50), (0, u "com/example/emendate/emendate/model/FieldError"), (0, .methodref 49 52), (0, .nameAndType 5 53), (0, u "(Lcom/example/emendate/emendate/model/ErrorCode;Ljava/lang/String;Ljava/lang/String;)V"), (0, .methodref 55 56), (0, .class_ 57), (0, .nameAndType 58 59), (0, u "com/example/emendate/emendate/model/Problem"), (0, u "of"), (0, u "(Lcom/example/emendate/emendate/model/FieldError;)Lcom/example/emendate/emendate/model/Problem;"), (0, .methodref 55 61), (0, .nameAndType 62 63), (0, u "code"), (0, u "()Lcom/example/emendate/emendate/model/ErrorCode;"), (0, .methodref 55 65), (0, .nameAndType 66 67), (0, u "detail"), (0, u "()Ljava/lang/String;"), (0, .methodref 7 69), (0, .nameAndType 70 71), (0, u "equals"), (0, u "(Ljava/lang/Object;)Z"), (0, .methodref 55 73), (0, .nameAndType 74 75), (0, u "errors"), (0, u "()Ljava/util/List;"), (0, .interfaceMethodref 77 78), (0, .class_ 79), (0, .nameAndType 80 81), (0, u "java/util/List"), (0, u "size"), (0, u "()I"), (0, .interfaceMethodref 77 83), (0, .nameAndType 84 85), (0, u "get"), (0, u "(I)Ljava/lang/Object;"), (3, u "law"), (0, u "(IIII)Z")] 2

def k1m0 : Method := { name := "<init>", desc := "()V", sig := { parameters := [], returnType := none }, accessFlags := 2, code := none }
def k1c1 : Code := { maxStack := 6, maxLocals := 5, code := method_2_code, exceptionTable := #[], attributes := #[] }
def k1m1 : Method := { name := "str", desc := "(I)Ljava/lang/String;", sig := { parameters := [.int], returnType := some (.object "java/lang/String") }, accessFlags := 10, code := some k1c1 }
def k1c2 : Code := { maxStack := 2, maxLocals := 2, code := method_3_code, exceptionTable := #[], attributes := #[] }
def k1m2 : Method := { name := "pick", desc := "(I)Lcom/example/emendate/emendate/model/ErrorCode;", sig := { parameters := [.int], returnType := some (.object "com/example/emendate/emendate/model/ErrorCode") }, accessFlags := 10, code := some k1c2 }
def k1c3 : Code := { maxStack := 5, maxLocals := 11, code := code, exceptionTable := #[], attributes := #[] }
def k1m3 : Method := { name := "law", desc := "(IIII)Z", sig := { parameters := [.int, .int, .int, .int], returnType := some .boolean }, accessFlags := 9, code := some k1c3 }
/-- com/example/emendate/emendate/model/ProblemOfPinLaw -/
def k1 : Class := { plain "com/example/emendate/emendate/model/ProblemOfPinLaw" (some 0) with
  accessFlags := 49
  interfaces := #[]
  cf := some (fileOf pool1 40 #[] #[{ accessFlags := 2, nameIndex := 5, descriptorIndex := 6, attributes := #[] }, { accessFlags := 10, nameIndex := 47, descriptorIndex := 48, attributes := #[] }, { accessFlags := 10, nameIndex := 43, descriptorIndex := 44, attributes := #[] }, { accessFlags := 9, nameIndex := 89, descriptorIndex := 90, attributes := #[] }] 49 2 #[] #[])
  fields := #[]
  methods := #[k1m0, k1m1, k1m2, k1m3]
  instanceTypes := #[]
  staticTypes := #[]
  resolved := Array.replicate 93 none
  statics := none }

def pool2 : Array CpInfo := pool [(1, .class_ 2), (0, u "java/lang/constant/Constable"), (0, .class_ 4), (0, u "java/lang/Object")] 6

/-- java/lang/constant/Constable -/
def k2 : Class := { plain "java/lang/constant/Constable" (some 0) with
  accessFlags := 1537
  interfaces := #[]
  cf := some (fileOf pool2 1 #[] #[] 1537 3 #[] #[])
  fields := #[]
  methods := #[]
  instanceTypes := #[]
  staticTypes := #[]
  resolved := Array.replicate 11 none
  statics := none }

def pool3 : Array CpInfo := pool [(1, .class_ 2), (0, u "java/lang/Comparable"), (0, .class_ 4), (0, u "java/lang/Object")] 7

/-- java/lang/Comparable -/
def k3 : Class := { plain "java/lang/Comparable" (some 0) with
  accessFlags := 1537
  interfaces := #[]
  cf := some (fileOf pool3 1 #[] #[] 1537 3 #[] #[])
  fields := #[]
  methods := #[]
  instanceTypes := #[]
  staticTypes := #[]
  resolved := Array.replicate 12 none
  statics := none }

def pool4 : Array CpInfo := pool [(1, .class_ 2), (0, u "java/io/Serializable"), (0, .class_ 4), (0, u "java/lang/Object")] 2

/-- java/io/Serializable -/
def k4 : Class := { plain "java/io/Serializable" (some 0) with
  accessFlags := 1537
  interfaces := #[]
  cf := some (fileOf pool4 1 #[] #[] 1537 3 #[] #[])
  fields := #[]
  methods := #[]
  instanceTypes := #[]
  staticTypes := #[]
  resolved := Array.replicate 7 none
  statics := none }

def pool5 : Array CpInfo := pool [(2, .class_ 4), (1, u "java/lang/Enum"), (0, u "name"), (0, u "Ljava/lang/String;"), (2, u "ordinal"), (0, u "I"), (1, .class_ 14), (1, u "java/lang/Object"), (4, u "hash"), (86, .class_ 108), (1, u "java/lang/Enum$EnumDesc"), (2, .class_ 112), (0, u "java/lang/constant/Constable"), (0, .class_ 114), (0, u "java/lang/Comparable"), (0, .class_ 116), (0, u "java/io/Serializable")] 87

/-- java/lang/Enum -/
def k5 : Class := { plain "java/lang/Enum" (some 0) with
  accessFlags := 1057
  interfaces := #[2, 3, 4]
  cf := some (fileOf pool5 2 #[.nestMembers #[106]] #[] 1057 12 #[111, 113, 115] #[{ accessFlags := 18, nameIndex := 5, descriptorIndex := 6, attributes := #[] }, { accessFlags := 18, nameIndex := 9, descriptorIndex := 10, attributes := #[] }, { accessFlags := 2, nameIndex := 19, descriptorIndex := 10, attributes := #[] }])
  fields := #[{ name := "name", type := (.object "java/lang/String"), accessFlags := 18, slot := 0, constantValue := 0 }, { name := "ordinal", type := .int, accessFlags := 18, slot := 1, constantValue := 0 }, { name := "hash", type := .int, accessFlags := 2, slot := 2, constantValue := 0 }]
  methods := #[]
  instanceTypes := #[(.object "java/lang/String"), .int, .int]
  staticTypes := #[]
  resolved := Array.replicate 204 none
  statics := none }

def pool6 : Array CpInfo := pool [(1, .class_ 2), (0, u "com/example/emendate/emendate/model/ErrorCode"), (2, u "REQUEST_NOT_FOUND"), (0, u "Lcom/example/emendate/emendate/model/ErrorCode;"), (2, u "REQUEST_METHOD_NOT_ALLOWED"), (2, u "REQUEST_MALFORMED_JSON"), (2, u "REQUEST_TOO_LARGE"), (2, u "REQUEST_UNSUPPORTED_MEDIA_TYPE"), (2, u "REQUEST_PRECONDITION_FAILED"), (2, u "AUTH_TOKEN_MISSING"), (2, u "AUTH_TOKEN_INVALID"), (2, u "USER_NOT_FOUND"), (2, u "USER_READ_FORBIDDEN"), (2, u "USER_FORBIDDEN"), (2, u "USER_INVALID"), (2, u "USER_CONFLICT"), (2, u "USER_OLD_PASSWORD_RATE_LIMITED"), (2, u "SERVER_ERROR"), (2, u "SERVER_BUSY"), (2, u "PATCH_MALFORMED"), (2, u "PATCH_TEST_FAILED"), (2, u "PATCH_CANNOT_APPLY"), (2, u "PATCH_TOO_LARGE"), (2, u "USER_NOT_AN_OBJECT"), (2, u "USER_INVALID_TYPE"), (2, u "USER_REQUIRED_FIELD"), (2, u "USER_UNKNOWN_ROLE"), (2, u "USER_UNKNOWN_FIELD"), (2, u "USER_READ_ONLY_FIELD"), (2, u "USER_EMPTY_VALUE"), (2, u "USER_EMAIL_TOO_LONG"), (2, u "USER_EMAIL_INVALID"), (2, u "USER_NAME_TOO_LONG"), (2, u "USER_DESCRIPTION_TOO_LONG"), (2, u "USER_LOCALE_INVALID"), (2, u "USER_PHONE_INVALID"), (2, u "USER_USERNAME_INVALID"), (2, u "USER_DUPLICATE_ROLE"), (2, u "USER_ATTRIBUTES_TOO_LARGE"), (2, u "USER_ATTRIBUTES_TOO_DEEP"), (2, u "USER_PASSWORD_TOO_SHORT"), (2, u "USER_PASSWORD_TOO_LONG"), (2, u "USER_OLD_PASSWORD_REQUIRED"), (2, u "USER_OLD_PASSWORD_MISMATCH"), (2, u "USER_OLD_PASSWORD_NOT_ALLOWED"), (2, u "USER_USERNAME_TAKEN"), (2, u "USER_BUILTIN_IMMUTABLE"), (2, u "USER_EDIT_FORBIDDEN"), (2, u "USER_ADMIN_TARGET_FORBIDDEN"), (2, u "USER_SELF_PROTECTED_FIELD"), (2, u "USER_SECURITY_FIELD_FORBIDDEN"), (2, u "USER_ADMIN_GRANT_FORBIDDEN"), (2, u "USER_EXTERNAL_FIELD"), (2, u "$VALUES"), (0, u "[Lcom/example/emendate/emendate/model/ErrorCode;"), (6, .class_ 166), (1, u "java/lang/Enum"), (8, u "code"), (0, u "Ljava/lang/String;"), (2, u "status"), (0, u "I")] 170

/-- com/example/emendate/emendate/model/ErrorCode -/
def k6 : Class := { plain "com/example/emendate/emendate/model/ErrorCode" (some 5) with
  accessFlags := 16433
  interfaces := #[]
  cf := some (fileOf pool6 1 #[] #[] 16433 164 #[] #[{ accessFlags := 16409, nameIndex := 5, descriptorIndex := 6, attributes := #[] }, { accessFlags := 16409, nameIndex := 9, descriptorIndex := 6, attributes := #[] }, { accessFlags := 16409, nameIndex := 12, descriptorIndex := 6, attributes := #[] }, { accessFlags := 16409, nameIndex := 15, descriptorIndex := 6, attributes := #[] }, { accessFlags := 16409, nameIndex := 18, descriptorIndex := 6, attributes := #[] }, { accessFlags := 16409, nameIndex := 21, descriptorIndex := 6, attributes := #[] }, { accessFlags := 16409, nameIndex := 24, descriptorIndex := 6, attributes := #[] }, { accessFlags := 16409, nameIndex := 27, descriptorIndex := 6, attributes := #[] }, { accessFlags := 16409, nameIndex := 30, descriptorIndex := 6, attributes := #[] }, { accessFlags := 16409, nameIndex := 33, descriptorIndex := 6, attributes := #[] }, { accessFlags := 16409, nameIndex := 36, descriptorIndex := 6, attributes := #[] }, { accessFlags := 16409, nameIndex := 39, descriptorIndex := 6, attributes := #[] }, { accessFlags := 16409, nameIndex := 42, descriptorIndex := 6, attributes := #[] }, { accessFlags := 16409, nameIndex := 45, descriptorIndex := 6, attributes := #[] }, { accessFlags := 16409, nameIndex := 48, descriptorIndex := 6, attributes := #[] }, { accessFlags := 16409, nameIndex := 51, descriptorIndex := 6, attributes := #[] }, { accessFlags := 16409, nameIndex := 54, descriptorIndex := 6, attributes := #[] }, { accessFlags := 16409, nameIndex := 57, descriptorIndex := 6, attributes := #[] }, { accessFlags := 16409, nameIndex := 60, descriptorIndex := 6, attributes := #[] }, { accessFlags := 16409, nameIndex := 63, descriptorIndex := 6, attributes := #[] }, { accessFlags := 16409, nameIndex := 66, descriptorIndex := 6, attributes := #[] }, { accessFlags := 16409, nameIndex := 69, descriptorIndex := 6, attributes := #[] }, { accessFlags := 16409, nameIndex := 72, descriptorIndex := 6, attributes := #[] }, { accessFlags := 16409, nameIndex := 75, descriptorIndex := 6, attributes := #[] }, { accessFlags := 16409, nameIndex := 78, descriptorIndex := 6, attributes := #[] }, { accessFlags := 16409, nameIndex := 81, descriptorIndex := 6, attributes := #[] }, { accessFlags := 16409, nameIndex := 84, descriptorIndex := 6, attributes := #[] }, { accessFlags := 16409, nameIndex := 87, descriptorIndex := 6, attributes := #[] }, { accessFlags := 16409, nameIndex := 90, descriptorIndex := 6, attributes := #[] }, { accessFlags := 16409, nameIndex := 93, descriptorIndex := 6, attributes := #[] }, { accessFlags := 16409, nameIndex := 96, descriptorIndex := 6, attributes := #[] }, { accessFlags := 16409, nameIndex := 99, descriptorIndex := 6, attributes := #[] }, { accessFlags := 16409, nameIndex := 102, descriptorIndex := 6, attributes := #[] }, { accessFlags := 16409, nameIndex := 105, descriptorIndex := 6, attributes := #[] }, { accessFlags := 16409, nameIndex := 108, descriptorIndex := 6, attributes := #[] }, { accessFlags := 16409, nameIndex := 111, descriptorIndex := 6, attributes := #[] }, { accessFlags := 16409, nameIndex := 114, descriptorIndex := 6, attributes := #[] }, { accessFlags := 16409, nameIndex := 117, descriptorIndex := 6, attributes := #[] }, { accessFlags := 16409, nameIndex := 120, descriptorIndex := 6, attributes := #[] }, { accessFlags := 16409, nameIndex := 123, descriptorIndex := 6, attributes := #[] }, { accessFlags := 16409, nameIndex := 126, descriptorIndex := 6, attributes := #[] }, { accessFlags := 16409, nameIndex := 129, descriptorIndex := 6, attributes := #[] }, { accessFlags := 16409, nameIndex := 132, descriptorIndex := 6, attributes := #[] }, { accessFlags := 16409, nameIndex := 135, descriptorIndex := 6, attributes := #[] }, { accessFlags := 16409, nameIndex := 138, descriptorIndex := 6, attributes := #[] }, { accessFlags := 16409, nameIndex := 141, descriptorIndex := 6, attributes := #[] }, { accessFlags := 16409, nameIndex := 144, descriptorIndex := 6, attributes := #[] }, { accessFlags := 16409, nameIndex := 147, descriptorIndex := 6, attributes := #[] }, { accessFlags := 16409, nameIndex := 150, descriptorIndex := 6, attributes := #[] }, { accessFlags := 16409, nameIndex := 153, descriptorIndex := 6, attributes := #[] }, { accessFlags := 18, nameIndex := 175, descriptorIndex := 176, attributes := #[] }, { accessFlags := 18, nameIndex := 179, descriptorIndex := 180, attributes := #[] }, { accessFlags := 4122, nameIndex := 156, descriptorIndex := 157, attributes := #[] }])
  fields := #[{ name := "REQUEST_NOT_FOUND", type := (.object "com/example/emendate/emendate/model/ErrorCode"), accessFlags := 16409, slot := 0, constantValue := 0 }, { name := "REQUEST_METHOD_NOT_ALLOWED", type := (.object "com/example/emendate/emendate/model/ErrorCode"), accessFlags := 16409, slot := 1, constantValue := 0 }, { name := "REQUEST_MALFORMED_JSON", type := (.object "com/example/emendate/emendate/model/ErrorCode"), accessFlags := 16409, slot := 2, constantValue := 0 }, { name := "REQUEST_TOO_LARGE", type := (.object "com/example/emendate/emendate/model/ErrorCode"), accessFlags := 16409, slot := 3, constantValue := 0 }, { name := "REQUEST_UNSUPPORTED_MEDIA_TYPE", type := (.object "com/example/emendate/emendate/model/ErrorCode"), accessFlags := 16409, slot := 4, constantValue := 0 }, { name := "REQUEST_PRECONDITION_FAILED", type := (.object "com/example/emendate/emendate/model/ErrorCode"), accessFlags := 16409, slot := 5, constantValue := 0 }, { name := "AUTH_TOKEN_MISSING", type := (.object "com/example/emendate/emendate/model/ErrorCode"), accessFlags := 16409, slot := 6, constantValue := 0 }, { name := "AUTH_TOKEN_INVALID", type := (.object "com/example/emendate/emendate/model/ErrorCode"), accessFlags := 16409, slot := 7, constantValue := 0 }, { name := "USER_NOT_FOUND", type := (.object "com/example/emendate/emendate/model/ErrorCode"), accessFlags := 16409, slot := 8, constantValue := 0 }, { name := "USER_READ_FORBIDDEN", type := (.object "com/example/emendate/emendate/model/ErrorCode"), accessFlags := 16409, slot := 9, constantValue := 0 }, { name := "USER_FORBIDDEN", type := (.object "com/example/emendate/emendate/model/ErrorCode"), accessFlags := 16409, slot := 10, constantValue := 0 }, { name := "USER_INVALID", type := (.object "com/example/emendate/emendate/model/ErrorCode"), accessFlags := 16409, slot := 11, constantValue := 0 }, { name := "USER_CONFLICT", type := (.object "com/example/emendate/emendate/model/ErrorCode"), accessFlags := 16409, slot := 12, constantValue := 0 }, { name := "USER_OLD_PASSWORD_RATE_LIMITED", type := (.object "com/example/emendate/emendate/model/ErrorCode"), accessFlags := 16409, slot := 13, constantValue := 0 }, { name := "SERVER_ERROR", type := (.object "com/example/emendate/emendate/model/ErrorCode"), accessFlags := 16409, slot := 14, constantValue := 0 }, { name := "SERVER_BUSY", type := (.object "com/example/emendate/emendate/model/ErrorCode"), accessFlags := 16409, slot := 15, constantValue := 0 }, { name := "PATCH_MALFORMED", type := (.object "com/example/emendate/emendate/model/ErrorCode"), accessFlags := 16409, slot := 16, constantValue := 0 }, { name := "PATCH_TEST_FAILED", type := (.object "com/example/emendate/emendate/model/ErrorCode"), accessFlags := 16409, slot := 17, constantValue := 0 }, { name := "PATCH_CANNOT_APPLY", type := (.object "com/example/emendate/emendate/model/ErrorCode"), accessFlags := 16409, slot := 18, constantValue := 0 }, { name := "PATCH_TOO_LARGE", type := (.object "com/example/emendate/emendate/model/ErrorCode"), accessFlags := 16409, slot := 19, constantValue := 0 }, { name := "USER_NOT_AN_OBJECT", type := (.object "com/example/emendate/emendate/model/ErrorCode"), accessFlags := 16409, slot := 20, constantValue := 0 }, { name := "USER_INVALID_TYPE", type := (.object "com/example/emendate/emendate/model/ErrorCode"), accessFlags := 16409, slot := 21, constantValue := 0 }, { name := "USER_REQUIRED_FIELD", type := (.object "com/example/emendate/emendate/model/ErrorCode"), accessFlags := 16409, slot := 22, constantValue := 0 }, { name := "USER_UNKNOWN_ROLE", type := (.object "com/example/emendate/emendate/model/ErrorCode"), accessFlags := 16409, slot := 23, constantValue := 0 }, { name := "USER_UNKNOWN_FIELD", type := (.object "com/example/emendate/emendate/model/ErrorCode"), accessFlags := 16409, slot := 24, constantValue := 0 }, { name := "USER_READ_ONLY_FIELD", type := (.object "com/example/emendate/emendate/model/ErrorCode"), accessFlags := 16409, slot := 25, constantValue := 0 }, { name := "USER_EMPTY_VALUE", type := (.object "com/example/emendate/emendate/model/ErrorCode"), accessFlags := 16409, slot := 26, constantValue := 0 }, { name := "USER_EMAIL_TOO_LONG", type := (.object "com/example/emendate/emendate/model/ErrorCode"), accessFlags := 16409, slot := 27, constantValue := 0 }, { name := "USER_EMAIL_INVALID", type := (.object "com/example/emendate/emendate/model/ErrorCode"), accessFlags := 16409, slot := 28, constantValue := 0 }, { name := "USER_NAME_TOO_LONG", type := (.object "com/example/emendate/emendate/model/ErrorCode"), accessFlags := 16409, slot := 29, constantValue := 0 }, { name := "USER_DESCRIPTION_TOO_LONG", type := (.object "com/example/emendate/emendate/model/ErrorCode"), accessFlags := 16409, slot := 30, constantValue := 0 }, { name := "USER_LOCALE_INVALID", type := (.object "com/example/emendate/emendate/model/ErrorCode"), accessFlags := 16409, slot := 31, constantValue := 0 }, { name := "USER_PHONE_INVALID", type := (.object "com/example/emendate/emendate/model/ErrorCode"), accessFlags := 16409, slot := 32, constantValue := 0 }, { name := "USER_USERNAME_INVALID", type := (.object "com/example/emendate/emendate/model/ErrorCode"), accessFlags := 16409, slot := 33, constantValue := 0 }, { name := "USER_DUPLICATE_ROLE", type := (.object "com/example/emendate/emendate/model/ErrorCode"), accessFlags := 16409, slot := 34, constantValue := 0 }, { name := "USER_ATTRIBUTES_TOO_LARGE", type := (.object "com/example/emendate/emendate/model/ErrorCode"), accessFlags := 16409, slot := 35, constantValue := 0 }, { name := "USER_ATTRIBUTES_TOO_DEEP", type := (.object "com/example/emendate/emendate/model/ErrorCode"), accessFlags := 16409, slot := 36, constantValue := 0 }, { name := "USER_PASSWORD_TOO_SHORT", type := (.object "com/example/emendate/emendate/model/ErrorCode"), accessFlags := 16409, slot := 37, constantValue := 0 }, { name := "USER_PASSWORD_TOO_LONG", type := (.object "com/example/emendate/emendate/model/ErrorCode"), accessFlags := 16409, slot := 38, constantValue := 0 }, { name := "USER_OLD_PASSWORD_REQUIRED", type := (.object "com/example/emendate/emendate/model/ErrorCode"), accessFlags := 16409, slot := 39, constantValue := 0 }, { name := "USER_OLD_PASSWORD_MISMATCH", type := (.object "com/example/emendate/emendate/model/ErrorCode"), accessFlags := 16409, slot := 40, constantValue := 0 }, { name := "USER_OLD_PASSWORD_NOT_ALLOWED", type := (.object "com/example/emendate/emendate/model/ErrorCode"), accessFlags := 16409, slot := 41, constantValue := 0 }, { name := "USER_USERNAME_TAKEN", type := (.object "com/example/emendate/emendate/model/ErrorCode"), accessFlags := 16409, slot := 42, constantValue := 0 }, { name := "USER_BUILTIN_IMMUTABLE", type := (.object "com/example/emendate/emendate/model/ErrorCode"), accessFlags := 16409, slot := 43, constantValue := 0 }, { name := "USER_EDIT_FORBIDDEN", type := (.object "com/example/emendate/emendate/model/ErrorCode"), accessFlags := 16409, slot := 44, constantValue := 0 }, { name := "USER_ADMIN_TARGET_FORBIDDEN", type := (.object "com/example/emendate/emendate/model/ErrorCode"), accessFlags := 16409, slot := 45, constantValue := 0 }, { name := "USER_SELF_PROTECTED_FIELD", type := (.object "com/example/emendate/emendate/model/ErrorCode"), accessFlags := 16409, slot := 46, constantValue := 0 }, { name := "USER_SECURITY_FIELD_FORBIDDEN", type := (.object "com/example/emendate/emendate/model/ErrorCode"), accessFlags := 16409, slot := 47, constantValue := 0 }, { name := "USER_ADMIN_GRANT_FORBIDDEN", type := (.object "com/example/emendate/emendate/model/ErrorCode"), accessFlags := 16409, slot := 48, constantValue := 0 }, { name := "USER_EXTERNAL_FIELD", type := (.object "com/example/emendate/emendate/model/ErrorCode"), accessFlags := 16409, slot := 49, constantValue := 0 }, { name := "code", type := (.object "java/lang/String"), accessFlags := 18, slot := 3, constantValue := 0 }, { name := "status", type := .int, accessFlags := 18, slot := 4, constantValue := 0 }, { name := "$VALUES", type := (.array (.object "com/example/emendate/emendate/model/ErrorCode")), accessFlags := 4122, slot := 50, constantValue := 0 }]
  methods := #[]
  instanceTypes := #[(.object "java/lang/String"), .int, .int, (.object "java/lang/String"), .int]
  staticTypes := #[(.object "com/example/emendate/emendate/model/ErrorCode"), (.object "com/example/emendate/emendate/model/ErrorCode"), (.object "com/example/emendate/emendate/model/ErrorCode"), (.object "com/example/emendate/emendate/model/ErrorCode"), (.object "com/example/emendate/emendate/model/ErrorCode"), (.object "com/example/emendate/emendate/model/ErrorCode"), (.object "com/example/emendate/emendate/model/ErrorCode"), (.object "com/example/emendate/emendate/model/ErrorCode"), (.object "com/example/emendate/emendate/model/ErrorCode"), (.object "com/example/emendate/emendate/model/ErrorCode"), (.object "com/example/emendate/emendate/model/ErrorCode"), (.object "com/example/emendate/emendate/model/ErrorCode"), (.object "com/example/emendate/emendate/model/ErrorCode"), (.object "com/example/emendate/emendate/model/ErrorCode"), (.object "com/example/emendate/emendate/model/ErrorCode"), (.object "com/example/emendate/emendate/model/ErrorCode"), (.object "com/example/emendate/emendate/model/ErrorCode"), (.object "com/example/emendate/emendate/model/ErrorCode"), (.object "com/example/emendate/emendate/model/ErrorCode"), (.object "com/example/emendate/emendate/model/ErrorCode"), (.object "com/example/emendate/emendate/model/ErrorCode"), (.object "com/example/emendate/emendate/model/ErrorCode"), (.object "com/example/emendate/emendate/model/ErrorCode"), (.object "com/example/emendate/emendate/model/ErrorCode"), (.object "com/example/emendate/emendate/model/ErrorCode"), (.object "com/example/emendate/emendate/model/ErrorCode"), (.object "com/example/emendate/emendate/model/ErrorCode"), (.object "com/example/emendate/emendate/model/ErrorCode"), (.object "com/example/emendate/emendate/model/ErrorCode"), (.object "com/example/emendate/emendate/model/ErrorCode"), (.object "com/example/emendate/emendate/model/ErrorCode"), (.object "com/example/emendate/emendate/model/ErrorCode"), (.object "com/example/emendate/emendate/model/ErrorCode"), (.object "com/example/emendate/emendate/model/ErrorCode"), (.object "com/example/emendate/emendate/model/ErrorCode"), (.object "com/example/emendate/emendate/model/ErrorCode"), (.object "com/example/emendate/emendate/model/ErrorCode"), (.object "com/example/emendate/emendate/model/ErrorCode"), (.object "com/example/emendate/emendate/model/ErrorCode"), (.object "com/example/emendate/emendate/model/ErrorCode"), (.object "com/example/emendate/emendate/model/ErrorCode"), (.object "com/example/emendate/emendate/model/ErrorCode"), (.object "com/example/emendate/emendate/model/ErrorCode"), (.object "com/example/emendate/emendate/model/ErrorCode"), (.object "com/example/emendate/emendate/model/ErrorCode"), (.object "com/example/emendate/emendate/model/ErrorCode"), (.object "com/example/emendate/emendate/model/ErrorCode"), (.object "com/example/emendate/emendate/model/ErrorCode"), (.object "com/example/emendate/emendate/model/ErrorCode"), (.object "com/example/emendate/emendate/model/ErrorCode"), (.array (.object "com/example/emendate/emendate/model/ErrorCode"))]
  resolved := Array.replicate 351 none
  statics := some 0 }

def pool7 : Array CpInfo := pool [(2, .class_ 4), (1, u "java/lang/CharSequence"), (42, .class_ 48), (0, u "java/lang/CharSequence$1CodePointIterator"), (10, .class_ 60), (0, u "java/lang/CharSequence$1CharIterator"), (5, .class_ 67), (0, u "java/lang/Object")] 63

/-- java/lang/CharSequence -/
def k7 : Class := { plain "java/lang/CharSequence" (some 0) with
  accessFlags := 1537
  interfaces := #[]
  cf := some (fileOf pool7 2 #[.nestMembers #[47, 59]] #[] 1537 66 #[] #[])
  fields := #[]
  methods := #[]
  instanceTypes := #[]
  staticTypes := #[]
  resolved := Array.replicate 131 none
  statics := none }

def pool8 : Array CpInfo := pool [(1, .class_ 2), (0, u "java/lang/constant/ConstantDesc"), (0, .class_ 4), (0, u "java/lang/Object")] 32

/-- java/lang/constant/ConstantDesc -/
def k8 : Class := { plain "java/lang/constant/ConstantDesc" (some 0) with
  accessFlags := 1537
  interfaces := #[]
  cf := some (fileOf pool8 1 #[] #[] 1537 3 #[] #[])
  fields := #[]
  methods := #[]
  instanceTypes := #[]
  staticTypes := #[]
  resolved := Array.replicate 37 none
  statics := none }

def pool9 : Array CpInfo := pool [(1, .methodref 2 3), (0, .class_ 4), (0, .nameAndType 5 6), (0, u "java/lang/Object"), (0, u "<init>"), (0, u "()V"), (0, .string 8), (0, u ""), (0, .fieldref 10 11), (0, .class_ 12), (0, .nameAndType 13 14), (0, u "java/lang/String"), (0, u "value"), (0, u "[B"), (0, .fieldref 10 16), (0, .nameAndType 17 18), (0, u "coder"), (0, u "B"), (2, u "hash"), (0, u "I"), (2, u "hashIsZero"), (0, u "Z"), (0, .methodref 10 28), (0, .nameAndType 5 29), (0, u "([CIILjava/lang/Void;)V"), (8, .fieldref 10 39), (0, .nameAndType 40 26), (0, u "COMPACT_STRINGS"), (1, .class_ 44), (1, u "java/lang/StringUTF16"), (0, u "compress"), (1, .methodref 42 48), (0, .nameAndType 49 50), (0, u "coderFromArrayLen"), (0, u "([BI)B"), (126, .methodref 42 178), (0, .nameAndType 45 179), (0, u "([CII)[B"), (363, u "equals"), (29, u "(Ljava/lang/Object;)Z"), (1, .class_ 576), (0, u "java/lang/CharSequence"), (22, u "CASE_INSENSITIVE_ORDER"), (0, u "Ljava/util/Comparator;"), (409, u "([C)V"), (90, u "serialPersistentFields"), (0, u "[Ljava/io/ObjectStreamField;"), (0, .class_ 1104), (0, u "java/lang/String$CaseInsensitiveComparator"), (1, .class_ 1107), (0, u "java/io/Serializable"), (0, .class_ 1109), (0, u "java/lang/Comparable"), (0, .class_ 1111), (0, u "java/lang/constant/Constable"), (0, .class_ 1113), (0, u "java/lang/constant/ConstantDesc"), (2, u "serialVersionUID"), (0, u "J"), (3, u "REPL"), (0, u "C"), (2, u "LATIN1"), (1, u "UTF16")] 323

def k9m0 : Method := { name := "<init>", desc := "()V", sig := { parameters := [], returnType := none }, accessFlags := 1, code := none }
def k9c1 : Code := { maxStack := 5, maxLocals := 2, code := jdk_42_method_3_code, exceptionTable := #[], attributes := #[] }
def k9m1 : Method := { name := "<init>", desc := "([C)V", sig := { parameters := [(.array .char)], returnType := none }, accessFlags := 1, code := some k9c1 }
def k9c2 : Code := { maxStack := 2, maxLocals := 3, code := jdk_42_method_66_code, exceptionTable := #[], attributes := #[] }
def k9m2 : Method := { name := "equals", desc := "(Ljava/lang/Object;)Z", sig := { parameters := [(.object "java/lang/Object")], returnType := some .boolean }, accessFlags := 1, code := some k9c2 }
def k9c3 : Code := { maxStack := 4, maxLocals := 6, code := jdk_42_method_149_code, exceptionTable := #[], attributes := #[] }
def k9m3 : Method := { name := "<init>", desc := "([CIILjava/lang/Void;)V", sig := { parameters := [(.array .char), .int, .int, (.object "java/lang/Void")], returnType := none }, accessFlags := 2, code := some k9c3 }
/-- java/lang/String -/
def k9 : Class := { plain "java/lang/String" (some 0) with
  accessFlags := 49
  interfaces := #[4, 3, 7, 2, 8]
  cf := some (fileOf pool9 10 #[.nestMembers #[1103]] #[{ accessFlags := 1, nameIndex := 5, descriptorIndex := 6, attributes := #[] }, { accessFlags := 1, nameIndex := 5, descriptorIndex := 1010, attributes := #[] }, { accessFlags := 1, nameIndex := 543, descriptorIndex := 573, attributes := #[] }, { accessFlags := 2, nameIndex := 5, descriptorIndex := 29, attributes := #[] }] 49 2 #[1106, 1108, 575, 1110, 1112] #[{ accessFlags := 18, nameIndex := 13, descriptorIndex := 14, attributes := #[] }, { accessFlags := 18, nameIndex := 17, descriptorIndex := 18, attributes := #[] }, { accessFlags := 2, nameIndex := 21, descriptorIndex := 22, attributes := #[] }, { accessFlags := 2, nameIndex := 25, descriptorIndex := 26, attributes := #[] }, { accessFlags := 26, nameIndex := 1116, descriptorIndex := 1117, attributes := #[] }, { accessFlags := 24, nameIndex := 40, descriptorIndex := 26, attributes := #[] }, { accessFlags := 26, nameIndex := 1101, descriptorIndex := 1102, attributes := #[] }, { accessFlags := 26, nameIndex := 1121, descriptorIndex := 1122, attributes := #[] }, { accessFlags := 25, nameIndex := 599, descriptorIndex := 600, attributes := #[] }, { accessFlags := 24, nameIndex := 1125, descriptorIndex := 18, attributes := #[] }, { accessFlags := 24, nameIndex := 1127, descriptorIndex := 18, attributes := #[] }])
  fields := #[{ name := "value", type := (.array .byte), accessFlags := 18, slot := 0, constantValue := 0 }, { name := "coder", type := .byte, accessFlags := 18, slot := 1, constantValue := 0 }, { name := "hash", type := .int, accessFlags := 2, slot := 2, constantValue := 0 }, { name := "hashIsZero", type := .boolean, accessFlags := 2, slot := 3, constantValue := 0 }, { name := "serialVersionUID", type := .long, accessFlags := 26, slot := 0, constantValue := 0 }, { name := "COMPACT_STRINGS", type := .boolean, accessFlags := 24, slot := 1, constantValue := 0 }, { name := "serialPersistentFields", type := (.array (.object "java/io/ObjectStreamField")), accessFlags := 26, slot := 2, constantValue := 0 }, { name := "REPL", type := .char, accessFlags := 26, slot := 3, constantValue := 0 }, { name := "CASE_INSENSITIVE_ORDER", type := (.object "java/util/Comparator"), accessFlags := 25, slot := 4, constantValue := 0 }, { name := "LATIN1", type := .byte, accessFlags := 24, slot := 5, constantValue := 0 }, { name := "UTF16", type := .byte, accessFlags := 24, slot := 6, constantValue := 0 }]
  methods := #[k9m0, k9m1, k9m2, k9m3]
  instanceTypes := #[(.array .byte), .byte, .int, .boolean]
  staticTypes := #[.long, .boolean, (.array (.object "java/io/ObjectStreamField")), .char, (.object "java/util/Comparator"), .byte, .byte]
  resolved := Array.replicate 1451 none
  statics := some 1 }

def pool10 : Array CpInfo := pool [(1, .methodref 2 3), (0, .class_ 4), (0, .nameAndType 5 6), (0, u "java/lang/Object"), (0, u "<init>"), (0, u "()V"), (0, .class_ 8), (0, u "java/lang/Record")] 13

def k10c0 : Code := { maxStack := 1, maxLocals := 1, code := jdk_30_method_1_code, exceptionTable := #[], attributes := #[] }
def k10m0 : Method := { name := "<init>", desc := "()V", sig := { parameters := [], returnType := none }, accessFlags := 4, code := some k10c0 }
/-- java/lang/Record -/
def k10 : Class := { plain "java/lang/Record" (some 0) with
  accessFlags := 1057
  interfaces := #[]
  cf := some (fileOf pool10 7 #[] #[{ accessFlags := 4, nameIndex := 5, descriptorIndex := 6, attributes := #[] }] 1057 2 #[] #[])
  fields := #[]
  methods := #[k10m0]
  instanceTypes := #[]
  staticTypes := #[]
  resolved := Array.replicate 22 none
  statics := none }

def pool11 : Array CpInfo := pool [(1, .methodref 2 3), (0, .class_ 4), (0, .nameAndType 5 6), (0, u "java/lang/Record"), (0, u "<init>"), (0, u "()V"), (0, .fieldref 8 9), (0, .class_ 10), (0, .nameAndType 11 12), (0, u "com/example/emendate/emendate/model/FieldError"), (0, u "code"), (0, u "Lcom/example/emendate/emendate/model/ErrorCode;"), (0, .fieldref 8 14), (0, .nameAndType 15 16), (0, u "field"), (0, u "Ljava/lang/String;"), (0, .fieldref 8 18), (0, .nameAndType 19 16), (0, u "message"), (0, .fieldref 8 21), (0, .nameAndType 22 23), (0, u "operation"), (0, u "Ljava/util/OptionalInt;"), (0, .methodref 25 26), (0, .class_ 27), (0, .nameAndType 28 29), (0, u "java/util/OptionalInt"), (0, u "empty"), (0, u "()Ljava/util/OptionalInt;"), (0, .methodref 8 31), (0, .nameAndType 5 32), (0, u "(Lcom/example/emendate/emendate/model/ErrorCode;Ljava/lang/String;Ljava/lang/String;Ljava/util/OptionalInt;)V"), (12, u "(Lcom/example/emendate/emendate/model/ErrorCode;Ljava/lang/String;Ljava/lang/String;)V"), (3, u "()Ljava/lang/String;"), (2, u "()Lcom/example/emendate/emendate/model/ErrorCode;")] 23

def k11c0 : Code := { maxStack := 5, maxLocals := 4, code := prog_9_method_1_code, exceptionTable := #[], attributes := #[] }
def k11m0 : Method := { name := "<init>", desc := "(Lcom/example/emendate/emendate/model/ErrorCode;Ljava/lang/String;Ljava/lang/String;)V", sig := { parameters := [(.object "com/example/emendate/emendate/model/ErrorCode"), (.object "java/lang/String"), (.object "java/lang/String")], returnType := none }, accessFlags := 1, code := some k11c0 }
def k11c1 : Code := { maxStack := 2, maxLocals := 5, code := prog_9_method_2_code, exceptionTable := #[], attributes := #[] }
def k11m1 : Method := { name := "<init>", desc := "(Lcom/example/emendate/emendate/model/ErrorCode;Ljava/lang/String;Ljava/lang/String;Ljava/util/OptionalInt;)V", sig := { parameters := [(.object "com/example/emendate/emendate/model/ErrorCode"), (.object "java/lang/String"), (.object "java/lang/String"), (.object "java/util/OptionalInt")], returnType := none }, accessFlags := 1, code := some k11c1 }
def k11c2 : Code := { maxStack := 1, maxLocals := 1, code := prog_9_method_6_code, exceptionTable := #[], attributes := #[] }
def k11m2 : Method := { name := "code", desc := "()Lcom/example/emendate/emendate/model/ErrorCode;", sig := { parameters := [], returnType := some (.object "com/example/emendate/emendate/model/ErrorCode") }, accessFlags := 1, code := some k11c2 }
def k11c3 : Code := { maxStack := 1, maxLocals := 1, code := prog_9_method_8_code, exceptionTable := #[], attributes := #[] }
def k11m3 : Method := { name := "message", desc := "()Ljava/lang/String;", sig := { parameters := [], returnType := some (.object "java/lang/String") }, accessFlags := 1, code := some k11c3 }
/-- com/example/emendate/emendate/model/FieldError -/
def k11 : Class := { plain "com/example/emendate/emendate/model/FieldError" (some 10) with
  accessFlags := 49
  interfaces := #[]
  cf := some (fileOf pool11 8 #[] #[{ accessFlags := 1, nameIndex := 5, descriptorIndex := 45, attributes := #[] }, { accessFlags := 1, nameIndex := 5, descriptorIndex := 32, attributes := #[] }, { accessFlags := 1, nameIndex := 11, descriptorIndex := 52, attributes := #[] }, { accessFlags := 1, nameIndex := 19, descriptorIndex := 49, attributes := #[] }] 49 2 #[] #[{ accessFlags := 18, nameIndex := 11, descriptorIndex := 12, attributes := #[] }, { accessFlags := 18, nameIndex := 15, descriptorIndex := 16, attributes := #[] }, { accessFlags := 18, nameIndex := 19, descriptorIndex := 16, attributes := #[] }, { accessFlags := 18, nameIndex := 22, descriptorIndex := 23, attributes := #[] }])
  fields := #[{ name := "code", type := (.object "com/example/emendate/emendate/model/ErrorCode"), accessFlags := 18, slot := 0, constantValue := 0 }, { name := "field", type := (.object "java/lang/String"), accessFlags := 18, slot := 1, constantValue := 0 }, { name := "message", type := (.object "java/lang/String"), accessFlags := 18, slot := 2, constantValue := 0 }, { name := "operation", type := (.object "java/util/OptionalInt"), accessFlags := 18, slot := 3, constantValue := 0 }]
  methods := #[k11m0, k11m1, k11m2, k11m3]
  instanceTypes := #[(.object "com/example/emendate/emendate/model/ErrorCode"), (.object "java/lang/String"), (.object "java/lang/String"), (.object "java/util/OptionalInt")]
  staticTypes := #[]
  resolved := Array.replicate 76 none
  statics := none }

def pool12 : Array CpInfo := pool [(2, .class_ 4), (1, u "java/lang/Object"), (0, u "<init>"), (0, u "()V"), (1, .class_ 10), (1, u "java/util/OptionalInt"), (0, u "isPresent"), (0, u "Z"), (2, u "value"), (0, u "I"), (0, .fieldref 8 18), (0, .nameAndType 19 20), (0, u "EMPTY"), (0, u "Ljava/util/OptionalInt;"), (28, u "empty"), (46, u "()Ljava/util/OptionalInt;")] 39

def k12m0 : Method := { name := "<init>", desc := "()V", sig := { parameters := [], returnType := none }, accessFlags := 2, code := none }
def k12c1 : Code := { maxStack := 1, maxLocals := 0, code := jdk_2649_method_2_code, exceptionTable := #[], attributes := #[] }
def k12m1 : Method := { name := "empty", desc := "()Ljava/util/OptionalInt;", sig := { parameters := [], returnType := some (.object "java/util/OptionalInt") }, accessFlags := 9, code := some k12c1 }
/-- java/util/OptionalInt -/
def k12 : Class := { plain "java/util/OptionalInt" (some 0) with
  accessFlags := 49
  interfaces := #[]
  cf := some (fileOf pool12 8 #[] #[{ accessFlags := 2, nameIndex := 5, descriptorIndex := 6, attributes := #[] }, { accessFlags := 9, nameIndex := 49, descriptorIndex := 96, attributes := #[] }] 49 2 #[] #[{ accessFlags := 26, nameIndex := 19, descriptorIndex := 20, attributes := #[] }, { accessFlags := 18, nameIndex := 11, descriptorIndex := 12, attributes := #[] }, { accessFlags := 18, nameIndex := 15, descriptorIndex := 16, attributes := #[] }])
  fields := #[{ name := "EMPTY", type := (.object "java/util/OptionalInt"), accessFlags := 26, slot := 0, constantValue := 0 }, { name := "isPresent", type := .boolean, accessFlags := 18, slot := 0, constantValue := 0 }, { name := "value", type := .int, accessFlags := 18, slot := 1, constantValue := 0 }]
  methods := #[k12m0, k12m1]
  instanceTypes := #[.boolean, .int]
  staticTypes := #[(.object "java/util/OptionalInt")]
  resolved := Array.replicate 136 none
  statics := some 2 }

def pool13 : Array CpInfo := pool [(1, .methodref 2 3), (0, .class_ 4), (0, .nameAndType 5 6), (0, u "java/lang/Object"), (0, u "<init>"), (0, u "()V"), (0, .fieldref 8 9), (0, .class_ 10), (0, .nameAndType 11 12), (0, u "java/lang/Throwable"), (0, u "cause"), (0, u "Ljava/lang/Throwable;"), (0, .fieldref 8 14), (0, .nameAndType 15 16), (0, u "UNASSIGNED_STACK"), (0, u "[Ljava/lang/StackTraceElement;"), (0, .fieldref 8 18), (0, .nameAndType 19 16), (0, u "stackTrace"), (0, .fieldref 8 21), (0, .nameAndType 22 23), (0, u "SUPPRESSED_SENTINEL"), (0, u "Ljava/util/List;"), (0, .fieldref 8 25), (0, .nameAndType 26 23), (0, u "suppressedExceptions"), (4, .fieldref 8 32), (0, .nameAndType 33 34), (0, u "detailMessage"), (0, u "Ljava/lang/String;"), (3, u "()Ljava/lang/String;"), (2, u "getMessage"), (51, .class_ 94), (0, u "java/lang/Throwable$WrappedPrintStream"), (6, .class_ 103), (1, u "java/lang/Throwable$PrintStreamOrWriter"), (61, u "$assertionsDisabled"), (0, u "Z"), (26, .class_ 194), (0, u "java/lang/Throwable$WrappedPrintWriter"), (5, u "backtrace"), (0, u "Ljava/lang/Object;"), (9, u "depth"), (0, u "I"), (56, .class_ 271), (1, u "java/lang/Throwable$SentinelHolder"), (32, u "EMPTY_THROWABLE_ARRAY"), (0, u "[Ljava/lang/Throwable;"), (12, .class_ 319), (0, u "java/io/Serializable"), (0, u "serialVersionUID"), (0, u "J"), (5, u "NULL_CAUSE_MESSAGE"), (0, u "SELF_SUPPRESSION_MESSAGE"), (0, u "CAUSE_CAPTION"), (0, u "SUPPRESSED_CAPTION"), (9, u "(Ljava/lang/String;Ljava/lang/Throwable;ZZ)V")] 63

def k13m0 : Method := { name := "<init>", desc := "()V", sig := { parameters := [], returnType := none }, accessFlags := 1, code := none }
def k13c1 : Code := { maxStack := 2, maxLocals := 5, code := jdk_78_method_5_code, exceptionTable := #[], attributes := #[] }
def k13m1 : Method := { name := "<init>", desc := "(Ljava/lang/String;Ljava/lang/Throwable;ZZ)V", sig := { parameters := [(.object "java/lang/String"), (.object "java/lang/Throwable"), .boolean, .boolean], returnType := none }, accessFlags := 4, code := some k13c1 }
def k13c2 : Code := { maxStack := 1, maxLocals := 1, code := jdk_78_method_6_code, exceptionTable := #[], attributes := #[] }
def k13m2 : Method := { name := "getMessage", desc := "()Ljava/lang/String;", sig := { parameters := [], returnType := some (.object "java/lang/String") }, accessFlags := 1, code := some k13c2 }
/-- java/lang/Throwable -/
def k13 : Class := { plain "java/lang/Throwable" (some 0) with
  accessFlags := 33
  interfaces := #[4]
  cf := some (fileOf pool13 8 #[.nestMembers #[193, 93, 101, 269]] #[{ accessFlags := 1, nameIndex := 5, descriptorIndex := 6, attributes := #[] }, { accessFlags := 4, nameIndex := 5, descriptorIndex := 340, attributes := #[] }, { accessFlags := 1, nameIndex := 41, descriptorIndex := 38, attributes := #[] }] 33 2 #[318] #[{ accessFlags := 26, nameIndex := 320, descriptorIndex := 321, attributes := #[] }, { accessFlags := 130, nameIndex := 200, descriptorIndex := 201, attributes := #[] }, { accessFlags := 2, nameIndex := 33, descriptorIndex := 34, attributes := #[] }, { accessFlags := 26, nameIndex := 15, descriptorIndex := 16, attributes := #[] }, { accessFlags := 2, nameIndex := 11, descriptorIndex := 12, attributes := #[] }, { accessFlags := 2, nameIndex := 19, descriptorIndex := 16, attributes := #[] }, { accessFlags := 130, nameIndex := 211, descriptorIndex := 212, attributes := #[] }, { accessFlags := 26, nameIndex := 22, descriptorIndex := 23, attributes := #[] }, { accessFlags := 2, nameIndex := 26, descriptorIndex := 23, attributes := #[] }, { accessFlags := 26, nameIndex := 327, descriptorIndex := 34, attributes := #[] }, { accessFlags := 26, nameIndex := 328, descriptorIndex := 34, attributes := #[] }, { accessFlags := 26, nameIndex := 329, descriptorIndex := 34, attributes := #[] }, { accessFlags := 26, nameIndex := 330, descriptorIndex := 34, attributes := #[] }, { accessFlags := 26, nameIndex := 304, descriptorIndex := 305, attributes := #[] }, { accessFlags := 4120, nameIndex := 165, descriptorIndex := 166, attributes := #[] }])
  fields := #[{ name := "serialVersionUID", type := .long, accessFlags := 26, slot := 0, constantValue := 0 }, { name := "backtrace", type := (.object "java/lang/Object"), accessFlags := 130, slot := 0, constantValue := 0 }, { name := "detailMessage", type := (.object "java/lang/String"), accessFlags := 2, slot := 1, constantValue := 0 }, { name := "UNASSIGNED_STACK", type := (.array (.object "java/lang/StackTraceElement")), accessFlags := 26, slot := 1, constantValue := 0 }, { name := "cause", type := (.object "java/lang/Throwable"), accessFlags := 2, slot := 2, constantValue := 0 }, { name := "stackTrace", type := (.array (.object "java/lang/StackTraceElement")), accessFlags := 2, slot := 3, constantValue := 0 }, { name := "depth", type := .int, accessFlags := 130, slot := 4, constantValue := 0 }, { name := "SUPPRESSED_SENTINEL", type := (.object "java/util/List"), accessFlags := 26, slot := 2, constantValue := 0 }, { name := "suppressedExceptions", type := (.object "java/util/List"), accessFlags := 2, slot := 5, constantValue := 0 }, { name := "NULL_CAUSE_MESSAGE", type := (.object "java/lang/String"), accessFlags := 26, slot := 3, constantValue := 0 }, { name := "SELF_SUPPRESSION_MESSAGE", type := (.object "java/lang/String"), accessFlags := 26, slot := 4, constantValue := 0 }, { name := "CAUSE_CAPTION", type := (.object "java/lang/String"), accessFlags := 26, slot := 5, constantValue := 0 }, { name := "SUPPRESSED_CAPTION", type := (.object "java/lang/String"), accessFlags := 26, slot := 6, constantValue := 0 }, { name := "EMPTY_THROWABLE_ARRAY", type := (.array (.object "java/lang/Throwable")), accessFlags := 26, slot := 7, constantValue := 0 }, { name := "$assertionsDisabled", type := .boolean, accessFlags := 4120, slot := 8, constantValue := 0 }]
  methods := #[k13m0, k13m1, k13m2]
  instanceTypes := #[(.object "java/lang/Object"), (.object "java/lang/String"), (.object "java/lang/Throwable"), (.array (.object "java/lang/StackTraceElement")), .int, (.object "java/util/List")]
  staticTypes := #[.long, (.array (.object "java/lang/StackTraceElement")), (.object "java/util/List"), (.object "java/lang/String"), (.object "java/lang/String"), (.object "java/lang/String"), (.object "java/lang/String"), (.array (.object "java/lang/Throwable")), .boolean]
  resolved := Array.replicate 404 none
  statics := some 3 }

def pool14 : Array CpInfo := pool [(2, .class_ 4), (1, u "java/lang/Throwable"), (0, u "<init>"), (0, u "()V"), (9, .methodref 2 17), (0, .nameAndType 5 18), (0, u "(Ljava/lang/String;Ljava/lang/Throwable;ZZ)V"), (0, .class_ 20), (0, u "java/lang/Exception"), (0, u "serialVersionUID"), (0, u "J")] 17

def k14m0 : Method := { name := "<init>", desc := "()V", sig := { parameters := [], returnType := none }, accessFlags := 1, code := none }
def k14c1 : Code := { maxStack := 5, maxLocals := 5, code := jdk_59_method_5_code, exceptionTable := #[], attributes := #[] }
def k14m1 : Method := { name := "<init>", desc := "(Ljava/lang/String;Ljava/lang/Throwable;ZZ)V", sig := { parameters := [(.object "java/lang/String"), (.object "java/lang/Throwable"), .boolean, .boolean], returnType := none }, accessFlags := 4, code := some k14c1 }
/-- java/lang/Exception -/
def k14 : Class := { plain "java/lang/Exception" (some 13) with
  accessFlags := 33
  interfaces := #[]
  cf := some (fileOf pool14 19 #[] #[{ accessFlags := 1, nameIndex := 5, descriptorIndex := 6, attributes := #[] }, { accessFlags := 4, nameIndex := 5, descriptorIndex := 18, attributes := #[] }] 33 2 #[] #[{ accessFlags := 24, nameIndex := 21, descriptorIndex := 22, attributes := #[] }])
  fields := #[{ name := "serialVersionUID", type := .long, accessFlags := 24, slot := 0, constantValue := 0 }]
  methods := #[k14m0, k14m1]
  instanceTypes := #[(.object "java/lang/Object"), (.object "java/lang/String"), (.object "java/lang/Throwable"), (.array (.object "java/lang/StackTraceElement")), .int, (.object "java/util/List")]
  staticTypes := #[.long]
  resolved := Array.replicate 40 none
  statics := none }

def pool15 : Array CpInfo := pool [(2, .class_ 4), (1, u "java/util/List"), (0, u "of"), (0, u "()Ljava/util/List;"), (0, .methodref 8 9), (0, .class_ 10), (0, .nameAndType 11 12), (0, u "com/example/emendate/emendate/model/Problem"), (0, u "<init>"), (0, u "(Lcom/example/emendate/emendate/model/ErrorCode;Ljava/lang/String;Ljava/util/List;Ljava/time/Duration;)V"), (8, .methodref 22 23), (0, .class_ 24), (0, .nameAndType 11 25), (0, u "java/lang/Exception"), (0, u "(Ljava/lang/String;Ljava/lang/Throwable;ZZ)V"), (0, .fieldref 8 27), (0, .nameAndType 28 29), (0, u "code"), (0, u "Lcom/example/emendate/emendate/model/ErrorCode;"), (0, .interfaceMethodref 2 31), (0, .nameAndType 32 33), (0, u "copyOf"), (0, u "(Ljava/util/Collection;)Ljava/util/List;"), (0, .fieldref 8 35), (0, .nameAndType 36 37), (0, u "errors"), (0, u "Ljava/util/List;"), (0, .fieldref 8 39), (0, .nameAndType 40 41), (0, u "retryAfter"), (0, u "Ljava/time/Duration;"), (0, .methodref 43 44), (0, .class_ 45), (0, .nameAndType 28 46), (0, u "com/example/emendate/emendate/model/FieldError"), (0, u "()Lcom/example/emendate/emendate/model/ErrorCode;"), (0, .methodref 43 48), (0, .nameAndType 49 50), (0, u "message"), (0, u "()Ljava/lang/String;"), (0, .interfaceMethodref 2 52), (0, .nameAndType 5 53), (0, u "(Ljava/lang/Object;)Ljava/util/List;"), (2, u "REFUSALS"), (44, .class_ 103), (1, u "com/example/emendate/emendate/model/Problem$1"), (16, .methodref 8 121), (0, .nameAndType 122 50), (0, u "getMessage"), (18, u "serialVersionUID"), (0, u "J"), (11, u "(Lcom/example/emendate/emendate/model/FieldError;)Lcom/example/emendate/emendate/model/Problem;"), (4, u "detail")] 8

def k15c0 : Code := { maxStack := 5, maxLocals := 5, code := prog_10_method_3_code, exceptionTable := #[], attributes := #[] }
def k15m0 : Method := { name := "<init>", desc := "(Lcom/example/emendate/emendate/model/ErrorCode;Ljava/lang/String;Ljava/util/List;Ljava/time/Duration;)V", sig := { parameters := [(.object "com/example/emendate/emendate/model/ErrorCode"), (.object "java/lang/String"), (.object "java/util/List"), (.object "java/time/Duration")], returnType := none }, accessFlags := 2, code := some k15c0 }
def k15c1 : Code := { maxStack := 6, maxLocals := 1, code := prog_10_method_4_code, exceptionTable := #[], attributes := #[] }
def k15m1 : Method := { name := "of", desc := "(Lcom/example/emendate/emendate/model/FieldError;)Lcom/example/emendate/emendate/model/Problem;", sig := { parameters := [(.object "com/example/emendate/emendate/model/FieldError")], returnType := some (.object "com/example/emendate/emendate/model/Problem") }, accessFlags := 9, code := some k15c1 }
def k15c2 : Code := { maxStack := 1, maxLocals := 1, code := prog_10_method_7_code, exceptionTable := #[], attributes := #[] }
def k15m2 : Method := { name := "code", desc := "()Lcom/example/emendate/emendate/model/ErrorCode;", sig := { parameters := [], returnType := some (.object "com/example/emendate/emendate/model/ErrorCode") }, accessFlags := 1, code := some k15c2 }
def k15c3 : Code := { maxStack := 1, maxLocals := 1, code := prog_10_method_8_code, exceptionTable := #[], attributes := #[] }
def k15m3 : Method := { name := "detail", desc := "()Ljava/lang/String;", sig := { parameters := [], returnType := some (.object "java/lang/String") }, accessFlags := 1, code := some k15c3 }
def k15c4 : Code := { maxStack := 1, maxLocals := 1, code := prog_10_method_9_code, exceptionTable := #[], attributes := #[] }
def k15m4 : Method := { name := "errors", desc := "()Ljava/util/List;", sig := { parameters := [], returnType := some (.object "java/util/List") }, accessFlags := 1, code := some k15c4 }
/-- com/example/emendate/emendate/model/Problem -/
def k15 : Class := { plain "com/example/emendate/emendate/model/Problem" (some 14) with
  accessFlags := 49
  interfaces := #[]
  cf := some (fileOf pool15 8 #[.nestMembers #[101]] #[{ accessFlags := 2, nameIndex := 11, descriptorIndex := 12, attributes := #[] }, { accessFlags := 9, nameIndex := 5, descriptorIndex := 154, attributes := #[] }, { accessFlags := 1, nameIndex := 28, descriptorIndex := 46, attributes := #[] }, { accessFlags := 1, nameIndex := 159, descriptorIndex := 50, attributes := #[] }, { accessFlags := 1, nameIndex := 36, descriptorIndex := 6, attributes := #[] }] 49 22 #[] #[{ accessFlags := 26, nameIndex := 141, descriptorIndex := 142, attributes := #[] }, { accessFlags := 26, nameIndex := 56, descriptorIndex := 37, attributes := #[] }, { accessFlags := 18, nameIndex := 28, descriptorIndex := 29, attributes := #[] }, { accessFlags := 146, nameIndex := 36, descriptorIndex := 37, attributes := #[] }, { accessFlags := 18, nameIndex := 40, descriptorIndex := 41, attributes := #[] }])
  fields := #[{ name := "serialVersionUID", type := .long, accessFlags := 26, slot := 0, constantValue := 0 }, { name := "REFUSALS", type := (.object "java/util/List"), accessFlags := 26, slot := 1, constantValue := 0 }, { name := "code", type := (.object "com/example/emendate/emendate/model/ErrorCode"), accessFlags := 18, slot := 6, constantValue := 0 }, { name := "errors", type := (.object "java/util/List"), accessFlags := 146, slot := 7, constantValue := 0 }, { name := "retryAfter", type := (.object "java/time/Duration"), accessFlags := 18, slot := 8, constantValue := 0 }]
  methods := #[k15m0, k15m1, k15m2, k15m3, k15m4]
  instanceTypes := #[(.object "java/lang/Object"), (.object "java/lang/String"), (.object "java/lang/Throwable"), (.array (.object "java/lang/StackTraceElement")), .int, (.object "java/util/List"), (.object "com/example/emendate/emendate/model/ErrorCode"), (.object "java/util/List"), (.object "java/time/Duration")]
  staticTypes := #[.long, (.object "java/util/List")]
  resolved := Array.replicate 168 none
  statics := none }

def pool16 : Array CpInfo := pool [(8, .class_ 10), (1, u "java/lang/Iterable"), (24, .class_ 36), (0, u "java/lang/Object")] 25

/-- java/lang/Iterable -/
def k16 : Class := { plain "java/lang/Iterable" (some 0) with
  accessFlags := 1537
  interfaces := #[]
  cf := some (fileOf pool16 8 #[] #[] 1537 35 #[] #[])
  fields := #[]
  methods := #[]
  instanceTypes := #[]
  staticTypes := #[]
  resolved := Array.replicate 62 none
  statics := none }

def pool17 : Array CpInfo := pool [(10, .class_ 12), (1, u "java/util/Collection"), (47, .class_ 61), (0, u "java/lang/Object"), (0, .class_ 63), (0, u "java/lang/Iterable")] 51

/-- java/util/Collection -/
def k17 : Class := { plain "java/util/Collection" (some 0) with
  accessFlags := 1537
  interfaces := #[16]
  cf := some (fileOf pool17 10 #[] #[] 1537 60 #[62] #[])
  fields := #[]
  methods := #[]
  instanceTypes := #[]
  staticTypes := #[]
  resolved := Array.replicate 115 none
  statics := none }

def pool18 : Array CpInfo := pool [(8, .class_ 10), (1, u "java/util/SequencedCollection"), (15, .class_ 27), (0, u "java/lang/Object"), (0, .class_ 29), (0, u "java/util/Collection")] 27

/-- java/util/SequencedCollection -/
def k18 : Class := { plain "java/util/SequencedCollection" (some 0) with
  accessFlags := 1537
  interfaces := #[17]
  cf := some (fileOf pool18 8 #[] #[] 1537 26 #[28] #[])
  fields := #[]
  methods := #[]
  instanceTypes := #[]
  staticTypes := #[]
  resolved := Array.replicate 57 none
  statics := none }

def pool19 : Array CpInfo := pool [(8, .class_ 10), (1, u "java/util/List"), (20, u "(Ljava/lang/Object;)V"), (16, u "<init>"), (26, u "get"), (0, u "(I)Ljava/lang/Object;"), (2, u "size"), (0, u "()I"), (7, u "of"), (2, .class_ 93), (1, u "java/util/ImmutableCollections"), (2, .class_ 97), (0, u "java/util/ImmutableCollections$List12"), (0, .methodref 96 99), (0, .nameAndType 48 31), (3, .class_ 104), (0, u "java/lang/Object"), (7, .methodref 91 113), (0, .nameAndType 114 115), (0, u "listCopy"), (0, u "(Ljava/util/Collection;)Ljava/util/List;"), (4, .class_ 121), (0, u "java/util/SequencedCollection"), (76, u "(Ljava/lang/Object;)Ljava/util/List;"), (35, u "copyOf")] 16

def k19m0 : Method := { name := "size", desc := "()I", sig := { parameters := [], returnType := some .int }, accessFlags := 1025, code := none }
def k19m1 : Method := { name := "get", desc := "(I)Ljava/lang/Object;", sig := { parameters := [.int], returnType := some (.object "java/lang/Object") }, accessFlags := 1025, code := none }
def k19c2 : Code := { maxStack := 3, maxLocals := 1, code := jdk_40_method_37_code, exceptionTable := #[], attributes := #[] }
def k19m2 : Method := { name := "of", desc := "(Ljava/lang/Object;)Ljava/util/List;", sig := { parameters := [(.object "java/lang/Object")], returnType := some (.object "java/util/List") }, accessFlags := 9, code := some k19c2 }
def k19c3 : Code := { maxStack := 1, maxLocals := 1, code := jdk_40_method_48_code, exceptionTable := #[], attributes := #[] }
def k19m3 : Method := { name := "copyOf", desc := "(Ljava/util/Collection;)Ljava/util/List;", sig := { parameters := [(.object "java/util/Collection")], returnType := some (.object "java/util/List") }, accessFlags := 9, code := some k19c3 }
/-- java/util/List -/
def k19 : Class := { plain "java/util/List" (some 0) with
  accessFlags := 1537
  interfaces := #[18]
  cf := some (fileOf pool19 8 #[] #[{ accessFlags := 1025, nameIndex := 79, descriptorIndex := 80, attributes := #[] }, { accessFlags := 1025, nameIndex := 75, descriptorIndex := 76, attributes := #[] }, { accessFlags := 9, nameIndex := 88, descriptorIndex := 198, attributes := #[] }, { accessFlags := 9, nameIndex := 234, descriptorIndex := 115, attributes := #[] }] 1537 103 #[120] #[])
  fields := #[]
  methods := #[k19m0, k19m1, k19m2, k19m3]
  instanceTypes := #[]
  staticTypes := #[]
  resolved := Array.replicate 251 none
  statics := none }

def pool20 : Array CpInfo := pool [(1, .methodref 2 3), (0, .class_ 4), (0, .nameAndType 5 6), (0, u "java/lang/Object"), (0, u "<init>"), (0, u "()V"), (1, .class_ 10), (1, u "java/util/AbstractCollection"), (66, .class_ 78), (0, u "java/util/Collection")] 81

def k20c0 : Code := { maxStack := 1, maxLocals := 1, code := jdk_22_method_1_code, exceptionTable := #[], attributes := #[] }
def k20m0 : Method := { name := "<init>", desc := "()V", sig := { parameters := [], returnType := none }, accessFlags := 4, code := some k20c0 }
/-- java/util/AbstractCollection -/
def k20 : Class := { plain "java/util/AbstractCollection" (some 0) with
  accessFlags := 1057
  interfaces := #[17]
  cf := some (fileOf pool20 8 #[] #[{ accessFlags := 4, nameIndex := 5, descriptorIndex := 6, attributes := #[] }] 1057 2 #[77] #[])
  fields := #[]
  methods := #[k20m0]
  instanceTypes := #[]
  staticTypes := #[]
  resolved := Array.replicate 160 none
  statics := none }

def pool21 : Array CpInfo := pool [(1, .methodref 2 3), (0, .class_ 4), (0, .nameAndType 5 6), (0, u "java/util/AbstractCollection"), (0, u "<init>"), (0, u "()V"), (1, .class_ 10), (1, u "java/util/ImmutableCollections"), (2, .class_ 14), (0, u "java/util/ImmutableCollections$AbstractImmutableCollection")] 41

def k21c0 : Code := { maxStack := 1, maxLocals := 1, code := jdk_47_method_1_code, exceptionTable := #[], attributes := #[] }
def k21m0 : Method := { name := "<init>", desc := "()V", sig := { parameters := [], returnType := none }, accessFlags := 0, code := some k21c0 }
/-- java/util/ImmutableCollections$AbstractImmutableCollection -/
def k21 : Class := { plain "java/util/ImmutableCollections$AbstractImmutableCollection" (some 20) with
  accessFlags := 1056
  interfaces := #[]
  cf := some (fileOf pool21 13 #[.nestHost 8] #[{ accessFlags := 0, nameIndex := 5, descriptorIndex := 6, attributes := #[] }] 1056 2 #[] #[])
  fields := #[]
  methods := #[k21m0]
  instanceTypes := #[]
  staticTypes := #[]
  resolved := Array.replicate 56 none
  statics := none }

def pool22 : Array CpInfo := pool [(1, .class_ 2), (0, u "java/util/RandomAccess"), (0, .class_ 4), (0, u "java/lang/Object")] 2

/-- java/util/RandomAccess -/
def k22 : Class := { plain "java/util/RandomAccess" (some 0) with
  accessFlags := 1537
  interfaces := #[]
  cf := some (fileOf pool22 1 #[] #[] 1537 3 #[] #[])
  fields := #[]
  methods := #[]
  instanceTypes := #[]
  staticTypes := #[]
  resolved := Array.replicate 7 none
  statics := none }

def pool23 : Array CpInfo := pool [(1, .methodref 2 3), (0, .class_ 4), (0, .nameAndType 5 6), (0, u "java/util/ImmutableCollections$AbstractImmutableCollection"), (0, u "<init>"), (0, u "()V"), (1, .class_ 10), (1, u "java/util/ImmutableCollections"), (3, .class_ 16), (1, u "java/util/ImmutableCollections$AbstractImmutableList"), (60, .class_ 78), (0, u "java/util/List"), (45, .class_ 125), (0, u "java/util/RandomAccess")] 70

def k23c0 : Code := { maxStack := 1, maxLocals := 1, code := jdk_46_method_1_code, exceptionTable := #[], attributes := #[] }
def k23m0 : Method := { name := "<init>", desc := "()V", sig := { parameters := [], returnType := none }, accessFlags := 0, code := some k23c0 }
/-- java/util/ImmutableCollections$AbstractImmutableList -/
def k23 : Class := { plain "java/util/ImmutableCollections$AbstractImmutableList" (some 21) with
  accessFlags := 1056
  interfaces := #[19, 22]
  cf := some (fileOf pool23 14 #[.nestHost 8] #[{ accessFlags := 0, nameIndex := 5, descriptorIndex := 6, attributes := #[] }] 1056 2 #[77, 124] #[])
  fields := #[]
  methods := #[k23m0]
  instanceTypes := #[]
  staticTypes := #[]
  resolved := Array.replicate 196 none
  statics := none }

def pool24 : Array CpInfo := pool [(1, .methodref 2 3), (0, .class_ 4), (0, .nameAndType 5 6), (0, u "java/util/ImmutableCollections$AbstractImmutableList"), (0, u "<init>"), (0, u "()V"), (0, .methodref 8 9), (0, .class_ 10), (0, .nameAndType 11 12), (0, u "java/util/Objects"), (0, u "requireNonNull"), (0, u "(Ljava/lang/Object;)Ljava/lang/Object;"), (0, .fieldref 14 15), (0, .class_ 16), (0, .nameAndType 17 18), (0, u "java/util/ImmutableCollections$List12"), (0, u "e0"), (0, u "Ljava/lang/Object;"), (0, .fieldref 20 21), (0, .class_ 22), (0, .nameAndType 23 18), (0, u "java/util/ImmutableCollections"), (0, u "EMPTY"), (0, .fieldref 14 25), (0, .nameAndType 26 18), (0, u "e1"), (24, u "size"), (0, u "()I"), (17, .class_ 71), (0, u "java/io/Serializable"), (4, u "(Ljava/lang/Object;)V"), (13, u "get"), (0, u "(I)Ljava/lang/Object;")] 33

def k24c0 : Code := { maxStack := 2, maxLocals := 2, code := jdk_44_method_1_code, exceptionTable := #[], attributes := #[] }
def k24m0 : Method := { name := "<init>", desc := "(Ljava/lang/Object;)V", sig := { parameters := [(.object "java/lang/Object")], returnType := none }, accessFlags := 0, code := some k24c0 }
def k24c1 : Code := { maxStack := 2, maxLocals := 1, code := jdk_44_method_3_code, exceptionTable := #[], attributes := #[] }
def k24m1 : Method := { name := "size", desc := "()I", sig := { parameters := [], returnType := some .int }, accessFlags := 1, code := some k24c1 }
def k24c2 : Code := { maxStack := 2, maxLocals := 2, code := jdk_44_method_5_code, exceptionTable := #[], attributes := #[] }
def k24m2 : Method := { name := "get", desc := "(I)Ljava/lang/Object;", sig := { parameters := [.int], returnType := some (.object "java/lang/Object") }, accessFlags := 1, code := some k24c2 }
/-- java/util/ImmutableCollections$List12 -/
def k24 : Class := { plain "java/util/ImmutableCollections$List12" (some 23) with
  accessFlags := 48
  interfaces := #[4]
  cf := some (fileOf pool24 14 #[.nestHost 20] #[{ accessFlags := 0, nameIndex := 5, descriptorIndex := 76, attributes := #[] }, { accessFlags := 1, nameIndex := 51, descriptorIndex := 52, attributes := #[] }, { accessFlags := 1, nameIndex := 90, descriptorIndex := 91, attributes := #[] }] 48 2 #[70] #[{ accessFlags := 18, nameIndex := 17, descriptorIndex := 18, attributes := #[] }, { accessFlags := 18, nameIndex := 26, descriptorIndex := 18, attributes := #[] }])
  fields := #[{ name := "e0", type := (.object "java/lang/Object"), accessFlags := 18, slot := 0, constantValue := 0 }, { name := "e1", type := (.object "java/lang/Object"), accessFlags := 18, slot := 1, constantValue := 0 }]
  methods := #[k24m0, k24m1, k24m2]
  instanceTypes := #[(.object "java/lang/Object"), (.object "java/lang/Object")]
  staticTypes := #[]
  resolved := Array.replicate 125 none
  statics := none }

def pool25 : Array CpInfo := pool [(2, .class_ 4), (1, u "java/lang/Object"), (0, u "<init>"), (0, u "()V"), (35, .class_ 44), (1, u "java/util/Objects"), (0, u "requireNonNull"), (0, u "(Ljava/lang/Object;)Ljava/lang/Object;")] 137

def k25m0 : Method := { name := "<init>", desc := "()V", sig := { parameters := [], returnType := none }, accessFlags := 2, code := none }
def k25c1 : Code := { maxStack := 2, maxLocals := 1, code := jdk_31_method_10_code, exceptionTable := #[], attributes := #[] }
def k25m1 : Method := { name := "requireNonNull", desc := "(Ljava/lang/Object;)Ljava/lang/Object;", sig := { parameters := [(.object "java/lang/Object")], returnType := some (.object "java/lang/Object") }, accessFlags := 9, code := some k25c1 }
/-- java/util/Objects -/
def k25 : Class := { plain "java/util/Objects" (some 0) with
  accessFlags := 49
  interfaces := #[]
  cf := some (fileOf pool25 42 #[] #[{ accessFlags := 2, nameIndex := 5, descriptorIndex := 6, attributes := #[] }, { accessFlags := 9, nameIndex := 45, descriptorIndex := 46, attributes := #[] }] 49 2 #[] #[])
  fields := #[]
  methods := #[k25m0, k25m1]
  instanceTypes := #[]
  staticTypes := #[]
  resolved := Array.replicate 184 none
  statics := none }

def pool26 : Array CpInfo := pool [(2, .class_ 4), (1, u "java/lang/Object"), (0, u "<init>"), (0, u "()V"), (3, .class_ 11), (0, u "java/util/ImmutableCollections$List12"), (0, .class_ 13), (0, u "java/util/ImmutableCollections$ListN"), (3, u "Z"), (0, .class_ 19), (0, u "java/util/List"), (27, .class_ 49), (1, u "java/util/ImmutableCollections"), (0, u "$assertionsDisabled"), (5, u "[Ljava/lang/Object;"), (5, u "EMPTY_LIST"), (0, u "Ljava/util/ImmutableCollections$ListN;"), (8, u "EMPTY_LIST_NULLS"), (22, u "SALT32L"), (0, u "J"), (2, u "REVERSE"), (6, u "archivedObjects"), (2, u "EMPTY"), (0, u "Ljava/lang/Object;"), (0, .class_ 112), (0, u "java/util/ImmutableCollections$SetN"), (5, u "EMPTY_SET"), (0, u "Ljava/util/ImmutableCollections$SetN;"), (0, .class_ 121), (0, u "java/util/ImmutableCollections$MapN"), (3, u "EMPTY_MAP"), (0, u "Ljava/util/ImmutableCollections$MapN;"), (4, u "EXPAND_FACTOR"), (0, u "I"), (9, u "listCopy"), (0, u "(Ljava/util/Collection;)Ljava/util/List;"), (25, .class_ 170), (0, u "java/util/ImmutableCollections$MapN$MapNIterator"), (0, .class_ 172), (0, u "java/util/ImmutableCollections$MapN$1"), (0, .class_ 174), (0, u "java/util/ImmutableCollections$Map1"), (0, .class_ 176), (0, u "java/util/ImmutableCollections$AbstractImmutableMap"), (0, .class_ 178), (0, u "java/util/ImmutableCollections$SetN$SetNIterator"), (0, .class_ 180), (0, u "java/util/ImmutableCollections$Set12"), (0, .class_ 182), (0, u "java/util/ImmutableCollections$Set12$1"), (0, .class_ 184), (0, u "java/util/ImmutableCollections$AbstractImmutableSet"), (0, .class_ 186), (0, u "java/util/ImmutableCollections$SubList"), (0, .class_ 188), (0, u "java/util/ImmutableCollections$ListItr"), (0, .class_ 190), (0, u "java/util/ImmutableCollections$AbstractImmutableList"), (0, .class_ 192), (0, u "java/util/ImmutableCollections$AbstractImmutableCollection"), (0, .class_ 194), (0, u "java/util/ImmutableCollections$Access"), (0, .class_ 196), (0, u "java/util/ImmutableCollections$Access$1")] 16

def k26m0 : Method := { name := "<init>", desc := "()V", sig := { parameters := [], returnType := none }, accessFlags := 2, code := none }
def k26c1 : Code := { maxStack := 1, maxLocals := 2, code := jdk_56_method_3_code, exceptionTable := #[], attributes := #[] }
def k26m1 : Method := { name := "listCopy", desc := "(Ljava/util/Collection;)Ljava/util/List;", sig := { parameters := [(.object "java/util/Collection")], returnType := some (.object "java/util/List") }, accessFlags := 8, code := some k26c1 }
/-- java/util/ImmutableCollections -/
def k26 : Class := { plain "java/util/ImmutableCollections" (some 0) with
  accessFlags := 32
  interfaces := #[]
  cf := some (fileOf pool26 47 #[.nestMembers #[120, 169, 171, 173, 175, 111, 177, 179, 181, 183, 12, 10, 185, 187, 189, 191, 193, 195]] #[{ accessFlags := 2, nameIndex := 5, descriptorIndex := 6, attributes := #[] }, { accessFlags := 8, nameIndex := 142, descriptorIndex := 143, attributes := #[] }] 32 2 #[] #[{ accessFlags := 26, nameIndex := 95, descriptorIndex := 96, attributes := #[] }, { accessFlags := 26, nameIndex := 99, descriptorIndex := 17, attributes := #[] }, { accessFlags := 10, nameIndex := 106, descriptorIndex := 56, attributes := #[] }, { accessFlags := 26, nameIndex := 109, descriptorIndex := 110, attributes := #[] }, { accessFlags := 24, nameIndex := 62, descriptorIndex := 63, attributes := #[] }, { accessFlags := 24, nameIndex := 72, descriptorIndex := 63, attributes := #[] }, { accessFlags := 24, nameIndex := 118, descriptorIndex := 119, attributes := #[] }, { accessFlags := 24, nameIndex := 125, descriptorIndex := 126, attributes := #[] }, { accessFlags := 24, nameIndex := 131, descriptorIndex := 132, attributes := #[] }, { accessFlags := 4120, nameIndex := 50, descriptorIndex := 17, attributes := #[] }])
  fields := #[{ name := "SALT32L", type := .long, accessFlags := 26, slot := 0, constantValue := 0 }, { name := "REVERSE", type := .boolean, accessFlags := 26, slot := 1, constantValue := 0 }, { name := "archivedObjects", type := (.array (.object "java/lang/Object")), accessFlags := 10, slot := 2, constantValue := 0 }, { name := "EMPTY", type := (.object "java/lang/Object"), accessFlags := 26, slot := 3, constantValue := 0 }, { name := "EMPTY_LIST", type := (.object "java/util/ImmutableCollections$ListN"), accessFlags := 24, slot := 4, constantValue := 0 }, { name := "EMPTY_LIST_NULLS", type := (.object "java/util/ImmutableCollections$ListN"), accessFlags := 24, slot := 5, constantValue := 0 }, { name := "EMPTY_SET", type := (.object "java/util/ImmutableCollections$SetN"), accessFlags := 24, slot := 6, constantValue := 0 }, { name := "EMPTY_MAP", type := (.object "java/util/ImmutableCollections$MapN"), accessFlags := 24, slot := 7, constantValue := 0 }, { name := "EXPAND_FACTOR", type := .int, accessFlags := 24, slot := 8, constantValue := 0 }, { name := "$assertionsDisabled", type := .boolean, accessFlags := 4120, slot := 9, constantValue := 0 }]
  methods := #[k26m0, k26m1]
  instanceTypes := #[]
  staticTypes := #[.long, .boolean, (.array (.object "java/lang/Object")), (.object "java/lang/Object"), (.object "java/util/ImmutableCollections$ListN"), (.object "java/util/ImmutableCollections$ListN"), (.object "java/util/ImmutableCollections$SetN"), (.object "java/util/ImmutableCollections$MapN"), .int, .boolean]
  resolved := Array.replicate 213 none
  statics := some 4 }

def pool27 : Array CpInfo := pool [(6, .class_ 8), (1, u "java/lang/Object"), (0, u "<init>"), (0, u "()V"), (1, .class_ 14), (1, u "java/lang/StringUTF16"), (31, u "$assertionsDisabled"), (0, u "Z"), (13, u "HI_BYTE_SHIFT"), (0, u "I"), (2, u "LO_BYTE_SHIFT"), (49, .methodref 12 116), (0, .nameAndType 117 118), (0, u "compress"), (0, u "([CI[BII)I"), (3, u "([CII)[B"), (138, u "coderFromArrayLen"), (0, u "([BI)B"), (106, .class_ 371), (1, u "java/lang/StringUTF16$LinesSpliterator"), (58, u "MAX_LENGTH"), (196, .class_ 628), (0, u "java/lang/StringUTF16$CodePointsSpliterator"), (0, .class_ 630), (0, u "java/lang/StringUTF16$CharsSpliterator")] 4

def k27m0 : Method := { name := "<init>", desc := "()V", sig := { parameters := [], returnType := none }, accessFlags := 0, code := none }
def k27c1 : Code := { maxStack := 2, maxLocals := 2, code := jdk_52_method_15_code, exceptionTable := #[], attributes := #[] }
def k27m1 : Method := { name := "coderFromArrayLen", desc := "([BI)B", sig := { parameters := [(.array .byte), .int], returnType := some .byte }, accessFlags := 8, code := some k27c1 }
def k27c2 : Code := { maxStack := 5, maxLocals := 6, code := jdk_52_method_16_code, exceptionTable := #[], attributes := #[] }
def k27m2 : Method := { name := "compress", desc := "([CII)[B", sig := { parameters := [(.array .char), .int, .int], returnType := some (.array .byte) }, accessFlags := 9, code := some k27c2 }
def k27c3 : Code := { maxStack := 3, maxLocals := 7, code := jdk_52_method_21_code, exceptionTable := #[], attributes := #[] }
def k27m3 : Method := { name := "compress", desc := "([CI[BII)I", sig := { parameters := [(.array .char), .int, (.array .byte), .int, .int], returnType := some .int }, accessFlags := 9, code := some k27c3 }
/-- java/lang/StringUTF16 -/
def k27 : Class := { plain "java/lang/StringUTF16" (some 0) with
  accessFlags := 48
  interfaces := #[]
  cf := some (fileOf pool27 12 #[.nestMembers #[627, 629, 369]] #[{ accessFlags := 0, nameIndex := 9, descriptorIndex := 10, attributes := #[] }, { accessFlags := 8, nameIndex := 261, descriptorIndex := 262, attributes := #[] }, { accessFlags := 9, nameIndex := 117, descriptorIndex := 122, attributes := #[] }, { accessFlags := 9, nameIndex := 117, descriptorIndex := 118, attributes := #[] }] 48 6 #[] #[{ accessFlags := 26, nameIndex := 61, descriptorIndex := 62, attributes := #[] }, { accessFlags := 26, nameIndex := 65, descriptorIndex := 62, attributes := #[] }, { accessFlags := 24, nameIndex := 430, descriptorIndex := 62, attributes := #[] }, { accessFlags := 4120, nameIndex := 46, descriptorIndex := 47, attributes := #[] }])
  fields := #[{ name := "HI_BYTE_SHIFT", type := .int, accessFlags := 26, slot := 0, constantValue := 0 }, { name := "LO_BYTE_SHIFT", type := .int, accessFlags := 26, slot := 1, constantValue := 0 }, { name := "MAX_LENGTH", type := .int, accessFlags := 24, slot := 2, constantValue := 0 }, { name := "$assertionsDisabled", type := .boolean, accessFlags := 4120, slot := 3, constantValue := 0 }]
  methods := #[k27m0, k27m1, k27m2, k27m3]
  instanceTypes := #[]
  staticTypes := #[.int, .int, .int, .boolean]
  resolved := Array.replicate 635 none
  statics := none }

def pool28 : Array CpInfo := pool [(2, .class_ 4), (1, u "java/lang/Object"), (0, u "<init>"), (0, u "()V"), (12, .class_ 20), (0, u "java/util/Collections"), (63, u "r"), (0, u "Ljava/util/Random;"), (80, .class_ 167), (0, u "java/util/Collections$UnmodifiableCollection"), (6, .class_ 175), (0, u "java/util/Collections$UnmodifiableSequencedCollection"), (6, .class_ 183), (0, u "java/util/Collections$UnmodifiableSet"), (6, .class_ 191), (0, u "java/util/Collections$UnmodifiableSequencedSet"), (6, .class_ 199), (0, u "java/util/Collections$UnmodifiableSortedSet"), (6, .class_ 207), (0, u "java/util/Collections$UnmodifiableNavigableSet"), (4, .class_ 213), (0, u "java/util/Collections$UnmodifiableList"), (1, .class_ 216), (0, u "java/util/Collections$UnmodifiableRandomAccessList"), (6, .class_ 224), (0, u "java/util/Collections$UnmodifiableMap"), (6, .class_ 232), (0, u "java/util/Collections$UnmodifiableSequencedMap"), (4, .class_ 238), (0, u "java/util/Collections$UnmodifiableSortedMap"), (6, .class_ 246), (0, u "java/util/Collections$UnmodifiableNavigableMap"), (3, .class_ 251), (0, u "java/util/Collections$SynchronizedCollection"), (4, .class_ 257), (0, u "java/util/Collections$SynchronizedSet"), (4, .class_ 263), (0, u "java/util/Collections$SynchronizedSortedSet"), (1, .class_ 266), (0, u "java/util/Collections$SynchronizedNavigableSet"), (1, .class_ 269), (0, u "java/util/Collections$SynchronizedRandomAccessList"), (1, .class_ 272), (0, u "java/util/Collections$SynchronizedList"), (5, .class_ 279), (0, u "java/util/Collections$SynchronizedMap"), (1, .class_ 282), (0, u "java/util/Collections$SynchronizedSortedMap"), (1, .class_ 285), (0, u "java/util/Collections$SynchronizedNavigableMap"), (1, .class_ 288), (0, u "java/util/Collections$CheckedCollection"), (11, .class_ 301), (0, u "java/util/Collections$CheckedQueue"), (3, .class_ 306), (0, u "java/util/Collections$CheckedSet"), (3, .class_ 311), (0, u "java/util/Collections$CheckedSortedSet"), (3, .class_ 316), (0, u "java/util/Collections$CheckedNavigableSet"), (3, .class_ 321), (0, u "java/util/Collections$CheckedRandomAccessList"), (3, .class_ 326), (0, u "java/util/Collections$CheckedList"), (1, .class_ 329), (0, u "java/util/Collections$CheckedMap"), (3, .class_ 334), (0, u "java/util/Collections$CheckedSortedMap"), (3, .class_ 339), (0, u "java/util/Collections$CheckedNavigableMap"), (4, .class_ 346), (1, u "java/util/Collections$EmptyIterator"), (3, .class_ 352), (1, u "java/util/Collections$EmptyListIterator"), (2, .class_ 357), (1, u "java/util/Collections$EmptyEnumeration"), (4, u "EMPTY_SET"), (0, u "Ljava/util/Set;"), (6, u "EMPTY_LIST"), (0, u "Ljava/util/List;"), (2, u "EMPTY_MAP"), (0, u "Ljava/util/Map;"), (4, .class_ 381), (0, u "java/util/Collections$SingletonSet"), (2, .class_ 385), (0, u "java/util/Collections$1"), (1, .class_ 388), (0, u "java/util/Collections$2"), (1, .class_ 391), (0, u "java/util/Collections$SingletonList"), (1, .class_ 394), (0, u "java/util/Collections$SingletonMap"), (22, .class_ 418), (0, u "java/util/Collections$CopiesList"), (4, .class_ 425), (1, u "java/util/Collections$ReverseComparator"), (8, .class_ 435), (0, u "java/util/Collections$ReverseComparator2"), (6, .class_ 443), (0, u "java/util/Collections$3"), (25, .class_ 470), (0, u "java/util/Collections$SetFromMap"), (2, .class_ 474), (0, u "java/util/Collections$SequencedSetFromMap"), (3, .class_ 479), (0, u "java/util/Collections$AsLIFOQueue"), (11, .class_ 492), (0, u "java/util/Collections$EmptySet"), (1, .class_ 495), (0, u "java/util/Collections$EmptyList"), (1, .class_ 498), (0, u "java/util/Collections$EmptyMap"), (1, u "BINARYSEARCH_THRESHOLD"), (0, u "I"), (2, u "REVERSE_THRESHOLD"), (1, u "SHUFFLE_THRESHOLD"), (1, u "FILL_THRESHOLD"), (1, u "ROTATE_THRESHOLD"), (1, u "COPY_THRESHOLD"), (1, u "REPLACEALL_THRESHOLD"), (1, u "INDEXOFSUBLIST_THRESHOLD"), (333, .class_ 851), (0, u "java/util/Collections$CheckedMap$CheckedEntrySet"), (0, .class_ 853), (0, u "java/util/Collections$CheckedMap$CheckedEntrySet$CheckedEntry"), (0, .class_ 855), (0, u "java/util/Collections$CheckedMap$CheckedEntrySet$1"), (0, .class_ 857), (0, u "java/util/Collections$CheckedList$1"), (0, .class_ 859), (0, u "java/util/Collections$CheckedCollection$1"), (0, .class_ 861), (0, u "java/util/Collections$UnmodifiableNavigableMap$EmptyNavigableMap"), (0, .class_ 863), (0, u "java/util/Collections$UnmodifiableMap$UnmodifiableEntrySet"), (0, .class_ 865), (0, u "java/util/Collections$UnmodifiableMap$UnmodifiableEntrySet$UnmodifiableEntry"), (0, .class_ 867), (0, u "java/util/Collections$UnmodifiableMap$UnmodifiableEntrySet$UnmodifiableEntrySetSpliterator"), (0, .class_ 869), (0, u "java/util/Collections$UnmodifiableMap$UnmodifiableEntrySet$1"), (0, .class_ 871), (0, u "java/util/Collections$UnmodifiableList$1"), (0, .class_ 873), (0, u "java/util/Collections$UnmodifiableNavigableSet$EmptyNavigableSet"), (0, .class_ 875), (0, u "java/util/Collections$UnmodifiableCollection$1")] 57

def k28m0 : Method := { name := "<init>", desc := "()V", sig := { parameters := [], returnType := none }, accessFlags := 2, code := none }
/-- java/util/Collections -/
def k28 : Class := { plain "java/util/Collections" (some 0) with
  accessFlags := 33
  interfaces := #[]
  cf := some (fileOf pool28 19 #[.nestMembers #[478, 473, 469, 434, 423, 417, 393, 390, 380, 497, 494, 491, 355, 350, 344, 338, 333, 328, 850, 852, 854, 320, 325, 856, 315, 310, 305, 300, 287, 858, 284, 281, 278, 268, 271, 265, 262, 256, 250, 245, 860, 237, 231, 223, 862, 864, 866, 868, 215, 212, 870, 206, 872, 198, 190, 182, 174, 166, 874, 442, 387, 384]] #[{ accessFlags := 2, nameIndex := 5, descriptorIndex := 6, attributes := #[] }] 33 2 #[] #[{ accessFlags := 26, nameIndex := 500, descriptorIndex := 501, attributes := #[] }, { accessFlags := 26, nameIndex := 504, descriptorIndex := 501, attributes := #[] }, { accessFlags := 26, nameIndex := 506, descriptorIndex := 501, attributes := #[] }, { accessFlags := 26, nameIndex := 508, descriptorIndex := 501, attributes := #[] }, { accessFlags := 26, nameIndex := 510, descriptorIndex := 501, attributes := #[] }, { accessFlags := 26, nameIndex := 512, descriptorIndex := 501, attributes := #[] }, { accessFlags := 26, nameIndex := 514, descriptorIndex := 501, attributes := #[] }, { accessFlags := 26, nameIndex := 516, descriptorIndex := 501, attributes := #[] }, { accessFlags := 10, nameIndex := 84, descriptorIndex := 85, attributes := #[] }, { accessFlags := 25, nameIndex := 362, descriptorIndex := 363, attributes := #[] }, { accessFlags := 25, nameIndex := 370, descriptorIndex := 371, attributes := #[] }, { accessFlags := 25, nameIndex := 374, descriptorIndex := 375, attributes := #[] }])
  fields := #[{ name := "BINARYSEARCH_THRESHOLD", type := .int, accessFlags := 26, slot := 0, constantValue := 0 }, { name := "REVERSE_THRESHOLD", type := .int, accessFlags := 26, slot := 1, constantValue := 0 }, { name := "SHUFFLE_THRESHOLD", type := .int, accessFlags := 26, slot := 2, constantValue := 0 }, { name := "FILL_THRESHOLD", type := .int, accessFlags := 26, slot := 3, constantValue := 0 }, { name := "ROTATE_THRESHOLD", type := .int, accessFlags := 26, slot := 4, constantValue := 0 }, { name := "COPY_THRESHOLD", type := .int, accessFlags := 26, slot := 5, constantValue := 0 }, { name := "REPLACEALL_THRESHOLD", type := .int, accessFlags := 26, slot := 6, constantValue := 0 }, { name := "INDEXOFSUBLIST_THRESHOLD", type := .int, accessFlags := 26, slot := 7, constantValue := 0 }, { name := "r", type := (.object "java/util/Random"), accessFlags := 10, slot := 8, constantValue := 0 }, { name := "EMPTY_SET", type := (.object "java/util/Set"), accessFlags := 25, slot := 9, constantValue := 0 }, { name := "EMPTY_LIST", type := (.object "java/util/List"), accessFlags := 25, slot := 10, constantValue := 0 }, { name := "EMPTY_MAP", type := (.object "java/util/Map"), accessFlags := 25, slot := 11, constantValue := 0 }]
  methods := #[k28m0]
  instanceTypes := #[]
  staticTypes := #[.int, .int, .int, .int, .int, .int, .int, .int, (.object "java/util/Random"), (.object "java/util/Set"), (.object "java/util/List"), (.object "java/util/Map")]
  resolved := Array.replicate 933 none
  statics := some 5 }

def pool29 : Array CpInfo := pool [(4, .class_ 6), (1, u "java/lang/Object"), (0, u "<init>"), (0, u "()V"), (5, .class_ 16), (1, u "java/lang/StringLatin1"), (104, u "$assertionsDisabled"), (0, u "Z"), (98, .class_ 223), (1, u "java/lang/StringLatin1$LinesSpliterator"), (166, .class_ 391), (0, u "java/lang/StringLatin1$CharsSpliterator")] 3

def k29m0 : Method := { name := "<init>", desc := "()V", sig := { parameters := [], returnType := none }, accessFlags := 0, code := none }
/-- java/lang/StringLatin1 -/
def k29 : Class := { plain "java/lang/StringLatin1" (some 0) with
  accessFlags := 48
  interfaces := #[]
  cf := some (fileOf pool29 14 #[.nestMembers #[390, 221]] #[{ accessFlags := 0, nameIndex := 7, descriptorIndex := 8, attributes := #[] }] 48 4 #[] #[{ accessFlags := 4120, nameIndex := 121, descriptorIndex := 122, attributes := #[] }])
  fields := #[{ name := "$assertionsDisabled", type := .boolean, accessFlags := 4120, slot := 0, constantValue := 0 }]
  methods := #[k29m0]
  instanceTypes := #[]
  staticTypes := #[.boolean]
  resolved := Array.replicate 395 none
  statics := none }

def pool30 : Array CpInfo := pool [(2, .class_ 4), (1, u "java/lang/Object"), (0, u "<init>"), (0, u "()V"), (17, .class_ 26), (1, u "jdk/internal/util/Preconditions"), (28, .class_ 56), (0, u "jdk/internal/util/Preconditions$4"), (57, .class_ 115), (0, u "jdk/internal/util/Preconditions$1"), (7, u "SIOOBE_FORMATTER"), (0, u "Ljava/util/function/BiFunction;"), (0, .class_ 126), (0, u "jdk/internal/util/Preconditions$2"), (3, u "AIOOBE_FORMATTER"), (0, .class_ 132), (0, u "jdk/internal/util/Preconditions$3"), (3, u "IOOBE_FORMATTER")] 57

def k30m0 : Method := { name := "<init>", desc := "()V", sig := { parameters := [], returnType := none }, accessFlags := 1, code := none }
/-- jdk/internal/util/Preconditions -/
def k30 : Class := { plain "jdk/internal/util/Preconditions" (some 0) with
  accessFlags := 33
  interfaces := #[]
  cf := some (fileOf pool30 24 #[.nestMembers #[55, 131, 125, 114]] #[{ accessFlags := 1, nameIndex := 5, descriptorIndex := 6, attributes := #[] }] 33 2 #[] #[{ accessFlags := 25, nameIndex := 123, descriptorIndex := 124, attributes := #[] }, { accessFlags := 25, nameIndex := 130, descriptorIndex := 124, attributes := #[] }, { accessFlags := 25, nameIndex := 136, descriptorIndex := 124, attributes := #[] }])
  fields := #[{ name := "SIOOBE_FORMATTER", type := (.object "java/util/function/BiFunction"), accessFlags := 25, slot := 0, constantValue := 0 }, { name := "AIOOBE_FORMATTER", type := (.object "java/util/function/BiFunction"), accessFlags := 25, slot := 1, constantValue := 0 }, { name := "IOOBE_FORMATTER", type := (.object "java/util/function/BiFunction"), accessFlags := 25, slot := 2, constantValue := 0 }]
  methods := #[k30m0]
  instanceTypes := #[]
  staticTypes := #[(.object "java/util/function/BiFunction"), (.object "java/util/function/BiFunction"), (.object "java/util/function/BiFunction")]
  resolved := Array.replicate 194 none
  statics := some 6 }

def pool31 : Array CpInfo := pool [(9, u "<init>"), (6, .class_ 18), (1, u "java/lang/Object"), (0, u "()V"), (1, .class_ 23), (1, u "jdk/internal/util/ArraysSupport"), (0, u "LOG2_ARRAY_LONG_INDEX_SCALE"), (0, u "I"), (2, u "U"), (0, u "Ljdk/internal/misc/Unsafe;"), (8, u "BIG_ENDIAN"), (0, u "Z"), (8, u "LOG2_BYTE_BIT_SIZE"), (4, u "LOG2_ARRAY_INT_INDEX_SCALE"), (54, u "JLA"), (0, u "Ljdk/internal/access/JavaLangAccess;"), (11, u "LOG2_ARRAY_BOOLEAN_INDEX_SCALE"), (9, u "LOG2_ARRAY_BYTE_INDEX_SCALE"), (5, u "LOG2_ARRAY_CHAR_INDEX_SCALE"), (5, u "LOG2_ARRAY_SHORT_INDEX_SCALE"), (18, u "LOG2_ARRAY_FLOAT_INDEX_SCALE"), (24, u "LOG2_ARRAY_DOUBLE_INDEX_SCALE"), (89, u "T_BOOLEAN"), (2, u "T_CHAR"), (1, u "T_FLOAT"), (1, u "T_DOUBLE"), (1, u "T_BYTE"), (1, u "T_SHORT"), (1, u "T_INT"), (1, u "T_LONG"), (1, u "SOFT_MAX_ARRAY_LENGTH")] 83

def k31m0 : Method := { name := "<init>", desc := "()V", sig := { parameters := [], returnType := none }, accessFlags := 2, code := none }
/-- jdk/internal/util/ArraysSupport -/
def k31 : Class := { plain "jdk/internal/util/ArraysSupport" (some 0) with
  accessFlags := 33
  interfaces := #[]
  cf := some (fileOf pool31 21 #[] #[{ accessFlags := 2, nameIndex := 9, descriptorIndex := 19, attributes := #[] }] 33 16 #[] #[{ accessFlags := 24, nameIndex := 28, descriptorIndex := 29, attributes := #[] }, { accessFlags := 26, nameIndex := 38, descriptorIndex := 39, attributes := #[] }, { accessFlags := 25, nameIndex := 121, descriptorIndex := 25, attributes := #[] }, { accessFlags := 25, nameIndex := 131, descriptorIndex := 25, attributes := #[] }, { accessFlags := 25, nameIndex := 137, descriptorIndex := 25, attributes := #[] }, { accessFlags := 25, nameIndex := 143, descriptorIndex := 25, attributes := #[] }, { accessFlags := 25, nameIndex := 53, descriptorIndex := 25, attributes := #[] }, { accessFlags := 25, nameIndex := 24, descriptorIndex := 25, attributes := #[] }, { accessFlags := 25, nameIndex := 162, descriptorIndex := 25, attributes := #[] }, { accessFlags := 25, nameIndex := 187, descriptorIndex := 25, attributes := #[] }, { accessFlags := 26, nameIndex := 48, descriptorIndex := 25, attributes := #[] }, { accessFlags := 25, nameIndex := 277, descriptorIndex := 25, attributes := #[] }, { accessFlags := 25, nameIndex := 280, descriptorIndex := 25, attributes := #[] }, { accessFlags := 25, nameIndex := 282, descriptorIndex := 25, attributes := #[] }, { accessFlags := 25, nameIndex := 284, descriptorIndex := 25, attributes := #[] }, { accessFlags := 25, nameIndex := 286, descriptorIndex := 25, attributes := #[] }, { accessFlags := 25, nameIndex := 288, descriptorIndex := 25, attributes := #[] }, { accessFlags := 25, nameIndex := 290, descriptorIndex := 25, attributes := #[] }, { accessFlags := 25, nameIndex := 292, descriptorIndex := 25, attributes := #[] }, { accessFlags := 26, nameIndex := 108, descriptorIndex := 109, attributes := #[] }, { accessFlags := 25, nameIndex := 294, descriptorIndex := 25, attributes := #[] }])
  fields := #[{ name := "U", type := (.object "jdk/internal/misc/Unsafe"), accessFlags := 24, slot := 0, constantValue := 0 }, { name := "BIG_ENDIAN", type := .boolean, accessFlags := 26, slot := 1, constantValue := 0 }, { name := "LOG2_ARRAY_BOOLEAN_INDEX_SCALE", type := .int, accessFlags := 25, slot := 2, constantValue := 0 }, { name := "LOG2_ARRAY_BYTE_INDEX_SCALE", type := .int, accessFlags := 25, slot := 3, constantValue := 0 }, { name := "LOG2_ARRAY_CHAR_INDEX_SCALE", type := .int, accessFlags := 25, slot := 4, constantValue := 0 }, { name := "LOG2_ARRAY_SHORT_INDEX_SCALE", type := .int, accessFlags := 25, slot := 5, constantValue := 0 }, { name := "LOG2_ARRAY_INT_INDEX_SCALE", type := .int, accessFlags := 25, slot := 6, constantValue := 0 }, { name := "LOG2_ARRAY_LONG_INDEX_SCALE", type := .int, accessFlags := 25, slot := 7, constantValue := 0 }, { name := "LOG2_ARRAY_FLOAT_INDEX_SCALE", type := .int, accessFlags := 25, slot := 8, constantValue := 0 }, { name := "LOG2_ARRAY_DOUBLE_INDEX_SCALE", type := .int, accessFlags := 25, slot := 9, constantValue := 0 }, { name := "LOG2_BYTE_BIT_SIZE", type := .int, accessFlags := 26, slot := 10, constantValue := 0 }, { name := "T_BOOLEAN", type := .int, accessFlags := 25, slot := 11, constantValue := 0 }, { name := "T_CHAR", type := .int, accessFlags := 25, slot := 12, constantValue := 0 }, { name := "T_FLOAT", type := .int, accessFlags := 25, slot := 13, constantValue := 0 }, { name := "T_DOUBLE", type := .int, accessFlags := 25, slot := 14, constantValue := 0 }, { name := "T_BYTE", type := .int, accessFlags := 25, slot := 15, constantValue := 0 }, { name := "T_SHORT", type := .int, accessFlags := 25, slot := 16, constantValue := 0 }, { name := "T_INT", type := .int, accessFlags := 25, slot := 17, constantValue := 0 }, { name := "T_LONG", type := .int, accessFlags := 25, slot := 18, constantValue := 0 }, { name := "JLA", type := (.object "jdk/internal/access/JavaLangAccess"), accessFlags := 26, slot := 19, constantValue := 0 }, { name := "SOFT_MAX_ARRAY_LENGTH", type := .int, accessFlags := 25, slot := 20, constantValue := 0 }]
  methods := #[k31m0]
  instanceTypes := #[]
  staticTypes := #[(.object "jdk/internal/misc/Unsafe"), .boolean, .int, .int, .int, .int, .int, .int, .int, .int, .int, .int, .int, .int, .int, .int, .int, .int, .int, (.object "jdk/internal/access/JavaLangAccess"), .int]
  resolved := Array.replicate 378 none
  statics := none }

def pool32 : Array CpInfo := pool [(2, .class_ 4), (1, u "java/util/ImmutableCollections$AbstractImmutableList"), (3, .class_ 10), (1, u "java/util/ImmutableCollections$ListN"), (0, u "elements"), (0, u "[Ljava/lang/Object;"), (2, u "allowNulls"), (0, u "Z"), (42, .class_ 60), (0, u "java/io/Serializable"), (53, .class_ 115), (0, u "java/util/ImmutableCollections")] 3

/-- java/util/ImmutableCollections$ListN -/
def k32 : Class := { plain "java/util/ImmutableCollections$ListN" (some 23) with
  accessFlags := 48
  interfaces := #[4]
  cf := some (fileOf pool32 8 #[.nestHost 114] #[] 48 2 #[59] #[{ accessFlags := 18, nameIndex := 11, descriptorIndex := 12, attributes := #[] }, { accessFlags := 18, nameIndex := 15, descriptorIndex := 16, attributes := #[] }])
  fields := #[{ name := "elements", type := (.array (.object "java/lang/Object")), accessFlags := 18, slot := 0, constantValue := 0 }, { name := "allowNulls", type := .boolean, accessFlags := 18, slot := 1, constantValue := 0 }]
  methods := #[]
  instanceTypes := #[(.array (.object "java/lang/Object")), .boolean]
  staticTypes := #[]
  resolved := Array.replicate 119 none
  statics := none }

def pool33 : Array CpInfo := pool [(2, .class_ 4), (1, u "java/util/AbstractCollection"), (0, u "<init>"), (0, u "()V"), (1, .class_ 10), (1, u "java/util/AbstractList"), (0, u "modCount"), (0, u "I"), (64, .class_ 78), (0, u "java/util/AbstractList$Itr"), (3, .class_ 83), (0, u "java/util/AbstractList$ListItr"), (9, .class_ 94), (0, u "java/util/AbstractList$RandomAccessSubList"), (3, .class_ 99), (0, u "java/util/AbstractList$SubList"), (33, .class_ 134), (0, u "java/util/List"), (73, .class_ 209), (0, u "java/util/AbstractList$SubList$1"), (0, .class_ 211), (0, u "java/util/AbstractList$RandomAccessSpliterator")] 6

def k33m0 : Method := { name := "<init>", desc := "()V", sig := { parameters := [], returnType := none }, accessFlags := 4, code := none }
/-- java/util/AbstractList -/
def k33 : Class := { plain "java/util/AbstractList" (some 20) with
  accessFlags := 1057
  interfaces := #[19]
  cf := some (fileOf pool33 8 #[.nestMembers #[93, 98, 208, 210, 82, 77]] #[{ accessFlags := 4, nameIndex := 5, descriptorIndex := 6, attributes := #[] }] 1057 2 #[133] #[{ accessFlags := 132, nameIndex := 11, descriptorIndex := 12, attributes := #[] }])
  fields := #[{ name := "modCount", type := .int, accessFlags := 132, slot := 0, constantValue := 0 }]
  methods := #[k33m0]
  instanceTypes := #[.int]
  staticTypes := #[]
  resolved := Array.replicate 218 none
  statics := none }

def pool34 : Array CpInfo := pool [(2, .class_ 4), (1, u "java/util/AbstractList"), (0, u "<init>"), (0, u "()V"), (1, .class_ 10), (1, u "java/util/Collections"), (54, .class_ 66), (0, u "java/util/Collections$EmptyList"), (0, .class_ 68), (0, u "java/util/RandomAccess"), (0, .class_ 70), (0, u "java/io/Serializable"), (0, u "serialVersionUID"), (0, u "J")] 77

def k34m0 : Method := { name := "<init>", desc := "()V", sig := { parameters := [], returnType := none }, accessFlags := 2, code := none }
/-- java/util/Collections$EmptyList -/
def k34 : Class := { plain "java/util/Collections$EmptyList" (some 33) with
  accessFlags := 32
  interfaces := #[22, 4]
  cf := some (fileOf pool34 65 #[.nestHost 8] #[{ accessFlags := 2, nameIndex := 5, descriptorIndex := 6, attributes := #[] }] 32 2 #[67, 69] #[{ accessFlags := 26, nameIndex := 71, descriptorIndex := 72, attributes := #[] }])
  fields := #[{ name := "serialVersionUID", type := .long, accessFlags := 26, slot := 0, constantValue := 0 }]
  methods := #[k34m0]
  instanceTypes := #[.int]
  staticTypes := #[.long]
  resolved := Array.replicate 150 none
  statics := none }

def pool35 : Array CpInfo := pool [(2, .class_ 4), (1, u "java/lang/StackTraceElement"), (0, u "<init>"), (2, .class_ 10), (1, u "java/lang/Object"), (0, u "()V"), (2, u "format"), (0, u "B"), (2, u "classLoaderName"), (0, u "Ljava/lang/String;"), (2, u "moduleName"), (2, u "moduleVersion"), (12, u "declaringClass"), (4, u "methodName"), (2, u "fileName"), (2, u "lineNumber"), (0, u "I"), (65, u "declaringClassObject"), (0, u "Ljava/lang/Class;"), (33, .class_ 153), (1, u "java/lang/StackTraceElement$HashedModules"), (17, .class_ 172), (0, u "java/io/Serializable"), (0, u "NATIVE_METHOD"), (1, u "UNKNOWN_SOURCE"), (2, u "BUILTIN_CLASS_LOADER"), (1, u "JDK_NON_UPGRADEABLE_MODULE"), (1, u "serialVersionUID"), (0, u "J")] 51

def k35m0 : Method := { name := "<init>", desc := "()V", sig := { parameters := [], returnType := none }, accessFlags := 2, code := none }
/-- java/lang/StackTraceElement -/
def k35 : Class := { plain "java/lang/StackTraceElement" (some 0) with
  accessFlags := 49
  interfaces := #[4]
  cf := some (fileOf pool35 2 #[.nestMembers #[151]] #[{ accessFlags := 2, nameIndex := 5, descriptorIndex := 11, attributes := #[] }] 49 8 #[171] #[{ accessFlags := 26, nameIndex := 173, descriptorIndex := 19, attributes := #[] }, { accessFlags := 26, nameIndex := 175, descriptorIndex := 19, attributes := #[] }, { accessFlags := 130, nameIndex := 116, descriptorIndex := 117, attributes := #[] }, { accessFlags := 2, nameIndex := 18, descriptorIndex := 19, attributes := #[] }, { accessFlags := 2, nameIndex := 22, descriptorIndex := 19, attributes := #[] }, { accessFlags := 2, nameIndex := 25, descriptorIndex := 19, attributes := #[] }, { accessFlags := 2, nameIndex := 38, descriptorIndex := 19, attributes := #[] }, { accessFlags := 2, nameIndex := 43, descriptorIndex := 19, attributes := #[] }, { accessFlags := 2, nameIndex := 46, descriptorIndex := 19, attributes := #[] }, { accessFlags := 2, nameIndex := 49, descriptorIndex := 50, attributes := #[] }, { accessFlags := 2, nameIndex := 14, descriptorIndex := 15, attributes := #[] }, { accessFlags := 26, nameIndex := 178, descriptorIndex := 15, attributes := #[] }, { accessFlags := 26, nameIndex := 180, descriptorIndex := 15, attributes := #[] }, { accessFlags := 26, nameIndex := 182, descriptorIndex := 183, attributes := #[] }])
  fields := #[{ name := "NATIVE_METHOD", type := (.object "java/lang/String"), accessFlags := 26, slot := 0, constantValue := 0 }, { name := "UNKNOWN_SOURCE", type := (.object "java/lang/String"), accessFlags := 26, slot := 1, constantValue := 0 }, { name := "declaringClassObject", type := (.object "java/lang/Class"), accessFlags := 130, slot := 0, constantValue := 0 }, { name := "classLoaderName", type := (.object "java/lang/String"), accessFlags := 2, slot := 1, constantValue := 0 }, { name := "moduleName", type := (.object "java/lang/String"), accessFlags := 2, slot := 2, constantValue := 0 }, { name := "moduleVersion", type := (.object "java/lang/String"), accessFlags := 2, slot := 3, constantValue := 0 }, { name := "declaringClass", type := (.object "java/lang/String"), accessFlags := 2, slot := 4, constantValue := 0 }, { name := "methodName", type := (.object "java/lang/String"), accessFlags := 2, slot := 5, constantValue := 0 }, { name := "fileName", type := (.object "java/lang/String"), accessFlags := 2, slot := 6, constantValue := 0 }, { name := "lineNumber", type := .int, accessFlags := 2, slot := 7, constantValue := 0 }, { name := "format", type := .byte, accessFlags := 2, slot := 8, constantValue := 0 }, { name := "BUILTIN_CLASS_LOADER", type := .byte, accessFlags := 26, slot := 2, constantValue := 0 }, { name := "JDK_NON_UPGRADEABLE_MODULE", type := .byte, accessFlags := 26, slot := 3, constantValue := 0 }, { name := "serialVersionUID", type := .long, accessFlags := 26, slot := 4, constantValue := 0 }]
  methods := #[k35m0]
  instanceTypes := #[(.object "java/lang/Class"), (.object "java/lang/String"), (.object "java/lang/String"), (.object "java/lang/String"), (.object "java/lang/String"), (.object "java/lang/String"), (.object "java/lang/String"), .int, .byte]
  staticTypes := #[(.object "java/lang/String"), (.object "java/lang/String"), .byte, .byte, .long]
  resolved := Array.replicate 235 none
  statics := none }

def pool36 : Array CpInfo := pool [(1, u "java/lang/Cloneable"), (0, .class_ 1), (0, u "java/lang/Object"), (0, .class_ 3)] 3

/-- java/lang/Cloneable -/
def k36 : Class := { plain "java/lang/Cloneable" (some 0) with
  accessFlags := 1537
  interfaces := #[]
  cf := some (fileOf pool36 2 #[] #[] 1537 4 #[] #[])
  fields := #[]
  methods := #[]
  instanceTypes := #[]
  staticTypes := #[]
  resolved := Array.replicate 8 none
  statics := none }

/-- the primitive byte -/
def k37 : Class := { plain "byte" none with kind := .primitive 'B', accessFlags := 0x411 }
/-- [B -/
def k38 : Class := { plain "[B" (some 0) with kind := .array 37 .byte, interfaces := #[36, 4], accessFlags := 1041 }

/-- the primitive char -/
def k39 : Class := { plain "char" none with kind := .primitive 'C', accessFlags := 0x411 }
/-- [C -/
def k40 : Class := { plain "[C" (some 0) with kind := .array 39 .char, interfaces := #[36, 4], accessFlags := 1041 }

/-- the primitive int -/
def k41 : Class := { plain "int" none with kind := .primitive 'I', accessFlags := 0x411 }
/-- [I -/
def k42 : Class := { plain "[I" (some 0) with kind := .array 41 .int, interfaces := #[36, 4], accessFlags := 1041 }

/-- [Ljava/lang/StackTraceElement; -/
def k43 : Class := { plain "[Ljava/lang/StackTraceElement;" (some 0) with kind := .array 35 (.object "java/lang/StackTraceElement"), interfaces := #[36, 4], accessFlags := 1041 }

/-- [Ljava/lang/Throwable; -/
def k44 : Class := { plain "[Ljava/lang/Throwable;" (some 0) with kind := .array 13 (.object "java/lang/Throwable"), interfaces := #[36, 4], accessFlags := 1041 }

def heap : Heap := #[{ cls := 6, slots := #[.null, .null, .null, .null, .null, .null, .null, .null, .null, .null, .ref 7, .ref 7, .ref 7, .null, .null, .null, .ref 7, .ref 7, .ref 7, .null, .null, .null, .null, .null, .null, .null, .null, .null, .ref 7, .null, .null, .null, .null, .null, .null, .null, .null, .null, .null, .null, .null, .null, .null, .ref 7, .null, .null, .null, .null, .null, .null, .null], vm := .statics 6 },
  { cls := 9, slots := #[.long 0, .int 1, .null, .int 0, .null, .int 0, .int 0], vm := .statics 9 },
  { cls := 12, slots := #[.ref 8], vm := .statics 12 },
  { cls := 13, slots := #[.long 0, .ref 11, .ref 12, .null, .null, .null, .null, .ref 13, .int 1], vm := .statics 13 },
  { cls := 26, slots := #[.long 0, .int 0, .null, .ref 9, .ref 10, .null, .null, .null, .int 0, .int 1], vm := .statics 26 },
  { cls := 28, slots := #[.int 0, .int 0, .int 0, .int 0, .int 0, .int 0, .int 0, .int 0, .null, .null, .ref 12, .null], vm := .statics 28 },
  { cls := 30, slots := #[.null, .null, .null], vm := .statics 30 },
  { cls := 6, slots := #[.null, .int 0, .int 0, .null, .int 0], vm := .none },
  { cls := 12, slots := #[.int 0, .int 0], vm := .none },
  { cls := 0, slots := #[], vm := .none },
  { cls := 32, slots := #[.null, .int 0], vm := .none },
  { cls := 43, slots := #[], vm := .none },
  { cls := 34, slots := #[.int 0], vm := .none },
  { cls := 44, slots := #[], vm := .none }]
def classes : Array Class := #[k0, k1, k2, k3, k4, k5, k6, k7, k8, k9, k10, k11, k12, k13, k14, k15, k16, k17, k18, k19, k20, k21, k22, k23, k24, k25, k26, k27, k28, k29, k30, k31, k32, k33, k34, k35, k36, k37, k38, k39, k40, k41, k42, k43, k44]
def interned : List (Array UInt16 × Addr) := []
def slotsUsed : Nat := 103
def theMethod : MethodId := ⟨1, 3⟩
def args0 : Array Value := #[.int 5, .int 16909060, .int 33554497, .int 2]
def aboutOver (below : List Frame) : State where
  vm := { classes := classes, interned := interned.toArray }
  heap := heap
  slotsUsed := slotsUsed
  threads := #[{ frames := .invoking theMethod args0 :: below }]
def below0 : List Frame := [.native { method := ⟨0, 0⟩, args := #[] }]
def about1 : State := aboutOver below0
def p0 : Program := .bare "" "" ""
def e0 : Env := launch0.env 0 0 0
theorem w_frames : about1.frames = Frame.invoking theMethod args0 :: below0 := rfl
set_option maxRecDepth 65536 in
theorem w_args : argsFit about1.vm theMethod args0 = true := by decide +kernel
set_option maxRecDepth 65536 in
theorem w_heap : heapFits about1 = true := by decide +kernel
set_option maxRecDepth 65536 in
theorem w_runnable : about1.curStatus? = some .runnable := by decide +kernel
set_option maxRecDepth 65536 in
theorem w_alone : about1.alone = true := by decide +kernel
set_option maxRecDepth 65536 in
theorem w_named : about1.methodNamed? x = some theMethod := by decide +kernel
set_option maxRecDepth 65536 in
theorem w_hears : about1.hears theMethod below0 = true := by decide +kernel
set_option maxRecDepth 65536 in
theorem w_ripe : about1.ripe theMethod args0 below0 = true := by decide +kernel
theorem w_running : about1.status = .running := rfl
set_option maxRecDepth 65536 in
theorem w_room : about1.hasRoom e0.platform room_1 = true :=
  launch0.hasRoom_least _ room_1 (by decide +kernel) (by decide +kernel) (by decide +kernel) (by decide +kernel) (by decide +kernel) (by decide +kernel)
theorem allAtoms_all (ts : List Jvm.Cond) (a : Array Jvm.Value) (st : Jvm.State) : (allAtoms ts).before a st = ts.all (fun c => c.before a st) := by
  induction ts with
  | nil => rfl
  | cons c t ih =>
    show (Jvm.Cond.and c (allAtoms t)).before a st = _
    rw [Jvm.Cond.before_and, ih, List.all_cons]
def words1 : List Jvm.Cond := Jvm.Cond.code x code maxLocals ret :: tables_1
/-- a 'code' word, met by the world's own term for the bytes: nothing is compared byte by byte -/
theorem code_word {y : MethodName} {bytes : ByteArray} {mx : Nat} {rt : Option FieldType} {a : Array Value} {s : State} {m : MethodId} {meth : Method} {c : Code} (h1 : s.methodNamed? y = some m) (h2 : s.vm.method? m = some meth) (h3 : meth.code = some c) (h4 : c.code = bytes)
    (h5 : (c.maxLocals == mx && c.exceptionTable.isEmpty && decide (c.maxStack ≤ mostOperands) && decide (meth.sig.returnType = rt) && !meth.locks && decide (parseMethodDescriptor y.desc = some meth.sig)) = true) : (Jvm.Cond.code y bytes mx rt).before a s = true := by
  simp only [Bool.and_eq_true, beq_iff_eq, Bool.not_eq_true', decide_eq_true_eq] at h5
  obtain ⟨⟨⟨⟨⟨g1, g2⟩, g3⟩, g4⟩, g5⟩, g6⟩ := h5
  simp [Cond.before, Cond.holds, Cond.value, h1, h2, h3, h4, g1, g2, g3, g4, g5, g6]
def isCode : Jvm.Cond → Bool
  | .code _ _ _ _ => true
  | _ => false
theorem all_split {L : List Jvm.Cond} {P : Jvm.Cond → Bool} (h1 : L.all (fun c => isCode c || P c) = true) (h2 : ∀ c ∈ L.filter isCode, P c = true) : L.all P = true := by
  refine List.all_eq_true.mpr fun c hc => ?_
  have h := List.all_eq_true.mp h1 c hc
  rcases Bool.eq_false_or_eq_true (isCode c) with hi | hi
  · exact h2 c (List.mem_filter.mpr ⟨hc, hi⟩)
  · simpa [hi] using h
set_option maxRecDepth 65536 in
theorem w_c0 : (Jvm.Cond.code x code maxLocals ret).before args0 about1 = true := code_word (m := ⟨1, 3⟩) (meth := k1m3) (c := k1c3) (by decide +kernel) rfl rfl rfl (by decide +kernel)
set_option maxRecDepth 65536 in
theorem w_c1 : (Jvm.Cond.code ({ cls := "com/example/emendate/emendate/model/ProblemOfPinLaw", name := "pick", desc := "(I)Lcom/example/emendate/emendate/model/ErrorCode;" } : Jvm.MethodName) method_3_code (2 : Nat) (Option.some (Jvm.ClassFile.FieldType.object "com/example/emendate/emendate/model/ErrorCode"))).before args0 about1 = true := code_word (m := ⟨1, 2⟩) (meth := k1m2) (c := k1c2) (by decide +kernel) rfl rfl rfl (by decide +kernel)
set_option maxRecDepth 65536 in
theorem w_c2 : (Jvm.Cond.code ({ cls := "com/example/emendate/emendate/model/ProblemOfPinLaw", name := "str", desc := "(I)Ljava/lang/String;" } : Jvm.MethodName) method_2_code (5 : Nat) (Option.some (Jvm.ClassFile.FieldType.object "java/lang/String"))).before args0 about1 = true := code_word (m := ⟨1, 1⟩) (meth := k1m1) (c := k1c1) (by decide +kernel) rfl rfl rfl (by decide +kernel)
set_option maxRecDepth 65536 in
theorem w_c3 : (Jvm.Cond.code ({ cls := "java/lang/String", name := "<init>", desc := "([C)V" } : Jvm.MethodName) jdk_42_method_3_code (2 : Nat) (Option.none : Option Jvm.ClassFile.FieldType)).before args0 about1 = true := code_word (m := ⟨9, 1⟩) (meth := k9m1) (c := k9c1) (by decide +kernel) rfl rfl rfl (by decide +kernel)
set_option maxRecDepth 65536 in
theorem w_c4 : (Jvm.Cond.code ({ cls := "java/lang/String", name := "<init>", desc := "([CIILjava/lang/Void;)V" } : Jvm.MethodName) jdk_42_method_149_code (6 : Nat) (Option.none : Option Jvm.ClassFile.FieldType)).before args0 about1 = true := code_word (m := ⟨9, 3⟩) (meth := k9m3) (c := k9c3) (by decide +kernel) rfl rfl rfl (by decide +kernel)
set_option maxRecDepth 65536 in
theorem w_c5 : (Jvm.Cond.code ({ cls := "java/lang/Object", name := "<init>", desc := "()V" } : Jvm.MethodName) object_method_1_code (1 : Nat) (Option.none : Option Jvm.ClassFile.FieldType)).before args0 about1 = true := code_word (m := ⟨0, 0⟩) (meth := k0m0) (c := k0c0) (by decide +kernel) rfl rfl rfl (by decide +kernel)
set_option maxRecDepth 65536 in
theorem w_c6 : (Jvm.Cond.code ({ cls := "com/example/emendate/emendate/model/FieldError", name := "<init>", desc := "(Lcom/example/emendate/emendate/model/ErrorCode;Ljava/lang/String;Ljava/lang/String;)V" } : Jvm.MethodName) prog_9_method_1_code (4 : Nat) (Option.none : Option Jvm.ClassFile.FieldType)).before args0 about1 = true := code_word (m := ⟨11, 0⟩) (meth := k11m0) (c := k11c0) (by decide +kernel) rfl rfl rfl (by decide +kernel)
set_option maxRecDepth 65536 in
theorem w_c7 : (Jvm.Cond.code ({ cls := "java/util/OptionalInt", name := "empty", desc := "()Ljava/util/OptionalInt;" } : Jvm.MethodName) jdk_2649_method_2_code (0 : Nat) (Option.some (Jvm.ClassFile.FieldType.object "java/util/OptionalInt"))).before args0 about1 = true := code_word (m := ⟨12, 1⟩) (meth := k12m1) (c := k12c1) (by decide +kernel) rfl rfl rfl (by decide +kernel)
set_option maxRecDepth 65536 in
theorem w_c8 : (Jvm.Cond.code ({ cls := "com/example/emendate/emendate/model/FieldError", name := "<init>", desc := "(Lcom/example/emendate/emendate/model/ErrorCode;Ljava/lang/String;Ljava/lang/String;Ljava/util/OptionalInt;)V" } : Jvm.MethodName) prog_9_method_2_code (5 : Nat) (Option.none : Option Jvm.ClassFile.FieldType)).before args0 about1 = true := code_word (m := ⟨11, 1⟩) (meth := k11m1) (c := k11c1) (by decide +kernel) rfl rfl rfl (by decide +kernel)
set_option maxRecDepth 65536 in
theorem w_c9 : (Jvm.Cond.code ({ cls := "java/lang/Record", name := "<init>", desc := "()V" } : Jvm.MethodName) jdk_30_method_1_code (1 : Nat) (Option.none : Option Jvm.ClassFile.FieldType)).before args0 about1 = true := code_word (m := ⟨10, 0⟩) (meth := k10m0) (c := k10c0) (by decide +kernel) rfl rfl rfl (by decide +kernel)
set_option maxRecDepth 65536 in
theorem w_c10 : (Jvm.Cond.code ({ cls := "com/example/emendate/emendate/model/Problem", name := "of", desc := "(Lcom/example/emendate/emendate/model/FieldError;)Lcom/example/emendate/emendate/model/Problem;" } : Jvm.MethodName) prog_10_method_4_code (1 : Nat) (Option.some (Jvm.ClassFile.FieldType.object "com/example/emendate/emendate/model/Problem"))).before args0 about1 = true := code_word (m := ⟨15, 1⟩) (meth := k15m1) (c := k15c1) (by decide +kernel) rfl rfl rfl (by decide +kernel)
set_option maxRecDepth 65536 in
theorem w_c11 : (Jvm.Cond.code ({ cls := "com/example/emendate/emendate/model/FieldError", name := "code", desc := "()Lcom/example/emendate/emendate/model/ErrorCode;" } : Jvm.MethodName) prog_9_method_6_code (1 : Nat) (Option.some (Jvm.ClassFile.FieldType.object "com/example/emendate/emendate/model/ErrorCode"))).before args0 about1 = true := code_word (m := ⟨11, 2⟩) (meth := k11m2) (c := k11c2) (by decide +kernel) rfl rfl rfl (by decide +kernel)
set_option maxRecDepth 65536 in
theorem w_c12 : (Jvm.Cond.code ({ cls := "com/example/emendate/emendate/model/FieldError", name := "message", desc := "()Ljava/lang/String;" } : Jvm.MethodName) prog_9_method_8_code (1 : Nat) (Option.some (Jvm.ClassFile.FieldType.object "java/lang/String"))).before args0 about1 = true := code_word (m := ⟨11, 3⟩) (meth := k11m3) (c := k11c3) (by decide +kernel) rfl rfl rfl (by decide +kernel)
set_option maxRecDepth 65536 in
theorem w_c13 : (Jvm.Cond.code ({ cls := "java/util/List", name := "of", desc := "(Ljava/lang/Object;)Ljava/util/List;" } : Jvm.MethodName) jdk_40_method_37_code (1 : Nat) (Option.some (Jvm.ClassFile.FieldType.object "java/util/List"))).before args0 about1 = true := code_word (m := ⟨19, 2⟩) (meth := k19m2) (c := k19c2) (by decide +kernel) rfl rfl rfl (by decide +kernel)
set_option maxRecDepth 65536 in
theorem w_c14 : (Jvm.Cond.code ({ cls := "java/util/ImmutableCollections$List12", name := "<init>", desc := "(Ljava/lang/Object;)V" } : Jvm.MethodName) jdk_44_method_1_code (2 : Nat) (Option.none : Option Jvm.ClassFile.FieldType)).before args0 about1 = true := code_word (m := ⟨24, 0⟩) (meth := k24m0) (c := k24c0) (by decide +kernel) rfl rfl rfl (by decide +kernel)
set_option maxRecDepth 65536 in
theorem w_c15 : (Jvm.Cond.code ({ cls := "java/util/ImmutableCollections$AbstractImmutableList", name := "<init>", desc := "()V" } : Jvm.MethodName) jdk_46_method_1_code (1 : Nat) (Option.none : Option Jvm.ClassFile.FieldType)).before args0 about1 = true := code_word (m := ⟨23, 0⟩) (meth := k23m0) (c := k23c0) (by decide +kernel) rfl rfl rfl (by decide +kernel)
set_option maxRecDepth 65536 in
theorem w_c16 : (Jvm.Cond.code ({ cls := "java/util/ImmutableCollections$AbstractImmutableCollection", name := "<init>", desc := "()V" } : Jvm.MethodName) jdk_47_method_1_code (1 : Nat) (Option.none : Option Jvm.ClassFile.FieldType)).before args0 about1 = true := code_word (m := ⟨21, 0⟩) (meth := k21m0) (c := k21c0) (by decide +kernel) rfl rfl rfl (by decide +kernel)
set_option maxRecDepth 65536 in
theorem w_c17 : (Jvm.Cond.code ({ cls := "java/util/AbstractCollection", name := "<init>", desc := "()V" } : Jvm.MethodName) jdk_22_method_1_code (1 : Nat) (Option.none : Option Jvm.ClassFile.FieldType)).before args0 about1 = true := code_word (m := ⟨20, 0⟩) (meth := k20m0) (c := k20c0) (by decide +kernel) rfl rfl rfl (by decide +kernel)
set_option maxRecDepth 65536 in
theorem w_c18 : (Jvm.Cond.code ({ cls := "java/util/Objects", name := "requireNonNull", desc := "(Ljava/lang/Object;)Ljava/lang/Object;" } : Jvm.MethodName) jdk_31_method_10_code (1 : Nat) (Option.some (Jvm.ClassFile.FieldType.object "java/lang/Object"))).before args0 about1 = true := code_word (m := ⟨25, 1⟩) (meth := k25m1) (c := k25c1) (by decide +kernel) rfl rfl rfl (by decide +kernel)
set_option maxRecDepth 65536 in
theorem w_c19 : (Jvm.Cond.code ({ cls := "com/example/emendate/emendate/model/Problem", name := "<init>", desc := "(Lcom/example/emendate/emendate/model/ErrorCode;Ljava/lang/String;Ljava/util/List;Ljava/time/Duration;)V" } : Jvm.MethodName) prog_10_method_3_code (5 : Nat) (Option.none : Option Jvm.ClassFile.FieldType)).before args0 about1 = true := code_word (m := ⟨15, 0⟩) (meth := k15m0) (c := k15c0) (by decide +kernel) rfl rfl rfl (by decide +kernel)
set_option maxRecDepth 65536 in
theorem w_c20 : (Jvm.Cond.code ({ cls := "java/lang/Exception", name := "<init>", desc := "(Ljava/lang/String;Ljava/lang/Throwable;ZZ)V" } : Jvm.MethodName) jdk_59_method_5_code (5 : Nat) (Option.none : Option Jvm.ClassFile.FieldType)).before args0 about1 = true := code_word (m := ⟨14, 1⟩) (meth := k14m1) (c := k14c1) (by decide +kernel) rfl rfl rfl (by decide +kernel)
set_option maxRecDepth 65536 in
theorem w_c21 : (Jvm.Cond.code ({ cls := "java/lang/Throwable", name := "<init>", desc := "(Ljava/lang/String;Ljava/lang/Throwable;ZZ)V" } : Jvm.MethodName) jdk_78_method_5_code (5 : Nat) (Option.none : Option Jvm.ClassFile.FieldType)).before args0 about1 = true := code_word (m := ⟨13, 1⟩) (meth := k13m1) (c := k13c1) (by decide +kernel) rfl rfl rfl (by decide +kernel)
set_option maxRecDepth 65536 in
theorem w_c22 : (Jvm.Cond.code ({ cls := "java/util/List", name := "copyOf", desc := "(Ljava/util/Collection;)Ljava/util/List;" } : Jvm.MethodName) jdk_40_method_48_code (1 : Nat) (Option.some (Jvm.ClassFile.FieldType.object "java/util/List"))).before args0 about1 = true := code_word (m := ⟨19, 3⟩) (meth := k19m3) (c := k19c3) (by decide +kernel) rfl rfl rfl (by decide +kernel)
set_option maxRecDepth 65536 in
theorem w_c23 : (Jvm.Cond.code ({ cls := "java/util/ImmutableCollections", name := "listCopy", desc := "(Ljava/util/Collection;)Ljava/util/List;" } : Jvm.MethodName) jdk_56_method_3_code (2 : Nat) (Option.some (Jvm.ClassFile.FieldType.object "java/util/List"))).before args0 about1 = true := code_word (m := ⟨26, 1⟩) (meth := k26m1) (c := k26c1) (by decide +kernel) rfl rfl rfl (by decide +kernel)
set_option maxRecDepth 65536 in
theorem w_c24 : (Jvm.Cond.code ({ cls := "com/example/emendate/emendate/model/Problem", name := "code", desc := "()Lcom/example/emendate/emendate/model/ErrorCode;" } : Jvm.MethodName) prog_10_method_7_code (1 : Nat) (Option.some (Jvm.ClassFile.FieldType.object "com/example/emendate/emendate/model/ErrorCode"))).before args0 about1 = true := code_word (m := ⟨15, 2⟩) (meth := k15m2) (c := k15c2) (by decide +kernel) rfl rfl rfl (by decide +kernel)
set_option maxRecDepth 65536 in
theorem w_c25 : (Jvm.Cond.code ({ cls := "com/example/emendate/emendate/model/Problem", name := "detail", desc := "()Ljava/lang/String;" } : Jvm.MethodName) prog_10_method_8_code (1 : Nat) (Option.some (Jvm.ClassFile.FieldType.object "java/lang/String"))).before args0 about1 = true := code_word (m := ⟨15, 3⟩) (meth := k15m3) (c := k15c3) (by decide +kernel) rfl rfl rfl (by decide +kernel)
set_option maxRecDepth 65536 in
theorem w_c26 : (Jvm.Cond.code ({ cls := "java/lang/Throwable", name := "getMessage", desc := "()Ljava/lang/String;" } : Jvm.MethodName) jdk_78_method_6_code (1 : Nat) (Option.some (Jvm.ClassFile.FieldType.object "java/lang/String"))).before args0 about1 = true := code_word (m := ⟨13, 2⟩) (meth := k13m2) (c := k13c2) (by decide +kernel) rfl rfl rfl (by decide +kernel)
set_option maxRecDepth 65536 in
theorem w_c27 : (Jvm.Cond.code ({ cls := "com/example/emendate/emendate/model/Problem", name := "errors", desc := "()Ljava/util/List;" } : Jvm.MethodName) prog_10_method_9_code (1 : Nat) (Option.some (Jvm.ClassFile.FieldType.object "java/util/List"))).before args0 about1 = true := code_word (m := ⟨15, 4⟩) (meth := k15m4) (c := k15c4) (by decide +kernel) rfl rfl rfl (by decide +kernel)
set_option maxRecDepth 65536 in
theorem w_c28 : (Jvm.Cond.code ({ cls := "java/util/ImmutableCollections$List12", name := "size", desc := "()I" } : Jvm.MethodName) jdk_44_method_3_code (1 : Nat) (Option.some Jvm.ClassFile.FieldType.int)).before args0 about1 = true := code_word (m := ⟨24, 1⟩) (meth := k24m1) (c := k24c1) (by decide +kernel) rfl rfl rfl (by decide +kernel)
set_option maxRecDepth 65536 in
theorem w_c29 : (Jvm.Cond.code ({ cls := "java/util/ImmutableCollections$List12", name := "get", desc := "(I)Ljava/lang/Object;" } : Jvm.MethodName) jdk_44_method_5_code (2 : Nat) (Option.some (Jvm.ClassFile.FieldType.object "java/lang/Object"))).before args0 about1 = true := code_word (m := ⟨24, 2⟩) (meth := k24m2) (c := k24c2) (by decide +kernel) rfl rfl rfl (by decide +kernel)
set_option maxRecDepth 65536 in
theorem w_c30 : (Jvm.Cond.code ({ cls := "java/lang/String", name := "equals", desc := "(Ljava/lang/Object;)Z" } : Jvm.MethodName) jdk_42_method_66_code (3 : Nat) (Option.some Jvm.ClassFile.FieldType.boolean)).before args0 about1 = true := code_word (m := ⟨9, 2⟩) (meth := k9m2) (c := k9c2) (by decide +kernel) rfl rfl rfl (by decide +kernel)
set_option maxRecDepth 65536 in
theorem w_c31 : (Jvm.Cond.code ({ cls := "java/lang/StringUTF16", name := "compress", desc := "([CII)[B" } : Jvm.MethodName) jdk_52_method_16_code (6 : Nat) (Option.some (Jvm.ClassFile.FieldType.array Jvm.ClassFile.FieldType.byte))).before args0 about1 = true := code_word (m := ⟨27, 2⟩) (meth := k27m2) (c := k27c2) (by decide +kernel) rfl rfl rfl (by decide +kernel)
set_option maxRecDepth 65536 in
theorem w_c32 : (Jvm.Cond.code ({ cls := "java/lang/StringUTF16", name := "compress", desc := "([CI[BII)I" } : Jvm.MethodName) jdk_52_method_21_code (7 : Nat) (Option.some Jvm.ClassFile.FieldType.int)).before args0 about1 = true := code_word (m := ⟨27, 3⟩) (meth := k27m3) (c := k27c3) (by decide +kernel) rfl rfl rfl (by decide +kernel)
set_option maxRecDepth 65536 in
theorem w_c33 : (Jvm.Cond.code ({ cls := "java/lang/StringUTF16", name := "coderFromArrayLen", desc := "([BI)B" } : Jvm.MethodName) jdk_52_method_15_code (2 : Nat) (Option.some Jvm.ClassFile.FieldType.byte)).before args0 about1 = true := code_word (m := ⟨27, 1⟩) (meth := k27m1) (c := k27c1) (by decide +kernel) rfl rfl rfl (by decide +kernel)
def codes1 : List Jvm.Cond := [Jvm.Cond.code x code maxLocals ret, Jvm.Cond.code ({ cls := "com/example/emendate/emendate/model/ProblemOfPinLaw", name := "pick", desc := "(I)Lcom/example/emendate/emendate/model/ErrorCode;" } : Jvm.MethodName) method_3_code (2 : Nat) (Option.some (Jvm.ClassFile.FieldType.object "com/example/emendate/emendate/model/ErrorCode")), Jvm.Cond.code ({ cls := "com/example/emendate/emendate/model/ProblemOfPinLaw", name := "str", desc := "(I)Ljava/lang/String;" } : Jvm.MethodName) method_2_code (5 : Nat) (Option.some (Jvm.ClassFile.FieldType.object "java/lang/String")), Jvm.Cond.code ({ cls := "java/lang/String", name := "<init>", desc := "([C)V" } : Jvm.MethodName) jdk_42_method_3_code (2 : Nat) (Option.none : Option Jvm.ClassFile.FieldType), Jvm.Cond.code ({ cls := "java/lang/String", name := "<init>", desc := "([CIILjava/lang/Void;)V" } : Jvm.MethodName) jdk_42_method_149_code (6 : Nat) (Option.none : Option Jvm.ClassFile.FieldType), Jvm.Cond.code ({ cls := "java/lang/Object", name := "<init>", desc := "()V" } : Jvm.MethodName) object_method_1_code (1 : Nat) (Option.none : Option Jvm.ClassFile.FieldType), Jvm.Cond.code ({ cls := "com/example/emendate/emendate/model/FieldError", name := "<init>", desc := "(Lcom/example/emendate/emendate/model/ErrorCode;Ljava/lang/String;Ljava/lang/String;)V" } : Jvm.MethodName) prog_9_method_1_code (4 : Nat) (Option.none : Option Jvm.ClassFile.FieldType), Jvm.Cond.code ({ cls := "java/util/OptionalInt", name := "empty", desc := "()Ljava/util/OptionalInt;" } : Jvm.MethodName) jdk_2649_method_2_code (0 : Nat) (Option.some (Jvm.ClassFile.FieldType.object "java/util/OptionalInt")), Jvm.Cond.code ({ cls := "com/example/emendate/emendate/model/FieldError", name := "<init>", desc := "(Lcom/example/emendate/emendate/model/ErrorCode;Ljava/lang/String;Ljava/lang/String;Ljava/util/OptionalInt;)V" } : Jvm.MethodName) prog_9_method_2_code (5 : Nat) (Option.none : Option Jvm.ClassFile.FieldType), Jvm.Cond.code ({ cls := "java/lang/Record", name := "<init>", desc := "()V" } : Jvm.MethodName) jdk_30_method_1_code (1 : Nat) (Option.none : Option Jvm.ClassFile.FieldType), Jvm.Cond.code ({ cls := "com/example/emendate/emendate/model/Problem", name := "of", desc := "(Lcom/example/emendate/emendate/model/FieldError;)Lcom/example/emendate/emendate/model/Problem;" } : Jvm.MethodName) prog_10_method_4_code (1 : Nat) (Option.some (Jvm.ClassFile.FieldType.object "com/example/emendate/emendate/model/Problem")), Jvm.Cond.code ({ cls := "com/example/emendate/emendate/model/FieldError", name := "code", desc := "()Lcom/example/emendate/emendate/model/ErrorCode;" } : Jvm.MethodName) prog_9_method_6_code (1 : Nat) (Option.some (Jvm.ClassFile.FieldType.object "com/example/emendate/emendate/model/ErrorCode")), Jvm.Cond.code ({ cls := "com/example/emendate/emendate/model/FieldError", name := "message", desc := "()Ljava/lang/String;" } : Jvm.MethodName) prog_9_method_8_code (1 : Nat) (Option.some (Jvm.ClassFile.FieldType.object "java/lang/String")), Jvm.Cond.code ({ cls := "java/util/List", name := "of", desc := "(Ljava/lang/Object;)Ljava/util/List;" } : Jvm.MethodName) jdk_40_method_37_code (1 : Nat) (Option.some (Jvm.ClassFile.FieldType.object "java/util/List")), Jvm.Cond.code ({ cls := "java/util/ImmutableCollections$List12", name := "<init>", desc := "(Ljava/lang/Object;)V" } : Jvm.MethodName) jdk_44_method_1_code (2 : Nat) (Option.none : Option Jvm.ClassFile.FieldType), Jvm.Cond.code ({ cls := "java/util/ImmutableCollections$AbstractImmutableList", name := "<init>", desc := "()V" } : Jvm.MethodName) jdk_46_method_1_code (1 : Nat) (Option.none : Option Jvm.ClassFile.FieldType), Jvm.Cond.code ({ cls := "java/util/ImmutableCollections$AbstractImmutableCollection", name := "<init>", desc := "()V" } : Jvm.MethodName) jdk_47_method_1_code (1 : Nat) (Option.none : Option Jvm.ClassFile.FieldType), Jvm.Cond.code ({ cls := "java/util/AbstractCollection", name := "<init>", desc := "()V" } : Jvm.MethodName) jdk_22_method_1_code (1 : Nat) (Option.none : Option Jvm.ClassFile.FieldType), Jvm.Cond.code ({ cls := "java/util/Objects", name := "requireNonNull", desc := "(Ljava/lang/Object;)Ljava/lang/Object;" } : Jvm.MethodName) jdk_31_method_10_code (1 : Nat) (Option.some (Jvm.ClassFile.FieldType.object "java/lang/Object")), Jvm.Cond.code ({ cls := "com/example/emendate/emendate/model/Problem", name := "<init>", desc := "(Lcom/example/emendate/emendate/model/ErrorCode;Ljava/lang/String;Ljava/util/List;Ljava/time/Duration;)V" } : Jvm.MethodName) prog_10_method_3_code (5 : Nat) (Option.none : Option Jvm.ClassFile.FieldType), Jvm.Cond.code ({ cls := "java/lang/Exception", name := "<init>", desc := "(Ljava/lang/String;Ljava/lang/Throwable;ZZ)V" } : Jvm.MethodName) jdk_59_method_5_code (5 : Nat) (Option.none : Option Jvm.ClassFile.FieldType), Jvm.Cond.code ({ cls := "java/lang/Throwable", name := "<init>", desc := "(Ljava/lang/String;Ljava/lang/Throwable;ZZ)V" } : Jvm.MethodName) jdk_78_method_5_code (5 : Nat) (Option.none : Option Jvm.ClassFile.FieldType), Jvm.Cond.code ({ cls := "java/util/List", name := "copyOf", desc := "(Ljava/util/Collection;)Ljava/util/List;" } : Jvm.MethodName) jdk_40_method_48_code (1 : Nat) (Option.some (Jvm.ClassFile.FieldType.object "java/util/List")), Jvm.Cond.code ({ cls := "java/util/ImmutableCollections", name := "listCopy", desc := "(Ljava/util/Collection;)Ljava/util/List;" } : Jvm.MethodName) jdk_56_method_3_code (2 : Nat) (Option.some (Jvm.ClassFile.FieldType.object "java/util/List")), Jvm.Cond.code ({ cls := "com/example/emendate/emendate/model/Problem", name := "code", desc := "()Lcom/example/emendate/emendate/model/ErrorCode;" } : Jvm.MethodName) prog_10_method_7_code (1 : Nat) (Option.some (Jvm.ClassFile.FieldType.object "com/example/emendate/emendate/model/ErrorCode")), Jvm.Cond.code ({ cls := "com/example/emendate/emendate/model/Problem", name := "detail", desc := "()Ljava/lang/String;" } : Jvm.MethodName) prog_10_method_8_code (1 : Nat) (Option.some (Jvm.ClassFile.FieldType.object "java/lang/String")), Jvm.Cond.code ({ cls := "java/lang/Throwable", name := "getMessage", desc := "()Ljava/lang/String;" } : Jvm.MethodName) jdk_78_method_6_code (1 : Nat) (Option.some (Jvm.ClassFile.FieldType.object "java/lang/String")), Jvm.Cond.code ({ cls := "com/example/emendate/emendate/model/Problem", name := "errors", desc := "()Ljava/util/List;" } : Jvm.MethodName) prog_10_method_9_code (1 : Nat) (Option.some (Jvm.ClassFile.FieldType.object "java/util/List")), Jvm.Cond.code ({ cls := "java/util/ImmutableCollections$List12", name := "size", desc := "()I" } : Jvm.MethodName) jdk_44_method_3_code (1 : Nat) (Option.some Jvm.ClassFile.FieldType.int), Jvm.Cond.code ({ cls := "java/util/ImmutableCollections$List12", name := "get", desc := "(I)Ljava/lang/Object;" } : Jvm.MethodName) jdk_44_method_5_code (2 : Nat) (Option.some (Jvm.ClassFile.FieldType.object "java/lang/Object")), Jvm.Cond.code ({ cls := "java/lang/String", name := "equals", desc := "(Ljava/lang/Object;)Z" } : Jvm.MethodName) jdk_42_method_66_code (3 : Nat) (Option.some Jvm.ClassFile.FieldType.boolean), Jvm.Cond.code ({ cls := "java/lang/StringUTF16", name := "compress", desc := "([CII)[B" } : Jvm.MethodName) jdk_52_method_16_code (6 : Nat) (Option.some (Jvm.ClassFile.FieldType.array Jvm.ClassFile.FieldType.byte)), Jvm.Cond.code ({ cls := "java/lang/StringUTF16", name := "compress", desc := "([CI[BII)I" } : Jvm.MethodName) jdk_52_method_21_code (7 : Nat) (Option.some Jvm.ClassFile.FieldType.int), Jvm.Cond.code ({ cls := "java/lang/StringUTF16", name := "coderFromArrayLen", desc := "([BI)B" } : Jvm.MethodName) jdk_52_method_15_code (2 : Nat) (Option.some Jvm.ClassFile.FieldType.byte)]
set_option maxRecDepth 65536 in
theorem codes_eq : words1.filter isCode = codes1 := rfl
theorem w_codes : ∀ c ∈ words1.filter isCode, c.before args0 about1 = true := by
  rw [codes_eq]
  intro c hc
  simp only [codes1, List.mem_cons, List.not_mem_nil, or_false] at hc
  rcases hc with rfl | rfl | rfl | rfl | rfl | rfl | rfl | rfl | rfl | rfl | rfl | rfl | rfl | rfl | rfl | rfl | rfl | rfl | rfl | rfl | rfl | rfl | rfl | rfl | rfl | rfl | rfl | rfl | rfl | rfl | rfl | rfl | rfl | rfl
  · exact w_c0
  · exact w_c1
  · exact w_c2
  · exact w_c3
  · exact w_c4
  · exact w_c5
  · exact w_c6
  · exact w_c7
  · exact w_c8
  · exact w_c9
  · exact w_c10
  · exact w_c11
  · exact w_c12
  · exact w_c13
  · exact w_c14
  · exact w_c15
  · exact w_c16
  · exact w_c17
  · exact w_c18
  · exact w_c19
  · exact w_c20
  · exact w_c21
  · exact w_c22
  · exact w_c23
  · exact w_c24
  · exact w_c25
  · exact w_c26
  · exact w_c27
  · exact w_c28
  · exact w_c29
  · exact w_c30
  · exact w_c31
  · exact w_c32
  · exact w_c33
set_option maxRecDepth 65536 in
theorem w_t1 : (words1.take 24).all (fun c => isCode c || c.before args0 about1) = true := by decide +kernel
set_option maxRecDepth 65536 in
theorem w_t2 : ((words1.drop 24).take 24).all (fun c => isCode c || c.before args0 about1) = true := by decide +kernel
set_option maxRecDepth 65536 in
theorem w_t3 : (((words1.drop 24).drop 24).take 24).all (fun c => isCode c || c.before args0 about1) = true := by decide +kernel
set_option maxRecDepth 65536 in
theorem w_t4 : ((((words1.drop 24).drop 24).drop 24).take 24).all (fun c => isCode c || c.before args0 about1) = true := by decide +kernel
set_option maxRecDepth 65536 in
theorem w_t5 : (((((words1.drop 24).drop 24).drop 24).drop 24).take 24).all (fun c => isCode c || c.before args0 about1) = true := by decide +kernel
set_option maxRecDepth 65536 in
theorem w_t6 : ((((((words1.drop 24).drop 24).drop 24).drop 24).drop 24).take 24).all (fun c => isCode c || c.before args0 about1) = true := by decide +kernel
set_option maxRecDepth 65536 in
theorem w_t7 : (((((((words1.drop 24).drop 24).drop 24).drop 24).drop 24).drop 24).take 24).all (fun c => isCode c || c.before args0 about1) = true := by decide +kernel
set_option maxRecDepth 65536 in
theorem w_t8 : ((((((((words1.drop 24).drop 24).drop 24).drop 24).drop 24).drop 24).drop 24).take 24).all (fun c => isCode c || c.before args0 about1) = true := by decide +kernel
set_option maxRecDepth 65536 in
theorem w_t9 : (((((((((words1.drop 24).drop 24).drop 24).drop 24).drop 24).drop 24).drop 24).drop 24).take 24).all (fun c => isCode c || c.before args0 about1) = true := by decide +kernel
set_option maxRecDepth 65536 in
theorem w_t10 : (((((((((words1.drop 24).drop 24).drop 24).drop 24).drop 24).drop 24).drop 24).drop 24).drop 24).all (fun c => isCode c || c.before args0 about1) = true := by decide +kernel
theorem w_tables : (allAtoms (Jvm.Cond.code x code maxLocals ret :: tables_1)).before args0 about1 = true := by
  rw [allAtoms_all]
  show words1.all (fun c => c.before args0 about1) = true
  refine all_split ?_ w_codes
  rw [← List.take_append_drop 24 words1, List.all_append, w_t1, ← List.take_append_drop 24 (words1.drop 24), List.all_append, w_t2, ← List.take_append_drop 24 ((words1.drop 24).drop 24), List.all_append, w_t3, ← List.take_append_drop 24 (((words1.drop 24).drop 24).drop 24), List.all_append, w_t4, ← List.take_append_drop 24 ((((words1.drop 24).drop 24).drop 24).drop 24), List.all_append, w_t5, ← List.take_append_drop 24 (((((words1.drop 24).drop 24).drop 24).drop 24).drop 24), List.all_append, w_t6, ← List.take_append_drop 24 ((((((words1.drop 24).drop 24).drop 24).drop 24).drop 24).drop 24), List.all_append, w_t7, ← List.take_append_drop 24 (((((((words1.drop 24).drop 24).drop 24).drop 24).drop 24).drop 24).drop 24), List.all_append, w_t8, ← List.take_append_drop 24 ((((((((words1.drop 24).drop 24).drop 24).drop 24).drop 24).drop 24).drop 24).drop 24), List.all_append, w_t9, w_t10]
  rfl
set_option maxRecDepth 65536 in
theorem w_rest : rest_1_c.before args0 about1 = true := by decide +kernel
set_option maxRecDepth 65536 in
theorem w_case : (Jvm.Cond.and given_1 narrow_1).before args0 about1 = true := by decide +kernel
set_option maxRecDepth 65536 in
theorem w_consts : constsHeld consts_1 about1 := Jvm.Lit.constsHeldB_iff.mp (by decide +kernel)
theorem w_applies : (headSpec (Jvm.Cond.code x code maxLocals ret :: tables_1) room_1).applies x e0.platform about1 = true :=
  (Spec.applies_iff w_frames).mpr ⟨w_running, w_runnable, w_alone, w_named, w_hears, w_ripe, w_room, w_tables⟩
theorem atStart : AtStart classFile x code maxLocals ret World_1 tables_1 room_1 Calls_1 rest_1 Pre_1 launch0 p0 e0 about1 theMethod args0 below0 :=
  ⟨lists_1, trivial, launch0.admits_env _ _ _, launch0.least_env, fairChoices_fair.cas, fairChoices_fair.clock, w_frames, w_args, w_heap, w_applies, ⟨w_consts, trivial⟩, w_rest, w_case⟩
end start1
theorem witness_1 : WitnessClaimed_1 := ⟨start1.p0, start1.e0, start1.about1, start1.theMethod, start1.args0, start1.below0, start1.atStart⟩
end Jvm.Pilot.@@N@@
