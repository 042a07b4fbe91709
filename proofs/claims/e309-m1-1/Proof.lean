import JvmDerived
import JvmDerived.Pilot.@@N@@Statement
import JvmDerived.Pilot.@@N@@Code
set_option linter.unusedVariables false
set_option linter.unusedSimpArgs false
@@BLOCK:NumsL.lean.txt@@
namespace Jvm.OwnGo
open Sem ClassFile Op Lib Jvm.Stand Jvm.Free Jvm.LawKit Jvm.RoadKit
/-- what the walk of a body is told once: exec, bytes, max_locals, its class, its name, its return kind, no lock, the tables -/
def Cx (p : Program) (s : State) (m : MethodId) (meth : Method) (c : Code) (Z : State) (own nm : String) (code : ByteArray) (ret : Option FieldType) (maxL : Nat) : Prop :=
  p.tables.exec = Jvm.exec ∧ c.code = code ∧ c.maxLocals = maxL ∧ s.vm.findClass own = some m.cls ∧ meth.name = nm ∧ meth.sig.returnType = ret ∧ meth.locks = false ∧ Z.Warmed39 s.vm
/-- from every state with heap h in which the body stands at frame g the body comes to its end, and Q holds of what it leaves -/
def Go (p : Program) (l : Launch) (e : Env) (R : Room) (s : State) (m : MethodId) (args : Array Value) (below : List Frame) (meth : Method) (c : Code) (n0 : Nat) (Q : Option Value → Heap → List Loc → Prop) (h : Heap) (cells slots : Nat) (g : JFrame) : Prop :=
  ∀ (T : State) (L : List Loc), Stand p l e R s m args below meth c T L cells slots → T.heap = h → Fr n0 L →
    ∃ (t : State) (o : Outcome), Steps p.tables e below (T.setTop g) t ∧ t.status = .running ∧ Ended t below o ∧ ∃ v L', o = .returned v ∧ Q v t.heap L' ∧ FrameEnd s o t L' R.cells R.slots
/-- the contract of a body, at given arguments and heap -/
def Con (l : Launch) (Z : State) (y : MethodName) (bytes : ByteArray) (maxL : Nat) (ret : Option FieldType) (rm : Room) (ws : List Jvm.Cond) (as' : Array Value) (h : Heap) (Q : Option Value → Heap → List Loc → Prop) : Prop :=
  MetFree l y (head1 (Jvm.Cond.code y bytes maxL ret :: ws) rm) (fun a U => a = as' ∧ Z.Warmed39 U.vm ∧ U.heap = h) (fun _ _ _ _ _ => True) (fun _ U o U' => ∃ v L, o = .returned v ∧ Q v U'.heap L ∧ FrameEnd U o U' L rm.cells rm.slots)
/-- an int is returned; the heap is as H says; nothing old is written -/
def Ret (n0 : Nat) (H : Heap → Prop) (r : Int32) (v : Option Value) (hh : Heap) (L : List Loc) : Prop := v = some (.int r) ∧ Fr n0 L ∧ H hh
theorem con_of {l : Launch} {Z : State} {y : MethodName} {bytes : ByteArray} {maxL : Nat} {ret : Option FieldType} {rm : Room} {ws : List Jvm.Cond} {as' : Array Value} {h : Heap} {Q : Option Value → Heap → List Loc → Prop} (n0 : Nat) {Ls0 : Array Slot} (hn : plainName y.cls = true) (hef : ∀ m, entryFrame m as' maxL = mkF m 0 Ls0 [])
    (body : ∀ (p : Program) (e : Env) (s : State) (m : MethodId) (below : List Frame) (meth : Method) (c : Code), Cx p s m meth c Z y.cls y.name bytes ret maxL → Go p l e rm s m as' below meth c n0 Q h 0 0 (mkF m 0 Ls0 [])) : Con l Z y bytes maxL ret rm ws as' h Q := by
  refine MetFree.of_bodySF (plainFor_of_name hn) hisR ?_
  intro p e s m args below meth c s₁ Bd hml0 hP hK
  obtain ⟨rfl, hZ, hh⟩ := hP
  rw [hef m]
  exact body p e s m below meth c ⟨Bd.exec, Bd.bytes, hml0, findClass_of_methodNamed Bd.named, (name_of_methodNamed Bd.named Bd.method).1, Bd.returns, Bd.notSynchronized, hZ⟩ s₁ [] (Stand.of_body Bd) (by rw [← hh, Bd.state]; rfl) (Fr.nil n0)
section Steps
variable {p : Program} {l : Launch} {e : Env} {R : Room} {s : State} {m : MethodId} {args : Array Value} {below : List Frame} {meth : Method} {c : Code} {n0 : Nat} {Q : Option Value → Heap → List Loc → Prop} {h : Heap} {cells slots : Nat} {Z : State} {own nm : String} {code : ByteArray} {ret : Option FieldType} {maxL : Nat} {pc pc' pc2 : Nat} {Ls Ls' : Array Slot} {st : List Value} {a0 : Array Value}
theorem Go.step {g g' : JFrame} (f : ∀ T, At T m c below → ∀ target, Steps p.tables e below (T.setTop g') target → Steps p.tables e below (T.setTop g) target) (q : Go p l e R s m args below meth c n0 Q h cells slots g') : Go p l e R s m args below meth c n0 Q h cells slots g := fun T L X eT N => by
  obtain ⟨t, o, k, r⟩ := q T L X eT N
  exact ⟨t, o, f T X.here t k, r⟩
theorem Go.at {g g' : JFrame} (q : Go p l e R s m args below meth c n0 Q h cells slots g') (hg : g = g') : Go p l e R s m args below meth c n0 Q h cells slots g := hg ▸ q
theorem g_iloadN (C : Cx p s m meth c Z own nm code ret maxL) {k : Fin 4} {v : Int32} (hd : decode code pc = .ok (.iload_n k, 1)) (hl : Ls[k.val]? = some (.val (.int v))) (hp : pc + 1 = pc') (q : Go p l e R s m args below meth c n0 Q h cells slots (mkF m pc' Ls (.int v :: st))) : Go p l e R s m args below meth c n0 Q h cells slots (mkF m pc Ls st) := by
  subst hp
  exact q.step fun T A t r => XS.iloadN A C.1 rfl (hb C.2.1 hd) hl r
theorem g_iload (C : Cx p s m meth c Z own nm code ret maxL) {k : Nat} {v : Int32} (hd : decode code pc = .ok (.iload k, 2)) (hl : Ls[k]? = some (.val (.int v))) (hp : pc + 2 = pc') (q : Go p l e R s m args below meth c n0 Q h cells slots (mkF m pc' Ls (.int v :: st))) : Go p l e R s m args below meth c n0 Q h cells slots (mkF m pc Ls st) := by
  subst hp
  exact q.step fun T A t r => XS.iload A C.1 rfl (hb C.2.1 hd) hl r
theorem g_aloadN (C : Cx p s m meth c Z own nm code ret maxL) {k : Fin 4} {v : Value} (hd : decode code pc = .ok (.aload_n k, 1)) (hl : Ls[k.val]? = some (.val v)) (hv : v.isRef = true) (hp : pc + 1 = pc') (q : Go p l e R s m args below meth c n0 Q h cells slots (mkF m pc' Ls (v :: st))) : Go p l e R s m args below meth c n0 Q h cells slots (mkF m pc Ls st) := by
  subst hp
  exact q.step fun T A t r => XS.aloadN A C.1 rfl (hb C.2.1 hd) hl hv r
theorem g_aload (C : Cx p s m meth c Z own nm code ret maxL) {k : Nat} {v : Value} (hd : decode code pc = .ok (.aload k, 2)) (hl : Ls[k]? = some (.val v)) (hv : v.isRef = true) (hp : pc + 2 = pc') (q : Go p l e R s m args below meth c n0 Q h cells slots (mkF m pc' Ls (v :: st))) : Go p l e R s m args below meth c n0 Q h cells slots (mkF m pc Ls st) := by
  subst hp
  exact q.step fun T A t r => XS.aload A C.1 rfl (hb C.2.1 hd) hl hv r
theorem g_iconst (C : Cx p s m meth c Z own nm code ret maxL) {i : Int} {v : Int32} (hd : decode code pc = .ok (.iconst i, 1)) (hv : Int32.ofInt i = v) (hp : pc + 1 = pc') (q : Go p l e R s m args below meth c n0 Q h cells slots (mkF m pc' Ls (.int v :: st))) : Go p l e R s m args below meth c n0 Q h cells slots (mkF m pc Ls st) := by
  subst hp hv
  exact q.step fun T A t r => XS.iconst A C.1 rfl (hb C.2.1 hd) r
theorem g_bipush (C : Cx p s m meth c Z own nm code ret maxL) {i : Int} {v : Int32} (hd : decode code pc = .ok (.bipush i, 2)) (hv : (Int8.ofInt i).toInt32 = v) (hp : pc + 2 = pc') (q : Go p l e R s m args below meth c n0 Q h cells slots (mkF m pc' Ls (.int v :: st))) : Go p l e R s m args below meth c n0 Q h cells slots (mkF m pc Ls st) := by
  subst hp hv
  exact q.step fun T A t r => XS.bipush A C.1 rfl (hb C.2.1 hd) r
theorem g_sipush (C : Cx p s m meth c Z own nm code ret maxL) {i : Int} {v : Int32} (hd : decode code pc = .ok (.sipush i, 3)) (hv : (Int16.ofInt i).toInt32 = v) (hp : pc + 3 = pc') (q : Go p l e R s m args below meth c n0 Q h cells slots (mkF m pc' Ls (.int v :: st))) : Go p l e R s m args below meth c n0 Q h cells slots (mkF m pc Ls st) := by
  subst hp hv
  exact q.step fun T A t r => XS.sipush A C.1 rfl (hb C.2.1 hd) r
theorem g_ldc (C : Cx p s m meth c Z own nm code ret maxL) {i : Nat} {v : Int32} (w : (Jvm.Cond.constant own i v).before a0 Z = true) (hd : decode code pc = .ok (.ldc i, 2)) (hp : pc + 2 = pc') (q : Go p l e R s m args below meth c n0 Q h cells slots (mkF m pc' Ls (.int v :: st))) : Go p l e R s m args below meth c n0 Q h cells slots (mkF m pc Ls st) := by
  subst hp
  intro T L X eT N
  obtain ⟨t, o, k, r⟩ := q T L X eT N
  exact ⟨t, o, X.ldcInt C.1 C.2.2.2.1 (mvT C.2.2.2.2.2.2.2 w) (g := mkF m pc Ls st) rfl (hb C.2.1 hd) t k, r⟩
theorem g_iadd (C : Cx p s m meth c Z own nm code ret maxL) {x y : Int32} (hd : decode code pc = .ok (.iadd, 1)) (hp : pc + 1 = pc') (q : Go p l e R s m args below meth c n0 Q h cells slots (mkF m pc' Ls (.int (x + y) :: st))) : Go p l e R s m args below meth c n0 Q h cells slots (mkF m pc Ls (.int y :: .int x :: st)) := by
  subst hp
  exact q.step fun T A t r => XS.iadd A C.1 rfl (hb C.2.1 hd) rfl r
theorem g_isub (C : Cx p s m meth c Z own nm code ret maxL) {x y : Int32} (hd : decode code pc = .ok (.isub, 1)) (hp : pc + 1 = pc') (q : Go p l e R s m args below meth c n0 Q h cells slots (mkF m pc' Ls (.int (x - y) :: st))) : Go p l e R s m args below meth c n0 Q h cells slots (mkF m pc Ls (.int y :: .int x :: st)) := by
  subst hp
  exact q.step fun T A t r => XS.isub A C.1 rfl (hb C.2.1 hd) rfl r
theorem g_imul (C : Cx p s m meth c Z own nm code ret maxL) {x y : Int32} (hd : decode code pc = .ok (.imul, 1)) (hp : pc + 1 = pc') (q : Go p l e R s m args below meth c n0 Q h cells slots (mkF m pc' Ls (.int (x * y) :: st))) : Go p l e R s m args below meth c n0 Q h cells slots (mkF m pc Ls (.int y :: .int x :: st)) := by
  subst hp
  exact q.step fun T A t r => XS.imul A C.1 rfl (hb C.2.1 hd) rfl r
theorem g_iand (C : Cx p s m meth c Z own nm code ret maxL) {x y : Int32} (hd : decode code pc = .ok (.iand, 1)) (hp : pc + 1 = pc') (q : Go p l e R s m args below meth c n0 Q h cells slots (mkF m pc' Ls (.int (x &&& y) :: st))) : Go p l e R s m args below meth c n0 Q h cells slots (mkF m pc Ls (.int y :: .int x :: st)) := by
  subst hp
  exact q.step fun T A t r => XS.iand A C.1 rfl (hb C.2.1 hd) rfl r
theorem g_ixor (C : Cx p s m meth c Z own nm code ret maxL) {x y : Int32} (hd : decode code pc = .ok (.ixor, 1)) (hp : pc + 1 = pc') (q : Go p l e R s m args below meth c n0 Q h cells slots (mkF m pc' Ls (.int (x ^^^ y) :: st))) : Go p l e R s m args below meth c n0 Q h cells slots (mkF m pc Ls (.int y :: .int x :: st)) := by
  subst hp
  exact q.step fun T A t r => XT.ixor A C.1 rfl (hb C.2.1 hd) rfl r
theorem g_irem (C : Cx p s m meth c Z own nm code ret maxL) {x y : Int32} (hd : decode code pc = .ok (.irem, 1)) (hy : y ≠ 0) (hp : pc + 1 = pc') (q : Go p l e R s m args below meth c n0 Q h cells slots (mkF m pc' Ls (.int (x % y) :: st))) : Go p l e R s m args below meth c n0 Q h cells slots (mkF m pc Ls (.int y :: .int x :: st)) := by
  subst hp
  intro T L X eT N
  obtain ⟨t, o, k, r⟩ := q T L X eT N
  exact ⟨t, o, iremM X C.1 (g := mkF m pc Ls (.int y :: .int x :: st)) rfl (hb C.2.1 hd) rfl hy k, r⟩
theorem g_dup (C : Cx p s m meth c Z own nm code ret maxL) {x : Value} (hd : decode code pc = .ok (.dup, 1)) (hx : x.category = 1) (hp : pc + 1 = pc') (q : Go p l e R s m args below meth c n0 Q h cells slots (mkF m pc' Ls (x :: x :: st))) : Go p l e R s m args below meth c n0 Q h cells slots (mkF m pc Ls (x :: st)) := by
  subst hp
  exact q.step fun T A t r => XS.dup A C.1 rfl (hb C.2.1 hd) rfl hx r
theorem g_istoreN (C : Cx p s m meth c Z own nm code ret maxL) {k : Fin 4} {x : Int32} (hd : decode code pc = .ok (.istore_n k, 1)) (hl : storeLocals Ls k.val (.int x) = some Ls') (hp : pc + 1 = pc') (q : Go p l e R s m args below meth c n0 Q h cells slots (mkF m pc' Ls' st)) : Go p l e R s m args below meth c n0 Q h cells slots (mkF m pc Ls (.int x :: st)) := by
  subst hp
  exact q.step fun T A t r => XS.istoreN A C.1 rfl (hb C.2.1 hd) rfl hl r
theorem g_istore (C : Cx p s m meth c Z own nm code ret maxL) {k : Nat} {x : Int32} (hd : decode code pc = .ok (.istore k, 2)) (hl : storeLocals Ls k (.int x) = some Ls') (hp : pc + 2 = pc') (q : Go p l e R s m args below meth c n0 Q h cells slots (mkF m pc' Ls' st)) : Go p l e R s m args below meth c n0 Q h cells slots (mkF m pc Ls (.int x :: st)) := by
  subst hp
  exact q.step fun T A t r => XS.istore A C.1 rfl (hb C.2.1 hd) rfl hl r
theorem g_astoreN (C : Cx p s m meth c Z own nm code ret maxL) {k : Fin 4} {x : Value} (hd : decode code pc = .ok (.astore_n k, 1)) (hv : x.isRef = true) (hl : storeLocals Ls k.val x = some Ls') (hp : pc + 1 = pc') (q : Go p l e R s m args below meth c n0 Q h cells slots (mkF m pc' Ls' st)) : Go p l e R s m args below meth c n0 Q h cells slots (mkF m pc Ls (x :: st)) := by
  subst hp
  exact q.step fun T A t r => XS.astoreN A C.1 rfl (hb C.2.1 hd) rfl hv hl r
theorem g_astore (C : Cx p s m meth c Z own nm code ret maxL) {k : Nat} {x : Value} (hd : decode code pc = .ok (.astore k, 2)) (hv : x.isRef = true) (hl : storeLocals Ls k x = some Ls') (hp : pc + 2 = pc') (q : Go p l e R s m args below meth c n0 Q h cells slots (mkF m pc' Ls' st)) : Go p l e R s m args below meth c n0 Q h cells slots (mkF m pc Ls (x :: st)) := by
  subst hp
  exact q.step fun T A t r => XS.astore A C.1 rfl (hb C.2.1 hd) rfl hv hl r
theorem g_goto (C : Cx p s m meth c Z own nm code ret maxL) {o : Int} (hd : decode code pc = .ok (.goto o, 3)) (ho : 0 ≤ (pc : Int) + o) (hp : ((pc : Int) + o).toNat = pc') (q : Go p l e R s m args below meth c n0 Q h cells slots (mkF m pc' Ls st)) : Go p l e R s m args below meth c n0 Q h cells slots (mkF m pc Ls st) := q.step fun T A t r => XS.goto A C.1 rfl (pc0 := pc) rfl (hb C.2.1 hd) ho hp r
/-- a comparison of two ints: both ways -/
theorem g_icmp (C : Cx p s m meth c Z own nm code ret maxL) {cd : ClassFile.Cond} {x y : Int32} {o : Int} {P : Prop} [Decidable P] (hd : decode code pc = .ok (.if_icmp cd o, 3)) (hc : if_icmp.holds cd x y = decide P) (ho : 0 ≤ (pc : Int) + o) (hp2 : ((pc : Int) + o).toNat = pc2) (hp : pc + 3 = pc')
    (q1 : P → Go p l e R s m args below meth c n0 Q h cells slots (mkF m pc2 Ls st)) (q2 : ¬ P → Go p l e R s m args below meth c n0 Q h cells slots (mkF m pc' Ls st)) : Go p l e R s m args below meth c n0 Q h cells slots (mkF m pc Ls (.int y :: .int x :: st)) := by
  subst hp
  by_cases hP : P
  · exact (q1 hP).step fun T A t r => XS.icmpYes A C.1 rfl (pc0 := pc) rfl (hb C.2.1 hd) rfl (hc.trans (decide_eq_true hP)) ho hp2 r
  · exact (q2 hP).step fun T A t r => XS.icmpNo A C.1 rfl (hb C.2.1 hd) rfl (hc.trans (decide_eq_false hP)) r
/-- a comparison of an int with 0: both ways -/
theorem g_if (C : Cx p s m meth c Z own nm code ret maxL) {cd : ClassFile.Cond} {x : Int32} {o : Int} {P : Prop} [Decidable P] (hd : decode code pc = .ok (.ifCond cd o, 3)) (hc : if_icmp.holds cd x 0 = decide P) (ho : 0 ≤ (pc : Int) + o) (hp2 : ((pc : Int) + o).toNat = pc2) (hp : pc + 3 = pc')
    (q1 : P → Go p l e R s m args below meth c n0 Q h cells slots (mkF m pc2 Ls st)) (q2 : ¬ P → Go p l e R s m args below meth c n0 Q h cells slots (mkF m pc' Ls st)) : Go p l e R s m args below meth c n0 Q h cells slots (mkF m pc Ls (.int x :: st)) := by
  subst hp
  by_cases hP : P
  · exact (q1 hP).step fun T A t r => XS.ifYes A C.1 rfl (pc0 := pc) rfl (hb C.2.1 hd) rfl ((if0 cd x).trans (hc.trans (decide_eq_true hP))) ho hp2 r
  · exact (q2 hP).step fun T A t r => XS.ifNo A C.1 rfl (hb C.2.1 hd) rfl ((if0 cd x).trans (hc.trans (decide_eq_false hP))) r
theorem c_lt (x y : Int32) : if_icmp.holds .lt x y = decide (x < y) := by
  by_cases q : x < y
  · exact (tlt q).1.trans (decide_eq_true q).symm
  · exact (flt q).1.trans (decide_eq_false q).symm
theorem c_ge (x y : Int32) : if_icmp.holds .ge x y = decide (¬ x < y) := by
  by_cases q : x < y
  · exact (tlt q).2.1.trans (decide_eq_false (not_not_intro q)).symm
  · exact (flt q).2.1.trans (decide_eq_true q).symm
theorem c_gt (x y : Int32) : if_icmp.holds .gt x y = decide (y < x) := by
  by_cases q : y < x
  · exact (tlt q).2.2.1.trans (decide_eq_true q).symm
  · exact (flt q).2.2.1.trans (decide_eq_false q).symm
theorem c_le (x y : Int32) : if_icmp.holds .le x y = decide (¬ y < x) := by
  by_cases q : y < x
  · exact (tlt q).2.2.2.trans (decide_eq_false (not_not_intro q)).symm
  · exact (flt q).2.2.2.trans (decide_eq_true q).symm
theorem c_eq (x y : Int32) : if_icmp.holds .eq x y = decide (x = y) := by
  by_cases q : x = y
  · exact (teq q).1.trans (decide_eq_true q).symm
  · exact (feq q).1.trans (decide_eq_false q).symm
theorem c_ne (x y : Int32) : if_icmp.holds .ne x y = decide (¬ x = y) := by
  by_cases q : x = y
  · exact (teq q).2.trans (decide_eq_false (not_not_intro q)).symm
  · exact (feq q).2.trans (decide_eq_true q).symm
/-- a fork of what is returned -/
theorem Go.pos {H : Heap → Prop} {P : Prop} [Decidable P] {a b : Int32} {g : JFrame} (q : Go p l e R s m args below meth c n0 (Ret n0 H a) h cells slots g) (hP : P) : Go p l e R s m args below meth c n0 (Ret n0 H (if P then a else b)) h cells slots g := by rw [if_pos hP]; exact q
theorem Go.neg {H : Heap → Prop} {P : Prop} [Decidable P] {a b : Int32} {g : JFrame} (q : Go p l e R s m args below meth c n0 (Ret n0 H b) h cells slots g) (hP : ¬ P) : Go p l e R s m args below meth c n0 (Ret n0 H (if P then a else b)) h cells slots g := by rw [if_neg hP]; exact q
theorem Go.cast {H : Heap → Prop} {a b : Int32} {g : JFrame} (q : Go p l e R s m args below meth c n0 (Ret n0 H a) h cells slots g) (hab : a = b) : Go p l e R s m args below meth c n0 (Ret n0 H b) h cells slots g := hab ▸ q
theorem g_retZ {H : Heap → Prop} (C : Cx p s m meth c Z own nm code (some .boolean) maxL) {z r : Int32} (hd : decode code pc = .ok (.ireturn, 1)) (hz : nar .boolean z = r) (hH : H h) (hc : cells ≤ R.cells) (hs : slots ≤ R.slots) : Go p l e R s m args below meth c n0 (Ret n0 H r) h cells slots (mkF m pc Ls (.int z :: st)) := fun T L X eT N => by
  obtain ⟨-, -, -, -, -, hret, hlk, -⟩ := id C
  obtain ⟨fs, hr, hrun, hended, hW, hsame⟩ := X.leave (v := some (.int (nar .boolean z))) (fun q => by rw [hret] at q; cases q) hlk
  exact ⟨_, _, retN X C.1 (t := .boolean) hret (by simp) (hb C.2.1 hd) hr, hrun, hended, _, L, rfl, ⟨by rw [hz], N, by show H T.heap; rw [eT]; exact hH⟩, ⟨_, rfl⟩, hW, hsame.mono hc hs⟩
theorem g_retI {H : Heap → Prop} (C : Cx p s m meth c Z own nm code (some .int) maxL) {z : Int32} (hd : decode code pc = .ok (.ireturn, 1)) (hH : H h) (hc : cells ≤ R.cells) (hs : slots ≤ R.slots) : Go p l e R s m args below meth c n0 (Ret n0 H z) h cells slots (mkF m pc Ls (.int z :: st)) := fun T L X eT N => by
  obtain ⟨-, -, -, -, -, hret, hlk, -⟩ := id C
  obtain ⟨fs, hr, hrun, hended, hW, hsame⟩ := X.leave (v := some (.int z)) (fun q => by rw [hret] at q; cases q) hlk
  exact ⟨_, _, retOut X C.1 hret rfl (Or.inl ⟨rfl, Or.inl rfl, z, rfl⟩) (hb C.2.1 hd) hr, hrun, hended, _, L, rfl, ⟨rfl, N, by show H T.heap; rw [eT]; exact hH⟩, ⟨_, rfl⟩, hW, hsame.mono hc hs⟩
/-- a static call, paid by the callee's contract; the callee makes at most rm.cells cells and rm.slots slots -/
theorem g_callS (C : Cx p s m meth c Z own nm code ret maxL) {i : Nat} {y : MethodName} {bytes : ByteArray} {ml : Nat} {rt : Option FieldType} {rm : Room} {as' : List Value} {Qc : Option Value → Heap → List Loc → Prop} (W : Nat) (w1 : (Jvm.Cond.methodLink own i y).before a0 Z = true) (w2 : (Jvm.Cond.static y).before a0 Z = true) (w3 : (Jvm.Cond.initialized y.cls).before a0 Z = true) (w4 : (Jvm.Cond.code y bytes ml rt).before a0 Z = true)
    (hy : y.cls ≠ "java/lang/invoke/MethodHandle" ∧ y.cls ≠ "java/lang/invoke/VarHandle") (hM : Con l Z y bytes ml rt rm [] as'.toArray h Qc) (hf : rm.frames + 1 ≤ R.frames) (hl : W + (ml + 11) + rm.locals ≤ R.locals) (hrc : cells + rm.cells ≤ R.cells) (hrs : slots + rm.slots ≤ R.slots) {ps : List FieldType} {rr : Option FieldType} (hpd : parseMethodDescriptor y.desc = some ⟨ps, rr⟩) (hlen : as'.length = ps.length)
    (hsz : Ls.size = maxL) {stk : List Value} (hst : stk = as'.reverse ++ st) (hW : (st.map fun v => v.category).sum ≤ W) (hd : decode code pc = .ok (.invokestatic i, 3)) (hp : pc + 3 = pc')
    (q : ∀ v h' L', Qc v h' L' → (Fr n0 L' ∧ Go p l e R s m args below meth c n0 Q h' (cells + rm.cells) (slots + rm.slots) (mkF m pc' Ls (v.toList ++ st)))) : Go p l e R s m args below meth c n0 Q h cells slots (mkF m pc Ls stk) := by
  intro T L X eT N
  subst hp
  obtain ⟨hx, hby, hml, hown, -, hret, hlk, hZ⟩ := id C
  obtain ⟨v, _, ⟨T1, L1, k1, n1⟩, -, X1, ⟨Lc, hQ, l1, y1, z1⟩, st1⟩ := Jvm.LawKit.callS X hx (y := y) hown (mvT hZ w1) (mvT hZ w2) (mvT hZ w3) (mvT hZ w4) hy (backOf (W := W) hM hZ w4 w3 hf hl) (g := mkF m pc Ls stk) rfl (hsz.trans hml.symm) (argsL := as') (rest := st) (lenOf hpd hlen) hst (by show 2 * 0 + _ ≤ _; omega) (hb hby hd) (fun _ _ => ⟨rfl, eT, hrc, hrs⟩)
  dsimp only [Pt.U, Pt.locs, Pt.cells, Pt.slots] at X1 l1 y1 z1 st1 hQ
  subst l1 y1 z1
  obtain ⟨hN, hG⟩ := q v _ Lc hQ
  obtain ⟨t, o, k, r⟩ := hG T1 _ X1 rfl (N.app hN)
  exact ⟨t, o, st1 t k, r⟩
/-- a static call of a method that computes an int and leaves the heap as it was -/
theorem g_callP (C : Cx p s m meth c Z own nm code ret maxL) {i : Nat} {y : MethodName} {bytes : ByteArray} {ml : Nat} {rt : Option FieldType} {rm : Room} {as' : List Value} {z : Int32} (W : Nat) (w1 : (Jvm.Cond.methodLink own i y).before a0 Z = true) (w2 : (Jvm.Cond.static y).before a0 Z = true) (w3 : (Jvm.Cond.initialized y.cls).before a0 Z = true) (w4 : (Jvm.Cond.code y bytes ml rt).before a0 Z = true)
    (hy : y.cls ≠ "java/lang/invoke/MethodHandle" ∧ y.cls ≠ "java/lang/invoke/VarHandle") (hM : Con l Z y bytes ml rt rm [] as'.toArray h (Ret n0 (· = h) z)) (hf : rm.frames + 1 ≤ R.frames) (hl : W + (ml + 11) + rm.locals ≤ R.locals) (hrc : rm.cells = 0) (hrs : rm.slots = 0) (hcl : cells ≤ R.cells) (hsl : slots ≤ R.slots) {ps : List FieldType} {rr : Option FieldType} (hpd : parseMethodDescriptor y.desc = some ⟨ps, rr⟩) (hlen : as'.length = ps.length)
    (hsz : Ls.size = maxL) {stk : List Value} (hst : stk = as'.reverse ++ st) (hW : (st.map fun v => v.category).sum ≤ W) (hd : decode code pc = .ok (.invokestatic i, 3)) (hp : pc + 3 = pc')
    (q : Go p l e R s m args below meth c n0 Q h cells slots (mkF m pc' Ls (.int z :: st))) : Go p l e R s m args below meth c n0 Q h cells slots (mkF m pc Ls stk) := by
  refine g_callS C W w1 w2 w3 w4 hy hM hf hl (by rw [hrc]; exact hcl) (by rw [hrs]; exact hsl) hpd hlen hsz hst hW hd hp ?_
  rintro v h' L' ⟨rfl, hN, rfl⟩
  refine ⟨hN, ?_⟩
  rw [hrc, hrs]
  exact q
end Steps
end Jvm.OwnGo
namespace Jvm.OwnGo
/-- c and b stand alike to every number of B -/
def Same (B : List Int32) (c b : Int32) : Prop := ∀ t ∈ B, (c < t ↔ b < t) ∧ (t < c ↔ t < b) ∧ (c = t ↔ b = t)
theorem own_max (c : Int32) : ∀ (L : List Int32) (b0 : Int32), b0.toInt ≤ c.toInt → ∃ b, (b = b0 ∨ b ∈ L) ∧ b.toInt ≤ c.toInt ∧ b0.toInt ≤ b.toInt ∧ ∀ s ∈ L, s.toInt ≤ c.toInt → s.toInt ≤ b.toInt
  | [], b0, h => ⟨b0, Or.inl rfl, h, Int.le_refl _, fun _ q => nomatch q⟩
  | a :: L, b0, h => by
    by_cases ha : a.toInt ≤ c.toInt ∧ b0.toInt ≤ a.toInt
    · obtain ⟨b, hb, h1, h2, h3⟩ := own_max c L a ha.1
      refine ⟨b, ?_, h1, by omega, ?_⟩
      · rcases hb with rfl | hb
        · exact Or.inr (List.mem_cons_self ..)
        · exact Or.inr (List.mem_cons_of_mem _ hb)
      · intro s hs hc
        rcases List.mem_cons.mp hs with rfl | hs
        · exact h2
        · exact h3 s hs hc
    · obtain ⟨b, hb, h1, h2, h3⟩ := own_max c L b0 h
      refine ⟨b, ?_, h1, h2, ?_⟩
      · rcases hb with rfl | hb
        · exact Or.inl rfl
        · exact Or.inr (List.mem_cons_of_mem _ hb)
      · intro s hs hc
        rcases List.mem_cons.mp hs with rfl | hs
        · omega
        · exact h3 s hs hc
/-- the numbers at which functions that ask only for the place among B are looked at -/
def samples (B : List Int32) : List Int32 := (-2147483648) :: (B ++ B.map (· + 1))
theorem same_some (B : List Int32) (hB : ∀ t ∈ B, (t + 1).toInt = t.toInt + 1) (c : Int32) : ∃ b ∈ samples B, Same B c b := by
  obtain ⟨b, hb, h1, h2, h3⟩ := own_max c (B ++ B.map (· + 1)) (-2147483648) (by have := Int32.le_toInt c; simpa using this)
  refine ⟨b, ?_, fun t ht => ?_⟩
  · rcases hb with rfl | hb
    · exact List.mem_cons_self ..
    · exact List.mem_cons_of_mem _ hb
  · have k1 := h3 t (List.mem_append_left _ ht)
    have k2 := h3 (t + 1) (List.mem_append_right _ (List.mem_map.mpr ⟨t, ht, rfl⟩))
    have k3 := hB t ht
    simp only [Int32.lt_iff_toInt_lt, ← Int32.toInt_inj]
    omega
end Jvm.OwnGo
namespace Jvm.OwnGo
open Sem ClassFile Op Lib Jvm.Stand Jvm.Free Jvm.LawKit Jvm.RoadKit
/-- an int array of n places, an int in each -/
def Ints (Z : State) (h : Heap) (a : Addr) (n : Nat) : Prop := ∃ cl : Cell, Arr Z h a cl .int ∧ cl.slots.size = n ∧ ∀ j, j < n → ∃ v : Int32, cl.slots[j]? = some (.int v)
/-- a place of an array of n places -/
abbrev Inb (j : Int32) (n : Nat) : Prop := ¬ (j < 0 ∨ n ≤ j.toNatClampNeg)
theorem inb_int {j : Int32} {n : Nat} (h1 : 0 ≤ j.toInt) (h2 : j.toInt < n) : Inb j n := by
  simp only [Inb, Int32.lt_iff_toInt_lt, Int32.toNatClampNeg, Int32.reduceToInt]
  omega
/-- (x & 0x7fffffff) % n lies below n -/
theorem inb_rem (x : Int32) {y : Int32} {n : Nat} (hn : 0 < n) (hy : y.toInt = n) : Inb ((x &&& 2147483647) % y) n := by
  have e1 : (x &&& 2147483647).toInt = x.toInt % 2 ^ 31 := Jvm.Kit.i32_mask x 2147483647 (k := 31) (by decide) (by decide)
  have e2 : 0 ≤ (x &&& 2147483647).toInt := by rw [e1]; exact Int.emod_nonneg _ (by decide)
  have e3 := Jvm.Kit.i32_rem_nonneg (x := x &&& 2147483647) (y := y) e2
  have e4 := Int.emod_nonneg (x &&& 2147483647).toInt (b := y.toInt) (by omega)
  have e5 := Int.emod_lt_of_pos (x &&& 2147483647).toInt (b := y.toInt) (by omega)
  exact inb_int (by omega) (by omega)
section Arrays
variable {p : Program} {l : Launch} {e : Env} {R : Room} {s : State} {m : MethodId} {args : Array Value} {below : List Frame} {meth : Method} {c : Code} {n0 : Nat} {Q : Option Value → Heap → List Loc → Prop} {h : Heap} {cells slots : Nat} {Z : State} {own nm : String} {code : ByteArray} {ret : Option FieldType} {maxL : Nat} {pc pc' pc2 : Nat} {Ls Ls' : Array Slot} {st : List Value} {a0 : Array Value}
theorem g_newI (C : Cx p s m meth c Z own nm code ret maxL) (w : (Jvm.Cond.arrayClass .int).before a0 Z = true) {n : Int32} {k : Nat} (hd : decode code pc = .ok (.newarray .int, 2)) (hn : ¬ n < 0) (hk : n.toNatClampNeg = k) (hk8 : k * 8 ≤ 536870912) (hc : cells + 1 ≤ R.cells) (hl : slots + k ≤ R.slots) (hn0 : n0 ≤ h.size) (hp : pc + 2 = pc')
    (q : ∀ h' a, n0 ≤ a → n0 ≤ h'.size → Ints Z h' a k → Go p l e R s m args below meth c n0 Q h' (cells + 1) (slots + k) (mkF m pc' Ls (.ref a :: st))) : Go p l e R s m args below meth c n0 Q h cells slots (mkF m pc Ls (.int n :: st)) := by
  intro T L X eT N
  subst hp
  obtain ⟨hx, hby, hml, hown, -, hret, hlk, hZ⟩ := id C
  obtain ⟨T1, h1, cA, X1, e1, E1, A1, st1⟩ := newP X hx hZ (aty := .int) w eT (g := mkF m pc Ls (.int n :: st)) rfl (hb hby hd) rfl hn (cap := k) (Nat.le_of_eq hk) hk8 hc hl
  obtain ⟨t, o, kk, r⟩ := q h1 h.size hn0 (Nat.le_trans hn0 E1.1) ⟨_, A1, (sz_new _ _ _).trans hk, fun j hj => ⟨0, by
    show (Array.replicate n.toNatClampNeg (defaultValue .int))[j]? = _
    rw [Array.getElem?_replicate, if_pos (by omega)]; rfl⟩⟩ T1 _ X1 e1 N
  exact ⟨t, o, st1 t kk, r⟩
theorem g_stI (C : Cx p s m meth c Z own nm code ret maxL) {a : Addr} {k : Nat} {j x : Int32} (I : Ints Z h a k) (hn0 : n0 ≤ a) (hj : Inb j k) (hd : decode code pc = .ok (.iastore, 1)) (hp : pc + 1 = pc')
    (q : ∀ h', Ints Z h' a k → Go p l e R s m args below meth c n0 Q h' cells slots (mkF m pc' Ls st)) : Go p l e R s m args below meth c n0 Q h cells slots (mkF m pc Ls (.int x :: .int j :: .ref a :: st)) := by
  intro T L X eT N
  subst hp
  obtain ⟨hx, hby, hml, hown, -, hret, hlk, hZ⟩ := id C
  obtain ⟨cl, A, S, V⟩ := I
  subst S
  obtain ⟨T1, h1, X1, e1, W1, st1⟩ := stI X hx hZ eT A (j := j) (x := x) hj (g := mkF m pc Ls (.int x :: .int j :: .ref a :: st)) rfl rfl (hb hby hd)
  obtain ⟨t, o, kk, r⟩ := q h1 ⟨_, A.same W1, sz_set _ _ _, fun i hi => by
    obtain ⟨v, hv⟩ := V i hi
    by_cases hij : j.toNatClampNeg = i
    · exact ⟨x, by subst hij; simp [Cell.setSlot, hi]⟩
    · exact ⟨v, by rw [← hv]; exact Array.getElem?_setIfInBounds_ne hij⟩⟩ T1 _ X1 e1 (Fr.snoc X1 N hn0)
  exact ⟨t, o, st1 t kk, r⟩
theorem g_ldI (C : Cx p s m meth c Z own nm code ret maxL) {a : Addr} {k : Nat} {j : Int32} (I : Ints Z h a k) (hj : Inb j k) (hd : decode code pc = .ok (.iaload, 1)) (hp : pc + 1 = pc')
    (q : ∀ v, Go p l e R s m args below meth c n0 Q h cells slots (mkF m pc' Ls (.int v :: st))) : Go p l e R s m args below meth c n0 Q h cells slots (mkF m pc Ls (.int j :: .ref a :: st)) := by
  intro T L X eT N
  subst hp
  obtain ⟨hx, hby, hml, hown, -, hret, hlk, hZ⟩ := id C
  obtain ⟨cl, A, S, V⟩ := I
  subst S
  obtain ⟨v, hv⟩ := V j.toNatClampNeg (Nat.lt_of_not_le fun y => hj (Or.inr y))
  obtain ⟨t, o, kk, r⟩ := q v T L X eT N
  exact ⟨t, o, X.iaload hx (j := j) (v := .int v) (by rw [eT]; exact A.1) (State.isArrayOf_alike hZ.alike A.2.1) A.2.2 hj hv (g := mkF m pc Ls (.int j :: .ref a :: st)) rfl rfl (hb hby hd) t kk, r⟩
theorem g_len (C : Cx p s m meth c Z own nm code ret maxL) {a : Addr} {k : Nat} (I : Ints Z h a k) (hd : decode code pc = .ok (.arraylength, 1)) (hp : pc + 1 = pc')
    (q : Go p l e R s m args below meth c n0 Q h cells slots (mkF m pc' Ls (.int k.toInt32 :: st))) : Go p l e R s m args below meth c n0 Q h cells slots (mkF m pc Ls (.ref a :: st)) := by
  intro T L X eT N
  subst hp
  obtain ⟨hx, hby, hml, hown, -, hret, hlk, hZ⟩ := id C
  obtain ⟨cl, A, S, V⟩ := I
  subst S
  obtain ⟨t, o, kk, r⟩ := q T L X eT N
  exact ⟨t, o, X.arraylength hx (by rw [eT]; exact A.1) (State.isArrayOf_alike hZ.alike A.2.1) (g := mkF m pc Ls (.ref a :: st)) rfl rfl (hb hby hd) t kk, r⟩
theorem g_iushr (C : Cx p s m meth c Z own nm code ret maxL) {x y : Int32} (hd : decode code pc = .ok (.iushr, 1)) (hp : pc + 1 = pc') (q : Go p l e R s m args below meth c n0 Q h cells slots (mkF m pc' Ls (.int (XT.ushr x y) :: st))) : Go p l e R s m args below meth c n0 Q h cells slots (mkF m pc Ls (.int y :: .int x :: st)) := by
  subst hp
  exact q.step fun T A t r => XT.iushr A C.1 rfl (hb C.2.1 hd) rfl r
end Arrays
end Jvm.OwnGo
namespace Jvm.Pilot.@@N@@
open Jvm Jvm.ClassFile Sem Op Lib Jvm.Free Jvm.Stand Jvm.LawKit Jvm.RoadKit Jvm.OwnGo Bundle Jvm.Pilot.@@N@@.Jvm.D
theorem d1_0 : decode prog_195_method_2_code 0 = .ok (.iload_n 0, 1) := by decide +kernel
theorem d1_1 : decode prog_195_method_2_code 1 = .ok (.bipush 65, 2) := by decide +kernel
theorem d1_3 : decode prog_195_method_2_code 3 = .ok (.if_icmp .lt 9, 3) := by decide +kernel
theorem d1_6 : decode prog_195_method_2_code 6 = .ok (.iload_n 0, 1) := by decide +kernel
theorem d1_7 : decode prog_195_method_2_code 7 = .ok (.bipush 90, 2) := by decide +kernel
theorem d1_9 : decode prog_195_method_2_code 9 = .ok (.if_icmp .le 176, 3) := by decide +kernel
theorem d1_12 : decode prog_195_method_2_code 12 = .ok (.iload_n 0, 1) := by decide +kernel
theorem d1_13 : decode prog_195_method_2_code 13 = .ok (.bipush 97, 2) := by decide +kernel
theorem d1_15 : decode prog_195_method_2_code 15 = .ok (.if_icmp .lt 9, 3) := by decide +kernel
theorem d1_18 : decode prog_195_method_2_code 18 = .ok (.iload_n 0, 1) := by decide +kernel
theorem d1_19 : decode prog_195_method_2_code 19 = .ok (.bipush 122, 2) := by decide +kernel
theorem d1_21 : decode prog_195_method_2_code 21 = .ok (.if_icmp .le 164, 3) := by decide +kernel
theorem d1_24 : decode prog_195_method_2_code 24 = .ok (.iload_n 0, 1) := by decide +kernel
theorem d1_25 : decode prog_195_method_2_code 25 = .ok (.sipush 192, 3) := by decide +kernel
theorem d1_28 : decode prog_195_method_2_code 28 = .ok (.if_icmp .lt 10, 3) := by decide +kernel
theorem d1_31 : decode prog_195_method_2_code 31 = .ok (.iload_n 0, 1) := by decide +kernel
theorem d1_32 : decode prog_195_method_2_code 32 = .ok (.sipush 214, 3) := by decide +kernel
theorem d1_35 : decode prog_195_method_2_code 35 = .ok (.if_icmp .le 150, 3) := by decide +kernel
theorem d1_38 : decode prog_195_method_2_code 38 = .ok (.iload_n 0, 1) := by decide +kernel
theorem d1_39 : decode prog_195_method_2_code 39 = .ok (.sipush 216, 3) := by decide +kernel
theorem d1_42 : decode prog_195_method_2_code 42 = .ok (.if_icmp .lt 10, 3) := by decide +kernel
theorem d1_45 : decode prog_195_method_2_code 45 = .ok (.iload_n 0, 1) := by decide +kernel
theorem d1_46 : decode prog_195_method_2_code 46 = .ok (.sipush 246, 3) := by decide +kernel
theorem d1_49 : decode prog_195_method_2_code 49 = .ok (.if_icmp .le 136, 3) := by decide +kernel
theorem d1_52 : decode prog_195_method_2_code 52 = .ok (.iload_n 0, 1) := by decide +kernel
theorem d1_53 : decode prog_195_method_2_code 53 = .ok (.sipush 248, 3) := by decide +kernel
theorem d1_56 : decode prog_195_method_2_code 56 = .ok (.if_icmp .lt 10, 3) := by decide +kernel
theorem d1_59 : decode prog_195_method_2_code 59 = .ok (.iload_n 0, 1) := by decide +kernel
theorem d1_60 : decode prog_195_method_2_code 60 = .ok (.sipush 767, 3) := by decide +kernel
theorem d1_63 : decode prog_195_method_2_code 63 = .ok (.if_icmp .le 122, 3) := by decide +kernel
theorem d1_66 : decode prog_195_method_2_code 66 = .ok (.iload_n 0, 1) := by decide +kernel
theorem d1_67 : decode prog_195_method_2_code 67 = .ok (.sipush 880, 3) := by decide +kernel
theorem d1_70 : decode prog_195_method_2_code 70 = .ok (.if_icmp .lt 10, 3) := by decide +kernel
theorem d1_73 : decode prog_195_method_2_code 73 = .ok (.iload_n 0, 1) := by decide +kernel
theorem d1_74 : decode prog_195_method_2_code 74 = .ok (.sipush 893, 3) := by decide +kernel
theorem d1_77 : decode prog_195_method_2_code 77 = .ok (.if_icmp .le 108, 3) := by decide +kernel
theorem d1_80 : decode prog_195_method_2_code 80 = .ok (.iload_n 0, 1) := by decide +kernel
theorem d1_81 : decode prog_195_method_2_code 81 = .ok (.sipush 895, 3) := by decide +kernel
theorem d1_84 : decode prog_195_method_2_code 84 = .ok (.if_icmp .lt 10, 3) := by decide +kernel
theorem d1_87 : decode prog_195_method_2_code 87 = .ok (.iload_n 0, 1) := by decide +kernel
theorem d1_88 : decode prog_195_method_2_code 88 = .ok (.sipush 8191, 3) := by decide +kernel
theorem d1_91 : decode prog_195_method_2_code 91 = .ok (.if_icmp .le 94, 3) := by decide +kernel
theorem d1_94 : decode prog_195_method_2_code 94 = .ok (.iload_n 0, 1) := by decide +kernel
theorem d1_95 : decode prog_195_method_2_code 95 = .ok (.sipush 8204, 3) := by decide +kernel
theorem d1_98 : decode prog_195_method_2_code 98 = .ok (.if_icmp .lt 10, 3) := by decide +kernel
theorem d1_101 : decode prog_195_method_2_code 101 = .ok (.iload_n 0, 1) := by decide +kernel
theorem d1_102 : decode prog_195_method_2_code 102 = .ok (.sipush 8205, 3) := by decide +kernel
theorem d1_105 : decode prog_195_method_2_code 105 = .ok (.if_icmp .le 80, 3) := by decide +kernel
theorem d1_108 : decode prog_195_method_2_code 108 = .ok (.iload_n 0, 1) := by decide +kernel
theorem d1_109 : decode prog_195_method_2_code 109 = .ok (.sipush 8304, 3) := by decide +kernel
theorem d1_112 : decode prog_195_method_2_code 112 = .ok (.if_icmp .lt 10, 3) := by decide +kernel
theorem d1_115 : decode prog_195_method_2_code 115 = .ok (.iload_n 0, 1) := by decide +kernel
theorem d1_116 : decode prog_195_method_2_code 116 = .ok (.sipush 8591, 3) := by decide +kernel
theorem d1_119 : decode prog_195_method_2_code 119 = .ok (.if_icmp .le 66, 3) := by decide +kernel
theorem d1_122 : decode prog_195_method_2_code 122 = .ok (.iload_n 0, 1) := by decide +kernel
theorem d1_123 : decode prog_195_method_2_code 123 = .ok (.sipush 11264, 3) := by decide +kernel
theorem d1_126 : decode prog_195_method_2_code 126 = .ok (.if_icmp .lt 10, 3) := by decide +kernel
theorem d1_129 : decode prog_195_method_2_code 129 = .ok (.iload_n 0, 1) := by decide +kernel
theorem d1_130 : decode prog_195_method_2_code 130 = .ok (.sipush 12271, 3) := by decide +kernel
theorem d1_133 : decode prog_195_method_2_code 133 = .ok (.if_icmp .le 52, 3) := by decide +kernel
theorem d1_136 : decode prog_195_method_2_code 136 = .ok (.iload_n 0, 1) := by decide +kernel
theorem d1_137 : decode prog_195_method_2_code 137 = .ok (.sipush 12289, 3) := by decide +kernel
theorem d1_140 : decode prog_195_method_2_code 140 = .ok (.if_icmp .lt 9, 3) := by decide +kernel
theorem d1_143 : decode prog_195_method_2_code 143 = .ok (.iload_n 0, 1) := by decide +kernel
theorem d1_144 : decode prog_195_method_2_code 144 = .ok (.ldc 7, 2) := by decide +kernel
theorem d1_146 : decode prog_195_method_2_code 146 = .ok (.if_icmp .le 39, 3) := by decide +kernel
theorem d1_149 : decode prog_195_method_2_code 149 = .ok (.iload_n 0, 1) := by decide +kernel
theorem d1_150 : decode prog_195_method_2_code 150 = .ok (.ldc 8, 2) := by decide +kernel
theorem d1_152 : decode prog_195_method_2_code 152 = .ok (.if_icmp .lt 9, 3) := by decide +kernel
theorem d1_155 : decode prog_195_method_2_code 155 = .ok (.iload_n 0, 1) := by decide +kernel
theorem d1_156 : decode prog_195_method_2_code 156 = .ok (.ldc 9, 2) := by decide +kernel
theorem d1_158 : decode prog_195_method_2_code 158 = .ok (.if_icmp .le 27, 3) := by decide +kernel
theorem d1_161 : decode prog_195_method_2_code 161 = .ok (.iload_n 0, 1) := by decide +kernel
theorem d1_162 : decode prog_195_method_2_code 162 = .ok (.ldc 10, 2) := by decide +kernel
theorem d1_164 : decode prog_195_method_2_code 164 = .ok (.if_icmp .lt 9, 3) := by decide +kernel
theorem d1_167 : decode prog_195_method_2_code 167 = .ok (.iload_n 0, 1) := by decide +kernel
theorem d1_168 : decode prog_195_method_2_code 168 = .ok (.ldc 11, 2) := by decide +kernel
theorem d1_170 : decode prog_195_method_2_code 170 = .ok (.if_icmp .le 15, 3) := by decide +kernel
theorem d1_173 : decode prog_195_method_2_code 173 = .ok (.iload_n 0, 1) := by decide +kernel
theorem d1_174 : decode prog_195_method_2_code 174 = .ok (.ldc 12, 2) := by decide +kernel
theorem d1_176 : decode prog_195_method_2_code 176 = .ok (.if_icmp .lt 13, 3) := by decide +kernel
theorem d1_179 : decode prog_195_method_2_code 179 = .ok (.iload_n 0, 1) := by decide +kernel
theorem d1_180 : decode prog_195_method_2_code 180 = .ok (.ldc 13, 2) := by decide +kernel
theorem d1_182 : decode prog_195_method_2_code 182 = .ok (.if_icmp .gt 7, 3) := by decide +kernel
theorem d1_185 : decode prog_195_method_2_code 185 = .ok (.iconst 1, 1) := by decide +kernel
theorem d1_186 : decode prog_195_method_2_code 186 = .ok (.goto 4, 3) := by decide +kernel
theorem d1_189 : decode prog_195_method_2_code 189 = .ok (.iconst 0, 1) := by decide +kernel
theorem d1_190 : decode prog_195_method_2_code 190 = .ok (.ireturn, 1) := by decide +kernel
def r1 : Room := { frames := 0, cells := 0, slots := 0, locals := 0 }
theorem pd1 : parseMethodDescriptor "(I)Z" = some ⟨[.int], some .boolean⟩ := by decide +kernel
theorem pn1 : plainName "com/example/knotwork/knotwork/graph/TurtleCharacters" = true := by first | (simp [plainName, overriddenIn]; done) | decide +kernel
theorem ef1 (m : MethodId) (x0 : Int32) : entryFrame m #[(.int x0)] 1 = mkF m 0 #[.val (.int x0)] [] := by first | (simp [entryFrame, mkF, argsToLocals, Value.category]; done) | rfl
def f1_189 : Int32 := (0 : Int32)
theorem j1_189 {p : Program} {l : Launch} {e : Env} {s : State} {m : MethodId} {args : Array Value} {below : List Frame} {meth : Method} {c : Code} {n0 : Nat} {H : Heap → Prop} {h : Heap} {Z : State} {a0 : Array Value} (hw : ∀ d ∈ tables_1, d.before a0 Z = true) (hH : H h) (C : Cx p s m meth c Z "com/example/knotwork/knotwork/graph/TurtleCharacters" "isNameStart" prog_195_method_2_code (some .boolean) 1) (x0 : Int32) : Go p l e r1 s m args below meth c n0 (Ret n0 H (f1_189)) h 0 0 (mkF m 189 #[.val (.int x0)] []) := by
  unfold f1_189
  refine g_iconst C d1_189 (v := (0 : Int32)) (by decide) (pc' := 190) rfl ?_
  exact g_retZ C d1_190 (by decide) hH (by decide) (by decide)
def f1_185 : Int32 := (1 : Int32)
theorem j1_185 {p : Program} {l : Launch} {e : Env} {s : State} {m : MethodId} {args : Array Value} {below : List Frame} {meth : Method} {c : Code} {n0 : Nat} {H : Heap → Prop} {h : Heap} {Z : State} {a0 : Array Value} (hw : ∀ d ∈ tables_1, d.before a0 Z = true) (hH : H h) (C : Cx p s m meth c Z "com/example/knotwork/knotwork/graph/TurtleCharacters" "isNameStart" prog_195_method_2_code (some .boolean) 1) (x0 : Int32) : Go p l e r1 s m args below meth c n0 (Ret n0 H (f1_185)) h 0 0 (mkF m 185 #[.val (.int x0)] []) := by
  unfold f1_185
  refine g_iconst C d1_185 (v := (1 : Int32)) (by decide) (pc' := 186) rfl ?_
  refine g_goto C d1_186 (by decide) (pc' := 190) (by decide) ?_
  exact g_retZ C d1_190 (by decide) hH (by decide) (by decide)
def f1_173 (x0 : Int32) : Int32 := (if x0 < (65536 : Int32) then f1_189 else (if (983039 : Int32) < x0 then f1_189 else f1_185))
theorem j1_173 {p : Program} {l : Launch} {e : Env} {s : State} {m : MethodId} {args : Array Value} {below : List Frame} {meth : Method} {c : Code} {n0 : Nat} {H : Heap → Prop} {h : Heap} {Z : State} {a0 : Array Value} (hw : ∀ d ∈ tables_1, d.before a0 Z = true) (hH : H h) (C : Cx p s m meth c Z "com/example/knotwork/knotwork/graph/TurtleCharacters" "isNameStart" prog_195_method_2_code (some .boolean) 1) (x0 : Int32) : Go p l e r1 s m args below meth c n0 (Ret n0 H (f1_173 x0)) h 0 0 (mkF m 173 #[.val (.int x0)] []) := by
  unfold f1_173
  refine g_iloadN C d1_173 rfl (pc' := 174) rfl ?_
  refine g_ldc C (v := (65536 : Int32)) (hw _ (List.mem_of_getElem? (i := 15) rfl)) d1_174 (pc' := 176) rfl ?_
  refine g_icmp C d1_176 (c_lt x0 (65536 : Int32)) (by decide) (pc2 := 189) (by decide) (pc' := 179) rfl (fun hP => Go.pos ?_ hP) (fun hP => Go.neg ?_ hP)
  · exact j1_189 hw hH C x0
  · refine g_iloadN C d1_179 rfl (pc' := 180) rfl ?_
    refine g_ldc C (v := (983039 : Int32)) (hw _ (List.mem_of_getElem? (i := 23) rfl)) d1_180 (pc' := 182) rfl ?_
    refine g_icmp C d1_182 (c_gt x0 (983039 : Int32)) (by decide) (pc2 := 189) (by decide) (pc' := 185) rfl (fun hP => Go.pos ?_ hP) (fun hP => Go.neg ?_ hP)
    · exact j1_189 hw hH C x0
    · exact j1_185 hw hH C x0
def f1_161 (x0 : Int32) : Int32 := (if x0 < (65008 : Int32) then f1_173 x0 else (if ¬ (65533 : Int32) < x0 then f1_185 else f1_173 x0))
theorem j1_161 {p : Program} {l : Launch} {e : Env} {s : State} {m : MethodId} {args : Array Value} {below : List Frame} {meth : Method} {c : Code} {n0 : Nat} {H : Heap → Prop} {h : Heap} {Z : State} {a0 : Array Value} (hw : ∀ d ∈ tables_1, d.before a0 Z = true) (hH : H h) (C : Cx p s m meth c Z "com/example/knotwork/knotwork/graph/TurtleCharacters" "isNameStart" prog_195_method_2_code (some .boolean) 1) (x0 : Int32) : Go p l e r1 s m args below meth c n0 (Ret n0 H (f1_161 x0)) h 0 0 (mkF m 161 #[.val (.int x0)] []) := by
  unfold f1_161
  refine g_iloadN C d1_161 rfl (pc' := 162) rfl ?_
  refine g_ldc C (v := (65008 : Int32)) (hw _ (List.mem_of_getElem? (i := 14) rfl)) d1_162 (pc' := 164) rfl ?_
  refine g_icmp C d1_164 (c_lt x0 (65008 : Int32)) (by decide) (pc2 := 173) (by decide) (pc' := 167) rfl (fun hP => Go.pos ?_ hP) (fun hP => Go.neg ?_ hP)
  · exact j1_173 hw hH C x0
  · refine g_iloadN C d1_167 rfl (pc' := 168) rfl ?_
    refine g_ldc C (v := (65533 : Int32)) (hw _ (List.mem_of_getElem? (i := 22) rfl)) d1_168 (pc' := 170) rfl ?_
    refine g_icmp C d1_170 (c_le x0 (65533 : Int32)) (by decide) (pc2 := 185) (by decide) (pc' := 173) rfl (fun hP => Go.pos ?_ hP) (fun hP => Go.neg ?_ hP)
    · exact j1_185 hw hH C x0
    · exact j1_173 hw hH C x0
def f1_149 (x0 : Int32) : Int32 := (if x0 < (63744 : Int32) then f1_161 x0 else (if ¬ (64975 : Int32) < x0 then f1_185 else f1_161 x0))
theorem j1_149 {p : Program} {l : Launch} {e : Env} {s : State} {m : MethodId} {args : Array Value} {below : List Frame} {meth : Method} {c : Code} {n0 : Nat} {H : Heap → Prop} {h : Heap} {Z : State} {a0 : Array Value} (hw : ∀ d ∈ tables_1, d.before a0 Z = true) (hH : H h) (C : Cx p s m meth c Z "com/example/knotwork/knotwork/graph/TurtleCharacters" "isNameStart" prog_195_method_2_code (some .boolean) 1) (x0 : Int32) : Go p l e r1 s m args below meth c n0 (Ret n0 H (f1_149 x0)) h 0 0 (mkF m 149 #[.val (.int x0)] []) := by
  unfold f1_149
  refine g_iloadN C d1_149 rfl (pc' := 150) rfl ?_
  refine g_ldc C (v := (63744 : Int32)) (hw _ (List.mem_of_getElem? (i := 13) rfl)) d1_150 (pc' := 152) rfl ?_
  refine g_icmp C d1_152 (c_lt x0 (63744 : Int32)) (by decide) (pc2 := 161) (by decide) (pc' := 155) rfl (fun hP => Go.pos ?_ hP) (fun hP => Go.neg ?_ hP)
  · exact j1_161 hw hH C x0
  · refine g_iloadN C d1_155 rfl (pc' := 156) rfl ?_
    refine g_ldc C (v := (64975 : Int32)) (hw _ (List.mem_of_getElem? (i := 21) rfl)) d1_156 (pc' := 158) rfl ?_
    refine g_icmp C d1_158 (c_le x0 (64975 : Int32)) (by decide) (pc2 := 185) (by decide) (pc' := 161) rfl (fun hP => Go.pos ?_ hP) (fun hP => Go.neg ?_ hP)
    · exact j1_185 hw hH C x0
    · exact j1_161 hw hH C x0
def f1_136 (x0 : Int32) : Int32 := (if x0 < (12289 : Int32) then f1_149 x0 else (if ¬ (55295 : Int32) < x0 then f1_185 else f1_149 x0))
theorem j1_136 {p : Program} {l : Launch} {e : Env} {s : State} {m : MethodId} {args : Array Value} {below : List Frame} {meth : Method} {c : Code} {n0 : Nat} {H : Heap → Prop} {h : Heap} {Z : State} {a0 : Array Value} (hw : ∀ d ∈ tables_1, d.before a0 Z = true) (hH : H h) (C : Cx p s m meth c Z "com/example/knotwork/knotwork/graph/TurtleCharacters" "isNameStart" prog_195_method_2_code (some .boolean) 1) (x0 : Int32) : Go p l e r1 s m args below meth c n0 (Ret n0 H (f1_136 x0)) h 0 0 (mkF m 136 #[.val (.int x0)] []) := by
  unfold f1_136
  refine g_iloadN C d1_136 rfl (pc' := 137) rfl ?_
  refine g_sipush C d1_137 (v := (12289 : Int32)) (by decide) (pc' := 140) rfl ?_
  refine g_icmp C d1_140 (c_lt x0 (12289 : Int32)) (by decide) (pc2 := 149) (by decide) (pc' := 143) rfl (fun hP => Go.pos ?_ hP) (fun hP => Go.neg ?_ hP)
  · exact j1_149 hw hH C x0
  · refine g_iloadN C d1_143 rfl (pc' := 144) rfl ?_
    refine g_ldc C (v := (55295 : Int32)) (hw _ (List.mem_of_getElem? (i := 20) rfl)) d1_144 (pc' := 146) rfl ?_
    refine g_icmp C d1_146 (c_le x0 (55295 : Int32)) (by decide) (pc2 := 185) (by decide) (pc' := 149) rfl (fun hP => Go.pos ?_ hP) (fun hP => Go.neg ?_ hP)
    · exact j1_185 hw hH C x0
    · exact j1_149 hw hH C x0
def f1_122 (x0 : Int32) : Int32 := (if x0 < (11264 : Int32) then f1_136 x0 else (if ¬ (12271 : Int32) < x0 then f1_185 else f1_136 x0))
theorem j1_122 {p : Program} {l : Launch} {e : Env} {s : State} {m : MethodId} {args : Array Value} {below : List Frame} {meth : Method} {c : Code} {n0 : Nat} {H : Heap → Prop} {h : Heap} {Z : State} {a0 : Array Value} (hw : ∀ d ∈ tables_1, d.before a0 Z = true) (hH : H h) (C : Cx p s m meth c Z "com/example/knotwork/knotwork/graph/TurtleCharacters" "isNameStart" prog_195_method_2_code (some .boolean) 1) (x0 : Int32) : Go p l e r1 s m args below meth c n0 (Ret n0 H (f1_122 x0)) h 0 0 (mkF m 122 #[.val (.int x0)] []) := by
  unfold f1_122
  refine g_iloadN C d1_122 rfl (pc' := 123) rfl ?_
  refine g_sipush C d1_123 (v := (11264 : Int32)) (by decide) (pc' := 126) rfl ?_
  refine g_icmp C d1_126 (c_lt x0 (11264 : Int32)) (by decide) (pc2 := 136) (by decide) (pc' := 129) rfl (fun hP => Go.pos ?_ hP) (fun hP => Go.neg ?_ hP)
  · exact j1_136 hw hH C x0
  · refine g_iloadN C d1_129 rfl (pc' := 130) rfl ?_
    refine g_sipush C d1_130 (v := (12271 : Int32)) (by decide) (pc' := 133) rfl ?_
    refine g_icmp C d1_133 (c_le x0 (12271 : Int32)) (by decide) (pc2 := 185) (by decide) (pc' := 136) rfl (fun hP => Go.pos ?_ hP) (fun hP => Go.neg ?_ hP)
    · exact j1_185 hw hH C x0
    · exact j1_136 hw hH C x0
def f1_108 (x0 : Int32) : Int32 := (if x0 < (8304 : Int32) then f1_122 x0 else (if ¬ (8591 : Int32) < x0 then f1_185 else f1_122 x0))
theorem j1_108 {p : Program} {l : Launch} {e : Env} {s : State} {m : MethodId} {args : Array Value} {below : List Frame} {meth : Method} {c : Code} {n0 : Nat} {H : Heap → Prop} {h : Heap} {Z : State} {a0 : Array Value} (hw : ∀ d ∈ tables_1, d.before a0 Z = true) (hH : H h) (C : Cx p s m meth c Z "com/example/knotwork/knotwork/graph/TurtleCharacters" "isNameStart" prog_195_method_2_code (some .boolean) 1) (x0 : Int32) : Go p l e r1 s m args below meth c n0 (Ret n0 H (f1_108 x0)) h 0 0 (mkF m 108 #[.val (.int x0)] []) := by
  unfold f1_108
  refine g_iloadN C d1_108 rfl (pc' := 109) rfl ?_
  refine g_sipush C d1_109 (v := (8304 : Int32)) (by decide) (pc' := 112) rfl ?_
  refine g_icmp C d1_112 (c_lt x0 (8304 : Int32)) (by decide) (pc2 := 122) (by decide) (pc' := 115) rfl (fun hP => Go.pos ?_ hP) (fun hP => Go.neg ?_ hP)
  · exact j1_122 hw hH C x0
  · refine g_iloadN C d1_115 rfl (pc' := 116) rfl ?_
    refine g_sipush C d1_116 (v := (8591 : Int32)) (by decide) (pc' := 119) rfl ?_
    refine g_icmp C d1_119 (c_le x0 (8591 : Int32)) (by decide) (pc2 := 185) (by decide) (pc' := 122) rfl (fun hP => Go.pos ?_ hP) (fun hP => Go.neg ?_ hP)
    · exact j1_185 hw hH C x0
    · exact j1_122 hw hH C x0
def f1_94 (x0 : Int32) : Int32 := (if x0 < (8204 : Int32) then f1_108 x0 else (if ¬ (8205 : Int32) < x0 then f1_185 else f1_108 x0))
theorem j1_94 {p : Program} {l : Launch} {e : Env} {s : State} {m : MethodId} {args : Array Value} {below : List Frame} {meth : Method} {c : Code} {n0 : Nat} {H : Heap → Prop} {h : Heap} {Z : State} {a0 : Array Value} (hw : ∀ d ∈ tables_1, d.before a0 Z = true) (hH : H h) (C : Cx p s m meth c Z "com/example/knotwork/knotwork/graph/TurtleCharacters" "isNameStart" prog_195_method_2_code (some .boolean) 1) (x0 : Int32) : Go p l e r1 s m args below meth c n0 (Ret n0 H (f1_94 x0)) h 0 0 (mkF m 94 #[.val (.int x0)] []) := by
  unfold f1_94
  refine g_iloadN C d1_94 rfl (pc' := 95) rfl ?_
  refine g_sipush C d1_95 (v := (8204 : Int32)) (by decide) (pc' := 98) rfl ?_
  refine g_icmp C d1_98 (c_lt x0 (8204 : Int32)) (by decide) (pc2 := 108) (by decide) (pc' := 101) rfl (fun hP => Go.pos ?_ hP) (fun hP => Go.neg ?_ hP)
  · exact j1_108 hw hH C x0
  · refine g_iloadN C d1_101 rfl (pc' := 102) rfl ?_
    refine g_sipush C d1_102 (v := (8205 : Int32)) (by decide) (pc' := 105) rfl ?_
    refine g_icmp C d1_105 (c_le x0 (8205 : Int32)) (by decide) (pc2 := 185) (by decide) (pc' := 108) rfl (fun hP => Go.pos ?_ hP) (fun hP => Go.neg ?_ hP)
    · exact j1_185 hw hH C x0
    · exact j1_108 hw hH C x0
def f1_80 (x0 : Int32) : Int32 := (if x0 < (895 : Int32) then f1_94 x0 else (if ¬ (8191 : Int32) < x0 then f1_185 else f1_94 x0))
theorem j1_80 {p : Program} {l : Launch} {e : Env} {s : State} {m : MethodId} {args : Array Value} {below : List Frame} {meth : Method} {c : Code} {n0 : Nat} {H : Heap → Prop} {h : Heap} {Z : State} {a0 : Array Value} (hw : ∀ d ∈ tables_1, d.before a0 Z = true) (hH : H h) (C : Cx p s m meth c Z "com/example/knotwork/knotwork/graph/TurtleCharacters" "isNameStart" prog_195_method_2_code (some .boolean) 1) (x0 : Int32) : Go p l e r1 s m args below meth c n0 (Ret n0 H (f1_80 x0)) h 0 0 (mkF m 80 #[.val (.int x0)] []) := by
  unfold f1_80
  refine g_iloadN C d1_80 rfl (pc' := 81) rfl ?_
  refine g_sipush C d1_81 (v := (895 : Int32)) (by decide) (pc' := 84) rfl ?_
  refine g_icmp C d1_84 (c_lt x0 (895 : Int32)) (by decide) (pc2 := 94) (by decide) (pc' := 87) rfl (fun hP => Go.pos ?_ hP) (fun hP => Go.neg ?_ hP)
  · exact j1_94 hw hH C x0
  · refine g_iloadN C d1_87 rfl (pc' := 88) rfl ?_
    refine g_sipush C d1_88 (v := (8191 : Int32)) (by decide) (pc' := 91) rfl ?_
    refine g_icmp C d1_91 (c_le x0 (8191 : Int32)) (by decide) (pc2 := 185) (by decide) (pc' := 94) rfl (fun hP => Go.pos ?_ hP) (fun hP => Go.neg ?_ hP)
    · exact j1_185 hw hH C x0
    · exact j1_94 hw hH C x0
def f1_66 (x0 : Int32) : Int32 := (if x0 < (880 : Int32) then f1_80 x0 else (if ¬ (893 : Int32) < x0 then f1_185 else f1_80 x0))
theorem j1_66 {p : Program} {l : Launch} {e : Env} {s : State} {m : MethodId} {args : Array Value} {below : List Frame} {meth : Method} {c : Code} {n0 : Nat} {H : Heap → Prop} {h : Heap} {Z : State} {a0 : Array Value} (hw : ∀ d ∈ tables_1, d.before a0 Z = true) (hH : H h) (C : Cx p s m meth c Z "com/example/knotwork/knotwork/graph/TurtleCharacters" "isNameStart" prog_195_method_2_code (some .boolean) 1) (x0 : Int32) : Go p l e r1 s m args below meth c n0 (Ret n0 H (f1_66 x0)) h 0 0 (mkF m 66 #[.val (.int x0)] []) := by
  unfold f1_66
  refine g_iloadN C d1_66 rfl (pc' := 67) rfl ?_
  refine g_sipush C d1_67 (v := (880 : Int32)) (by decide) (pc' := 70) rfl ?_
  refine g_icmp C d1_70 (c_lt x0 (880 : Int32)) (by decide) (pc2 := 80) (by decide) (pc' := 73) rfl (fun hP => Go.pos ?_ hP) (fun hP => Go.neg ?_ hP)
  · exact j1_80 hw hH C x0
  · refine g_iloadN C d1_73 rfl (pc' := 74) rfl ?_
    refine g_sipush C d1_74 (v := (893 : Int32)) (by decide) (pc' := 77) rfl ?_
    refine g_icmp C d1_77 (c_le x0 (893 : Int32)) (by decide) (pc2 := 185) (by decide) (pc' := 80) rfl (fun hP => Go.pos ?_ hP) (fun hP => Go.neg ?_ hP)
    · exact j1_185 hw hH C x0
    · exact j1_80 hw hH C x0
def f1_52 (x0 : Int32) : Int32 := (if x0 < (248 : Int32) then f1_66 x0 else (if ¬ (767 : Int32) < x0 then f1_185 else f1_66 x0))
theorem j1_52 {p : Program} {l : Launch} {e : Env} {s : State} {m : MethodId} {args : Array Value} {below : List Frame} {meth : Method} {c : Code} {n0 : Nat} {H : Heap → Prop} {h : Heap} {Z : State} {a0 : Array Value} (hw : ∀ d ∈ tables_1, d.before a0 Z = true) (hH : H h) (C : Cx p s m meth c Z "com/example/knotwork/knotwork/graph/TurtleCharacters" "isNameStart" prog_195_method_2_code (some .boolean) 1) (x0 : Int32) : Go p l e r1 s m args below meth c n0 (Ret n0 H (f1_52 x0)) h 0 0 (mkF m 52 #[.val (.int x0)] []) := by
  unfold f1_52
  refine g_iloadN C d1_52 rfl (pc' := 53) rfl ?_
  refine g_sipush C d1_53 (v := (248 : Int32)) (by decide) (pc' := 56) rfl ?_
  refine g_icmp C d1_56 (c_lt x0 (248 : Int32)) (by decide) (pc2 := 66) (by decide) (pc' := 59) rfl (fun hP => Go.pos ?_ hP) (fun hP => Go.neg ?_ hP)
  · exact j1_66 hw hH C x0
  · refine g_iloadN C d1_59 rfl (pc' := 60) rfl ?_
    refine g_sipush C d1_60 (v := (767 : Int32)) (by decide) (pc' := 63) rfl ?_
    refine g_icmp C d1_63 (c_le x0 (767 : Int32)) (by decide) (pc2 := 185) (by decide) (pc' := 66) rfl (fun hP => Go.pos ?_ hP) (fun hP => Go.neg ?_ hP)
    · exact j1_185 hw hH C x0
    · exact j1_66 hw hH C x0
def f1_38 (x0 : Int32) : Int32 := (if x0 < (216 : Int32) then f1_52 x0 else (if ¬ (246 : Int32) < x0 then f1_185 else f1_52 x0))
theorem j1_38 {p : Program} {l : Launch} {e : Env} {s : State} {m : MethodId} {args : Array Value} {below : List Frame} {meth : Method} {c : Code} {n0 : Nat} {H : Heap → Prop} {h : Heap} {Z : State} {a0 : Array Value} (hw : ∀ d ∈ tables_1, d.before a0 Z = true) (hH : H h) (C : Cx p s m meth c Z "com/example/knotwork/knotwork/graph/TurtleCharacters" "isNameStart" prog_195_method_2_code (some .boolean) 1) (x0 : Int32) : Go p l e r1 s m args below meth c n0 (Ret n0 H (f1_38 x0)) h 0 0 (mkF m 38 #[.val (.int x0)] []) := by
  unfold f1_38
  refine g_iloadN C d1_38 rfl (pc' := 39) rfl ?_
  refine g_sipush C d1_39 (v := (216 : Int32)) (by decide) (pc' := 42) rfl ?_
  refine g_icmp C d1_42 (c_lt x0 (216 : Int32)) (by decide) (pc2 := 52) (by decide) (pc' := 45) rfl (fun hP => Go.pos ?_ hP) (fun hP => Go.neg ?_ hP)
  · exact j1_52 hw hH C x0
  · refine g_iloadN C d1_45 rfl (pc' := 46) rfl ?_
    refine g_sipush C d1_46 (v := (246 : Int32)) (by decide) (pc' := 49) rfl ?_
    refine g_icmp C d1_49 (c_le x0 (246 : Int32)) (by decide) (pc2 := 185) (by decide) (pc' := 52) rfl (fun hP => Go.pos ?_ hP) (fun hP => Go.neg ?_ hP)
    · exact j1_185 hw hH C x0
    · exact j1_52 hw hH C x0
def f1_24 (x0 : Int32) : Int32 := (if x0 < (192 : Int32) then f1_38 x0 else (if ¬ (214 : Int32) < x0 then f1_185 else f1_38 x0))
theorem j1_24 {p : Program} {l : Launch} {e : Env} {s : State} {m : MethodId} {args : Array Value} {below : List Frame} {meth : Method} {c : Code} {n0 : Nat} {H : Heap → Prop} {h : Heap} {Z : State} {a0 : Array Value} (hw : ∀ d ∈ tables_1, d.before a0 Z = true) (hH : H h) (C : Cx p s m meth c Z "com/example/knotwork/knotwork/graph/TurtleCharacters" "isNameStart" prog_195_method_2_code (some .boolean) 1) (x0 : Int32) : Go p l e r1 s m args below meth c n0 (Ret n0 H (f1_24 x0)) h 0 0 (mkF m 24 #[.val (.int x0)] []) := by
  unfold f1_24
  refine g_iloadN C d1_24 rfl (pc' := 25) rfl ?_
  refine g_sipush C d1_25 (v := (192 : Int32)) (by decide) (pc' := 28) rfl ?_
  refine g_icmp C d1_28 (c_lt x0 (192 : Int32)) (by decide) (pc2 := 38) (by decide) (pc' := 31) rfl (fun hP => Go.pos ?_ hP) (fun hP => Go.neg ?_ hP)
  · exact j1_38 hw hH C x0
  · refine g_iloadN C d1_31 rfl (pc' := 32) rfl ?_
    refine g_sipush C d1_32 (v := (214 : Int32)) (by decide) (pc' := 35) rfl ?_
    refine g_icmp C d1_35 (c_le x0 (214 : Int32)) (by decide) (pc2 := 185) (by decide) (pc' := 38) rfl (fun hP => Go.pos ?_ hP) (fun hP => Go.neg ?_ hP)
    · exact j1_185 hw hH C x0
    · exact j1_38 hw hH C x0
def f1_12 (x0 : Int32) : Int32 := (if x0 < (97 : Int32) then f1_24 x0 else (if ¬ (122 : Int32) < x0 then f1_185 else f1_24 x0))
theorem j1_12 {p : Program} {l : Launch} {e : Env} {s : State} {m : MethodId} {args : Array Value} {below : List Frame} {meth : Method} {c : Code} {n0 : Nat} {H : Heap → Prop} {h : Heap} {Z : State} {a0 : Array Value} (hw : ∀ d ∈ tables_1, d.before a0 Z = true) (hH : H h) (C : Cx p s m meth c Z "com/example/knotwork/knotwork/graph/TurtleCharacters" "isNameStart" prog_195_method_2_code (some .boolean) 1) (x0 : Int32) : Go p l e r1 s m args below meth c n0 (Ret n0 H (f1_12 x0)) h 0 0 (mkF m 12 #[.val (.int x0)] []) := by
  unfold f1_12
  refine g_iloadN C d1_12 rfl (pc' := 13) rfl ?_
  refine g_bipush C d1_13 (v := (97 : Int32)) (by decide) (pc' := 15) rfl ?_
  refine g_icmp C d1_15 (c_lt x0 (97 : Int32)) (by decide) (pc2 := 24) (by decide) (pc' := 18) rfl (fun hP => Go.pos ?_ hP) (fun hP => Go.neg ?_ hP)
  · exact j1_24 hw hH C x0
  · refine g_iloadN C d1_18 rfl (pc' := 19) rfl ?_
    refine g_bipush C d1_19 (v := (122 : Int32)) (by decide) (pc' := 21) rfl ?_
    refine g_icmp C d1_21 (c_le x0 (122 : Int32)) (by decide) (pc2 := 185) (by decide) (pc' := 24) rfl (fun hP => Go.pos ?_ hP) (fun hP => Go.neg ?_ hP)
    · exact j1_185 hw hH C x0
    · exact j1_24 hw hH C x0
def f1_0 (x0 : Int32) : Int32 := (if x0 < (65 : Int32) then f1_12 x0 else (if ¬ (90 : Int32) < x0 then f1_185 else f1_12 x0))
theorem j1_0 {p : Program} {l : Launch} {e : Env} {s : State} {m : MethodId} {args : Array Value} {below : List Frame} {meth : Method} {c : Code} {n0 : Nat} {H : Heap → Prop} {h : Heap} {Z : State} {a0 : Array Value} (hw : ∀ d ∈ tables_1, d.before a0 Z = true) (hH : H h) (C : Cx p s m meth c Z "com/example/knotwork/knotwork/graph/TurtleCharacters" "isNameStart" prog_195_method_2_code (some .boolean) 1) (x0 : Int32) : Go p l e r1 s m args below meth c n0 (Ret n0 H (f1_0 x0)) h 0 0 (mkF m 0 #[.val (.int x0)] []) := by
  unfold f1_0
  refine g_iloadN C d1_0 rfl (pc' := 1) rfl ?_
  refine g_bipush C d1_1 (v := (65 : Int32)) (by decide) (pc' := 3) rfl ?_
  refine g_icmp C d1_3 (c_lt x0 (65 : Int32)) (by decide) (pc2 := 12) (by decide) (pc' := 6) rfl (fun hP => Go.pos ?_ hP) (fun hP => Go.neg ?_ hP)
  · exact j1_12 hw hH C x0
  · refine g_iloadN C d1_6 rfl (pc' := 7) rfl ?_
    refine g_bipush C d1_7 (v := (90 : Int32)) (by decide) (pc' := 9) rfl ?_
    refine g_icmp C d1_9 (c_le x0 (90 : Int32)) (by decide) (pc2 := 185) (by decide) (pc' := 12) rfl (fun hP => Go.pos ?_ hP) (fun hP => Go.neg ?_ hP)
    · exact j1_185 hw hH C x0
    · exact j1_12 hw hH C x0
theorem rm1 (l : Launch) (Z : State) (a0 : Array Value) (hw : ∀ d ∈ tables_1, d.before a0 Z = true) (ws : List Jvm.Cond) (h : Heap) (n0 : Nat) (x0 : Int32) : Con l Z (⟨"com/example/knotwork/knotwork/graph/TurtleCharacters", "isNameStart", "(I)Z"⟩ : MethodName) prog_195_method_2_code 1 (some .boolean) r1 ws #[(.int x0)] h (Ret n0 (· = h) (f1_0 x0)) :=
  con_of n0 pn1 (fun m => ef1 m x0) fun p e s m below meth c C => j1_0 (H := (· = h)) hw rfl C x0
theorem d2_0 : decode method_3_code 0 = .ok (.iload_n 0, 1) := by decide +kernel
theorem d2_1 : decode method_3_code 1 = .ok (.bipush 65, 2) := by decide +kernel
theorem d2_3 : decode method_3_code 3 = .ok (.if_icmp .lt 161, 3) := by decide +kernel
theorem d2_6 : decode method_3_code 6 = .ok (.iload_n 0, 1) := by decide +kernel
theorem d2_7 : decode method_3_code 7 = .ok (.bipush 90, 2) := by decide +kernel
theorem d2_9 : decode method_3_code 9 = .ok (.if_icmp .le 9, 3) := by decide +kernel
theorem d2_12 : decode method_3_code 12 = .ok (.iload_n 0, 1) := by decide +kernel
theorem d2_13 : decode method_3_code 13 = .ok (.bipush 97, 2) := by decide +kernel
theorem d2_15 : decode method_3_code 15 = .ok (.if_icmp .lt 149, 3) := by decide +kernel
theorem d2_18 : decode method_3_code 18 = .ok (.iload_n 0, 1) := by decide +kernel
theorem d2_19 : decode method_3_code 19 = .ok (.bipush 122, 2) := by decide +kernel
theorem d2_21 : decode method_3_code 21 = .ok (.if_icmp .le 10, 3) := by decide +kernel
theorem d2_24 : decode method_3_code 24 = .ok (.iload_n 0, 1) := by decide +kernel
theorem d2_25 : decode method_3_code 25 = .ok (.sipush 192, 3) := by decide +kernel
theorem d2_28 : decode method_3_code 28 = .ok (.if_icmp .lt 136, 3) := by decide +kernel
theorem d2_31 : decode method_3_code 31 = .ok (.iload_n 0, 1) := by decide +kernel
theorem d2_32 : decode method_3_code 32 = .ok (.sipush 215, 3) := by decide +kernel
theorem d2_35 : decode method_3_code 35 = .ok (.if_icmp .eq 129, 3) := by decide +kernel
theorem d2_38 : decode method_3_code 38 = .ok (.iload_n 0, 1) := by decide +kernel
theorem d2_39 : decode method_3_code 39 = .ok (.sipush 247, 3) := by decide +kernel
theorem d2_42 : decode method_3_code 42 = .ok (.if_icmp .eq 122, 3) := by decide +kernel
theorem d2_45 : decode method_3_code 45 = .ok (.iload_n 0, 1) := by decide +kernel
theorem d2_46 : decode method_3_code 46 = .ok (.sipush 767, 3) := by decide +kernel
theorem d2_49 : decode method_3_code 49 = .ok (.if_icmp .le 10, 3) := by decide +kernel
theorem d2_52 : decode method_3_code 52 = .ok (.iload_n 0, 1) := by decide +kernel
theorem d2_53 : decode method_3_code 53 = .ok (.sipush 880, 3) := by decide +kernel
theorem d2_56 : decode method_3_code 56 = .ok (.if_icmp .lt 108, 3) := by decide +kernel
theorem d2_59 : decode method_3_code 59 = .ok (.iload_n 0, 1) := by decide +kernel
theorem d2_60 : decode method_3_code 60 = .ok (.sipush 894, 3) := by decide +kernel
theorem d2_63 : decode method_3_code 63 = .ok (.if_icmp .eq 101, 3) := by decide +kernel
theorem d2_66 : decode method_3_code 66 = .ok (.iload_n 0, 1) := by decide +kernel
theorem d2_67 : decode method_3_code 67 = .ok (.sipush 8191, 3) := by decide +kernel
theorem d2_70 : decode method_3_code 70 = .ok (.if_icmp .le 10, 3) := by decide +kernel
theorem d2_73 : decode method_3_code 73 = .ok (.iload_n 0, 1) := by decide +kernel
theorem d2_74 : decode method_3_code 74 = .ok (.sipush 8204, 3) := by decide +kernel
theorem d2_77 : decode method_3_code 77 = .ok (.if_icmp .lt 87, 3) := by decide +kernel
theorem d2_80 : decode method_3_code 80 = .ok (.iload_n 0, 1) := by decide +kernel
theorem d2_81 : decode method_3_code 81 = .ok (.sipush 8205, 3) := by decide +kernel
theorem d2_84 : decode method_3_code 84 = .ok (.if_icmp .le 10, 3) := by decide +kernel
theorem d2_87 : decode method_3_code 87 = .ok (.iload_n 0, 1) := by decide +kernel
theorem d2_88 : decode method_3_code 88 = .ok (.sipush 8304, 3) := by decide +kernel
theorem d2_91 : decode method_3_code 91 = .ok (.if_icmp .lt 73, 3) := by decide +kernel
theorem d2_94 : decode method_3_code 94 = .ok (.iload_n 0, 1) := by decide +kernel
theorem d2_95 : decode method_3_code 95 = .ok (.sipush 8591, 3) := by decide +kernel
theorem d2_98 : decode method_3_code 98 = .ok (.if_icmp .le 10, 3) := by decide +kernel
theorem d2_101 : decode method_3_code 101 = .ok (.iload_n 0, 1) := by decide +kernel
theorem d2_102 : decode method_3_code 102 = .ok (.sipush 11264, 3) := by decide +kernel
theorem d2_105 : decode method_3_code 105 = .ok (.if_icmp .lt 59, 3) := by decide +kernel
theorem d2_108 : decode method_3_code 108 = .ok (.iload_n 0, 1) := by decide +kernel
theorem d2_109 : decode method_3_code 109 = .ok (.sipush 12271, 3) := by decide +kernel
theorem d2_112 : decode method_3_code 112 = .ok (.if_icmp .le 10, 3) := by decide +kernel
theorem d2_115 : decode method_3_code 115 = .ok (.iload_n 0, 1) := by decide +kernel
theorem d2_116 : decode method_3_code 116 = .ok (.sipush 12289, 3) := by decide +kernel
theorem d2_119 : decode method_3_code 119 = .ok (.if_icmp .lt 45, 3) := by decide +kernel
theorem d2_122 : decode method_3_code 122 = .ok (.iload_n 0, 1) := by decide +kernel
theorem d2_123 : decode method_3_code 123 = .ok (.ldc 7, 2) := by decide +kernel
theorem d2_125 : decode method_3_code 125 = .ok (.if_icmp .le 9, 3) := by decide +kernel
theorem d2_128 : decode method_3_code 128 = .ok (.iload_n 0, 1) := by decide +kernel
theorem d2_129 : decode method_3_code 129 = .ok (.ldc 8, 2) := by decide +kernel
theorem d2_131 : decode method_3_code 131 = .ok (.if_icmp .lt 33, 3) := by decide +kernel
theorem d2_134 : decode method_3_code 134 = .ok (.iload_n 0, 1) := by decide +kernel
theorem d2_135 : decode method_3_code 135 = .ok (.ldc 9, 2) := by decide +kernel
theorem d2_137 : decode method_3_code 137 = .ok (.if_icmp .le 9, 3) := by decide +kernel
theorem d2_140 : decode method_3_code 140 = .ok (.iload_n 0, 1) := by decide +kernel
theorem d2_141 : decode method_3_code 141 = .ok (.ldc 10, 2) := by decide +kernel
theorem d2_143 : decode method_3_code 143 = .ok (.if_icmp .lt 21, 3) := by decide +kernel
theorem d2_146 : decode method_3_code 146 = .ok (.iload_n 0, 1) := by decide +kernel
theorem d2_147 : decode method_3_code 147 = .ok (.ldc 11, 2) := by decide +kernel
theorem d2_149 : decode method_3_code 149 = .ok (.if_icmp .le 9, 3) := by decide +kernel
theorem d2_152 : decode method_3_code 152 = .ok (.iload_n 0, 1) := by decide +kernel
theorem d2_153 : decode method_3_code 153 = .ok (.ldc 12, 2) := by decide +kernel
theorem d2_155 : decode method_3_code 155 = .ok (.if_icmp .lt 9, 3) := by decide +kernel
theorem d2_158 : decode method_3_code 158 = .ok (.iload_n 0, 1) := by decide +kernel
theorem d2_159 : decode method_3_code 159 = .ok (.ldc 13, 2) := by decide +kernel
theorem d2_161 : decode method_3_code 161 = .ok (.if_icmp .le 7, 3) := by decide +kernel
theorem d2_164 : decode method_3_code 164 = .ok (.iconst 1, 1) := by decide +kernel
theorem d2_165 : decode method_3_code 165 = .ok (.goto 4, 3) := by decide +kernel
theorem d2_168 : decode method_3_code 168 = .ok (.iconst 0, 1) := by decide +kernel
theorem d2_169 : decode method_3_code 169 = .ok (.ireturn, 1) := by decide +kernel
def r2 : Room := { frames := 0, cells := 0, slots := 0, locals := 0 }
theorem pd2 : parseMethodDescriptor "(I)Z" = some ⟨[.int], some .boolean⟩ := by decide +kernel
theorem pn2 : plainName "com/example/knotwork/knotwork/graph/TurtleCharactersIsNameStartPinLaw" = true := by first | (simp [plainName, overriddenIn]; done) | decide +kernel
theorem ef2 (m : MethodId) (x0 : Int32) : entryFrame m #[(.int x0)] 1 = mkF m 0 #[.val (.int x0)] [] := by first | (simp [entryFrame, mkF, argsToLocals, Value.category]; done) | rfl
def f2_164 : Int32 := (1 : Int32)
theorem j2_164 {p : Program} {l : Launch} {e : Env} {s : State} {m : MethodId} {args : Array Value} {below : List Frame} {meth : Method} {c : Code} {n0 : Nat} {H : Heap → Prop} {h : Heap} {Z : State} {a0 : Array Value} (hw : ∀ d ∈ tables_1, d.before a0 Z = true) (hH : H h) (C : Cx p s m meth c Z "com/example/knotwork/knotwork/graph/TurtleCharactersIsNameStartPinLaw" "excluded" method_3_code (some .boolean) 1) (x0 : Int32) : Go p l e r2 s m args below meth c n0 (Ret n0 H (f2_164)) h 0 0 (mkF m 164 #[.val (.int x0)] []) := by
  unfold f2_164
  refine g_iconst C d2_164 (v := (1 : Int32)) (by decide) (pc' := 165) rfl ?_
  refine g_goto C d2_165 (by decide) (pc' := 169) (by decide) ?_
  exact g_retZ C d2_169 (by decide) hH (by decide) (by decide)
def f2_158 (x0 : Int32) : Int32 := (if ¬ (983039 : Int32) < x0 then (0 : Int32) else f2_164)
theorem j2_158 {p : Program} {l : Launch} {e : Env} {s : State} {m : MethodId} {args : Array Value} {below : List Frame} {meth : Method} {c : Code} {n0 : Nat} {H : Heap → Prop} {h : Heap} {Z : State} {a0 : Array Value} (hw : ∀ d ∈ tables_1, d.before a0 Z = true) (hH : H h) (C : Cx p s m meth c Z "com/example/knotwork/knotwork/graph/TurtleCharactersIsNameStartPinLaw" "excluded" method_3_code (some .boolean) 1) (x0 : Int32) : Go p l e r2 s m args below meth c n0 (Ret n0 H (f2_158 x0)) h 0 0 (mkF m 158 #[.val (.int x0)] []) := by
  unfold f2_158
  refine g_iloadN C d2_158 rfl (pc' := 159) rfl ?_
  refine g_ldc C (v := (983039 : Int32)) (hw _ (List.mem_of_getElem? (i := 7) rfl)) d2_159 (pc' := 161) rfl ?_
  refine g_icmp C d2_161 (c_le x0 (983039 : Int32)) (by decide) (pc2 := 168) (by decide) (pc' := 164) rfl (fun hP => Go.pos ?_ hP) (fun hP => Go.neg ?_ hP)
  · refine g_iconst C d2_168 (v := (0 : Int32)) (by decide) (pc' := 169) rfl ?_
    exact g_retZ C d2_169 (by decide) hH (by decide) (by decide)
  · exact j2_164 hw hH C x0
def f2_146 (x0 : Int32) : Int32 := (if ¬ (65533 : Int32) < x0 then f2_158 x0 else (if x0 < (65536 : Int32) then f2_164 else f2_158 x0))
theorem j2_146 {p : Program} {l : Launch} {e : Env} {s : State} {m : MethodId} {args : Array Value} {below : List Frame} {meth : Method} {c : Code} {n0 : Nat} {H : Heap → Prop} {h : Heap} {Z : State} {a0 : Array Value} (hw : ∀ d ∈ tables_1, d.before a0 Z = true) (hH : H h) (C : Cx p s m meth c Z "com/example/knotwork/knotwork/graph/TurtleCharactersIsNameStartPinLaw" "excluded" method_3_code (some .boolean) 1) (x0 : Int32) : Go p l e r2 s m args below meth c n0 (Ret n0 H (f2_146 x0)) h 0 0 (mkF m 146 #[.val (.int x0)] []) := by
  unfold f2_146
  refine g_iloadN C d2_146 rfl (pc' := 147) rfl ?_
  refine g_ldc C (v := (65533 : Int32)) (hw _ (List.mem_of_getElem? (i := 5) rfl)) d2_147 (pc' := 149) rfl ?_
  refine g_icmp C d2_149 (c_le x0 (65533 : Int32)) (by decide) (pc2 := 158) (by decide) (pc' := 152) rfl (fun hP => Go.pos ?_ hP) (fun hP => Go.neg ?_ hP)
  · exact j2_158 hw hH C x0
  · refine g_iloadN C d2_152 rfl (pc' := 153) rfl ?_
    refine g_ldc C (v := (65536 : Int32)) (hw _ (List.mem_of_getElem? (i := 6) rfl)) d2_153 (pc' := 155) rfl ?_
    refine g_icmp C d2_155 (c_lt x0 (65536 : Int32)) (by decide) (pc2 := 164) (by decide) (pc' := 158) rfl (fun hP => Go.pos ?_ hP) (fun hP => Go.neg ?_ hP)
    · exact j2_164 hw hH C x0
    · exact j2_158 hw hH C x0
def f2_134 (x0 : Int32) : Int32 := (if ¬ (64975 : Int32) < x0 then f2_146 x0 else (if x0 < (65008 : Int32) then f2_164 else f2_146 x0))
theorem j2_134 {p : Program} {l : Launch} {e : Env} {s : State} {m : MethodId} {args : Array Value} {below : List Frame} {meth : Method} {c : Code} {n0 : Nat} {H : Heap → Prop} {h : Heap} {Z : State} {a0 : Array Value} (hw : ∀ d ∈ tables_1, d.before a0 Z = true) (hH : H h) (C : Cx p s m meth c Z "com/example/knotwork/knotwork/graph/TurtleCharactersIsNameStartPinLaw" "excluded" method_3_code (some .boolean) 1) (x0 : Int32) : Go p l e r2 s m args below meth c n0 (Ret n0 H (f2_134 x0)) h 0 0 (mkF m 134 #[.val (.int x0)] []) := by
  unfold f2_134
  refine g_iloadN C d2_134 rfl (pc' := 135) rfl ?_
  refine g_ldc C (v := (64975 : Int32)) (hw _ (List.mem_of_getElem? (i := 3) rfl)) d2_135 (pc' := 137) rfl ?_
  refine g_icmp C d2_137 (c_le x0 (64975 : Int32)) (by decide) (pc2 := 146) (by decide) (pc' := 140) rfl (fun hP => Go.pos ?_ hP) (fun hP => Go.neg ?_ hP)
  · exact j2_146 hw hH C x0
  · refine g_iloadN C d2_140 rfl (pc' := 141) rfl ?_
    refine g_ldc C (v := (65008 : Int32)) (hw _ (List.mem_of_getElem? (i := 4) rfl)) d2_141 (pc' := 143) rfl ?_
    refine g_icmp C d2_143 (c_lt x0 (65008 : Int32)) (by decide) (pc2 := 164) (by decide) (pc' := 146) rfl (fun hP => Go.pos ?_ hP) (fun hP => Go.neg ?_ hP)
    · exact j2_164 hw hH C x0
    · exact j2_146 hw hH C x0
def f2_122 (x0 : Int32) : Int32 := (if ¬ (55295 : Int32) < x0 then f2_134 x0 else (if x0 < (63744 : Int32) then f2_164 else f2_134 x0))
theorem j2_122 {p : Program} {l : Launch} {e : Env} {s : State} {m : MethodId} {args : Array Value} {below : List Frame} {meth : Method} {c : Code} {n0 : Nat} {H : Heap → Prop} {h : Heap} {Z : State} {a0 : Array Value} (hw : ∀ d ∈ tables_1, d.before a0 Z = true) (hH : H h) (C : Cx p s m meth c Z "com/example/knotwork/knotwork/graph/TurtleCharactersIsNameStartPinLaw" "excluded" method_3_code (some .boolean) 1) (x0 : Int32) : Go p l e r2 s m args below meth c n0 (Ret n0 H (f2_122 x0)) h 0 0 (mkF m 122 #[.val (.int x0)] []) := by
  unfold f2_122
  refine g_iloadN C d2_122 rfl (pc' := 123) rfl ?_
  refine g_ldc C (v := (55295 : Int32)) (hw _ (List.mem_of_getElem? (i := 1) rfl)) d2_123 (pc' := 125) rfl ?_
  refine g_icmp C d2_125 (c_le x0 (55295 : Int32)) (by decide) (pc2 := 134) (by decide) (pc' := 128) rfl (fun hP => Go.pos ?_ hP) (fun hP => Go.neg ?_ hP)
  · exact j2_134 hw hH C x0
  · refine g_iloadN C d2_128 rfl (pc' := 129) rfl ?_
    refine g_ldc C (v := (63744 : Int32)) (hw _ (List.mem_of_getElem? (i := 2) rfl)) d2_129 (pc' := 131) rfl ?_
    refine g_icmp C d2_131 (c_lt x0 (63744 : Int32)) (by decide) (pc2 := 164) (by decide) (pc' := 134) rfl (fun hP => Go.pos ?_ hP) (fun hP => Go.neg ?_ hP)
    · exact j2_164 hw hH C x0
    · exact j2_134 hw hH C x0
def f2_108 (x0 : Int32) : Int32 := (if ¬ (12271 : Int32) < x0 then f2_122 x0 else (if x0 < (12289 : Int32) then f2_164 else f2_122 x0))
theorem j2_108 {p : Program} {l : Launch} {e : Env} {s : State} {m : MethodId} {args : Array Value} {below : List Frame} {meth : Method} {c : Code} {n0 : Nat} {H : Heap → Prop} {h : Heap} {Z : State} {a0 : Array Value} (hw : ∀ d ∈ tables_1, d.before a0 Z = true) (hH : H h) (C : Cx p s m meth c Z "com/example/knotwork/knotwork/graph/TurtleCharactersIsNameStartPinLaw" "excluded" method_3_code (some .boolean) 1) (x0 : Int32) : Go p l e r2 s m args below meth c n0 (Ret n0 H (f2_108 x0)) h 0 0 (mkF m 108 #[.val (.int x0)] []) := by
  unfold f2_108
  refine g_iloadN C d2_108 rfl (pc' := 109) rfl ?_
  refine g_sipush C d2_109 (v := (12271 : Int32)) (by decide) (pc' := 112) rfl ?_
  refine g_icmp C d2_112 (c_le x0 (12271 : Int32)) (by decide) (pc2 := 122) (by decide) (pc' := 115) rfl (fun hP => Go.pos ?_ hP) (fun hP => Go.neg ?_ hP)
  · exact j2_122 hw hH C x0
  · refine g_iloadN C d2_115 rfl (pc' := 116) rfl ?_
    refine g_sipush C d2_116 (v := (12289 : Int32)) (by decide) (pc' := 119) rfl ?_
    refine g_icmp C d2_119 (c_lt x0 (12289 : Int32)) (by decide) (pc2 := 164) (by decide) (pc' := 122) rfl (fun hP => Go.pos ?_ hP) (fun hP => Go.neg ?_ hP)
    · exact j2_164 hw hH C x0
    · exact j2_122 hw hH C x0
def f2_94 (x0 : Int32) : Int32 := (if ¬ (8591 : Int32) < x0 then f2_108 x0 else (if x0 < (11264 : Int32) then f2_164 else f2_108 x0))
theorem j2_94 {p : Program} {l : Launch} {e : Env} {s : State} {m : MethodId} {args : Array Value} {below : List Frame} {meth : Method} {c : Code} {n0 : Nat} {H : Heap → Prop} {h : Heap} {Z : State} {a0 : Array Value} (hw : ∀ d ∈ tables_1, d.before a0 Z = true) (hH : H h) (C : Cx p s m meth c Z "com/example/knotwork/knotwork/graph/TurtleCharactersIsNameStartPinLaw" "excluded" method_3_code (some .boolean) 1) (x0 : Int32) : Go p l e r2 s m args below meth c n0 (Ret n0 H (f2_94 x0)) h 0 0 (mkF m 94 #[.val (.int x0)] []) := by
  unfold f2_94
  refine g_iloadN C d2_94 rfl (pc' := 95) rfl ?_
  refine g_sipush C d2_95 (v := (8591 : Int32)) (by decide) (pc' := 98) rfl ?_
  refine g_icmp C d2_98 (c_le x0 (8591 : Int32)) (by decide) (pc2 := 108) (by decide) (pc' := 101) rfl (fun hP => Go.pos ?_ hP) (fun hP => Go.neg ?_ hP)
  · exact j2_108 hw hH C x0
  · refine g_iloadN C d2_101 rfl (pc' := 102) rfl ?_
    refine g_sipush C d2_102 (v := (11264 : Int32)) (by decide) (pc' := 105) rfl ?_
    refine g_icmp C d2_105 (c_lt x0 (11264 : Int32)) (by decide) (pc2 := 164) (by decide) (pc' := 108) rfl (fun hP => Go.pos ?_ hP) (fun hP => Go.neg ?_ hP)
    · exact j2_164 hw hH C x0
    · exact j2_108 hw hH C x0
def f2_80 (x0 : Int32) : Int32 := (if ¬ (8205 : Int32) < x0 then f2_94 x0 else (if x0 < (8304 : Int32) then f2_164 else f2_94 x0))
theorem j2_80 {p : Program} {l : Launch} {e : Env} {s : State} {m : MethodId} {args : Array Value} {below : List Frame} {meth : Method} {c : Code} {n0 : Nat} {H : Heap → Prop} {h : Heap} {Z : State} {a0 : Array Value} (hw : ∀ d ∈ tables_1, d.before a0 Z = true) (hH : H h) (C : Cx p s m meth c Z "com/example/knotwork/knotwork/graph/TurtleCharactersIsNameStartPinLaw" "excluded" method_3_code (some .boolean) 1) (x0 : Int32) : Go p l e r2 s m args below meth c n0 (Ret n0 H (f2_80 x0)) h 0 0 (mkF m 80 #[.val (.int x0)] []) := by
  unfold f2_80
  refine g_iloadN C d2_80 rfl (pc' := 81) rfl ?_
  refine g_sipush C d2_81 (v := (8205 : Int32)) (by decide) (pc' := 84) rfl ?_
  refine g_icmp C d2_84 (c_le x0 (8205 : Int32)) (by decide) (pc2 := 94) (by decide) (pc' := 87) rfl (fun hP => Go.pos ?_ hP) (fun hP => Go.neg ?_ hP)
  · exact j2_94 hw hH C x0
  · refine g_iloadN C d2_87 rfl (pc' := 88) rfl ?_
    refine g_sipush C d2_88 (v := (8304 : Int32)) (by decide) (pc' := 91) rfl ?_
    refine g_icmp C d2_91 (c_lt x0 (8304 : Int32)) (by decide) (pc2 := 164) (by decide) (pc' := 94) rfl (fun hP => Go.pos ?_ hP) (fun hP => Go.neg ?_ hP)
    · exact j2_164 hw hH C x0
    · exact j2_94 hw hH C x0
def f2_59 (x0 : Int32) : Int32 := (if x0 = (894 : Int32) then f2_164 else (if ¬ (8191 : Int32) < x0 then f2_80 x0 else (if x0 < (8204 : Int32) then f2_164 else f2_80 x0)))
theorem j2_59 {p : Program} {l : Launch} {e : Env} {s : State} {m : MethodId} {args : Array Value} {below : List Frame} {meth : Method} {c : Code} {n0 : Nat} {H : Heap → Prop} {h : Heap} {Z : State} {a0 : Array Value} (hw : ∀ d ∈ tables_1, d.before a0 Z = true) (hH : H h) (C : Cx p s m meth c Z "com/example/knotwork/knotwork/graph/TurtleCharactersIsNameStartPinLaw" "excluded" method_3_code (some .boolean) 1) (x0 : Int32) : Go p l e r2 s m args below meth c n0 (Ret n0 H (f2_59 x0)) h 0 0 (mkF m 59 #[.val (.int x0)] []) := by
  unfold f2_59
  refine g_iloadN C d2_59 rfl (pc' := 60) rfl ?_
  refine g_sipush C d2_60 (v := (894 : Int32)) (by decide) (pc' := 63) rfl ?_
  refine g_icmp C d2_63 (c_eq x0 (894 : Int32)) (by decide) (pc2 := 164) (by decide) (pc' := 66) rfl (fun hP => Go.pos ?_ hP) (fun hP => Go.neg ?_ hP)
  · exact j2_164 hw hH C x0
  · refine g_iloadN C d2_66 rfl (pc' := 67) rfl ?_
    refine g_sipush C d2_67 (v := (8191 : Int32)) (by decide) (pc' := 70) rfl ?_
    refine g_icmp C d2_70 (c_le x0 (8191 : Int32)) (by decide) (pc2 := 80) (by decide) (pc' := 73) rfl (fun hP => Go.pos ?_ hP) (fun hP => Go.neg ?_ hP)
    · exact j2_80 hw hH C x0
    · refine g_iloadN C d2_73 rfl (pc' := 74) rfl ?_
      refine g_sipush C d2_74 (v := (8204 : Int32)) (by decide) (pc' := 77) rfl ?_
      refine g_icmp C d2_77 (c_lt x0 (8204 : Int32)) (by decide) (pc2 := 164) (by decide) (pc' := 80) rfl (fun hP => Go.pos ?_ hP) (fun hP => Go.neg ?_ hP)
      · exact j2_164 hw hH C x0
      · exact j2_80 hw hH C x0
def f2_31 (x0 : Int32) : Int32 := (if x0 = (215 : Int32) then f2_164 else (if x0 = (247 : Int32) then f2_164 else (if ¬ (767 : Int32) < x0 then f2_59 x0 else (if x0 < (880 : Int32) then f2_164 else f2_59 x0))))
theorem j2_31 {p : Program} {l : Launch} {e : Env} {s : State} {m : MethodId} {args : Array Value} {below : List Frame} {meth : Method} {c : Code} {n0 : Nat} {H : Heap → Prop} {h : Heap} {Z : State} {a0 : Array Value} (hw : ∀ d ∈ tables_1, d.before a0 Z = true) (hH : H h) (C : Cx p s m meth c Z "com/example/knotwork/knotwork/graph/TurtleCharactersIsNameStartPinLaw" "excluded" method_3_code (some .boolean) 1) (x0 : Int32) : Go p l e r2 s m args below meth c n0 (Ret n0 H (f2_31 x0)) h 0 0 (mkF m 31 #[.val (.int x0)] []) := by
  unfold f2_31
  refine g_iloadN C d2_31 rfl (pc' := 32) rfl ?_
  refine g_sipush C d2_32 (v := (215 : Int32)) (by decide) (pc' := 35) rfl ?_
  refine g_icmp C d2_35 (c_eq x0 (215 : Int32)) (by decide) (pc2 := 164) (by decide) (pc' := 38) rfl (fun hP => Go.pos ?_ hP) (fun hP => Go.neg ?_ hP)
  · exact j2_164 hw hH C x0
  · refine g_iloadN C d2_38 rfl (pc' := 39) rfl ?_
    refine g_sipush C d2_39 (v := (247 : Int32)) (by decide) (pc' := 42) rfl ?_
    refine g_icmp C d2_42 (c_eq x0 (247 : Int32)) (by decide) (pc2 := 164) (by decide) (pc' := 45) rfl (fun hP => Go.pos ?_ hP) (fun hP => Go.neg ?_ hP)
    · exact j2_164 hw hH C x0
    · refine g_iloadN C d2_45 rfl (pc' := 46) rfl ?_
      refine g_sipush C d2_46 (v := (767 : Int32)) (by decide) (pc' := 49) rfl ?_
      refine g_icmp C d2_49 (c_le x0 (767 : Int32)) (by decide) (pc2 := 59) (by decide) (pc' := 52) rfl (fun hP => Go.pos ?_ hP) (fun hP => Go.neg ?_ hP)
      · exact j2_59 hw hH C x0
      · refine g_iloadN C d2_52 rfl (pc' := 53) rfl ?_
        refine g_sipush C d2_53 (v := (880 : Int32)) (by decide) (pc' := 56) rfl ?_
        refine g_icmp C d2_56 (c_lt x0 (880 : Int32)) (by decide) (pc2 := 164) (by decide) (pc' := 59) rfl (fun hP => Go.pos ?_ hP) (fun hP => Go.neg ?_ hP)
        · exact j2_164 hw hH C x0
        · exact j2_59 hw hH C x0
def f2_18 (x0 : Int32) : Int32 := (if ¬ (122 : Int32) < x0 then f2_31 x0 else (if x0 < (192 : Int32) then f2_164 else f2_31 x0))
theorem j2_18 {p : Program} {l : Launch} {e : Env} {s : State} {m : MethodId} {args : Array Value} {below : List Frame} {meth : Method} {c : Code} {n0 : Nat} {H : Heap → Prop} {h : Heap} {Z : State} {a0 : Array Value} (hw : ∀ d ∈ tables_1, d.before a0 Z = true) (hH : H h) (C : Cx p s m meth c Z "com/example/knotwork/knotwork/graph/TurtleCharactersIsNameStartPinLaw" "excluded" method_3_code (some .boolean) 1) (x0 : Int32) : Go p l e r2 s m args below meth c n0 (Ret n0 H (f2_18 x0)) h 0 0 (mkF m 18 #[.val (.int x0)] []) := by
  unfold f2_18
  refine g_iloadN C d2_18 rfl (pc' := 19) rfl ?_
  refine g_bipush C d2_19 (v := (122 : Int32)) (by decide) (pc' := 21) rfl ?_
  refine g_icmp C d2_21 (c_le x0 (122 : Int32)) (by decide) (pc2 := 31) (by decide) (pc' := 24) rfl (fun hP => Go.pos ?_ hP) (fun hP => Go.neg ?_ hP)
  · exact j2_31 hw hH C x0
  · refine g_iloadN C d2_24 rfl (pc' := 25) rfl ?_
    refine g_sipush C d2_25 (v := (192 : Int32)) (by decide) (pc' := 28) rfl ?_
    refine g_icmp C d2_28 (c_lt x0 (192 : Int32)) (by decide) (pc2 := 164) (by decide) (pc' := 31) rfl (fun hP => Go.pos ?_ hP) (fun hP => Go.neg ?_ hP)
    · exact j2_164 hw hH C x0
    · exact j2_31 hw hH C x0
def f2_0 (x0 : Int32) : Int32 := (if x0 < (65 : Int32) then f2_164 else (if ¬ (90 : Int32) < x0 then f2_18 x0 else (if x0 < (97 : Int32) then f2_164 else f2_18 x0)))
theorem j2_0 {p : Program} {l : Launch} {e : Env} {s : State} {m : MethodId} {args : Array Value} {below : List Frame} {meth : Method} {c : Code} {n0 : Nat} {H : Heap → Prop} {h : Heap} {Z : State} {a0 : Array Value} (hw : ∀ d ∈ tables_1, d.before a0 Z = true) (hH : H h) (C : Cx p s m meth c Z "com/example/knotwork/knotwork/graph/TurtleCharactersIsNameStartPinLaw" "excluded" method_3_code (some .boolean) 1) (x0 : Int32) : Go p l e r2 s m args below meth c n0 (Ret n0 H (f2_0 x0)) h 0 0 (mkF m 0 #[.val (.int x0)] []) := by
  unfold f2_0
  refine g_iloadN C d2_0 rfl (pc' := 1) rfl ?_
  refine g_bipush C d2_1 (v := (65 : Int32)) (by decide) (pc' := 3) rfl ?_
  refine g_icmp C d2_3 (c_lt x0 (65 : Int32)) (by decide) (pc2 := 164) (by decide) (pc' := 6) rfl (fun hP => Go.pos ?_ hP) (fun hP => Go.neg ?_ hP)
  · exact j2_164 hw hH C x0
  · refine g_iloadN C d2_6 rfl (pc' := 7) rfl ?_
    refine g_bipush C d2_7 (v := (90 : Int32)) (by decide) (pc' := 9) rfl ?_
    refine g_icmp C d2_9 (c_le x0 (90 : Int32)) (by decide) (pc2 := 18) (by decide) (pc' := 12) rfl (fun hP => Go.pos ?_ hP) (fun hP => Go.neg ?_ hP)
    · exact j2_18 hw hH C x0
    · refine g_iloadN C d2_12 rfl (pc' := 13) rfl ?_
      refine g_bipush C d2_13 (v := (97 : Int32)) (by decide) (pc' := 15) rfl ?_
      refine g_icmp C d2_15 (c_lt x0 (97 : Int32)) (by decide) (pc2 := 164) (by decide) (pc' := 18) rfl (fun hP => Go.pos ?_ hP) (fun hP => Go.neg ?_ hP)
      · exact j2_164 hw hH C x0
      · exact j2_18 hw hH C x0
theorem rm2 (l : Launch) (Z : State) (a0 : Array Value) (hw : ∀ d ∈ tables_1, d.before a0 Z = true) (ws : List Jvm.Cond) (h : Heap) (n0 : Nat) (x0 : Int32) : Con l Z (⟨"com/example/knotwork/knotwork/graph/TurtleCharactersIsNameStartPinLaw", "excluded", "(I)Z"⟩ : MethodName) method_3_code 1 (some .boolean) r2 ws #[(.int x0)] h (Ret n0 (· = h) (f2_0 x0)) :=
  con_of n0 pn2 (fun m => ef2 m x0) fun p e s m below meth c C => j2_0 (H := (· = h)) hw rfl C x0
def own_B : List Int32 := [0, 1, 65, 90, 97, 122, 192, 214, 215, 216, 246, 247, 248, 767, 880, 893, 894, 895, 8191, 8204, 8205, 8304, 8591, 11264, 12271, 12289, 55295, 63744, 64975, 65008, 65533, 65536, 983039]
theorem own_B1 : ∀ t ∈ own_B, (t + 1).toInt = t.toInt + 1 := by decide +kernel
theorem fc1_173 {c b : Int32} (S : Same own_B c b) : f1_173 c = f1_173 b := by
  have t31 := S _ (List.mem_of_getElem? (i := 31) rfl)
  have t32 := S _ (List.mem_of_getElem? (i := 32) rfl)
  simp only [f1_173, t31.1, t31.2.1, t31.2.2, t32.1, t32.2.1, t32.2.2]
theorem fc1_161 {c b : Int32} (S : Same own_B c b) : f1_161 c = f1_161 b := by
  have t29 := S _ (List.mem_of_getElem? (i := 29) rfl)
  have t30 := S _ (List.mem_of_getElem? (i := 30) rfl)
  simp only [f1_161, t29.1, t29.2.1, t29.2.2, t30.1, t30.2.1, t30.2.2, fc1_173 S]
theorem fc1_149 {c b : Int32} (S : Same own_B c b) : f1_149 c = f1_149 b := by
  have t27 := S _ (List.mem_of_getElem? (i := 27) rfl)
  have t28 := S _ (List.mem_of_getElem? (i := 28) rfl)
  simp only [f1_149, t27.1, t27.2.1, t27.2.2, t28.1, t28.2.1, t28.2.2, fc1_161 S]
theorem fc1_136 {c b : Int32} (S : Same own_B c b) : f1_136 c = f1_136 b := by
  have t25 := S _ (List.mem_of_getElem? (i := 25) rfl)
  have t26 := S _ (List.mem_of_getElem? (i := 26) rfl)
  simp only [f1_136, t25.1, t25.2.1, t25.2.2, t26.1, t26.2.1, t26.2.2, fc1_149 S]
theorem fc1_122 {c b : Int32} (S : Same own_B c b) : f1_122 c = f1_122 b := by
  have t23 := S _ (List.mem_of_getElem? (i := 23) rfl)
  have t24 := S _ (List.mem_of_getElem? (i := 24) rfl)
  simp only [f1_122, t23.1, t23.2.1, t23.2.2, t24.1, t24.2.1, t24.2.2, fc1_136 S]
theorem fc1_108 {c b : Int32} (S : Same own_B c b) : f1_108 c = f1_108 b := by
  have t21 := S _ (List.mem_of_getElem? (i := 21) rfl)
  have t22 := S _ (List.mem_of_getElem? (i := 22) rfl)
  simp only [f1_108, t21.1, t21.2.1, t21.2.2, t22.1, t22.2.1, t22.2.2, fc1_122 S]
theorem fc1_94 {c b : Int32} (S : Same own_B c b) : f1_94 c = f1_94 b := by
  have t19 := S _ (List.mem_of_getElem? (i := 19) rfl)
  have t20 := S _ (List.mem_of_getElem? (i := 20) rfl)
  simp only [f1_94, t19.1, t19.2.1, t19.2.2, t20.1, t20.2.1, t20.2.2, fc1_108 S]
theorem fc1_80 {c b : Int32} (S : Same own_B c b) : f1_80 c = f1_80 b := by
  have t17 := S _ (List.mem_of_getElem? (i := 17) rfl)
  have t18 := S _ (List.mem_of_getElem? (i := 18) rfl)
  simp only [f1_80, t17.1, t17.2.1, t17.2.2, t18.1, t18.2.1, t18.2.2, fc1_94 S]
theorem fc1_66 {c b : Int32} (S : Same own_B c b) : f1_66 c = f1_66 b := by
  have t14 := S _ (List.mem_of_getElem? (i := 14) rfl)
  have t15 := S _ (List.mem_of_getElem? (i := 15) rfl)
  simp only [f1_66, t14.1, t14.2.1, t14.2.2, t15.1, t15.2.1, t15.2.2, fc1_80 S]
theorem fc1_52 {c b : Int32} (S : Same own_B c b) : f1_52 c = f1_52 b := by
  have t12 := S _ (List.mem_of_getElem? (i := 12) rfl)
  have t13 := S _ (List.mem_of_getElem? (i := 13) rfl)
  simp only [f1_52, t12.1, t12.2.1, t12.2.2, t13.1, t13.2.1, t13.2.2, fc1_66 S]
theorem fc1_38 {c b : Int32} (S : Same own_B c b) : f1_38 c = f1_38 b := by
  have t9 := S _ (List.mem_of_getElem? (i := 9) rfl)
  have t10 := S _ (List.mem_of_getElem? (i := 10) rfl)
  simp only [f1_38, t9.1, t9.2.1, t9.2.2, t10.1, t10.2.1, t10.2.2, fc1_52 S]
theorem fc1_24 {c b : Int32} (S : Same own_B c b) : f1_24 c = f1_24 b := by
  have t6 := S _ (List.mem_of_getElem? (i := 6) rfl)
  have t7 := S _ (List.mem_of_getElem? (i := 7) rfl)
  simp only [f1_24, t6.1, t6.2.1, t6.2.2, t7.1, t7.2.1, t7.2.2, fc1_38 S]
theorem fc1_12 {c b : Int32} (S : Same own_B c b) : f1_12 c = f1_12 b := by
  have t4 := S _ (List.mem_of_getElem? (i := 4) rfl)
  have t5 := S _ (List.mem_of_getElem? (i := 5) rfl)
  simp only [f1_12, t4.1, t4.2.1, t4.2.2, t5.1, t5.2.1, t5.2.2, fc1_24 S]
theorem fc1_0 {c b : Int32} (S : Same own_B c b) : f1_0 c = f1_0 b := by
  have t2 := S _ (List.mem_of_getElem? (i := 2) rfl)
  have t3 := S _ (List.mem_of_getElem? (i := 3) rfl)
  simp only [f1_0, t2.1, t2.2.1, t2.2.2, t3.1, t3.2.1, t3.2.2, fc1_12 S]
theorem fc2_158 {c b : Int32} (S : Same own_B c b) : f2_158 c = f2_158 b := by
  have t0 := S _ (List.mem_of_getElem? (i := 0) rfl)
  have t32 := S _ (List.mem_of_getElem? (i := 32) rfl)
  simp only [f2_158, t0.1, t0.2.1, t0.2.2, t32.1, t32.2.1, t32.2.2]
theorem fc2_146 {c b : Int32} (S : Same own_B c b) : f2_146 c = f2_146 b := by
  have t30 := S _ (List.mem_of_getElem? (i := 30) rfl)
  have t31 := S _ (List.mem_of_getElem? (i := 31) rfl)
  simp only [f2_146, t30.1, t30.2.1, t30.2.2, t31.1, t31.2.1, t31.2.2, fc2_158 S]
theorem fc2_134 {c b : Int32} (S : Same own_B c b) : f2_134 c = f2_134 b := by
  have t28 := S _ (List.mem_of_getElem? (i := 28) rfl)
  have t29 := S _ (List.mem_of_getElem? (i := 29) rfl)
  simp only [f2_134, t28.1, t28.2.1, t28.2.2, t29.1, t29.2.1, t29.2.2, fc2_146 S]
theorem fc2_122 {c b : Int32} (S : Same own_B c b) : f2_122 c = f2_122 b := by
  have t26 := S _ (List.mem_of_getElem? (i := 26) rfl)
  have t27 := S _ (List.mem_of_getElem? (i := 27) rfl)
  simp only [f2_122, t26.1, t26.2.1, t26.2.2, t27.1, t27.2.1, t27.2.2, fc2_134 S]
theorem fc2_108 {c b : Int32} (S : Same own_B c b) : f2_108 c = f2_108 b := by
  have t24 := S _ (List.mem_of_getElem? (i := 24) rfl)
  have t25 := S _ (List.mem_of_getElem? (i := 25) rfl)
  simp only [f2_108, t24.1, t24.2.1, t24.2.2, t25.1, t25.2.1, t25.2.2, fc2_122 S]
theorem fc2_94 {c b : Int32} (S : Same own_B c b) : f2_94 c = f2_94 b := by
  have t22 := S _ (List.mem_of_getElem? (i := 22) rfl)
  have t23 := S _ (List.mem_of_getElem? (i := 23) rfl)
  simp only [f2_94, t22.1, t22.2.1, t22.2.2, t23.1, t23.2.1, t23.2.2, fc2_108 S]
theorem fc2_80 {c b : Int32} (S : Same own_B c b) : f2_80 c = f2_80 b := by
  have t20 := S _ (List.mem_of_getElem? (i := 20) rfl)
  have t21 := S _ (List.mem_of_getElem? (i := 21) rfl)
  simp only [f2_80, t20.1, t20.2.1, t20.2.2, t21.1, t21.2.1, t21.2.2, fc2_94 S]
theorem fc2_59 {c b : Int32} (S : Same own_B c b) : f2_59 c = f2_59 b := by
  have t16 := S _ (List.mem_of_getElem? (i := 16) rfl)
  have t18 := S _ (List.mem_of_getElem? (i := 18) rfl)
  have t19 := S _ (List.mem_of_getElem? (i := 19) rfl)
  simp only [f2_59, t16.1, t16.2.1, t16.2.2, t18.1, t18.2.1, t18.2.2, t19.1, t19.2.1, t19.2.2, fc2_80 S]
theorem fc2_31 {c b : Int32} (S : Same own_B c b) : f2_31 c = f2_31 b := by
  have t8 := S _ (List.mem_of_getElem? (i := 8) rfl)
  have t11 := S _ (List.mem_of_getElem? (i := 11) rfl)
  have t13 := S _ (List.mem_of_getElem? (i := 13) rfl)
  have t14 := S _ (List.mem_of_getElem? (i := 14) rfl)
  simp only [f2_31, t8.1, t8.2.1, t8.2.2, t11.1, t11.2.1, t11.2.2, t13.1, t13.2.1, t13.2.2, t14.1, t14.2.1, t14.2.2, fc2_59 S]
theorem fc2_18 {c b : Int32} (S : Same own_B c b) : f2_18 c = f2_18 b := by
  have t5 := S _ (List.mem_of_getElem? (i := 5) rfl)
  have t6 := S _ (List.mem_of_getElem? (i := 6) rfl)
  simp only [f2_18, t5.1, t5.2.1, t5.2.2, t6.1, t6.2.1, t6.2.2, fc2_31 S]
theorem fc2_0 {c b : Int32} (S : Same own_B c b) : f2_0 c = f2_0 b := by
  have t2 := S _ (List.mem_of_getElem? (i := 2) rfl)
  have t3 := S _ (List.mem_of_getElem? (i := 3) rfl)
  have t4 := S _ (List.mem_of_getElem? (i := 4) rfl)
  simp only [f2_0, t2.1, t2.2.1, t2.2.2, t3.1, t3.2.1, t3.2.2, t4.1, t4.2.1, t4.2.2, fc2_18 S]
set_option maxRecDepth 65536 in
theorem own_chk : ∀ c ∈ samples own_B, f1_0 c = (if f2_0 c = 0 then 1 else 0) := by decide +kernel
theorem own_law (c : Int32) : f1_0 c = (if f2_0 c = 0 then 1 else 0) := by
  obtain ⟨b, hb, S⟩ := same_some own_B own_B1 c
  rw [fc1_0 S, fc2_0 S]
  exact own_chk b hb
theorem pn0 : plainName "com/example/knotwork/knotwork/graph/TurtleCharactersIsNameStartPinLaw" = true := by first | (simp [plainName, overriddenIn]; done) | decide +kernel
theorem ef0 (m : MethodId) (x0 x1 x2 : Int32) : entryFrame m #[(.int x0), (.int x1), (.int x2)] maxLocals = mkF m 0 #[.val (.int x0), .val (.int x1), .val (.int x2), .unset, .unset, .unset, .unset] [] := by first | (simp [entryFrame, mkF, argsToLocals, Value.category, maxLocals]; done) | rfl
def f0_272 : Int32 := (0 : Int32)
theorem j0_272 {p : Program} {l : Launch} {e : Env} {s : State} {m : MethodId} {args : Array Value} {below : List Frame} {meth : Method} {c : Code} {n0 : Nat} {H : Heap → Prop} {h : Heap} {Z : State} {a0 : Array Value} (hw : ∀ d ∈ tables_1, d.before a0 Z = true) (hH : H h) (C : Cx p s m meth c Z "com/example/knotwork/knotwork/graph/TurtleCharactersIsNameStartPinLaw" "law" code (some .boolean) 7) (x0 : Int32) (x1 : Int32) (x2 : Int32) (a3 : Addr) (x4 : Int32) (x5 : Int32) (x6 : Int32) : Go p l e room_1 s m args below meth c n0 (Ret n0 H (f0_272)) h 1 28 (mkF m 272 #[.val (.int x0), .val (.int x1), .val (.int x2), .val (.ref a3), .val (.int x4), .val (.int x5), .val (.int x6)] []) := by
  unfold f0_272
  refine g_iconst C at_272 (v := (0 : Int32)) (by decide) (pc' := 273) rfl ?_
  exact g_retZ C at_273 (by decide) hH (by decide) (by decide)
def f0_256 (x5 y0 : Int32) : Int32 := (if x5 = (0 : Int32) then f0_272 else (if y0 = (0 : Int32) then f0_272 else (1 : Int32)))
theorem j0_256 {p : Program} {l : Launch} {e : Env} {s : State} {m : MethodId} {args : Array Value} {below : List Frame} {meth : Method} {c : Code} {n0 : Nat} {H : Heap → Prop} {h : Heap} {Z : State} {a0 : Array Value} (hw : ∀ d ∈ tables_1, d.before a0 Z = true) (hH : H h) (C : Cx p s m meth c Z "com/example/knotwork/knotwork/graph/TurtleCharactersIsNameStartPinLaw" "law" code (some .boolean) 7) (x0 : Int32) (x1 : Int32) (x2 : Int32) (a3 : Addr) (x4 : Int32) (x5 : Int32) (y0 : Int32) : Go p l e room_1 s m args below meth c n0 (Ret n0 H (f0_256 x5 y0)) h 1 28 (mkF m 256 #[.val (.int x0), .val (.int x1), .val (.int x2), .val (.ref a3), .val (.int x4), .val (.int x5), .unset] [(.int y0)]) := by
  unfold f0_256
  refine g_istore C at_256 (Ls' := #[.val (.int x0), .val (.int x1), .val (.int x2), .val (.ref a3), .val (.int x4), .val (.int x5), .val (.int y0)]) rfl (pc' := 258) rfl ?_
  refine g_iload C at_258 rfl (pc' := 260) rfl ?_
  refine g_if C at_260 (c_eq x5 (0 : Int32)) (by decide) (pc2 := 272) (by decide) (pc' := 263) rfl (fun hP => Go.pos ?_ hP) (fun hP => Go.neg ?_ hP)
  · exact j0_272 hw hH C x0 x1 x2 a3 x4 x5 y0
  · refine g_iload C at_263 rfl (pc' := 265) rfl ?_
    refine g_if C at_265 (c_eq y0 (0 : Int32)) (by decide) (pc2 := 272) (by decide) (pc' := 268) rfl (fun hP => Go.pos ?_ hP) (fun hP => Go.neg ?_ hP)
    · exact j0_272 hw hH C x0 x1 x2 a3 x4 x5 y0
    · refine g_iconst C at_268 (v := (1 : Int32)) (by decide) (pc' := 269) rfl ?_
      refine g_goto C at_269 (by decide) (pc' := 273) (by decide) ?_
      exact g_retZ C at_273 (by decide) hH (by decide) (by decide)
def f0_248 (x5 y0 y1 : Int32) : Int32 := (if ¬ y1 = y0 then f0_256 x5 (0 : Int32) else f0_256 x5 (1 : Int32))
theorem j0_248 {p : Program} {l : Launch} {e : Env} {s : State} {m : MethodId} {args : Array Value} {below : List Frame} {meth : Method} {c : Code} {n0 : Nat} {H : Heap → Prop} {h : Heap} {Z : State} {a0 : Array Value} (hw : ∀ d ∈ tables_1, d.before a0 Z = true) (hH : H h) (C : Cx p s m meth c Z "com/example/knotwork/knotwork/graph/TurtleCharactersIsNameStartPinLaw" "law" code (some .boolean) 7) (x0 : Int32) (x1 : Int32) (x2 : Int32) (a3 : Addr) (x4 : Int32) (x5 : Int32) (y0 : Int32) (y1 : Int32) : Go p l e room_1 s m args below meth c n0 (Ret n0 H (f0_248 x5 y0 y1)) h 1 28 (mkF m 248 #[.val (.int x0), .val (.int x1), .val (.int x2), .val (.ref a3), .val (.int x4), .val (.int x5), .unset] [(.int y0), (.int y1)]) := by
  unfold f0_248
  refine g_icmp C at_248 (c_ne y1 y0) (by decide) (pc2 := 255) (by decide) (pc' := 251) rfl (fun hP => Go.pos ?_ hP) (fun hP => Go.neg ?_ hP)
  · refine g_iconst C at_255 (v := (0 : Int32)) (by decide) (pc' := 256) rfl ?_
    exact j0_256 hw hH C x0 x1 x2 a3 x4 x5 (0 : Int32)
  · refine g_iconst C at_251 (v := (1 : Int32)) (by decide) (pc' := 252) rfl ?_
    refine g_goto C at_252 (by decide) (pc' := 256) (by decide) ?_
    exact j0_256 hw hH C x0 x1 x2 a3 x4 x5 (1 : Int32)
def f0_228 (x4 y0 : Int32) : Int32 := (if ¬ (f2_0 x4) = (0 : Int32) then f0_248 y0 (0 : Int32) (f1_0 x4) else f0_248 y0 (1 : Int32) (f1_0 x4))
theorem j0_228 {p : Program} {l : Launch} {e : Env} {s : State} {m : MethodId} {args : Array Value} {below : List Frame} {meth : Method} {c : Code} {n0 : Nat} {H : Heap → Prop} {h : Heap} {Z : State} {a0 : Array Value} (hw : ∀ d ∈ tables_1, d.before a0 Z = true) (hH : H h) (C : Cx p s m meth c Z "com/example/knotwork/knotwork/graph/TurtleCharactersIsNameStartPinLaw" "law" code (some .boolean) 7) (x0 : Int32) (x1 : Int32) (x2 : Int32) (a3 : Addr) (x4 : Int32) (y0 : Int32) : Go p l e room_1 s m args below meth c n0 (Ret n0 H (f0_228 x4 y0)) h 1 28 (mkF m 228 #[.val (.int x0), .val (.int x1), .val (.int x2), .val (.ref a3), .val (.int x4), .unset, .unset] [(.int y0)]) := by
  unfold f0_228
  refine g_istore C at_228 (Ls' := #[.val (.int x0), .val (.int x1), .val (.int x2), .val (.ref a3), .val (.int x4), .val (.int y0), .unset]) rfl (pc' := 230) rfl ?_
  refine g_iload C at_230 rfl (pc' := 232) rfl ?_
  refine g_callP C 0 (hw _ (List.mem_of_getElem? (i := 9) rfl)) (hw _ (List.mem_of_getElem? (i := 10) rfl)) (hw _ (List.mem_of_getElem? (i := 11) rfl)) (hw _ (List.mem_of_getElem? (i := 12) rfl)) (by decide) (rm1 l Z a0 hw [] h n0 x4) (by decide) (by decide) rfl rfl (by decide) (by decide) pd1 rfl rfl (st := []) rfl (Nat.le_of_eq rfl) at_232 (pc' := 235) rfl ?_
  refine g_iload C at_235 rfl (pc' := 237) rfl ?_
  refine g_callP C 1 (hw _ (List.mem_of_getElem? (i := 16) rfl)) (hw _ (List.mem_of_getElem? (i := 17) rfl)) (hw _ (List.mem_of_getElem? (i := 18) rfl)) (hw _ (List.mem_of_getElem? (i := 19) rfl)) (by decide) (rm2 l Z a0 hw [] h n0 x4) (by decide) (by decide) rfl rfl (by decide) (by decide) pd2 rfl rfl (st := [(.int (f1_0 x4))]) rfl (Nat.le_of_eq rfl) at_237 (pc' := 240) rfl ?_
  refine g_if C at_240 (c_ne (f2_0 x4) (0 : Int32)) (by decide) (pc2 := 247) (by decide) (pc' := 243) rfl (fun hP => Go.pos ?_ hP) (fun hP => Go.neg ?_ hP)
  · refine g_iconst C at_247 (v := (0 : Int32)) (by decide) (pc' := 248) rfl ?_
    exact j0_248 hw hH C x0 x1 x2 a3 x4 y0 (0 : Int32) (f1_0 x4)
  · refine g_iconst C at_243 (v := (1 : Int32)) (by decide) (pc' := 244) rfl ?_
    refine g_goto C at_244 (by decide) (pc' := 248) (by decide) ?_
    exact j0_248 hw hH C x0 x1 x2 a3 x4 y0 (1 : Int32) (f1_0 x4)
def f0_220 (x4 y0 y1 : Int32) : Int32 := (if ¬ y1 = y0 then f0_228 x4 (0 : Int32) else f0_228 x4 (1 : Int32))
theorem j0_220 {p : Program} {l : Launch} {e : Env} {s : State} {m : MethodId} {args : Array Value} {below : List Frame} {meth : Method} {c : Code} {n0 : Nat} {H : Heap → Prop} {h : Heap} {Z : State} {a0 : Array Value} (hw : ∀ d ∈ tables_1, d.before a0 Z = true) (hH : H h) (C : Cx p s m meth c Z "com/example/knotwork/knotwork/graph/TurtleCharactersIsNameStartPinLaw" "law" code (some .boolean) 7) (x0 : Int32) (x1 : Int32) (x2 : Int32) (a3 : Addr) (x4 : Int32) (y0 : Int32) (y1 : Int32) : Go p l e room_1 s m args below meth c n0 (Ret n0 H (f0_220 x4 y0 y1)) h 1 28 (mkF m 220 #[.val (.int x0), .val (.int x1), .val (.int x2), .val (.ref a3), .val (.int x4), .unset, .unset] [(.int y0), (.int y1)]) := by
  unfold f0_220
  refine g_icmp C at_220 (c_ne y1 y0) (by decide) (pc2 := 227) (by decide) (pc' := 223) rfl (fun hP => Go.pos ?_ hP) (fun hP => Go.neg ?_ hP)
  · refine g_iconst C at_227 (v := (0 : Int32)) (by decide) (pc' := 228) rfl ?_
    exact j0_228 hw hH C x0 x1 x2 a3 x4 (0 : Int32)
  · refine g_iconst C at_223 (v := (1 : Int32)) (by decide) (pc' := 224) rfl ?_
    refine g_goto C at_224 (by decide) (pc' := 228) (by decide) ?_
    exact j0_228 hw hH C x0 x1 x2 a3 x4 (1 : Int32)
def f0_193 (x0 x1 x2 y0 : Int32) : Int32 := (if ¬ (f2_0 x0) = (0 : Int32) then f0_220 ((y0 + ((x2 &&& (2147483647 : Int32)) % (3 : Int32))) - (1 : Int32)) (0 : Int32) (f1_0 x0) else f0_220 ((y0 + ((x2 &&& (2147483647 : Int32)) % (3 : Int32))) - (1 : Int32)) (1 : Int32) (f1_0 x0))
theorem j0_193 {p : Program} {l : Launch} {e : Env} {s : State} {m : MethodId} {args : Array Value} {below : List Frame} {meth : Method} {c : Code} {n0 : Nat} {H : Heap → Prop} {h : Heap} {Z : State} {a0 : Array Value} (hw : ∀ d ∈ tables_1, d.before a0 Z = true) (hH : H h) (C : Cx p s m meth c Z "com/example/knotwork/knotwork/graph/TurtleCharactersIsNameStartPinLaw" "law" code (some .boolean) 7) (x0 : Int32) (x1 : Int32) (x2 : Int32) (a3 : Addr) (y0 : Int32) : Go p l e room_1 s m args below meth c n0 (Ret n0 H (f0_193 x0 x1 x2 y0)) h 1 28 (mkF m 193 #[.val (.int x0), .val (.int x1), .val (.int x2), .val (.ref a3), .unset, .unset, .unset] [(.int y0)]) := by
  unfold f0_193
  refine g_iloadN C at_193 rfl (pc' := 194) rfl ?_
  refine g_ldc C (v := (2147483647 : Int32)) (hw _ (List.mem_of_getElem? (i := 8) rfl)) at_194 (pc' := 196) rfl ?_
  refine g_iand C at_196 (pc' := 197) rfl ?_
  refine g_iconst C at_197 (v := (3 : Int32)) (by decide) (pc' := 198) rfl ?_
  refine g_irem C at_198 (by decide) (pc' := 199) rfl ?_
  refine g_iadd C at_199 (pc' := 200) rfl ?_
  refine g_iconst C at_200 (v := (1 : Int32)) (by decide) (pc' := 201) rfl ?_
  refine g_isub C at_201 (pc' := 202) rfl ?_
  refine g_istore C at_202 (Ls' := #[.val (.int x0), .val (.int x1), .val (.int x2), .val (.ref a3), .val (.int ((y0 + ((x2 &&& (2147483647 : Int32)) % (3 : Int32))) - (1 : Int32))), .unset, .unset]) rfl (pc' := 204) rfl ?_
  refine g_iloadN C at_204 rfl (pc' := 205) rfl ?_
  refine g_callP C 0 (hw _ (List.mem_of_getElem? (i := 9) rfl)) (hw _ (List.mem_of_getElem? (i := 10) rfl)) (hw _ (List.mem_of_getElem? (i := 11) rfl)) (hw _ (List.mem_of_getElem? (i := 12) rfl)) (by decide) (rm1 l Z a0 hw [] h n0 x0) (by decide) (by decide) rfl rfl (by decide) (by decide) pd1 rfl rfl (st := []) rfl (Nat.le_of_eq rfl) at_205 (pc' := 208) rfl ?_
  refine g_iloadN C at_208 rfl (pc' := 209) rfl ?_
  refine g_callP C 1 (hw _ (List.mem_of_getElem? (i := 16) rfl)) (hw _ (List.mem_of_getElem? (i := 17) rfl)) (hw _ (List.mem_of_getElem? (i := 18) rfl)) (hw _ (List.mem_of_getElem? (i := 19) rfl)) (by decide) (rm2 l Z a0 hw [] h n0 x0) (by decide) (by decide) rfl rfl (by decide) (by decide) pd2 rfl rfl (st := [(.int (f1_0 x0))]) rfl (Nat.le_of_eq rfl) at_209 (pc' := 212) rfl ?_
  refine g_if C at_212 (c_ne (f2_0 x0) (0 : Int32)) (by decide) (pc2 := 219) (by decide) (pc' := 215) rfl (fun hP => Go.pos ?_ hP) (fun hP => Go.neg ?_ hP)
  · refine g_iconst C at_219 (v := (0 : Int32)) (by decide) (pc' := 220) rfl ?_
    exact j0_220 hw hH C x0 x1 x2 a3 ((y0 + ((x2 &&& (2147483647 : Int32)) % (3 : Int32))) - (1 : Int32)) (0 : Int32) (f1_0 x0)
  · refine g_iconst C at_215 (v := (1 : Int32)) (by decide) (pc' := 216) rfl ?_
    refine g_goto C at_216 (by decide) (pc' := 220) (by decide) ?_
    exact j0_220 hw hH C x0 x1 x2 a3 ((y0 + ((x2 &&& (2147483647 : Int32)) % (3 : Int32))) - (1 : Int32)) (1 : Int32) (f1_0 x0)
theorem own_one (x0 x1 x2 y0 : Int32) : f0_193 x0 x1 x2 y0 = 1 := by
  simp only [f0_272, f0_256, f0_248, f0_228, f0_220, f0_193, own_law]
  by_cases q1 : f2_0 x0 = 0 <;> by_cases q2 : f2_0 (y0 + (x2 &&& 2147483647) % 3 - 1) = 0 <;> simp [q1, q2]
theorem j0_A {p : Program} {l : Launch} {e : Env} {s : State} {m : MethodId} {args : Array Value} {below : List Frame} {meth : Method} {c : Code} {n0 : Nat} {h : Heap} {Z : State} {a0 : Array Value} (hw : ∀ d ∈ tables_1, d.before a0 Z = true) (hn0 : n0 ≤ h.size) (C : Cx p s m meth c Z "com/example/knotwork/knotwork/graph/TurtleCharactersIsNameStartPinLaw" "law" code (some .boolean) 7) (x0 x1 x2 : Int32) : Go p l e room_1 s m args below meth c n0 (Ret n0 (fun _ => True) 1) h 0 0 (mkF m 0 #[.val (.int x0), .val (.int x1), .val (.int x2), .unset, .unset, .unset, .unset] []) := by
  refine g_bipush C at_0 (v := (28 : Int32)) (by decide) (pc' := 2) rfl ?_
  refine g_newI C (hw _ (List.mem_of_getElem? (i := 0) rfl)) (k := 28) at_2 (by decide) (by decide) (by decide) (by decide) (by decide) hn0 (pc' := 4) rfl fun h1 a g1 _ I1 => ?_
  refine g_dup C at_4 rfl (pc' := 5) rfl ?_
  refine g_iconst C at_5 (v := (0 : Int32)) (by decide) (pc' := 6) rfl ?_
  refine g_bipush C at_6 (v := (65 : Int32)) (by decide) (pc' := 8) rfl ?_
  refine g_stI C I1 g1 (by decide) at_8 (pc' := 9) rfl fun h2 I2 => ?_
  refine g_dup C at_9 rfl (pc' := 10) rfl ?_
  refine g_iconst C at_10 (v := (1 : Int32)) (by decide) (pc' := 11) rfl ?_
  refine g_bipush C at_11 (v := (90 : Int32)) (by decide) (pc' := 13) rfl ?_
  refine g_stI C I2 g1 (by decide) at_13 (pc' := 14) rfl fun h3 I3 => ?_
  refine g_dup C at_14 rfl (pc' := 15) rfl ?_
  refine g_iconst C at_15 (v := (2 : Int32)) (by decide) (pc' := 16) rfl ?_
  refine g_bipush C at_16 (v := (97 : Int32)) (by decide) (pc' := 18) rfl ?_
  refine g_stI C I3 g1 (by decide) at_18 (pc' := 19) rfl fun h4 I4 => ?_
  refine g_dup C at_19 rfl (pc' := 20) rfl ?_
  refine g_iconst C at_20 (v := (3 : Int32)) (by decide) (pc' := 21) rfl ?_
  refine g_bipush C at_21 (v := (122 : Int32)) (by decide) (pc' := 23) rfl ?_
  refine g_stI C I4 g1 (by decide) at_23 (pc' := 24) rfl fun h5 I5 => ?_
  refine g_dup C at_24 rfl (pc' := 25) rfl ?_
  refine g_iconst C at_25 (v := (4 : Int32)) (by decide) (pc' := 26) rfl ?_
  refine g_sipush C at_26 (v := (192 : Int32)) (by decide) (pc' := 29) rfl ?_
  refine g_stI C I5 g1 (by decide) at_29 (pc' := 30) rfl fun h6 I6 => ?_
  refine g_dup C at_30 rfl (pc' := 31) rfl ?_
  refine g_iconst C at_31 (v := (5 : Int32)) (by decide) (pc' := 32) rfl ?_
  refine g_sipush C at_32 (v := (214 : Int32)) (by decide) (pc' := 35) rfl ?_
  refine g_stI C I6 g1 (by decide) at_35 (pc' := 36) rfl fun h7 I7 => ?_
  refine g_dup C at_36 rfl (pc' := 37) rfl ?_
  refine g_bipush C at_37 (v := (6 : Int32)) (by decide) (pc' := 39) rfl ?_
  refine g_sipush C at_39 (v := (216 : Int32)) (by decide) (pc' := 42) rfl ?_
  refine g_stI C I7 g1 (by decide) at_42 (pc' := 43) rfl fun h8 I8 => ?_
  refine g_dup C at_43 rfl (pc' := 44) rfl ?_
  refine g_bipush C at_44 (v := (7 : Int32)) (by decide) (pc' := 46) rfl ?_
  refine g_sipush C at_46 (v := (246 : Int32)) (by decide) (pc' := 49) rfl ?_
  refine g_stI C I8 g1 (by decide) at_49 (pc' := 50) rfl fun h9 I9 => ?_
  refine g_dup C at_50 rfl (pc' := 51) rfl ?_
  refine g_bipush C at_51 (v := (8 : Int32)) (by decide) (pc' := 53) rfl ?_
  refine g_sipush C at_53 (v := (248 : Int32)) (by decide) (pc' := 56) rfl ?_
  refine g_stI C I9 g1 (by decide) at_56 (pc' := 57) rfl fun h10 I10 => ?_
  refine g_dup C at_57 rfl (pc' := 58) rfl ?_
  refine g_bipush C at_58 (v := (9 : Int32)) (by decide) (pc' := 60) rfl ?_
  refine g_sipush C at_60 (v := (767 : Int32)) (by decide) (pc' := 63) rfl ?_
  refine g_stI C I10 g1 (by decide) at_63 (pc' := 64) rfl fun h11 I11 => ?_
  refine g_dup C at_64 rfl (pc' := 65) rfl ?_
  refine g_bipush C at_65 (v := (10 : Int32)) (by decide) (pc' := 67) rfl ?_
  refine g_sipush C at_67 (v := (880 : Int32)) (by decide) (pc' := 70) rfl ?_
  refine g_stI C I11 g1 (by decide) at_70 (pc' := 71) rfl fun h12 I12 => ?_
  refine g_dup C at_71 rfl (pc' := 72) rfl ?_
  refine g_bipush C at_72 (v := (11 : Int32)) (by decide) (pc' := 74) rfl ?_
  refine g_sipush C at_74 (v := (893 : Int32)) (by decide) (pc' := 77) rfl ?_
  refine g_stI C I12 g1 (by decide) at_77 (pc' := 78) rfl fun h13 I13 => ?_
  refine g_dup C at_78 rfl (pc' := 79) rfl ?_
  refine g_bipush C at_79 (v := (12 : Int32)) (by decide) (pc' := 81) rfl ?_
  refine g_sipush C at_81 (v := (895 : Int32)) (by decide) (pc' := 84) rfl ?_
  refine g_stI C I13 g1 (by decide) at_84 (pc' := 85) rfl fun h14 I14 => ?_
  refine g_dup C at_85 rfl (pc' := 86) rfl ?_
  refine g_bipush C at_86 (v := (13 : Int32)) (by decide) (pc' := 88) rfl ?_
  refine g_sipush C at_88 (v := (8191 : Int32)) (by decide) (pc' := 91) rfl ?_
  refine g_stI C I14 g1 (by decide) at_91 (pc' := 92) rfl fun h15 I15 => ?_
  refine g_dup C at_92 rfl (pc' := 93) rfl ?_
  refine g_bipush C at_93 (v := (14 : Int32)) (by decide) (pc' := 95) rfl ?_
  refine g_sipush C at_95 (v := (8204 : Int32)) (by decide) (pc' := 98) rfl ?_
  refine g_stI C I15 g1 (by decide) at_98 (pc' := 99) rfl fun h16 I16 => ?_
  refine g_dup C at_99 rfl (pc' := 100) rfl ?_
  refine g_bipush C at_100 (v := (15 : Int32)) (by decide) (pc' := 102) rfl ?_
  refine g_sipush C at_102 (v := (8205 : Int32)) (by decide) (pc' := 105) rfl ?_
  refine g_stI C I16 g1 (by decide) at_105 (pc' := 106) rfl fun h17 I17 => ?_
  refine g_dup C at_106 rfl (pc' := 107) rfl ?_
  refine g_bipush C at_107 (v := (16 : Int32)) (by decide) (pc' := 109) rfl ?_
  refine g_sipush C at_109 (v := (8304 : Int32)) (by decide) (pc' := 112) rfl ?_
  refine g_stI C I17 g1 (by decide) at_112 (pc' := 113) rfl fun h18 I18 => ?_
  refine g_dup C at_113 rfl (pc' := 114) rfl ?_
  refine g_bipush C at_114 (v := (17 : Int32)) (by decide) (pc' := 116) rfl ?_
  refine g_sipush C at_116 (v := (8591 : Int32)) (by decide) (pc' := 119) rfl ?_
  refine g_stI C I18 g1 (by decide) at_119 (pc' := 120) rfl fun h19 I19 => ?_
  refine g_dup C at_120 rfl (pc' := 121) rfl ?_
  refine g_bipush C at_121 (v := (18 : Int32)) (by decide) (pc' := 123) rfl ?_
  refine g_sipush C at_123 (v := (11264 : Int32)) (by decide) (pc' := 126) rfl ?_
  refine g_stI C I19 g1 (by decide) at_126 (pc' := 127) rfl fun h20 I20 => ?_
  refine g_dup C at_127 rfl (pc' := 128) rfl ?_
  refine g_bipush C at_128 (v := (19 : Int32)) (by decide) (pc' := 130) rfl ?_
  refine g_sipush C at_130 (v := (12271 : Int32)) (by decide) (pc' := 133) rfl ?_
  refine g_stI C I20 g1 (by decide) at_133 (pc' := 134) rfl fun h21 I21 => ?_
  refine g_dup C at_134 rfl (pc' := 135) rfl ?_
  refine g_bipush C at_135 (v := (20 : Int32)) (by decide) (pc' := 137) rfl ?_
  refine g_sipush C at_137 (v := (12289 : Int32)) (by decide) (pc' := 140) rfl ?_
  refine g_stI C I21 g1 (by decide) at_140 (pc' := 141) rfl fun h22 I22 => ?_
  refine g_dup C at_141 rfl (pc' := 142) rfl ?_
  refine g_bipush C at_142 (v := (21 : Int32)) (by decide) (pc' := 144) rfl ?_
  refine g_ldc C (v := (55295 : Int32)) (hw _ (List.mem_of_getElem? (i := 1) rfl)) at_144 (pc' := 146) rfl ?_
  refine g_stI C I22 g1 (by decide) at_146 (pc' := 147) rfl fun h23 I23 => ?_
  refine g_dup C at_147 rfl (pc' := 148) rfl ?_
  refine g_bipush C at_148 (v := (22 : Int32)) (by decide) (pc' := 150) rfl ?_
  refine g_ldc C (v := (63744 : Int32)) (hw _ (List.mem_of_getElem? (i := 2) rfl)) at_150 (pc' := 152) rfl ?_
  refine g_stI C I23 g1 (by decide) at_152 (pc' := 153) rfl fun h24 I24 => ?_
  refine g_dup C at_153 rfl (pc' := 154) rfl ?_
  refine g_bipush C at_154 (v := (23 : Int32)) (by decide) (pc' := 156) rfl ?_
  refine g_ldc C (v := (64975 : Int32)) (hw _ (List.mem_of_getElem? (i := 3) rfl)) at_156 (pc' := 158) rfl ?_
  refine g_stI C I24 g1 (by decide) at_158 (pc' := 159) rfl fun h25 I25 => ?_
  refine g_dup C at_159 rfl (pc' := 160) rfl ?_
  refine g_bipush C at_160 (v := (24 : Int32)) (by decide) (pc' := 162) rfl ?_
  refine g_ldc C (v := (65008 : Int32)) (hw _ (List.mem_of_getElem? (i := 4) rfl)) at_162 (pc' := 164) rfl ?_
  refine g_stI C I25 g1 (by decide) at_164 (pc' := 165) rfl fun h26 I26 => ?_
  refine g_dup C at_165 rfl (pc' := 166) rfl ?_
  refine g_bipush C at_166 (v := (25 : Int32)) (by decide) (pc' := 168) rfl ?_
  refine g_ldc C (v := (65533 : Int32)) (hw _ (List.mem_of_getElem? (i := 5) rfl)) at_168 (pc' := 170) rfl ?_
  refine g_stI C I26 g1 (by decide) at_170 (pc' := 171) rfl fun h27 I27 => ?_
  refine g_dup C at_171 rfl (pc' := 172) rfl ?_
  refine g_bipush C at_172 (v := (26 : Int32)) (by decide) (pc' := 174) rfl ?_
  refine g_ldc C (v := (65536 : Int32)) (hw _ (List.mem_of_getElem? (i := 6) rfl)) at_174 (pc' := 176) rfl ?_
  refine g_stI C I27 g1 (by decide) at_176 (pc' := 177) rfl fun h28 I28 => ?_
  refine g_dup C at_177 rfl (pc' := 178) rfl ?_
  refine g_bipush C at_178 (v := (27 : Int32)) (by decide) (pc' := 180) rfl ?_
  refine g_ldc C (v := (983039 : Int32)) (hw _ (List.mem_of_getElem? (i := 7) rfl)) at_180 (pc' := 182) rfl ?_
  refine g_stI C I28 g1 (by decide) at_182 (pc' := 183) rfl fun h29 I29 => ?_
  refine g_astoreN C at_183 rfl (Ls' := #[.val (.int x0), .val (.int x1), .val (.int x2), .val (.ref a), .unset, .unset, .unset]) rfl (pc' := 184) rfl ?_
  refine g_aloadN C at_184 rfl rfl (pc' := 185) rfl ?_
  refine g_iloadN C at_185 rfl (pc' := 186) rfl ?_
  refine g_ldc C (v := (2147483647 : Int32)) (hw _ (List.mem_of_getElem? (i := 8) rfl)) at_186 (pc' := 188) rfl ?_
  refine g_iand C at_188 (pc' := 189) rfl ?_
  refine g_bipush C at_189 (v := (28 : Int32)) (by decide) (pc' := 191) rfl ?_
  refine g_irem C at_191 (by decide) (pc' := 192) rfl ?_
  refine g_ldI C I29 (inb_rem x1 (by decide) (by decide)) at_192 (pc' := 193) rfl fun v => ?_
  exact Go.cast (j0_193 hw trivial C x0 x1 x2 a v) (own_one _ _ _ _)
theorem rm_law (l : Launch) (Z : State) (a0 : Array Value) (hw : ∀ d ∈ tables_1, d.before a0 Z = true) (ws : List Jvm.Cond) (h : Heap) (n0 : Nat) (hn0 : n0 ≤ h.size) (x0 x1 x2 : Int32) : Con l Z x code maxLocals ret room_1 ws #[(.int x0), (.int x1), (.int x2)] h (Ret n0 (fun _ => True) 1) :=
  con_of n0 pn0 (fun m => ef0 m x0 x1 x2) fun p e s m below meth c C => j0_A hw hn0 C x0 x1 x2
set_option maxRecDepth 65536 in
set_option maxHeartbeats 4000000 in
theorem comes_1 {Post : Tables → Env → Array Value → State → Outcome → State → Prop} (hpost : ∀ tb e args s v u, (limb_1_1.after args s (.returned v) u = true ∧ limb_1_2.after args s (.returned v) u = true ∧ True) → FrameEnd s (.returned v) u (Jvm.fieldLocs frame_1_writes args s ++ Jvm.arrayLocs frame_1_arrays args s ++ Jvm.staticLocs frame_1_statics s) 16 128 → Post tb e args s (.returned v) u) :
    ArmFor flags0 classFile x code maxLocals ret World_1 tables_1 room_1 Calls_1 rest_1 Pre_1 Post := by
  intro l hfl _ _ p e ha hc hk s m args below hf hA hF happ hP
  obtain ⟨hcalls, hrest, hpre⟩ := hP
  obtain ⟨-, -, -, hnamed, -, -, -, hat⟩ := (Spec.applies_iff hf).mp happ
  obtain ⟨hg, hn⟩ := and_e (Cond.before_iff.mp (show (Jvm.Cond.and given_1 narrow_1).before args s = true from hpre))
  obtain ⟨hcount, g0⟩ := and_e hg
  obtain ⟨k0, g1⟩ := and_e g0
  obtain ⟨k1, g2⟩ := and_e g1
  obtain ⟨w0, w1, w2, rfl⟩ : ∃ w0 w1 w2 : Value, args = #[w0, w1, w2] := by
    have hs : args.size = 3 := by simpa [Cond.value, given_1] using hcount
    obtain ⟨L⟩ := args
    match L, hs with
    | [w0, w1, w2], _ => exact ⟨w0, w1, w2, rfl⟩
  have hw := fun d (hd : d ∈ tables_1) => atoms_spec (ws := Jvm.Cond.code x code maxLocals ret :: tables_1) hat d (List.mem_cons_of_mem _ hd)
  obtain ⟨i0, e0⟩ := is_v k0
  obtain rfl : w0 = (.int i0) := Option.some.inj e0
  obtain ⟨i1, e1⟩ := is_v k1
  obtain rfl : w1 = (.int i1) := Option.some.inj e1
  obtain ⟨i2, e2⟩ := is_v g2
  obtain rfl : w2 = (.int i2) := Option.some.inj e2
  obtain ⟨n, o, h1, h2, h3, _, L, rfl, ⟨rfl, N, -⟩, hq⟩ := rm_law l s _ hw tables_1 s.heap s.heap.size (Nat.le_refl _) i0 i1 i2 p e ha hc hk s m _ below hf ((Spec.applies_iff_loose hf).mp happ).1 ⟨rfl, State.Warmed39.refl s, rfl⟩ trivial
  refine ⟨n, _, h1, h2, h3, hpost _ _ _ _ _ _ ⟨Cond.after_iff.mpr rfl, Cond.after_iff.mpr (eq_i res_at (Term.int_eval (1)) rfl), trivial⟩ ⟨hq.1, hq.2.1, (hq.2.2.sift fun y hy => Or.inr (N y hy)).mono (by decide) (by decide)⟩⟩
theorem main_1_1 : Claimed_1_1 := comes_1 fun _ _ _ _ _ _ h hF => ⟨h.1, hF⟩
theorem main_1_2 : Claimed_1_2 := comes_1 fun _ _ _ _ _ _ h hF => ⟨h.2.1, hF⟩
end Jvm.Pilot.@@N@@
namespace Jvm.Pilot.@@N@@
open Jvm Jvm.ClassFile Sem Op Lib Jvm.Free Jvm.Stand Jvm.Pilot.@@N@@.Jvm.D
/-! MADE BY PROGRAM (witnessworld.py) out of the Statement's table words and the real class files: 9 classes; the members and pool entries that the words name. The judged class is class 1, her method 1. -/
namespace start1
open Jvm.ClassFile
def u (s : String) : CpInfo := .utf8 (stringToUtf16 s)
/-- a pool by its gaps: so many unusable entries, then the entry; so many at the end -/
def gap : Nat → List CpInfo → List CpInfo
  | 0, r => r
  | n + 1, r => .unusable :: gap n r
def poolList (es : List (Nat × CpInfo)) (last : Nat) : List CpInfo := es.foldr (fun e r => gap e.1 (e.2 :: r)) (gap last [])
def pool (es : List (Nat × CpInfo)) (last : Nat) : Array CpInfo := ⟨poolList es last⟩
def fileOf (pool : Array CpInfo) (this : Nat) (attrs : Array Attribute := #[]) (ms : Array MethodInfo := #[]) (fl : Nat := 33) (sup : Nat := 0) (ifs : Array Nat := #[]) (fds : Array FieldInfo := #[]) : ClassFile where
  minorVersion := 0
  majorVersion := 65
  constantPool := pool
  accessFlags := fl
  thisClass := this
  superClass := sup
  interfaces := ifs
  fields := fds
  methods := ms
  attributes := attrs
def plain (name : String) (sup : Option ClassId) : Class where
  name := name
  kind := .ordinary
  loader := none
  accessFlags := 33
  super := sup
  interfaces := #[]
  cf := none
  fields := #[]
  methods := #[]
  instanceTypes := #[]
  staticTypes := #[]
  resolved := #[]
  callSites := []
  init := .initialized
  statics := none
  mirror := none

def pool0 : Array CpInfo := pool [(5, u "<init>"), (0, u "()V"), (1, .class_ 10), (1, u "java/lang/Object")] 113

def k0m0 : Method := { name := "<init>", desc := "()V", sig := { parameters := [], returnType := none }, accessFlags := 1, code := none }
/-- java/lang/Object -/
def k0 : Class := { plain "java/lang/Object" none with
  accessFlags := 33
  interfaces := #[]
  cf := some (fileOf pool0 8 #[] #[{ accessFlags := 1, nameIndex := 5, descriptorIndex := 6, attributes := #[] }] 33 0 #[] #[])
  fields := #[]
  methods := #[k0m0]
  instanceTypes := #[]
  staticTypes := #[]
  resolved := Array.replicate 124 none
  statics := none }

def pool1 : Array CpInfo := pool [(2, .class_ 4), (1, u "java/lang/Object"), (0, u "<init>"), (0, u "()V"), (0, .integer 55295), (0, .integer 63744), (0, .integer 64975), (0, .integer 65008), (0, .integer 65533), (0, .integer 65536), (0, .integer 983039), (0, .integer 2147483647), (0, .methodref 16 17), (0, .class_ 18), (0, .nameAndType 19 20), (0, u "com/example/knotwork/knotwork/graph/TurtleCharacters"), (0, u "isNameStart"), (0, u "(I)Z"), (0, .methodref 22 23), (0, .class_ 24), (0, .nameAndType 25 20), (0, u "com/example/knotwork/knotwork/graph/TurtleCharactersIsNameStartPinLaw"), (0, u "excluded"), (2, u "law"), (0, u "(III)Z")] 5

def k1m0 : Method := { name := "<init>", desc := "()V", sig := { parameters := [], returnType := none }, accessFlags := 2, code := none }
def k1c1 : Code := { maxStack := 4, maxLocals := 7, code := code, exceptionTable := #[], attributes := #[] }
def k1m1 : Method := { name := "law", desc := "(III)Z", sig := { parameters := [.int, .int, .int], returnType := some .boolean }, accessFlags := 9, code := some k1c1 }
def k1c2 : Code := { maxStack := 2, maxLocals := 1, code := method_3_code, exceptionTable := #[], attributes := #[] }
def k1m2 : Method := { name := "excluded", desc := "(I)Z", sig := { parameters := [.int], returnType := some .boolean }, accessFlags := 10, code := some k1c2 }
/-- com/example/knotwork/knotwork/graph/TurtleCharactersIsNameStartPinLaw -/
def k1 : Class := { plain "com/example/knotwork/knotwork/graph/TurtleCharactersIsNameStartPinLaw" (some 0) with
  accessFlags := 49
  interfaces := #[]
  cf := some (fileOf pool1 22 #[] #[{ accessFlags := 2, nameIndex := 5, descriptorIndex := 6, attributes := #[] }, { accessFlags := 9, nameIndex := 28, descriptorIndex := 29, attributes := #[] }, { accessFlags := 10, nameIndex := 25, descriptorIndex := 20, attributes := #[] }] 49 2 #[] #[])
  fields := #[]
  methods := #[k1m0, k1m1, k1m2]
  instanceTypes := #[]
  staticTypes := #[]
  resolved := Array.replicate 35 none
  statics := none }

def pool2 : Array CpInfo := pool [(2, .class_ 4), (1, u "java/lang/Object"), (0, u "<init>"), (0, u "()V"), (0, .integer 55295), (0, .integer 63744), (0, .integer 64975), (0, .integer 65008), (0, .integer 65533), (0, .integer 65536), (0, .integer 983039), (1, .class_ 17), (1, u "com/example/knotwork/knotwork/graph/TurtleCharacters"), (0, u "isNameStart"), (0, u "(I)Z"), (16, u "ASCII_IRI_CHARS"), (0, u "[Z"), (142, u "QUOTED_CHARS"), (0, u "I")] 40

def k2m0 : Method := { name := "<init>", desc := "()V", sig := { parameters := [], returnType := none }, accessFlags := 2, code := none }
def k2c1 : Code := { maxStack := 2, maxLocals := 1, code := prog_195_method_2_code, exceptionTable := #[], attributes := #[] }
def k2m1 : Method := { name := "isNameStart", desc := "(I)Z", sig := { parameters := [.int], returnType := some .boolean }, accessFlags := 9, code := some k2c1 }
/-- com/example/knotwork/knotwork/graph/TurtleCharacters -/
def k2 : Class := { plain "com/example/knotwork/knotwork/graph/TurtleCharacters" (some 0) with
  accessFlags := 49
  interfaces := #[]
  cf := some (fileOf pool2 15 #[] #[{ accessFlags := 2, nameIndex := 5, descriptorIndex := 6, attributes := #[] }, { accessFlags := 9, nameIndex := 18, descriptorIndex := 19, attributes := #[] }] 49 2 #[] #[{ accessFlags := 24, nameIndex := 180, descriptorIndex := 181, attributes := #[] }, { accessFlags := 26, nameIndex := 36, descriptorIndex := 37, attributes := #[] }])
  fields := #[{ name := "QUOTED_CHARS", type := .int, accessFlags := 24, slot := 0, constantValue := 0 }, { name := "ASCII_IRI_CHARS", type := (.array .boolean), accessFlags := 26, slot := 1, constantValue := 0 }]
  methods := #[k2m0, k2m1]
  instanceTypes := #[]
  staticTypes := #[.int, (.array .boolean)]
  resolved := Array.replicate 222 none
  statics := none }

def pool3 : Array CpInfo := pool [(1, u "java/lang/Cloneable"), (0, .class_ 1), (0, u "java/lang/Object"), (0, .class_ 3)] 3

/-- java/lang/Cloneable -/
def k3 : Class := { plain "java/lang/Cloneable" (some 0) with
  accessFlags := 1537
  interfaces := #[]
  cf := some (fileOf pool3 2 #[] #[] 1537 4 #[] #[])
  fields := #[]
  methods := #[]
  instanceTypes := #[]
  staticTypes := #[]
  resolved := Array.replicate 8 none
  statics := none }

def pool4 : Array CpInfo := pool [(1, u "java/io/Serializable"), (0, .class_ 1), (0, u "java/lang/Object"), (0, .class_ 3)] 3

/-- java/io/Serializable -/
def k4 : Class := { plain "java/io/Serializable" (some 0) with
  accessFlags := 1537
  interfaces := #[]
  cf := some (fileOf pool4 2 #[] #[] 1537 4 #[] #[])
  fields := #[]
  methods := #[]
  instanceTypes := #[]
  staticTypes := #[]
  resolved := Array.replicate 8 none
  statics := none }

/-- the primitive byte -/
def k5 : Class := { plain "byte" none with kind := .primitive 'B', accessFlags := 0x411 }
/-- [B -/
def k6 : Class := { plain "[B" (some 0) with kind := .array 5 .byte, interfaces := #[3, 4], accessFlags := 1041 }

/-- the primitive int -/
def k7 : Class := { plain "int" none with kind := .primitive 'I', accessFlags := 0x411 }
/-- [I -/
def k8 : Class := { plain "[I" (some 0) with kind := .array 7 .int, interfaces := #[3, 4], accessFlags := 1041 }

def heap : Heap := #[]
def classes : Array Class := #[k0, k1, k2, k3, k4, k5, k6, k7, k8]
def interned : List (Array UInt16 × Addr) := []
def slotsUsed : Nat := 0
def theMethod : MethodId := ⟨1, 1⟩
def args0 : Array Value := #[.int 5, .int 6, .int 7]
def aboutOver (below : List Frame) : State where
  vm := { classes := classes, interned := interned.toArray }
  heap := heap
  slotsUsed := slotsUsed
  threads := #[{ frames := .invoking theMethod args0 :: below }]
def below0 : List Frame := [.native { method := ⟨0, 0⟩, args := #[] }]
def about1 : State := aboutOver below0
def p0 : Program := .bare "" "" ""
def e0 : Env := launch0.env 0 0 0
theorem w_frames : about1.frames = Frame.invoking theMethod args0 :: below0 := rfl
set_option maxRecDepth 65536 in
theorem w_args : argsFit about1.vm theMethod args0 = true := by decide +kernel
set_option maxRecDepth 65536 in
theorem w_heap : heapFits about1 = true := by decide +kernel
set_option maxRecDepth 65536 in
theorem w_runnable : about1.curStatus? = some .runnable := by decide +kernel
set_option maxRecDepth 65536 in
theorem w_alone : about1.alone = true := by decide +kernel
set_option maxRecDepth 65536 in
theorem w_named : about1.methodNamed? x = some theMethod := by decide +kernel
set_option maxRecDepth 65536 in
theorem w_hears : about1.hears theMethod below0 = true := by decide +kernel
set_option maxRecDepth 65536 in
theorem w_ripe : about1.ripe theMethod args0 below0 = true := by decide +kernel
theorem w_running : about1.status = .running := rfl
set_option maxRecDepth 65536 in
theorem w_room : about1.hasRoom e0.platform room_1 = true :=
  launch0.hasRoom_least _ room_1 (by decide +kernel) (by decide +kernel) (by decide +kernel) (by decide +kernel) (by decide +kernel) (by decide +kernel)
theorem allAtoms_all (ts : List Jvm.Cond) (a : Array Jvm.Value) (st : Jvm.State) : (allAtoms ts).before a st = ts.all (fun c => c.before a st) := by
  induction ts with
  | nil => rfl
  | cons c t ih =>
    show (Jvm.Cond.and c (allAtoms t)).before a st = _
    rw [Jvm.Cond.before_and, ih, List.all_cons]
def words1 : List Jvm.Cond := Jvm.Cond.code x code maxLocals ret :: tables_1
/-- a 'code' word, met by the world's own term for the bytes: nothing is compared byte by byte -/
theorem code_word {y : MethodName} {bytes : ByteArray} {mx : Nat} {rt : Option FieldType} {a : Array Value} {s : State} {m : MethodId} {meth : Method} {c : Code} (h1 : s.methodNamed? y = some m) (h2 : s.vm.method? m = some meth) (h3 : meth.code = some c) (h4 : c.code = bytes)
    (h5 : (c.maxLocals == mx && c.exceptionTable.isEmpty && decide (c.maxStack ≤ mostOperands) && decide (meth.sig.returnType = rt) && !meth.locks && decide (parseMethodDescriptor y.desc = some meth.sig)) = true) : (Jvm.Cond.code y bytes mx rt).before a s = true := by
  simp only [Bool.and_eq_true, beq_iff_eq, Bool.not_eq_true', decide_eq_true_eq] at h5
  obtain ⟨⟨⟨⟨⟨g1, g2⟩, g3⟩, g4⟩, g5⟩, g6⟩ := h5
  simp [Cond.before, Cond.holds, Cond.value, h1, h2, h3, h4, g1, g2, g3, g4, g5, g6]
def isCode : Jvm.Cond → Bool
  | .code _ _ _ _ => true
  | _ => false
theorem all_split {L : List Jvm.Cond} {P : Jvm.Cond → Bool} (h1 : L.all (fun c => isCode c || P c) = true) (h2 : ∀ c ∈ L.filter isCode, P c = true) : L.all P = true := by
  refine List.all_eq_true.mpr fun c hc => ?_
  have h := List.all_eq_true.mp h1 c hc
  rcases Bool.eq_false_or_eq_true (isCode c) with hi | hi
  · exact h2 c (List.mem_filter.mpr ⟨hc, hi⟩)
  · simpa [hi] using h
set_option maxRecDepth 65536 in
theorem w_c0 : (Jvm.Cond.code x code maxLocals ret).before args0 about1 = true := code_word (m := ⟨1, 1⟩) (meth := k1m1) (c := k1c1) (by decide +kernel) rfl rfl rfl (by decide +kernel)
set_option maxRecDepth 65536 in
theorem w_c1 : (Jvm.Cond.code ({ cls := "com/example/knotwork/knotwork/graph/TurtleCharacters", name := "isNameStart", desc := "(I)Z" } : Jvm.MethodName) prog_195_method_2_code (1 : Nat) (Option.some Jvm.ClassFile.FieldType.boolean)).before args0 about1 = true := code_word (m := ⟨2, 1⟩) (meth := k2m1) (c := k2c1) (by decide +kernel) rfl rfl rfl (by decide +kernel)
set_option maxRecDepth 65536 in
theorem w_c2 : (Jvm.Cond.code ({ cls := "com/example/knotwork/knotwork/graph/TurtleCharactersIsNameStartPinLaw", name := "excluded", desc := "(I)Z" } : Jvm.MethodName) method_3_code (1 : Nat) (Option.some Jvm.ClassFile.FieldType.boolean)).before args0 about1 = true := code_word (m := ⟨1, 2⟩) (meth := k1m2) (c := k1c2) (by decide +kernel) rfl rfl rfl (by decide +kernel)
def codes1 : List Jvm.Cond := [Jvm.Cond.code x code maxLocals ret, Jvm.Cond.code ({ cls := "com/example/knotwork/knotwork/graph/TurtleCharacters", name := "isNameStart", desc := "(I)Z" } : Jvm.MethodName) prog_195_method_2_code (1 : Nat) (Option.some Jvm.ClassFile.FieldType.boolean), Jvm.Cond.code ({ cls := "com/example/knotwork/knotwork/graph/TurtleCharactersIsNameStartPinLaw", name := "excluded", desc := "(I)Z" } : Jvm.MethodName) method_3_code (1 : Nat) (Option.some Jvm.ClassFile.FieldType.boolean)]
set_option maxRecDepth 65536 in
theorem codes_eq : words1.filter isCode = codes1 := rfl
theorem w_codes : ∀ c ∈ words1.filter isCode, c.before args0 about1 = true := by
  rw [codes_eq]
  intro c hc
  simp only [codes1, List.mem_cons, List.not_mem_nil, or_false] at hc
  rcases hc with rfl | rfl | rfl
  · exact w_c0
  · exact w_c1
  · exact w_c2
set_option maxRecDepth 65536 in
theorem w_t1 : (words1.take 24).all (fun c => isCode c || c.before args0 about1) = true := by decide +kernel
set_option maxRecDepth 65536 in
theorem w_t2 : (words1.drop 24).all (fun c => isCode c || c.before args0 about1) = true := by decide +kernel
theorem w_tables : (allAtoms (Jvm.Cond.code x code maxLocals ret :: tables_1)).before args0 about1 = true := by
  rw [allAtoms_all]
  show words1.all (fun c => c.before args0 about1) = true
  refine all_split ?_ w_codes
  rw [← List.take_append_drop 24 words1, List.all_append, w_t1, w_t2]
  rfl
set_option maxRecDepth 65536 in
theorem w_case : (Jvm.Cond.and given_1 narrow_1).before args0 about1 = true := by decide +kernel
theorem w_applies : (headSpec (Jvm.Cond.code x code maxLocals ret :: tables_1) room_1).applies x e0.platform about1 = true :=
  (Spec.applies_iff w_frames).mpr ⟨w_running, w_runnable, w_alone, w_named, w_hears, w_ripe, w_room, w_tables⟩
theorem atStart : AtStart classFile x code maxLocals ret World_1 tables_1 room_1 Calls_1 rest_1 Pre_1 launch0 p0 e0 about1 theMethod args0 below0 :=
  ⟨lists_1, trivial, launch0.admits_env _ _ _, launch0.least_env, fairChoices_fair.cas, fairChoices_fair.clock, w_frames, w_args, w_heap, w_applies, trivial, trivial, w_case⟩
end start1
theorem witness_1 : WitnessClaimed_1 := ⟨start1.p0, start1.e0, start1.about1, start1.theMethod, start1.args0, start1.below0, start1.atStart⟩
end Jvm.Pilot.@@N@@
