import JvmDerived
import JvmDerived.Pilot.@@N@@Statement
import JvmDerived.Pilot.@@N@@Code
set_option linter.unusedVariables false
set_option linter.unusedSimpArgs false
@@BLOCK:NumsL.lean.txt@@
namespace Jvm.OwnGo
open Sem ClassFile Op Lib Jvm.Stand Jvm.Free Jvm.LawKit Jvm.RoadKit
/-- what the walk of a body is told once: exec, bytes, max_locals, its class, its name, its return kind, no lock, the tables -/
def Cx (p : Program) (s : State) (m : MethodId) (meth : Method) (c : Code) (Z : State) (own nm : String) (code : ByteArray) (ret : Option FieldType) (maxL : Nat) : Prop :=
  p.tables.exec = Jvm.exec ∧ c.code = code ∧ c.maxLocals = maxL ∧ s.vm.findClass own = some m.cls ∧ meth.name = nm ∧ meth.sig.returnType = ret ∧ meth.locks = false ∧ Z.Warmed39 s.vm
/-- from every state with heap h in which the body stands at frame g the body comes to its end, and Q holds of what it leaves -/
def Go (p : Program) (l : Launch) (e : Env) (R : Room) (s : State) (m : MethodId) (args : Array Value) (below : List Frame) (meth : Method) (c : Code) (n0 : Nat) (Q : Option Value → Heap → List Loc → Prop) (h : Heap) (cells slots : Nat) (g : JFrame) : Prop :=
  ∀ (T : State) (L : List Loc), Stand p l e R s m args below meth c T L cells slots → T.heap = h → Fr n0 L →
    ∃ (t : State) (o : Outcome), Steps p.tables e below (T.setTop g) t ∧ t.status = .running ∧ Ended t below o ∧ ∃ v L', o = .returned v ∧ Q v t.heap L' ∧ FrameEnd s o t L' R.cells R.slots
/-- the contract of a body, at given arguments and heap -/
def Con (l : Launch) (Z : State) (y : MethodName) (bytes : ByteArray) (maxL : Nat) (ret : Option FieldType) (rm : Room) (ws : List Jvm.Cond) (as' : Array Value) (h : Heap) (Q : Option Value → Heap → List Loc → Prop) : Prop :=
  MetFree l y (head1 (Jvm.Cond.code y bytes maxL ret :: ws) rm) (fun a U => a = as' ∧ Z.Warmed39 U.vm ∧ U.heap = h) (fun _ _ _ _ _ => True) (fun _ U o U' => ∃ v L, o = .returned v ∧ Q v U'.heap L ∧ FrameEnd U o U' L rm.cells rm.slots)
/-- an int is returned; the heap is as H says; nothing old is written -/
def Ret (n0 : Nat) (H : Heap → Prop) (r : Int32) (v : Option Value) (hh : Heap) (L : List Loc) : Prop := v = some (.int r) ∧ Fr n0 L ∧ H hh
theorem con_of {l : Launch} {Z : State} {y : MethodName} {bytes : ByteArray} {maxL : Nat} {ret : Option FieldType} {rm : Room} {ws : List Jvm.Cond} {as' : Array Value} {h : Heap} {Q : Option Value → Heap → List Loc → Prop} (n0 : Nat) {Ls0 : Array Slot} (hn : plainName y.cls = true) (hef : ∀ m, entryFrame m as' maxL = mkF m 0 Ls0 [])
    (body : ∀ (p : Program) (e : Env) (s : State) (m : MethodId) (below : List Frame) (meth : Method) (c : Code), Cx p s m meth c Z y.cls y.name bytes ret maxL → Go p l e rm s m as' below meth c n0 Q h 0 0 (mkF m 0 Ls0 [])) : Con l Z y bytes maxL ret rm ws as' h Q := by
  refine MetFree.of_bodySF (plainFor_of_name hn) hisR ?_
  intro p e s m args below meth c s₁ Bd hml0 hP hK
  obtain ⟨rfl, hZ, hh⟩ := hP
  rw [hef m]
  exact body p e s m below meth c ⟨Bd.exec, Bd.bytes, hml0, findClass_of_methodNamed Bd.named, (name_of_methodNamed Bd.named Bd.method).1, Bd.returns, Bd.notSynchronized, hZ⟩ s₁ [] (Stand.of_body Bd) (by rw [← hh, Bd.state]; rfl) (Fr.nil n0)
section Steps
variable {p : Program} {l : Launch} {e : Env} {R : Room} {s : State} {m : MethodId} {args : Array Value} {below : List Frame} {meth : Method} {c : Code} {n0 : Nat} {Q : Option Value → Heap → List Loc → Prop} {h : Heap} {cells slots : Nat} {Z : State} {own nm : String} {code : ByteArray} {ret : Option FieldType} {maxL : Nat} {pc pc' pc2 : Nat} {Ls Ls' : Array Slot} {st : List Value} {a0 : Array Value}
theorem Go.step {g g' : JFrame} (f : ∀ T, At T m c below → ∀ target, Steps p.tables e below (T.setTop g') target → Steps p.tables e below (T.setTop g) target) (q : Go p l e R s m args below meth c n0 Q h cells slots g') : Go p l e R s m args below meth c n0 Q h cells slots g := fun T L X eT N => by
  obtain ⟨t, o, k, r⟩ := q T L X eT N
  exact ⟨t, o, f T X.here t k, r⟩
theorem Go.at {g g' : JFrame} (q : Go p l e R s m args below meth c n0 Q h cells slots g') (hg : g = g') : Go p l e R s m args below meth c n0 Q h cells slots g := hg ▸ q
theorem g_iloadN (C : Cx p s m meth c Z own nm code ret maxL) {k : Fin 4} {v : Int32} (hd : decode code pc = .ok (.iload_n k, 1)) (hl : Ls[k.val]? = some (.val (.int v))) (hp : pc + 1 = pc') (q : Go p l e R s m args below meth c n0 Q h cells slots (mkF m pc' Ls (.int v :: st))) : Go p l e R s m args below meth c n0 Q h cells slots (mkF m pc Ls st) := by
  subst hp
  exact q.step fun T A t r => XS.iloadN A C.1 rfl (hb C.2.1 hd) hl r
theorem g_iload (C : Cx p s m meth c Z own nm code ret maxL) {k : Nat} {v : Int32} (hd : decode code pc = .ok (.iload k, 2)) (hl : Ls[k]? = some (.val (.int v))) (hp : pc + 2 = pc') (q : Go p l e R s m args below meth c n0 Q h cells slots (mkF m pc' Ls (.int v :: st))) : Go p l e R s m args below meth c n0 Q h cells slots (mkF m pc Ls st) := by
  subst hp
  exact q.step fun T A t r => XS.iload A C.1 rfl (hb C.2.1 hd) hl r
theorem g_aloadN (C : Cx p s m meth c Z own nm code ret maxL) {k : Fin 4} {v : Value} (hd : decode code pc = .ok (.aload_n k, 1)) (hl : Ls[k.val]? = some (.val v)) (hv : v.isRef = true) (hp : pc + 1 = pc') (q : Go p l e R s m args below meth c n0 Q h cells slots (mkF m pc' Ls (v :: st))) : Go p l e R s m args below meth c n0 Q h cells slots (mkF m pc Ls st) := by
  subst hp
  exact q.step fun T A t r => XS.aloadN A C.1 rfl (hb C.2.1 hd) hl hv r
theorem g_aload (C : Cx p s m meth c Z own nm code ret maxL) {k : Nat} {v : Value} (hd : decode code pc = .ok (.aload k, 2)) (hl : Ls[k]? = some (.val v)) (hv : v.isRef = true) (hp : pc + 2 = pc') (q : Go p l e R s m args below meth c n0 Q h cells slots (mkF m pc' Ls (v :: st))) : Go p l e R s m args below meth c n0 Q h cells slots (mkF m pc Ls st) := by
  subst hp
  exact q.step fun T A t r => XS.aload A C.1 rfl (hb C.2.1 hd) hl hv r
theorem g_iconst (C : Cx p s m meth c Z own nm code ret maxL) {i : Int} {v : Int32} (hd : decode code pc = .ok (.iconst i, 1)) (hv : Int32.ofInt i = v) (hp : pc + 1 = pc') (q : Go p l e R s m args below meth c n0 Q h cells slots (mkF m pc' Ls (.int v :: st))) : Go p l e R s m args below meth c n0 Q h cells slots (mkF m pc Ls st) := by
  subst hp hv
  exact q.step fun T A t r => XS.iconst A C.1 rfl (hb C.2.1 hd) r
theorem g_bipush (C : Cx p s m meth c Z own nm code ret maxL) {i : Int} {v : Int32} (hd : decode code pc = .ok (.bipush i, 2)) (hv : (Int8.ofInt i).toInt32 = v) (hp : pc + 2 = pc') (q : Go p l e R s m args below meth c n0 Q h cells slots (mkF m pc' Ls (.int v :: st))) : Go p l e R s m args below meth c n0 Q h cells slots (mkF m pc Ls st) := by
  subst hp hv
  exact q.step fun T A t r => XS.bipush A C.1 rfl (hb C.2.1 hd) r
theorem g_sipush (C : Cx p s m meth c Z own nm code ret maxL) {i : Int} {v : Int32} (hd : decode code pc = .ok (.sipush i, 3)) (hv : (Int16.ofInt i).toInt32 = v) (hp : pc + 3 = pc') (q : Go p l e R s m args below meth c n0 Q h cells slots (mkF m pc' Ls (.int v :: st))) : Go p l e R s m args below meth c n0 Q h cells slots (mkF m pc Ls st) := by
  subst hp hv
  exact q.step fun T A t r => XS.sipush A C.1 rfl (hb C.2.1 hd) r
theorem g_ldc (C : Cx p s m meth c Z own nm code ret maxL) {i : Nat} {v : Int32} (w : (Jvm.Cond.constant own i v).before a0 Z = true) (hd : decode code pc = .ok (.ldc i, 2)) (hp : pc + 2 = pc') (q : Go p l e R s m args below meth c n0 Q h cells slots (mkF m pc' Ls (.int v :: st))) : Go p l e R s m args below meth c n0 Q h cells slots (mkF m pc Ls st) := by
  subst hp
  intro T L X eT N
  obtain ⟨t, o, k, r⟩ := q T L X eT N
  exact ⟨t, o, X.ldcInt C.1 C.2.2.2.1 (mvT C.2.2.2.2.2.2.2 w) (g := mkF m pc Ls st) rfl (hb C.2.1 hd) t k, r⟩
theorem g_iadd (C : Cx p s m meth c Z own nm code ret maxL) {x y : Int32} (hd : decode code pc = .ok (.iadd, 1)) (hp : pc + 1 = pc') (q : Go p l e R s m args below meth c n0 Q h cells slots (mkF m pc' Ls (.int (x + y) :: st))) : Go p l e R s m args below meth c n0 Q h cells slots (mkF m pc Ls (.int y :: .int x :: st)) := by
  subst hp
  exact q.step fun T A t r => XS.iadd A C.1 rfl (hb C.2.1 hd) rfl r
theorem g_isub (C : Cx p s m meth c Z own nm code ret maxL) {x y : Int32} (hd : decode code pc = .ok (.isub, 1)) (hp : pc + 1 = pc') (q : Go p l e R s m args below meth c n0 Q h cells slots (mkF m pc' Ls (.int (x - y) :: st))) : Go p l e R s m args below meth c n0 Q h cells slots (mkF m pc Ls (.int y :: .int x :: st)) := by
  subst hp
  exact q.step fun T A t r => XS.isub A C.1 rfl (hb C.2.1 hd) rfl r
theorem g_imul (C : Cx p s m meth c Z own nm code ret maxL) {x y : Int32} (hd : decode code pc = .ok (.imul, 1)) (hp : pc + 1 = pc') (q : Go p l e R s m args below meth c n0 Q h cells slots (mkF m pc' Ls (.int (x * y) :: st))) : Go p l e R s m args below meth c n0 Q h cells slots (mkF m pc Ls (.int y :: .int x :: st)) := by
  subst hp
  exact q.step fun T A t r => XS.imul A C.1 rfl (hb C.2.1 hd) rfl r
theorem g_iand (C : Cx p s m meth c Z own nm code ret maxL) {x y : Int32} (hd : decode code pc = .ok (.iand, 1)) (hp : pc + 1 = pc') (q : Go p l e R s m args below meth c n0 Q h cells slots (mkF m pc' Ls (.int (x &&& y) :: st))) : Go p l e R s m args below meth c n0 Q h cells slots (mkF m pc Ls (.int y :: .int x :: st)) := by
  subst hp
  exact q.step fun T A t r => XS.iand A C.1 rfl (hb C.2.1 hd) rfl r
theorem g_ixor (C : Cx p s m meth c Z own nm code ret maxL) {x y : Int32} (hd : decode code pc = .ok (.ixor, 1)) (hp : pc + 1 = pc') (q : Go p l e R s m args below meth c n0 Q h cells slots (mkF m pc' Ls (.int (x ^^^ y) :: st))) : Go p l e R s m args below meth c n0 Q h cells slots (mkF m pc Ls (.int y :: .int x :: st)) := by
  subst hp
  exact q.step fun T A t r => XT.ixor A C.1 rfl (hb C.2.1 hd) rfl r
theorem g_irem (C : Cx p s m meth c Z own nm code ret maxL) {x y : Int32} (hd : decode code pc = .ok (.irem, 1)) (hy : y ≠ 0) (hp : pc + 1 = pc') (q : Go p l e R s m args below meth c n0 Q h cells slots (mkF m pc' Ls (.int (x % y) :: st))) : Go p l e R s m args below meth c n0 Q h cells slots (mkF m pc Ls (.int y :: .int x :: st)) := by
  subst hp
  intro T L X eT N
  obtain ⟨t, o, k, r⟩ := q T L X eT N
  exact ⟨t, o, iremM X C.1 (g := mkF m pc Ls (.int y :: .int x :: st)) rfl (hb C.2.1 hd) rfl hy k, r⟩
theorem g_dup (C : Cx p s m meth c Z own nm code ret maxL) {x : Value} (hd : decode code pc = .ok (.dup, 1)) (hx : x.category = 1) (hp : pc + 1 = pc') (q : Go p l e R s m args below meth c n0 Q h cells slots (mkF m pc' Ls (x :: x :: st))) : Go p l e R s m args below meth c n0 Q h cells slots (mkF m pc Ls (x :: st)) := by
  subst hp
  exact q.step fun T A t r => XS.dup A C.1 rfl (hb C.2.1 hd) rfl hx r
theorem g_istoreN (C : Cx p s m meth c Z own nm code ret maxL) {k : Fin 4} {x : Int32} (hd : decode code pc = .ok (.istore_n k, 1)) (hl : storeLocals Ls k.val (.int x) = some Ls') (hp : pc + 1 = pc') (q : Go p l e R s m args below meth c n0 Q h cells slots (mkF m pc' Ls' st)) : Go p l e R s m args below meth c n0 Q h cells slots (mkF m pc Ls (.int x :: st)) := by
  subst hp
  exact q.step fun T A t r => XS.istoreN A C.1 rfl (hb C.2.1 hd) rfl hl r
theorem g_istore (C : Cx p s m meth c Z own nm code ret maxL) {k : Nat} {x : Int32} (hd : decode code pc = .ok (.istore k, 2)) (hl : storeLocals Ls k (.int x) = some Ls') (hp : pc + 2 = pc') (q : Go p l e R s m args below meth c n0 Q h cells slots (mkF m pc' Ls' st)) : Go p l e R s m args below meth c n0 Q h cells slots (mkF m pc Ls (.int x :: st)) := by
  subst hp
  exact q.step fun T A t r => XS.istore A C.1 rfl (hb C.2.1 hd) rfl hl r
theorem g_astoreN (C : Cx p s m meth c Z own nm code ret maxL) {k : Fin 4} {x : Value} (hd : decode code pc = .ok (.astore_n k, 1)) (hv : x.isRef = true) (hl : storeLocals Ls k.val x = some Ls') (hp : pc + 1 = pc') (q : Go p l e R s m args below meth c n0 Q h cells slots (mkF m pc' Ls' st)) : Go p l e R s m args below meth c n0 Q h cells slots (mkF m pc Ls (x :: st)) := by
  subst hp
  exact q.step fun T A t r => XS.astoreN A C.1 rfl (hb C.2.1 hd) rfl hv hl r
theorem g_astore (C : Cx p s m meth c Z own nm code ret maxL) {k : Nat} {x : Value} (hd : decode code pc = .ok (.astore k, 2)) (hv : x.isRef = true) (hl : storeLocals Ls k x = some Ls') (hp : pc + 2 = pc') (q : Go p l e R s m args below meth c n0 Q h cells slots (mkF m pc' Ls' st)) : Go p l e R s m args below meth c n0 Q h cells slots (mkF m pc Ls (x :: st)) := by
  subst hp
  exact q.step fun T A t r => XS.astore A C.1 rfl (hb C.2.1 hd) rfl hv hl r
theorem g_goto (C : Cx p s m meth c Z own nm code ret maxL) {o : Int} (hd : decode code pc = .ok (.goto o, 3)) (ho : 0 ≤ (pc : Int) + o) (hp : ((pc : Int) + o).toNat = pc') (q : Go p l e R s m args below meth c n0 Q h cells slots (mkF m pc' Ls st)) : Go p l e R s m args below meth c n0 Q h cells slots (mkF m pc Ls st) := q.step fun T A t r => XS.goto A C.1 rfl (pc0 := pc) rfl (hb C.2.1 hd) ho hp r
/-- a comparison of two ints: both ways -/
theorem g_icmp (C : Cx p s m meth c Z own nm code ret maxL) {cd : ClassFile.Cond} {x y : Int32} {o : Int} {P : Prop} [Decidable P] (hd : decode code pc = .ok (.if_icmp cd o, 3)) (hc : if_icmp.holds cd x y = decide P) (ho : 0 ≤ (pc : Int) + o) (hp2 : ((pc : Int) + o).toNat = pc2) (hp : pc + 3 = pc')
    (q1 : P → Go p l e R s m args below meth c n0 Q h cells slots (mkF m pc2 Ls st)) (q2 : ¬ P → Go p l e R s m args below meth c n0 Q h cells slots (mkF m pc' Ls st)) : Go p l e R s m args below meth c n0 Q h cells slots (mkF m pc Ls (.int y :: .int x :: st)) := by
  subst hp
  by_cases hP : P
  · exact (q1 hP).step fun T A t r => XS.icmpYes A C.1 rfl (pc0 := pc) rfl (hb C.2.1 hd) rfl (hc.trans (decide_eq_true hP)) ho hp2 r
  · exact (q2 hP).step fun T A t r => XS.icmpNo A C.1 rfl (hb C.2.1 hd) rfl (hc.trans (decide_eq_false hP)) r
/-- a comparison of an int with 0: both ways -/
theorem g_if (C : Cx p s m meth c Z own nm code ret maxL) {cd : ClassFile.Cond} {x : Int32} {o : Int} {P : Prop} [Decidable P] (hd : decode code pc = .ok (.ifCond cd o, 3)) (hc : if_icmp.holds cd x 0 = decide P) (ho : 0 ≤ (pc : Int) + o) (hp2 : ((pc : Int) + o).toNat = pc2) (hp : pc + 3 = pc')
    (q1 : P → Go p l e R s m args below meth c n0 Q h cells slots (mkF m pc2 Ls st)) (q2 : ¬ P → Go p l e R s m args below meth c n0 Q h cells slots (mkF m pc' Ls st)) : Go p l e R s m args below meth c n0 Q h cells slots (mkF m pc Ls (.int x :: st)) := by
  subst hp
  by_cases hP : P
  · exact (q1 hP).step fun T A t r => XS.ifYes A C.1 rfl (pc0 := pc) rfl (hb C.2.1 hd) rfl ((if0 cd x).trans (hc.trans (decide_eq_true hP))) ho hp2 r
  · exact (q2 hP).step fun T A t r => XS.ifNo A C.1 rfl (hb C.2.1 hd) rfl ((if0 cd x).trans (hc.trans (decide_eq_false hP))) r
theorem c_lt (x y : Int32) : if_icmp.holds .lt x y = decide (x < y) := by
  by_cases q : x < y
  · exact (tlt q).1.trans (decide_eq_true q).symm
  · exact (flt q).1.trans (decide_eq_false q).symm
theorem c_ge (x y : Int32) : if_icmp.holds .ge x y = decide (¬ x < y) := by
  by_cases q : x < y
  · exact (tlt q).2.1.trans (decide_eq_false (not_not_intro q)).symm
  · exact (flt q).2.1.trans (decide_eq_true q).symm
theorem c_gt (x y : Int32) : if_icmp.holds .gt x y = decide (y < x) := by
  by_cases q : y < x
  · exact (tlt q).2.2.1.trans (decide_eq_true q).symm
  · exact (flt q).2.2.1.trans (decide_eq_false q).symm
theorem c_le (x y : Int32) : if_icmp.holds .le x y = decide (¬ y < x) := by
  by_cases q : y < x
  · exact (tlt q).2.2.2.trans (decide_eq_false (not_not_intro q)).symm
  · exact (flt q).2.2.2.trans (decide_eq_true q).symm
theorem c_eq (x y : Int32) : if_icmp.holds .eq x y = decide (x = y) := by
  by_cases q : x = y
  · exact (teq q).1.trans (decide_eq_true q).symm
  · exact (feq q).1.trans (decide_eq_false q).symm
theorem c_ne (x y : Int32) : if_icmp.holds .ne x y = decide (¬ x = y) := by
  by_cases q : x = y
  · exact (teq q).2.trans (decide_eq_false (not_not_intro q)).symm
  · exact (feq q).2.trans (decide_eq_true q).symm
/-- a fork of what is returned -/
theorem Go.pos {H : Heap → Prop} {P : Prop} [Decidable P] {a b : Int32} {g : JFrame} (q : Go p l e R s m args below meth c n0 (Ret n0 H a) h cells slots g) (hP : P) : Go p l e R s m args below meth c n0 (Ret n0 H (if P then a else b)) h cells slots g := by rw [if_pos hP]; exact q
theorem Go.neg {H : Heap → Prop} {P : Prop} [Decidable P] {a b : Int32} {g : JFrame} (q : Go p l e R s m args below meth c n0 (Ret n0 H b) h cells slots g) (hP : ¬ P) : Go p l e R s m args below meth c n0 (Ret n0 H (if P then a else b)) h cells slots g := by rw [if_neg hP]; exact q
theorem Go.cast {H : Heap → Prop} {a b : Int32} {g : JFrame} (q : Go p l e R s m args below meth c n0 (Ret n0 H a) h cells slots g) (hab : a = b) : Go p l e R s m args below meth c n0 (Ret n0 H b) h cells slots g := hab ▸ q
theorem g_retZ {H : Heap → Prop} (C : Cx p s m meth c Z own nm code (some .boolean) maxL) {z r : Int32} (hd : decode code pc = .ok (.ireturn, 1)) (hz : nar .boolean z = r) (hH : H h) (hc : cells ≤ R.cells) (hs : slots ≤ R.slots) : Go p l e R s m args below meth c n0 (Ret n0 H r) h cells slots (mkF m pc Ls (.int z :: st)) := fun T L X eT N => by
  obtain ⟨-, -, -, -, -, hret, hlk, -⟩ := id C
  obtain ⟨fs, hr, hrun, hended, hW, hsame⟩ := X.leave (v := some (.int (nar .boolean z))) (fun q => by rw [hret] at q; cases q) hlk
  exact ⟨_, _, retN X C.1 (t := .boolean) hret (by simp) (hb C.2.1 hd) hr, hrun, hended, _, L, rfl, ⟨by rw [hz], N, by show H T.heap; rw [eT]; exact hH⟩, ⟨_, rfl⟩, hW, hsame.mono hc hs⟩
theorem g_retI {H : Heap → Prop} (C : Cx p s m meth c Z own nm code (some .int) maxL) {z : Int32} (hd : decode code pc = .ok (.ireturn, 1)) (hH : H h) (hc : cells ≤ R.cells) (hs : slots ≤ R.slots) : Go p l e R s m args below meth c n0 (Ret n0 H z) h cells slots (mkF m pc Ls (.int z :: st)) := fun T L X eT N => by
  obtain ⟨-, -, -, -, -, hret, hlk, -⟩ := id C
  obtain ⟨fs, hr, hrun, hended, hW, hsame⟩ := X.leave (v := some (.int z)) (fun q => by rw [hret] at q; cases q) hlk
  exact ⟨_, _, retOut X C.1 hret rfl (Or.inl ⟨rfl, Or.inl rfl, z, rfl⟩) (hb C.2.1 hd) hr, hrun, hended, _, L, rfl, ⟨rfl, N, by show H T.heap; rw [eT]; exact hH⟩, ⟨_, rfl⟩, hW, hsame.mono hc hs⟩
/-- a static call, paid by the callee's contract; the callee makes at most rm.cells cells and rm.slots slots -/
theorem g_callS (C : Cx p s m meth c Z own nm code ret maxL) {i : Nat} {y : MethodName} {bytes : ByteArray} {ml : Nat} {rt : Option FieldType} {rm : Room} {as' : List Value} {Qc : Option Value → Heap → List Loc → Prop} (W : Nat) (w1 : (Jvm.Cond.methodLink own i y).before a0 Z = true) (w2 : (Jvm.Cond.static y).before a0 Z = true) (w3 : (Jvm.Cond.initialized y.cls).before a0 Z = true) (w4 : (Jvm.Cond.code y bytes ml rt).before a0 Z = true)
    (hy : y.cls ≠ "java/lang/invoke/MethodHandle" ∧ y.cls ≠ "java/lang/invoke/VarHandle") (hM : Con l Z y bytes ml rt rm [] as'.toArray h Qc) (hf : rm.frames + 1 ≤ R.frames) (hl : W + (ml + 11) + rm.locals ≤ R.locals) (hrc : cells + rm.cells ≤ R.cells) (hrs : slots + rm.slots ≤ R.slots) {ps : List FieldType} {rr : Option FieldType} (hpd : parseMethodDescriptor y.desc = some ⟨ps, rr⟩) (hlen : as'.length = ps.length)
    (hsz : Ls.size = maxL) {stk : List Value} (hst : stk = as'.reverse ++ st) (hW : (st.map fun v => v.category).sum ≤ W) (hd : decode code pc = .ok (.invokestatic i, 3)) (hp : pc + 3 = pc')
    (q : ∀ v h' L', Qc v h' L' → (Fr n0 L' ∧ Go p l e R s m args below meth c n0 Q h' (cells + rm.cells) (slots + rm.slots) (mkF m pc' Ls (v.toList ++ st)))) : Go p l e R s m args below meth c n0 Q h cells slots (mkF m pc Ls stk) := by
  intro T L X eT N
  subst hp
  obtain ⟨hx, hby, hml, hown, -, hret, hlk, hZ⟩ := id C
  obtain ⟨v, _, ⟨T1, L1, k1, n1⟩, -, X1, ⟨Lc, hQ, l1, y1, z1⟩, st1⟩ := Jvm.LawKit.callS X hx (y := y) hown (mvT hZ w1) (mvT hZ w2) (mvT hZ w3) (mvT hZ w4) hy (backOf (W := W) hM hZ w4 w3 hf hl) (g := mkF m pc Ls stk) rfl (hsz.trans hml.symm) (argsL := as') (rest := st) (lenOf hpd hlen) hst (by show 2 * 0 + _ ≤ _; omega) (hb hby hd) (fun _ _ => ⟨rfl, eT, hrc, hrs⟩)
  dsimp only [Pt.U, Pt.locs, Pt.cells, Pt.slots] at X1 l1 y1 z1 st1 hQ
  subst l1 y1 z1
  obtain ⟨hN, hG⟩ := q v _ Lc hQ
  obtain ⟨t, o, k, r⟩ := hG T1 _ X1 rfl (N.app hN)
  exact ⟨t, o, st1 t k, r⟩
/-- a static call of a method that computes an int and leaves the heap as it was -/
theorem g_callP (C : Cx p s m meth c Z own nm code ret maxL) {i : Nat} {y : MethodName} {bytes : ByteArray} {ml : Nat} {rt : Option FieldType} {rm : Room} {as' : List Value} {z : Int32} (W : Nat) (w1 : (Jvm.Cond.methodLink own i y).before a0 Z = true) (w2 : (Jvm.Cond.static y).before a0 Z = true) (w3 : (Jvm.Cond.initialized y.cls).before a0 Z = true) (w4 : (Jvm.Cond.code y bytes ml rt).before a0 Z = true)
    (hy : y.cls ≠ "java/lang/invoke/MethodHandle" ∧ y.cls ≠ "java/lang/invoke/VarHandle") (hM : Con l Z y bytes ml rt rm [] as'.toArray h (Ret n0 (· = h) z)) (hf : rm.frames + 1 ≤ R.frames) (hl : W + (ml + 11) + rm.locals ≤ R.locals) (hrc : rm.cells = 0) (hrs : rm.slots = 0) (hcl : cells ≤ R.cells) (hsl : slots ≤ R.slots) {ps : List FieldType} {rr : Option FieldType} (hpd : parseMethodDescriptor y.desc = some ⟨ps, rr⟩) (hlen : as'.length = ps.length)
    (hsz : Ls.size = maxL) {stk : List Value} (hst : stk = as'.reverse ++ st) (hW : (st.map fun v => v.category).sum ≤ W) (hd : decode code pc = .ok (.invokestatic i, 3)) (hp : pc + 3 = pc')
    (q : Go p l e R s m args below meth c n0 Q h cells slots (mkF m pc' Ls (.int z :: st))) : Go p l e R s m args below meth c n0 Q h cells slots (mkF m pc Ls stk) := by
  refine g_callS C W w1 w2 w3 w4 hy hM hf hl (by rw [hrc]; exact hcl) (by rw [hrs]; exact hsl) hpd hlen hsz hst hW hd hp ?_
  rintro v h' L' ⟨rfl, hN, rfl⟩
  refine ⟨hN, ?_⟩
  rw [hrc, hrs]
  exact q
end Steps
end Jvm.OwnGo
namespace Jvm.Pilot.@@N@@
open Jvm Jvm.ClassFile Sem Op Lib Jvm.Free Jvm.Stand Jvm.LawKit Jvm.RoadKit Jvm.OwnGo Bundle Jvm.Pilot.@@N@@.Jvm.D
theorem d2_0 : decode prog_223_method_6_code 0 = .ok (.iload_n 1, 1) := by decide +kernel
theorem d2_1 : decode prog_223_method_6_code 1 = .ok (.ifCond .eq 35, 3) := by decide +kernel
theorem d2_4 : decode prog_223_method_6_code 4 = .ok (.iload_n 0, 1) := by decide +kernel
theorem d2_5 : decode prog_223_method_6_code 5 = .ok (.ifCond .eq 12, 3) := by decide +kernel
theorem d2_8 : decode prog_223_method_6_code 8 = .ok (.iload_n 2, 1) := by decide +kernel
theorem d2_9 : decode prog_223_method_6_code 9 = .ok (.ifCond .eq 8, 3) := by decide +kernel
theorem d2_12 : decode prog_223_method_6_code 12 = .ok (.bipush 7, 2) := by decide +kernel
theorem d2_14 : decode prog_223_method_6_code 14 = .ok (.goto 21, 3) := by decide +kernel
theorem d2_17 : decode prog_223_method_6_code 17 = .ok (.iload_n 0, 1) := by decide +kernel
theorem d2_18 : decode prog_223_method_6_code 18 = .ok (.ifCond .eq 8, 3) := by decide +kernel
theorem d2_21 : decode prog_223_method_6_code 21 = .ok (.bipush 6, 2) := by decide +kernel
theorem d2_23 : decode prog_223_method_6_code 23 = .ok (.goto 12, 3) := by decide +kernel
theorem d2_26 : decode prog_223_method_6_code 26 = .ok (.iload_n 2, 1) := by decide +kernel
theorem d2_27 : decode prog_223_method_6_code 27 = .ok (.ifCond .eq 7, 3) := by decide +kernel
theorem d2_30 : decode prog_223_method_6_code 30 = .ok (.iconst 5, 1) := by decide +kernel
theorem d2_31 : decode prog_223_method_6_code 31 = .ok (.goto 4, 3) := by decide +kernel
theorem d2_34 : decode prog_223_method_6_code 34 = .ok (.iconst 2, 1) := by decide +kernel
theorem d2_35 : decode prog_223_method_6_code 35 = .ok (.ireturn, 1) := by decide +kernel
theorem d2_36 : decode prog_223_method_6_code 36 = .ok (.iload_n 0, 1) := by decide +kernel
theorem d2_37 : decode prog_223_method_6_code 37 = .ok (.ifCond .eq 11, 3) := by decide +kernel
theorem d2_40 : decode prog_223_method_6_code 40 = .ok (.iload_n 2, 1) := by decide +kernel
theorem d2_41 : decode prog_223_method_6_code 41 = .ok (.ifCond .eq 7, 3) := by decide +kernel
theorem d2_44 : decode prog_223_method_6_code 44 = .ok (.iconst 4, 1) := by decide +kernel
theorem d2_45 : decode prog_223_method_6_code 45 = .ok (.goto 20, 3) := by decide +kernel
theorem d2_48 : decode prog_223_method_6_code 48 = .ok (.iload_n 0, 1) := by decide +kernel
theorem d2_49 : decode prog_223_method_6_code 49 = .ok (.ifCond .eq 7, 3) := by decide +kernel
theorem d2_52 : decode prog_223_method_6_code 52 = .ok (.iconst 3, 1) := by decide +kernel
theorem d2_53 : decode prog_223_method_6_code 53 = .ok (.goto 12, 3) := by decide +kernel
theorem d2_56 : decode prog_223_method_6_code 56 = .ok (.iload_n 2, 1) := by decide +kernel
theorem d2_57 : decode prog_223_method_6_code 57 = .ok (.ifCond .eq 7, 3) := by decide +kernel
theorem d2_60 : decode prog_223_method_6_code 60 = .ok (.iconst 1, 1) := by decide +kernel
theorem d2_61 : decode prog_223_method_6_code 61 = .ok (.goto 4, 3) := by decide +kernel
theorem d2_64 : decode prog_223_method_6_code 64 = .ok (.iconst 0, 1) := by decide +kernel
theorem d2_65 : decode prog_223_method_6_code 65 = .ok (.ireturn, 1) := by decide +kernel
def r2 : Room := { frames := 0, cells := 0, slots := 0, locals := 0 }
theorem pd2 : parseMethodDescriptor "(ZZZ)I" = some ⟨[.boolean, .boolean, .boolean], some .int⟩ := by decide +kernel
theorem pn2 : plainName "com/example/knotwork/knotwork/sparql/Atom$Triple" = true := by first | (simp [plainName, overriddenIn]; done) | decide +kernel
theorem ef2 (m : MethodId) (x0 x1 x2 : Int32) : entryFrame m #[(.int x0), (.int x1), (.int x2)] 3 = mkF m 0 #[.val (.int x0), .val (.int x1), .val (.int x2)] [] := by first | (simp [entryFrame, mkF, argsToLocals, Value.category]; done) | rfl
def f2_48 (x0 x2 : Int32) : Int32 := (if x0 = (0 : Int32) then (if x2 = (0 : Int32) then (0 : Int32) else (1 : Int32)) else (3 : Int32))
theorem j2_48 {p : Program} {l : Launch} {e : Env} {s : State} {m : MethodId} {args : Array Value} {below : List Frame} {meth : Method} {c : Code} {n0 : Nat} {H : Heap → Prop} {h : Heap} {Z : State} {a0 : Array Value} (hw : ∀ d ∈ tables_1, d.before a0 Z = true) (hH : H h) (C : Cx p s m meth c Z "com/example/knotwork/knotwork/sparql/Atom$Triple" "selectivity" prog_223_method_6_code (some .int) 3) (x0 : Int32) (x1 : Int32) (x2 : Int32) : Go p l e r2 s m args below meth c n0 (Ret n0 H (f2_48 x0 x2)) h 0 0 (mkF m 48 #[.val (.int x0), .val (.int x1), .val (.int x2)] []) := by
  unfold f2_48
  refine g_iloadN C d2_48 rfl (pc' := 49) rfl ?_
  refine g_if C d2_49 (c_eq x0 (0 : Int32)) (by decide) (pc2 := 56) (by decide) (pc' := 52) rfl (fun hP => Go.pos ?_ hP) (fun hP => Go.neg ?_ hP)
  · refine g_iloadN C d2_56 rfl (pc' := 57) rfl ?_
    refine g_if C d2_57 (c_eq x2 (0 : Int32)) (by decide) (pc2 := 64) (by decide) (pc' := 60) rfl (fun hP => Go.pos ?_ hP) (fun hP => Go.neg ?_ hP)
    · refine g_iconst C d2_64 (v := (0 : Int32)) (by decide) (pc' := 65) rfl ?_
      exact g_retI C d2_65 hH (by decide) (by decide)
    · refine g_iconst C d2_60 (v := (1 : Int32)) (by decide) (pc' := 61) rfl ?_
      refine g_goto C d2_61 (by decide) (pc' := 65) (by decide) ?_
      exact g_retI C d2_65 hH (by decide) (by decide)
  · refine g_iconst C d2_52 (v := (3 : Int32)) (by decide) (pc' := 53) rfl ?_
    refine g_goto C d2_53 (by decide) (pc' := 65) (by decide) ?_
    exact g_retI C d2_65 hH (by decide) (by decide)
def f2_17 (x0 x2 : Int32) : Int32 := (if x0 = (0 : Int32) then (if x2 = (0 : Int32) then (2 : Int32) else (5 : Int32)) else (6 : Int32))
theorem j2_17 {p : Program} {l : Launch} {e : Env} {s : State} {m : MethodId} {args : Array Value} {below : List Frame} {meth : Method} {c : Code} {n0 : Nat} {H : Heap → Prop} {h : Heap} {Z : State} {a0 : Array Value} (hw : ∀ d ∈ tables_1, d.before a0 Z = true) (hH : H h) (C : Cx p s m meth c Z "com/example/knotwork/knotwork/sparql/Atom$Triple" "selectivity" prog_223_method_6_code (some .int) 3) (x0 : Int32) (x1 : Int32) (x2 : Int32) : Go p l e r2 s m args below meth c n0 (Ret n0 H (f2_17 x0 x2)) h 0 0 (mkF m 17 #[.val (.int x0), .val (.int x1), .val (.int x2)] []) := by
  unfold f2_17
  refine g_iloadN C d2_17 rfl (pc' := 18) rfl ?_
  refine g_if C d2_18 (c_eq x0 (0 : Int32)) (by decide) (pc2 := 26) (by decide) (pc' := 21) rfl (fun hP => Go.pos ?_ hP) (fun hP => Go.neg ?_ hP)
  · refine g_iloadN C d2_26 rfl (pc' := 27) rfl ?_
    refine g_if C d2_27 (c_eq x2 (0 : Int32)) (by decide) (pc2 := 34) (by decide) (pc' := 30) rfl (fun hP => Go.pos ?_ hP) (fun hP => Go.neg ?_ hP)
    · refine g_iconst C d2_34 (v := (2 : Int32)) (by decide) (pc' := 35) rfl ?_
      exact g_retI C d2_35 hH (by decide) (by decide)
    · refine g_iconst C d2_30 (v := (5 : Int32)) (by decide) (pc' := 31) rfl ?_
      refine g_goto C d2_31 (by decide) (pc' := 35) (by decide) ?_
      exact g_retI C d2_35 hH (by decide) (by decide)
  · refine g_bipush C d2_21 (v := (6 : Int32)) (by decide) (pc' := 23) rfl ?_
    refine g_goto C d2_23 (by decide) (pc' := 35) (by decide) ?_
    exact g_retI C d2_35 hH (by decide) (by decide)
def f2_0 (x0 x1 x2 : Int32) : Int32 := (if x1 = (0 : Int32) then (if x0 = (0 : Int32) then f2_48 x0 x2 else (if x2 = (0 : Int32) then f2_48 x0 x2 else (4 : Int32))) else (if x0 = (0 : Int32) then f2_17 x0 x2 else (if x2 = (0 : Int32) then f2_17 x0 x2 else (7 : Int32))))
theorem j2_0 {p : Program} {l : Launch} {e : Env} {s : State} {m : MethodId} {args : Array Value} {below : List Frame} {meth : Method} {c : Code} {n0 : Nat} {H : Heap → Prop} {h : Heap} {Z : State} {a0 : Array Value} (hw : ∀ d ∈ tables_1, d.before a0 Z = true) (hH : H h) (C : Cx p s m meth c Z "com/example/knotwork/knotwork/sparql/Atom$Triple" "selectivity" prog_223_method_6_code (some .int) 3) (x0 : Int32) (x1 : Int32) (x2 : Int32) : Go p l e r2 s m args below meth c n0 (Ret n0 H (f2_0 x0 x1 x2)) h 0 0 (mkF m 0 #[.val (.int x0), .val (.int x1), .val (.int x2)] []) := by
  unfold f2_0
  refine g_iloadN C d2_0 rfl (pc' := 1) rfl ?_
  refine g_if C d2_1 (c_eq x1 (0 : Int32)) (by decide) (pc2 := 36) (by decide) (pc' := 4) rfl (fun hP => Go.pos ?_ hP) (fun hP => Go.neg ?_ hP)
  · refine g_iloadN C d2_36 rfl (pc' := 37) rfl ?_
    refine g_if C d2_37 (c_eq x0 (0 : Int32)) (by decide) (pc2 := 48) (by decide) (pc' := 40) rfl (fun hP => Go.pos ?_ hP) (fun hP => Go.neg ?_ hP)
    · exact j2_48 hw hH C x0 x1 x2
    · refine g_iloadN C d2_40 rfl (pc' := 41) rfl ?_
      refine g_if C d2_41 (c_eq x2 (0 : Int32)) (by decide) (pc2 := 48) (by decide) (pc' := 44) rfl (fun hP => Go.pos ?_ hP) (fun hP => Go.neg ?_ hP)
      · exact j2_48 hw hH C x0 x1 x2
      · refine g_iconst C d2_44 (v := (4 : Int32)) (by decide) (pc' := 45) rfl ?_
        refine g_goto C d2_45 (by decide) (pc' := 65) (by decide) ?_
        exact g_retI C d2_65 hH (by decide) (by decide)
  · refine g_iloadN C d2_4 rfl (pc' := 5) rfl ?_
    refine g_if C d2_5 (c_eq x0 (0 : Int32)) (by decide) (pc2 := 17) (by decide) (pc' := 8) rfl (fun hP => Go.pos ?_ hP) (fun hP => Go.neg ?_ hP)
    · exact j2_17 hw hH C x0 x1 x2
    · refine g_iloadN C d2_8 rfl (pc' := 9) rfl ?_
      refine g_if C d2_9 (c_eq x2 (0 : Int32)) (by decide) (pc2 := 17) (by decide) (pc' := 12) rfl (fun hP => Go.pos ?_ hP) (fun hP => Go.neg ?_ hP)
      · exact j2_17 hw hH C x0 x1 x2
      · refine g_bipush C d2_12 (v := (7 : Int32)) (by decide) (pc' := 14) rfl ?_
        refine g_goto C d2_14 (by decide) (pc' := 35) (by decide) ?_
        exact g_retI C d2_35 hH (by decide) (by decide)
theorem rm2 (l : Launch) (Z : State) (a0 : Array Value) (hw : ∀ d ∈ tables_1, d.before a0 Z = true) (ws : List Jvm.Cond) (h : Heap) (n0 : Nat) (x0 x1 x2 : Int32) : Con l Z (⟨"com/example/knotwork/knotwork/sparql/Atom$Triple", "selectivity", "(ZZZ)I"⟩ : MethodName) prog_223_method_6_code 3 (some .int) r2 ws #[(.int x0), (.int x1), (.int x2)] h (Ret n0 (· = h) (f2_0 x0 x1 x2)) :=
  con_of n0 pn2 (fun m => ef2 m x0 x1 x2) fun p e s m below meth c C => j2_0 (H := (· = h)) hw rfl C x0 x1 x2
theorem d1_0 : decode method_2_code 0 = .ok (.iload_n 0, 1) := by decide +kernel
theorem d1_1 : decode method_2_code 1 = .ok (.iconst 1, 1) := by decide +kernel
theorem d1_2 : decode method_2_code 2 = .ok (.iand, 1) := by decide +kernel
theorem d1_3 : decode method_2_code 3 = .ok (.ifCond .eq 7, 3) := by decide +kernel
theorem d1_6 : decode method_2_code 6 = .ok (.iconst 1, 1) := by decide +kernel
theorem d1_7 : decode method_2_code 7 = .ok (.goto 4, 3) := by decide +kernel
theorem d1_10 : decode method_2_code 10 = .ok (.iconst 0, 1) := by decide +kernel
theorem d1_11 : decode method_2_code 11 = .ok (.iload_n 0, 1) := by decide +kernel
theorem d1_12 : decode method_2_code 12 = .ok (.iconst 2, 1) := by decide +kernel
theorem d1_13 : decode method_2_code 13 = .ok (.iand, 1) := by decide +kernel
theorem d1_14 : decode method_2_code 14 = .ok (.ifCond .eq 7, 3) := by decide +kernel
theorem d1_17 : decode method_2_code 17 = .ok (.iconst 1, 1) := by decide +kernel
theorem d1_18 : decode method_2_code 18 = .ok (.goto 4, 3) := by decide +kernel
theorem d1_21 : decode method_2_code 21 = .ok (.iconst 0, 1) := by decide +kernel
theorem d1_22 : decode method_2_code 22 = .ok (.iload_n 0, 1) := by decide +kernel
theorem d1_23 : decode method_2_code 23 = .ok (.iconst 4, 1) := by decide +kernel
theorem d1_24 : decode method_2_code 24 = .ok (.iand, 1) := by decide +kernel
theorem d1_25 : decode method_2_code 25 = .ok (.ifCond .eq 7, 3) := by decide +kernel
theorem d1_28 : decode method_2_code 28 = .ok (.iconst 1, 1) := by decide +kernel
theorem d1_29 : decode method_2_code 29 = .ok (.goto 4, 3) := by decide +kernel
theorem d1_32 : decode method_2_code 32 = .ok (.iconst 0, 1) := by decide +kernel
theorem d1_33 : decode method_2_code 33 = .ok (.invokestatic 7, 3) := by decide +kernel
theorem d1_36 : decode method_2_code 36 = .ok (.ireturn, 1) := by decide +kernel
def r1 : Room := { frames := 1, cells := 0, slots := 0, locals := 16 }
theorem pd1 : parseMethodDescriptor "(I)I" = some ⟨[.int], some .int⟩ := by decide +kernel
theorem pn1 : plainName "com/example/knotwork/knotwork/sparql/TripleSelectivityPinLaw" = true := by first | (simp [plainName, overriddenIn]; done) | decide +kernel
theorem ef1 (m : MethodId) (x0 : Int32) : entryFrame m #[(.int x0)] 1 = mkF m 0 #[.val (.int x0)] [] := by first | (simp [entryFrame, mkF, argsToLocals, Value.category]; done) | rfl
def f1_33 (y0 y1 y2 : Int32) : Int32 := (f2_0 y2 y1 y0)
theorem j1_33 {p : Program} {l : Launch} {e : Env} {s : State} {m : MethodId} {args : Array Value} {below : List Frame} {meth : Method} {c : Code} {n0 : Nat} {H : Heap → Prop} {h : Heap} {Z : State} {a0 : Array Value} (hw : ∀ d ∈ tables_1, d.before a0 Z = true) (hH : H h) (C : Cx p s m meth c Z "com/example/knotwork/knotwork/sparql/TripleSelectivityPinLaw" "sel" method_2_code (some .int) 1) (x0 : Int32) (y0 : Int32) (y1 : Int32) (y2 : Int32) : Go p l e r1 s m args below meth c n0 (Ret n0 H (f1_33 y0 y1 y2)) h 0 0 (mkF m 33 #[.val (.int x0)] [(.int y0), (.int y1), (.int y2)]) := by
  unfold f1_33
  refine g_callP C 0 (hw _ (List.mem_of_getElem? (i := 4) rfl)) (hw _ (List.mem_of_getElem? (i := 5) rfl)) (hw _ (List.mem_of_getElem? (i := 6) rfl)) (hw _ (List.mem_of_getElem? (i := 7) rfl)) (by decide) (rm2 l Z a0 hw [] h n0 y2 y1 y0) (by decide) (by decide) rfl rfl (by decide) (by decide) pd2 rfl rfl (st := []) rfl (Nat.le_of_eq rfl) d1_33 (pc' := 36) rfl ?_
  exact g_retI C d1_36 hH (by decide) (by decide)
def f1_22 (x0 y0 y1 : Int32) : Int32 := (if (x0 &&& (4 : Int32)) = (0 : Int32) then f1_33 (0 : Int32) y0 y1 else f1_33 (1 : Int32) y0 y1)
theorem j1_22 {p : Program} {l : Launch} {e : Env} {s : State} {m : MethodId} {args : Array Value} {below : List Frame} {meth : Method} {c : Code} {n0 : Nat} {H : Heap → Prop} {h : Heap} {Z : State} {a0 : Array Value} (hw : ∀ d ∈ tables_1, d.before a0 Z = true) (hH : H h) (C : Cx p s m meth c Z "com/example/knotwork/knotwork/sparql/TripleSelectivityPinLaw" "sel" method_2_code (some .int) 1) (x0 : Int32) (y0 : Int32) (y1 : Int32) : Go p l e r1 s m args below meth c n0 (Ret n0 H (f1_22 x0 y0 y1)) h 0 0 (mkF m 22 #[.val (.int x0)] [(.int y0), (.int y1)]) := by
  unfold f1_22
  refine g_iloadN C d1_22 rfl (pc' := 23) rfl ?_
  refine g_iconst C d1_23 (v := (4 : Int32)) (by decide) (pc' := 24) rfl ?_
  refine g_iand C d1_24 (pc' := 25) rfl ?_
  refine g_if C d1_25 (c_eq (x0 &&& (4 : Int32)) (0 : Int32)) (by decide) (pc2 := 32) (by decide) (pc' := 28) rfl (fun hP => Go.pos ?_ hP) (fun hP => Go.neg ?_ hP)
  · refine g_iconst C d1_32 (v := (0 : Int32)) (by decide) (pc' := 33) rfl ?_
    exact j1_33 hw hH C x0 (0 : Int32) y0 y1
  · refine g_iconst C d1_28 (v := (1 : Int32)) (by decide) (pc' := 29) rfl ?_
    refine g_goto C d1_29 (by decide) (pc' := 33) (by decide) ?_
    exact j1_33 hw hH C x0 (1 : Int32) y0 y1
def f1_11 (x0 y0 : Int32) : Int32 := (if (x0 &&& (2 : Int32)) = (0 : Int32) then f1_22 x0 (0 : Int32) y0 else f1_22 x0 (1 : Int32) y0)
theorem j1_11 {p : Program} {l : Launch} {e : Env} {s : State} {m : MethodId} {args : Array Value} {below : List Frame} {meth : Method} {c : Code} {n0 : Nat} {H : Heap → Prop} {h : Heap} {Z : State} {a0 : Array Value} (hw : ∀ d ∈ tables_1, d.before a0 Z = true) (hH : H h) (C : Cx p s m meth c Z "com/example/knotwork/knotwork/sparql/TripleSelectivityPinLaw" "sel" method_2_code (some .int) 1) (x0 : Int32) (y0 : Int32) : Go p l e r1 s m args below meth c n0 (Ret n0 H (f1_11 x0 y0)) h 0 0 (mkF m 11 #[.val (.int x0)] [(.int y0)]) := by
  unfold f1_11
  refine g_iloadN C d1_11 rfl (pc' := 12) rfl ?_
  refine g_iconst C d1_12 (v := (2 : Int32)) (by decide) (pc' := 13) rfl ?_
  refine g_iand C d1_13 (pc' := 14) rfl ?_
  refine g_if C d1_14 (c_eq (x0 &&& (2 : Int32)) (0 : Int32)) (by decide) (pc2 := 21) (by decide) (pc' := 17) rfl (fun hP => Go.pos ?_ hP) (fun hP => Go.neg ?_ hP)
  · refine g_iconst C d1_21 (v := (0 : Int32)) (by decide) (pc' := 22) rfl ?_
    exact j1_22 hw hH C x0 (0 : Int32) y0
  · refine g_iconst C d1_17 (v := (1 : Int32)) (by decide) (pc' := 18) rfl ?_
    refine g_goto C d1_18 (by decide) (pc' := 22) (by decide) ?_
    exact j1_22 hw hH C x0 (1 : Int32) y0
def f1_0 (x0 : Int32) : Int32 := (if (x0 &&& (1 : Int32)) = (0 : Int32) then f1_11 x0 (0 : Int32) else f1_11 x0 (1 : Int32))
theorem j1_0 {p : Program} {l : Launch} {e : Env} {s : State} {m : MethodId} {args : Array Value} {below : List Frame} {meth : Method} {c : Code} {n0 : Nat} {H : Heap → Prop} {h : Heap} {Z : State} {a0 : Array Value} (hw : ∀ d ∈ tables_1, d.before a0 Z = true) (hH : H h) (C : Cx p s m meth c Z "com/example/knotwork/knotwork/sparql/TripleSelectivityPinLaw" "sel" method_2_code (some .int) 1) (x0 : Int32) : Go p l e r1 s m args below meth c n0 (Ret n0 H (f1_0 x0)) h 0 0 (mkF m 0 #[.val (.int x0)] []) := by
  unfold f1_0
  refine g_iloadN C d1_0 rfl (pc' := 1) rfl ?_
  refine g_iconst C d1_1 (v := (1 : Int32)) (by decide) (pc' := 2) rfl ?_
  refine g_iand C d1_2 (pc' := 3) rfl ?_
  refine g_if C d1_3 (c_eq (x0 &&& (1 : Int32)) (0 : Int32)) (by decide) (pc2 := 10) (by decide) (pc' := 6) rfl (fun hP => Go.pos ?_ hP) (fun hP => Go.neg ?_ hP)
  · refine g_iconst C d1_10 (v := (0 : Int32)) (by decide) (pc' := 11) rfl ?_
    exact j1_11 hw hH C x0 (0 : Int32)
  · refine g_iconst C d1_6 (v := (1 : Int32)) (by decide) (pc' := 7) rfl ?_
    refine g_goto C d1_7 (by decide) (pc' := 11) (by decide) ?_
    exact j1_11 hw hH C x0 (1 : Int32)
theorem rm1 (l : Launch) (Z : State) (a0 : Array Value) (hw : ∀ d ∈ tables_1, d.before a0 Z = true) (ws : List Jvm.Cond) (h : Heap) (n0 : Nat) (x0 : Int32) : Con l Z (⟨"com/example/knotwork/knotwork/sparql/TripleSelectivityPinLaw", "sel", "(I)I"⟩ : MethodName) method_2_code 1 (some .int) r1 ws #[(.int x0)] h (Ret n0 (· = h) (f1_0 x0)) :=
  con_of n0 pn1 (fun m => ef1 m x0) fun p e s m below meth c C => j1_0 (H := (· = h)) hw rfl C x0
theorem pn0 : plainName "com/example/knotwork/knotwork/sparql/TripleSelectivityPinLaw" = true := by first | (simp [plainName, overriddenIn]; done) | decide +kernel
theorem ef0 (m : MethodId) (x0 x1 : Int32) : entryFrame m #[(.int x0), (.int x1)] maxLocals = mkF m 0 #[.val (.int x0), .val (.int x1), .unset, .unset, .unset, .unset, .unset, .unset] [] := by first | (simp [entryFrame, mkF, argsToLocals, Value.category, maxLocals]; done) | rfl
def f0_34 : Int32 := (0 : Int32)
theorem j0_34 {p : Program} {l : Launch} {e : Env} {s : State} {m : MethodId} {args : Array Value} {below : List Frame} {meth : Method} {c : Code} {n0 : Nat} {H : Heap → Prop} {h : Heap} {Z : State} {a0 : Array Value} (hw : ∀ d ∈ tables_1, d.before a0 Z = true) (hH : H h) (C : Cx p s m meth c Z "com/example/knotwork/knotwork/sparql/TripleSelectivityPinLaw" "law" code (some .boolean) 8) (x0 : Int32) (x1 : Int32) (x2 : Int32) (x3 : Int32) (x4 : Int32) (x5 : Int32) : Go p l e room_1 s m args below meth c n0 (Ret n0 H (f0_34)) h 0 0 (mkF m 34 #[.val (.int x0), .val (.int x1), .val (.int x2), .val (.int x3), .val (.int x4), .val (.int x5), .unset, .unset] []) := by
  unfold f0_34
  refine g_iconst C at_34 (v := (0 : Int32)) (by decide) (pc' := 35) rfl ?_
  exact g_retZ C at_35 (by decide) hH (by decide) (by decide)
def f0_203 : Int32 := (1 : Int32)
theorem j0_203 {p : Program} {l : Launch} {e : Env} {s : State} {m : MethodId} {args : Array Value} {below : List Frame} {meth : Method} {c : Code} {n0 : Nat} {H : Heap → Prop} {h : Heap} {Z : State} {a0 : Array Value} (hw : ∀ d ∈ tables_1, d.before a0 Z = true) (hH : H h) (C : Cx p s m meth c Z "com/example/knotwork/knotwork/sparql/TripleSelectivityPinLaw" "law" code (some .boolean) 8) (x0 : Int32) (x1 : Int32) (x2 : Int32) (x3 : Int32) (x4 : Int32) (x5 : Int32) (x6 : Int32) (x7 : Int32) : Go p l e room_1 s m args below meth c n0 (Ret n0 H (f0_203)) h 0 0 (mkF m 203 #[.val (.int x0), .val (.int x1), .val (.int x2), .val (.int x3), .val (.int x4), .val (.int x5), .val (.int x6), .val (.int x7)] []) := by
  unfold f0_203
  refine g_iconst C at_203 (v := (1 : Int32)) (by decide) (pc' := 204) rfl ?_
  exact g_retZ C at_204 (by decide) hH (by decide) (by decide)
def f0_184 (x2 x3 x4 x5 : Int32) : Int32 := (if ¬ x2 = (2 : Int32) then f0_203 else (if ¬ x3 = (1 : Int32) then f0_203 else (if x4 < x5 then f0_203 else (0 : Int32))))
theorem j0_184 {p : Program} {l : Launch} {e : Env} {s : State} {m : MethodId} {args : Array Value} {below : List Frame} {meth : Method} {c : Code} {n0 : Nat} {H : Heap → Prop} {h : Heap} {Z : State} {a0 : Array Value} (hw : ∀ d ∈ tables_1, d.before a0 Z = true) (hH : H h) (C : Cx p s m meth c Z "com/example/knotwork/knotwork/sparql/TripleSelectivityPinLaw" "law" code (some .boolean) 8) (x0 : Int32) (x1 : Int32) (x2 : Int32) (x3 : Int32) (x4 : Int32) (x5 : Int32) (x6 : Int32) (x7 : Int32) : Go p l e room_1 s m args below meth c n0 (Ret n0 H (f0_184 x2 x3 x4 x5)) h 0 0 (mkF m 184 #[.val (.int x0), .val (.int x1), .val (.int x2), .val (.int x3), .val (.int x4), .val (.int x5), .val (.int x6), .val (.int x7)] []) := by
  unfold f0_184
  refine g_iloadN C at_184 rfl (pc' := 185) rfl ?_
  refine g_iconst C at_185 (v := (2 : Int32)) (by decide) (pc' := 186) rfl ?_
  refine g_icmp C at_186 (c_ne x2 (2 : Int32)) (by decide) (pc2 := 203) (by decide) (pc' := 189) rfl (fun hP => Go.pos ?_ hP) (fun hP => Go.neg ?_ hP)
  · exact j0_203 hw hH C x0 x1 x2 x3 x4 x5 x6 x7
  · refine g_iloadN C at_189 rfl (pc' := 190) rfl ?_
    refine g_iconst C at_190 (v := (1 : Int32)) (by decide) (pc' := 191) rfl ?_
    refine g_icmp C at_191 (c_ne x3 (1 : Int32)) (by decide) (pc2 := 203) (by decide) (pc' := 194) rfl (fun hP => Go.pos ?_ hP) (fun hP => Go.neg ?_ hP)
    · exact j0_203 hw hH C x0 x1 x2 x3 x4 x5 x6 x7
    · refine g_iload C at_194 rfl (pc' := 196) rfl ?_
      refine g_iload C at_196 rfl (pc' := 198) rfl ?_
      refine g_icmp C at_198 (c_lt x4 x5) (by decide) (pc2 := 203) (by decide) (pc' := 201) rfl (fun hP => Go.pos ?_ hP) (fun hP => Go.neg ?_ hP)
      · exact j0_203 hw hH C x0 x1 x2 x3 x4 x5 x6 x7
      · refine g_iconst C at_201 (v := (0 : Int32)) (by decide) (pc' := 202) rfl ?_
        exact g_retZ C at_202 (by decide) hH (by decide) (by decide)
def f0_165 (x2 x3 x4 x5 : Int32) : Int32 := (if ¬ x2 = (2 : Int32) then f0_184 x2 x3 x4 x5 else (if ¬ x3 = (4 : Int32) then f0_184 x2 x3 x4 x5 else (if x5 < x4 then f0_184 x2 x3 x4 x5 else (0 : Int32))))
theorem j0_165 {p : Program} {l : Launch} {e : Env} {s : State} {m : MethodId} {args : Array Value} {below : List Frame} {meth : Method} {c : Code} {n0 : Nat} {H : Heap → Prop} {h : Heap} {Z : State} {a0 : Array Value} (hw : ∀ d ∈ tables_1, d.before a0 Z = true) (hH : H h) (C : Cx p s m meth c Z "com/example/knotwork/knotwork/sparql/TripleSelectivityPinLaw" "law" code (some .boolean) 8) (x0 : Int32) (x1 : Int32) (x2 : Int32) (x3 : Int32) (x4 : Int32) (x5 : Int32) (x6 : Int32) (x7 : Int32) : Go p l e room_1 s m args below meth c n0 (Ret n0 H (f0_165 x2 x3 x4 x5)) h 0 0 (mkF m 165 #[.val (.int x0), .val (.int x1), .val (.int x2), .val (.int x3), .val (.int x4), .val (.int x5), .val (.int x6), .val (.int x7)] []) := by
  unfold f0_165
  refine g_iloadN C at_165 rfl (pc' := 166) rfl ?_
  refine g_iconst C at_166 (v := (2 : Int32)) (by decide) (pc' := 167) rfl ?_
  refine g_icmp C at_167 (c_ne x2 (2 : Int32)) (by decide) (pc2 := 184) (by decide) (pc' := 170) rfl (fun hP => Go.pos ?_ hP) (fun hP => Go.neg ?_ hP)
  · exact j0_184 hw hH C x0 x1 x2 x3 x4 x5 x6 x7
  · refine g_iloadN C at_170 rfl (pc' := 171) rfl ?_
    refine g_iconst C at_171 (v := (4 : Int32)) (by decide) (pc' := 172) rfl ?_
    refine g_icmp C at_172 (c_ne x3 (4 : Int32)) (by decide) (pc2 := 184) (by decide) (pc' := 175) rfl (fun hP => Go.pos ?_ hP) (fun hP => Go.neg ?_ hP)
    · exact j0_184 hw hH C x0 x1 x2 x3 x4 x5 x6 x7
    · refine g_iload C at_175 rfl (pc' := 177) rfl ?_
      refine g_iload C at_177 rfl (pc' := 179) rfl ?_
      refine g_icmp C at_179 (c_gt x4 x5) (by decide) (pc2 := 184) (by decide) (pc' := 182) rfl (fun hP => Go.pos ?_ hP) (fun hP => Go.neg ?_ hP)
      · exact j0_184 hw hH C x0 x1 x2 x3 x4 x5 x6 x7
      · refine g_iconst C at_182 (v := (0 : Int32)) (by decide) (pc' := 183) rfl ?_
        exact g_retZ C at_183 (by decide) hH (by decide) (by decide)
def f0_138 (x2 x3 x4 x5 : Int32) : Int32 := (if (x2 &&& (2 : Int32)) = (0 : Int32) then f0_165 x2 x3 x4 x5 else (if (x2 &&& (5 : Int32)) = (0 : Int32) then f0_165 x2 x3 x4 x5 else (if ¬ (x3 &&& (2 : Int32)) = (0 : Int32) then f0_165 x2 x3 x4 x5 else (if x5 < x4 then f0_165 x2 x3 x4 x5 else (0 : Int32)))))
theorem j0_138 {p : Program} {l : Launch} {e : Env} {s : State} {m : MethodId} {args : Array Value} {below : List Frame} {meth : Method} {c : Code} {n0 : Nat} {H : Heap → Prop} {h : Heap} {Z : State} {a0 : Array Value} (hw : ∀ d ∈ tables_1, d.before a0 Z = true) (hH : H h) (C : Cx p s m meth c Z "com/example/knotwork/knotwork/sparql/TripleSelectivityPinLaw" "law" code (some .boolean) 8) (x0 : Int32) (x1 : Int32) (x2 : Int32) (x3 : Int32) (x4 : Int32) (x5 : Int32) (x6 : Int32) (x7 : Int32) : Go p l e room_1 s m args below meth c n0 (Ret n0 H (f0_138 x2 x3 x4 x5)) h 0 0 (mkF m 138 #[.val (.int x0), .val (.int x1), .val (.int x2), .val (.int x3), .val (.int x4), .val (.int x5), .val (.int x6), .val (.int x7)] []) := by
  unfold f0_138
  refine g_iloadN C at_138 rfl (pc' := 139) rfl ?_
  refine g_iconst C at_139 (v := (2 : Int32)) (by decide) (pc' := 140) rfl ?_
  refine g_iand C at_140 (pc' := 141) rfl ?_
  refine g_if C at_141 (c_eq (x2 &&& (2 : Int32)) (0 : Int32)) (by decide) (pc2 := 165) (by decide) (pc' := 144) rfl (fun hP => Go.pos ?_ hP) (fun hP => Go.neg ?_ hP)
  · exact j0_165 hw hH C x0 x1 x2 x3 x4 x5 x6 x7
  · refine g_iloadN C at_144 rfl (pc' := 145) rfl ?_
    refine g_iconst C at_145 (v := (5 : Int32)) (by decide) (pc' := 146) rfl ?_
    refine g_iand C at_146 (pc' := 147) rfl ?_
    refine g_if C at_147 (c_eq (x2 &&& (5 : Int32)) (0 : Int32)) (by decide) (pc2 := 165) (by decide) (pc' := 150) rfl (fun hP => Go.pos ?_ hP) (fun hP => Go.neg ?_ hP)
    · exact j0_165 hw hH C x0 x1 x2 x3 x4 x5 x6 x7
    · refine g_iloadN C at_150 rfl (pc' := 151) rfl ?_
      refine g_iconst C at_151 (v := (2 : Int32)) (by decide) (pc' := 152) rfl ?_
      refine g_iand C at_152 (pc' := 153) rfl ?_
      refine g_if C at_153 (c_ne (x3 &&& (2 : Int32)) (0 : Int32)) (by decide) (pc2 := 165) (by decide) (pc' := 156) rfl (fun hP => Go.pos ?_ hP) (fun hP => Go.neg ?_ hP)
      · exact j0_165 hw hH C x0 x1 x2 x3 x4 x5 x6 x7
      · refine g_iload C at_156 rfl (pc' := 158) rfl ?_
        refine g_iload C at_158 rfl (pc' := 160) rfl ?_
        refine g_icmp C at_160 (c_gt x4 x5) (by decide) (pc2 := 165) (by decide) (pc' := 163) rfl (fun hP => Go.pos ?_ hP) (fun hP => Go.neg ?_ hP)
        · exact j0_165 hw hH C x0 x1 x2 x3 x4 x5 x6 x7
        · refine g_iconst C at_163 (v := (0 : Int32)) (by decide) (pc' := 164) rfl ?_
          exact g_retZ C at_164 (by decide) hH (by decide) (by decide)
def f0_108 (x2 x3 x4 x5 x6 y0 : Int32) : Int32 := (if x6 = (0 : Int32) then f0_138 x2 x3 x4 x5 else (if y0 = (0 : Int32) then f0_138 x2 x3 x4 x5 else (if ¬ (x2 &&& (2 : Int32)) = (x3 &&& (2 : Int32)) then f0_138 x2 x3 x4 x5 else (if x5 < x4 then f0_138 x2 x3 x4 x5 else (0 : Int32)))))
theorem j0_108 {p : Program} {l : Launch} {e : Env} {s : State} {m : MethodId} {args : Array Value} {below : List Frame} {meth : Method} {c : Code} {n0 : Nat} {H : Heap → Prop} {h : Heap} {Z : State} {a0 : Array Value} (hw : ∀ d ∈ tables_1, d.before a0 Z = true) (hH : H h) (C : Cx p s m meth c Z "com/example/knotwork/knotwork/sparql/TripleSelectivityPinLaw" "law" code (some .boolean) 8) (x0 : Int32) (x1 : Int32) (x2 : Int32) (x3 : Int32) (x4 : Int32) (x5 : Int32) (x6 : Int32) (y0 : Int32) : Go p l e room_1 s m args below meth c n0 (Ret n0 H (f0_108 x2 x3 x4 x5 x6 y0)) h 0 0 (mkF m 108 #[.val (.int x0), .val (.int x1), .val (.int x2), .val (.int x3), .val (.int x4), .val (.int x5), .val (.int x6), .unset] [(.int y0)]) := by
  unfold f0_108
  refine g_istore C at_108 (Ls' := #[.val (.int x0), .val (.int x1), .val (.int x2), .val (.int x3), .val (.int x4), .val (.int x5), .val (.int x6), .val (.int y0)]) rfl (pc' := 110) rfl ?_
  refine g_iload C at_110 rfl (pc' := 112) rfl ?_
  refine g_if C at_112 (c_eq x6 (0 : Int32)) (by decide) (pc2 := 138) (by decide) (pc' := 115) rfl (fun hP => Go.pos ?_ hP) (fun hP => Go.neg ?_ hP)
  · exact j0_138 hw hH C x0 x1 x2 x3 x4 x5 x6 y0
  · refine g_iload C at_115 rfl (pc' := 117) rfl ?_
    refine g_if C at_117 (c_eq y0 (0 : Int32)) (by decide) (pc2 := 138) (by decide) (pc' := 120) rfl (fun hP => Go.pos ?_ hP) (fun hP => Go.neg ?_ hP)
    · exact j0_138 hw hH C x0 x1 x2 x3 x4 x5 x6 y0
    · refine g_iloadN C at_120 rfl (pc' := 121) rfl ?_
      refine g_iconst C at_121 (v := (2 : Int32)) (by decide) (pc' := 122) rfl ?_
      refine g_iand C at_122 (pc' := 123) rfl ?_
      refine g_iloadN C at_123 rfl (pc' := 124) rfl ?_
      refine g_iconst C at_124 (v := (2 : Int32)) (by decide) (pc' := 125) rfl ?_
      refine g_iand C at_125 (pc' := 126) rfl ?_
      refine g_icmp C at_126 (c_ne (x2 &&& (2 : Int32)) (x3 &&& (2 : Int32))) (by decide) (pc2 := 138) (by decide) (pc' := 129) rfl (fun hP => Go.pos ?_ hP) (fun hP => Go.neg ?_ hP)
      · exact j0_138 hw hH C x0 x1 x2 x3 x4 x5 x6 y0
      · refine g_iload C at_129 rfl (pc' := 131) rfl ?_
        refine g_iload C at_131 rfl (pc' := 133) rfl ?_
        refine g_icmp C at_133 (c_gt x4 x5) (by decide) (pc2 := 138) (by decide) (pc' := 136) rfl (fun hP => Go.pos ?_ hP) (fun hP => Go.neg ?_ hP)
        · exact j0_138 hw hH C x0 x1 x2 x3 x4 x5 x6 y0
        · refine g_iconst C at_136 (v := (0 : Int32)) (by decide) (pc' := 137) rfl ?_
          exact g_retZ C at_137 (by decide) hH (by decide) (by decide)
def f0_107 (x2 x3 x4 x5 x6 : Int32) : Int32 := f0_108 x2 x3 x4 x5 x6 (0 : Int32)
theorem j0_107 {p : Program} {l : Launch} {e : Env} {s : State} {m : MethodId} {args : Array Value} {below : List Frame} {meth : Method} {c : Code} {n0 : Nat} {H : Heap → Prop} {h : Heap} {Z : State} {a0 : Array Value} (hw : ∀ d ∈ tables_1, d.before a0 Z = true) (hH : H h) (C : Cx p s m meth c Z "com/example/knotwork/knotwork/sparql/TripleSelectivityPinLaw" "law" code (some .boolean) 8) (x0 : Int32) (x1 : Int32) (x2 : Int32) (x3 : Int32) (x4 : Int32) (x5 : Int32) (x6 : Int32) : Go p l e room_1 s m args below meth c n0 (Ret n0 H (f0_107 x2 x3 x4 x5 x6)) h 0 0 (mkF m 107 #[.val (.int x0), .val (.int x1), .val (.int x2), .val (.int x3), .val (.int x4), .val (.int x5), .val (.int x6), .unset] []) := by
  unfold f0_107
  refine g_iconst C at_107 (v := (0 : Int32)) (by decide) (pc' := 108) rfl ?_
  exact j0_108 hw hH C x0 x1 x2 x3 x4 x5 x6 (0 : Int32)
def f0_89 (x2 x3 x4 x5 y0 : Int32) : Int32 := (if ¬ (x3 &&& (1 : Int32)) = (0 : Int32) then f0_107 x2 x3 x4 x5 y0 else (if (x3 &&& (4 : Int32)) = (0 : Int32) then f0_107 x2 x3 x4 x5 y0 else f0_108 x2 x3 x4 x5 y0 (1 : Int32)))
theorem j0_89 {p : Program} {l : Launch} {e : Env} {s : State} {m : MethodId} {args : Array Value} {below : List Frame} {meth : Method} {c : Code} {n0 : Nat} {H : Heap → Prop} {h : Heap} {Z : State} {a0 : Array Value} (hw : ∀ d ∈ tables_1, d.before a0 Z = true) (hH : H h) (C : Cx p s m meth c Z "com/example/knotwork/knotwork/sparql/TripleSelectivityPinLaw" "law" code (some .boolean) 8) (x0 : Int32) (x1 : Int32) (x2 : Int32) (x3 : Int32) (x4 : Int32) (x5 : Int32) (y0 : Int32) : Go p l e room_1 s m args below meth c n0 (Ret n0 H (f0_89 x2 x3 x4 x5 y0)) h 0 0 (mkF m 89 #[.val (.int x0), .val (.int x1), .val (.int x2), .val (.int x3), .val (.int x4), .val (.int x5), .unset, .unset] [(.int y0)]) := by
  unfold f0_89
  refine g_istore C at_89 (Ls' := #[.val (.int x0), .val (.int x1), .val (.int x2), .val (.int x3), .val (.int x4), .val (.int x5), .val (.int y0), .unset]) rfl (pc' := 91) rfl ?_
  refine g_iloadN C at_91 rfl (pc' := 92) rfl ?_
  refine g_iconst C at_92 (v := (1 : Int32)) (by decide) (pc' := 93) rfl ?_
  refine g_iand C at_93 (pc' := 94) rfl ?_
  refine g_if C at_94 (c_ne (x3 &&& (1 : Int32)) (0 : Int32)) (by decide) (pc2 := 107) (by decide) (pc' := 97) rfl (fun hP => Go.pos ?_ hP) (fun hP => Go.neg ?_ hP)
  · exact j0_107 hw hH C x0 x1 x2 x3 x4 x5 y0
  · refine g_iloadN C at_97 rfl (pc' := 98) rfl ?_
    refine g_iconst C at_98 (v := (4 : Int32)) (by decide) (pc' := 99) rfl ?_
    refine g_iand C at_99 (pc' := 100) rfl ?_
    refine g_if C at_100 (c_eq (x3 &&& (4 : Int32)) (0 : Int32)) (by decide) (pc2 := 107) (by decide) (pc' := 103) rfl (fun hP => Go.pos ?_ hP) (fun hP => Go.neg ?_ hP)
    · exact j0_107 hw hH C x0 x1 x2 x3 x4 x5 y0
    · refine g_iconst C at_103 (v := (1 : Int32)) (by decide) (pc' := 104) rfl ?_
      refine g_goto C at_104 (by decide) (pc' := 108) (by decide) ?_
      exact j0_108 hw hH C x0 x1 x2 x3 x4 x5 y0 (1 : Int32)
def f0_88 (x2 x3 x4 x5 : Int32) : Int32 := f0_89 x2 x3 x4 x5 (0 : Int32)
theorem j0_88 {p : Program} {l : Launch} {e : Env} {s : State} {m : MethodId} {args : Array Value} {below : List Frame} {meth : Method} {c : Code} {n0 : Nat} {H : Heap → Prop} {h : Heap} {Z : State} {a0 : Array Value} (hw : ∀ d ∈ tables_1, d.before a0 Z = true) (hH : H h) (C : Cx p s m meth c Z "com/example/knotwork/knotwork/sparql/TripleSelectivityPinLaw" "law" code (some .boolean) 8) (x0 : Int32) (x1 : Int32) (x2 : Int32) (x3 : Int32) (x4 : Int32) (x5 : Int32) : Go p l e room_1 s m args below meth c n0 (Ret n0 H (f0_88 x2 x3 x4 x5)) h 0 0 (mkF m 88 #[.val (.int x0), .val (.int x1), .val (.int x2), .val (.int x3), .val (.int x4), .val (.int x5), .unset, .unset] []) := by
  unfold f0_88
  refine g_iconst C at_88 (v := (0 : Int32)) (by decide) (pc' := 89) rfl ?_
  exact j0_89 hw hH C x0 x1 x2 x3 x4 x5 (0 : Int32)
def f0_72 (x2 x3 x4 x5 : Int32) : Int32 := (if (x2 &&& (1 : Int32)) = (0 : Int32) then f0_88 x2 x3 x4 x5 else (if ¬ (x2 &&& (4 : Int32)) = (0 : Int32) then f0_88 x2 x3 x4 x5 else f0_89 x2 x3 x4 x5 (1 : Int32)))
theorem j0_72 {p : Program} {l : Launch} {e : Env} {s : State} {m : MethodId} {args : Array Value} {below : List Frame} {meth : Method} {c : Code} {n0 : Nat} {H : Heap → Prop} {h : Heap} {Z : State} {a0 : Array Value} (hw : ∀ d ∈ tables_1, d.before a0 Z = true) (hH : H h) (C : Cx p s m meth c Z "com/example/knotwork/knotwork/sparql/TripleSelectivityPinLaw" "law" code (some .boolean) 8) (x0 : Int32) (x1 : Int32) (x2 : Int32) (x3 : Int32) (x4 : Int32) (x5 : Int32) : Go p l e room_1 s m args below meth c n0 (Ret n0 H (f0_72 x2 x3 x4 x5)) h 0 0 (mkF m 72 #[.val (.int x0), .val (.int x1), .val (.int x2), .val (.int x3), .val (.int x4), .val (.int x5), .unset, .unset] []) := by
  unfold f0_72
  refine g_iloadN C at_72 rfl (pc' := 73) rfl ?_
  refine g_iconst C at_73 (v := (1 : Int32)) (by decide) (pc' := 74) rfl ?_
  refine g_iand C at_74 (pc' := 75) rfl ?_
  refine g_if C at_75 (c_eq (x2 &&& (1 : Int32)) (0 : Int32)) (by decide) (pc2 := 88) (by decide) (pc' := 78) rfl (fun hP => Go.pos ?_ hP) (fun hP => Go.neg ?_ hP)
  · exact j0_88 hw hH C x0 x1 x2 x3 x4 x5
  · refine g_iloadN C at_78 rfl (pc' := 79) rfl ?_
    refine g_iconst C at_79 (v := (4 : Int32)) (by decide) (pc' := 80) rfl ?_
    refine g_iand C at_80 (pc' := 81) rfl ?_
    refine g_if C at_81 (c_ne (x2 &&& (4 : Int32)) (0 : Int32)) (by decide) (pc2 := 88) (by decide) (pc' := 84) rfl (fun hP => Go.pos ?_ hP) (fun hP => Go.neg ?_ hP)
    · exact j0_88 hw hH C x0 x1 x2 x3 x4 x5
    · refine g_iconst C at_84 (v := (1 : Int32)) (by decide) (pc' := 85) rfl ?_
      refine g_goto C at_85 (by decide) (pc' := 89) (by decide) ?_
      exact j0_89 hw hH C x0 x1 x2 x3 x4 x5 (1 : Int32)
def f0_50 (x2 x3 x4 x5 : Int32) : Int32 := (if x2 = x3 then f0_72 x2 x3 x4 x5 else (if ¬ (x2 &&& (x3 ^^^ ((-1) : Int32))) = (0 : Int32) then f0_72 x2 x3 x4 x5 else (if x4 < x5 then f0_72 x2 x3 x4 x5 else (0 : Int32))))
theorem j0_50 {p : Program} {l : Launch} {e : Env} {s : State} {m : MethodId} {args : Array Value} {below : List Frame} {meth : Method} {c : Code} {n0 : Nat} {H : Heap → Prop} {h : Heap} {Z : State} {a0 : Array Value} (hw : ∀ d ∈ tables_1, d.before a0 Z = true) (hH : H h) (C : Cx p s m meth c Z "com/example/knotwork/knotwork/sparql/TripleSelectivityPinLaw" "law" code (some .boolean) 8) (x0 : Int32) (x1 : Int32) (x2 : Int32) (x3 : Int32) (x4 : Int32) (x5 : Int32) : Go p l e room_1 s m args below meth c n0 (Ret n0 H (f0_50 x2 x3 x4 x5)) h 0 0 (mkF m 50 #[.val (.int x0), .val (.int x1), .val (.int x2), .val (.int x3), .val (.int x4), .val (.int x5), .unset, .unset] []) := by
  unfold f0_50
  refine g_iloadN C at_50 rfl (pc' := 51) rfl ?_
  refine g_iloadN C at_51 rfl (pc' := 52) rfl ?_
  refine g_icmp C at_52 (c_eq x2 x3) (by decide) (pc2 := 72) (by decide) (pc' := 55) rfl (fun hP => Go.pos ?_ hP) (fun hP => Go.neg ?_ hP)
  · exact j0_72 hw hH C x0 x1 x2 x3 x4 x5
  · refine g_iloadN C at_55 rfl (pc' := 56) rfl ?_
    refine g_iloadN C at_56 rfl (pc' := 57) rfl ?_
    refine g_iconst C at_57 (v := ((-1) : Int32)) (by decide) (pc' := 58) rfl ?_
    refine g_ixor C at_58 (pc' := 59) rfl ?_
    refine g_iand C at_59 (pc' := 60) rfl ?_
    refine g_if C at_60 (c_ne (x2 &&& (x3 ^^^ ((-1) : Int32))) (0 : Int32)) (by decide) (pc2 := 72) (by decide) (pc' := 63) rfl (fun hP => Go.pos ?_ hP) (fun hP => Go.neg ?_ hP)
    · exact j0_72 hw hH C x0 x1 x2 x3 x4 x5
    · refine g_iload C at_63 rfl (pc' := 65) rfl ?_
      refine g_iload C at_65 rfl (pc' := 67) rfl ?_
      refine g_icmp C at_67 (c_lt x4 x5) (by decide) (pc2 := 72) (by decide) (pc' := 70) rfl (fun hP => Go.pos ?_ hP) (fun hP => Go.neg ?_ hP)
      · exact j0_72 hw hH C x0 x1 x2 x3 x4 x5
      · refine g_iconst C at_70 (v := (0 : Int32)) (by decide) (pc' := 71) rfl ?_
        exact g_retZ C at_71 (by decide) hH (by decide) (by decide)
def f0_10 (x2 x3 : Int32) : Int32 := (if (f1_0 x2) < (0 : Int32) then f0_34 else (if ¬ (7 : Int32) < (f1_0 x2) then (if x2 = x3 then f0_50 x2 x3 (f1_0 x2) (f1_0 x3) else (if ¬ (f1_0 x2) = (f1_0 x3) then f0_50 x2 x3 (f1_0 x2) (f1_0 x3) else (0 : Int32))) else f0_34))
theorem j0_10 {p : Program} {l : Launch} {e : Env} {s : State} {m : MethodId} {args : Array Value} {below : List Frame} {meth : Method} {c : Code} {n0 : Nat} {H : Heap → Prop} {h : Heap} {Z : State} {a0 : Array Value} (hw : ∀ d ∈ tables_1, d.before a0 Z = true) (hH : H h) (C : Cx p s m meth c Z "com/example/knotwork/knotwork/sparql/TripleSelectivityPinLaw" "law" code (some .boolean) 8) (x0 : Int32) (x1 : Int32) (x2 : Int32) (x3 : Int32) : Go p l e room_1 s m args below meth c n0 (Ret n0 H (f0_10 x2 x3)) h 0 0 (mkF m 10 #[.val (.int x0), .val (.int x1), .val (.int x2), .val (.int x3), .unset, .unset, .unset, .unset] []) := by
  unfold f0_10
  refine g_iloadN C at_10 rfl (pc' := 11) rfl ?_
  refine g_callP C 0 (hw _ (List.mem_of_getElem? (i := 0) rfl)) (hw _ (List.mem_of_getElem? (i := 1) rfl)) (hw _ (List.mem_of_getElem? (i := 2) rfl)) (hw _ (List.mem_of_getElem? (i := 3) rfl)) (by decide) (rm1 l Z a0 hw [] h n0 x2) (by decide) (by decide) rfl rfl (by decide) (by decide) pd1 rfl rfl (st := []) rfl (Nat.le_of_eq rfl) at_11 (pc' := 14) rfl ?_
  refine g_istore C at_14 (Ls' := #[.val (.int x0), .val (.int x1), .val (.int x2), .val (.int x3), .val (.int (f1_0 x2)), .unset, .unset, .unset]) rfl (pc' := 16) rfl ?_
  refine g_iloadN C at_16 rfl (pc' := 17) rfl ?_
  refine g_callP C 0 (hw _ (List.mem_of_getElem? (i := 0) rfl)) (hw _ (List.mem_of_getElem? (i := 1) rfl)) (hw _ (List.mem_of_getElem? (i := 2) rfl)) (hw _ (List.mem_of_getElem? (i := 3) rfl)) (by decide) (rm1 l Z a0 hw [] h n0 x3) (by decide) (by decide) rfl rfl (by decide) (by decide) pd1 rfl rfl (st := []) rfl (Nat.le_of_eq rfl) at_17 (pc' := 20) rfl ?_
  refine g_istore C at_20 (Ls' := #[.val (.int x0), .val (.int x1), .val (.int x2), .val (.int x3), .val (.int (f1_0 x2)), .val (.int (f1_0 x3)), .unset, .unset]) rfl (pc' := 22) rfl ?_
  refine g_iload C at_22 rfl (pc' := 24) rfl ?_
  refine g_if C at_24 (c_lt (f1_0 x2) (0 : Int32)) (by decide) (pc2 := 34) (by decide) (pc' := 27) rfl (fun hP => Go.pos ?_ hP) (fun hP => Go.neg ?_ hP)
  · exact j0_34 hw hH C x0 x1 x2 x3 (f1_0 x2) (f1_0 x3)
  · refine g_iload C at_27 rfl (pc' := 29) rfl ?_
    refine g_bipush C at_29 (v := (7 : Int32)) (by decide) (pc' := 31) rfl ?_
    refine g_icmp C at_31 (c_le (f1_0 x2) (7 : Int32)) (by decide) (pc2 := 36) (by decide) (pc' := 34) rfl (fun hP => Go.pos ?_ hP) (fun hP => Go.neg ?_ hP)
    · refine g_iloadN C at_36 rfl (pc' := 37) rfl ?_
      refine g_iloadN C at_37 rfl (pc' := 38) rfl ?_
      refine g_icmp C at_38 (c_eq x2 x3) (by decide) (pc2 := 50) (by decide) (pc' := 41) rfl (fun hP => Go.pos ?_ hP) (fun hP => Go.neg ?_ hP)
      · exact j0_50 hw hH C x0 x1 x2 x3 (f1_0 x2) (f1_0 x3)
      · refine g_iload C at_41 rfl (pc' := 43) rfl ?_
        refine g_iload C at_43 rfl (pc' := 45) rfl ?_
        refine g_icmp C at_45 (c_ne (f1_0 x2) (f1_0 x3)) (by decide) (pc2 := 50) (by decide) (pc' := 48) rfl (fun hP => Go.pos ?_ hP) (fun hP => Go.neg ?_ hP)
        · exact j0_50 hw hH C x0 x1 x2 x3 (f1_0 x2) (f1_0 x3)
        · refine g_iconst C at_48 (v := (0 : Int32)) (by decide) (pc' := 49) rfl ?_
          exact g_retZ C at_49 (by decide) hH (by decide) (by decide)
    · exact j0_34 hw hH C x0 x1 x2 x3 (f1_0 x2) (f1_0 x3)
def f0_0 (x0 x1 : Int32) : Int32 := f0_10 (x0 &&& (7 : Int32)) (x1 &&& (7 : Int32))
theorem j0_0 {p : Program} {l : Launch} {e : Env} {s : State} {m : MethodId} {args : Array Value} {below : List Frame} {meth : Method} {c : Code} {n0 : Nat} {H : Heap → Prop} {h : Heap} {Z : State} {a0 : Array Value} (hw : ∀ d ∈ tables_1, d.before a0 Z = true) (hH : H h) (C : Cx p s m meth c Z "com/example/knotwork/knotwork/sparql/TripleSelectivityPinLaw" "law" code (some .boolean) 8) (x0 : Int32) (x1 : Int32) : Go p l e room_1 s m args below meth c n0 (Ret n0 H (f0_0 x0 x1)) h 0 0 (mkF m 0 #[.val (.int x0), .val (.int x1), .unset, .unset, .unset, .unset, .unset, .unset] []) := by
  unfold f0_0
  refine g_iloadN C at_0 rfl (pc' := 1) rfl ?_
  refine g_bipush C at_1 (v := (7 : Int32)) (by decide) (pc' := 3) rfl ?_
  refine g_iand C at_3 (pc' := 4) rfl ?_
  refine g_istoreN C at_4 (Ls' := #[.val (.int x0), .val (.int x1), .val (.int (x0 &&& (7 : Int32))), .unset, .unset, .unset, .unset, .unset]) rfl (pc' := 5) rfl ?_
  refine g_iloadN C at_5 rfl (pc' := 6) rfl ?_
  refine g_bipush C at_6 (v := (7 : Int32)) (by decide) (pc' := 8) rfl ?_
  refine g_iand C at_8 (pc' := 9) rfl ?_
  refine g_istoreN C at_9 (Ls' := #[.val (.int x0), .val (.int x1), .val (.int (x0 &&& (7 : Int32))), .val (.int (x1 &&& (7 : Int32))), .unset, .unset, .unset, .unset]) rfl (pc' := 10) rfl ?_
  exact j0_10 hw hH C x0 x1 (x0 &&& (7 : Int32)) (x1 &&& (7 : Int32))
theorem rm0 (l : Launch) (Z : State) (a0 : Array Value) (hw : ∀ d ∈ tables_1, d.before a0 Z = true) (ws : List Jvm.Cond) (h : Heap) (n0 : Nat) (x0 x1 : Int32) : Con l Z x code maxLocals ret room_1 ws #[(.int x0), (.int x1)] h (Ret n0 (· = h) (f0_0 x0 x1)) :=
  con_of n0 pn0 (fun m => ef0 m x0 x1) fun p e s m below meth c C => j0_0 (H := (· = h)) hw rfl C x0 x1
def own_8 : List Int32 := [0, 1, 2, 3, 4, 5, 6, 7]
set_option maxRecDepth 65536 in
theorem own_chk : ∀ a ∈ own_8, ∀ b ∈ own_8, f0_10 a b = 1 := by decide +kernel
theorem own_mem (x : Int32) : x &&& 7 ∈ own_8 := by
  have e := Jvm.Kit.i32_mask x 7 (k := 3) (by decide) (by decide)
  simp only [own_8, List.mem_cons, List.not_mem_nil, or_false, ← Int32.toInt_inj, e, Int32.reduceToInt]
  omega
theorem own_one (x0 x1 : Int32) : f0_0 x0 x1 = 1 := own_chk _ (own_mem x0) _ (own_mem x1)
theorem rm_law (l : Launch) (Z : State) (a0 : Array Value) (hw : ∀ d ∈ tables_1, d.before a0 Z = true) (ws : List Jvm.Cond) (h : Heap) (n0 : Nat) (x0 x1 : Int32) : Con l Z x code maxLocals ret room_1 ws #[(.int x0), (.int x1)] h (Ret n0 (· = h) 1) := by
  have q := rm0 l Z a0 hw ws h n0 x0 x1
  rw [own_one] at q
  exact q
set_option maxRecDepth 65536 in
set_option maxHeartbeats 4000000 in
theorem comes_1 {Post : Tables → Env → Array Value → State → Outcome → State → Prop} (hpost : ∀ tb e args s v u, (limb_1_1.after args s (.returned v) u = true ∧ limb_1_2.after args s (.returned v) u = true ∧ True) → FrameEnd s (.returned v) u (Jvm.fieldLocs frame_1_writes args s ++ Jvm.arrayLocs frame_1_arrays args s ++ Jvm.staticLocs frame_1_statics s) 0 0 → Post tb e args s (.returned v) u) :
    ArmFor flags0 classFile x code maxLocals ret World_1 tables_1 room_1 Calls_1 rest_1 Pre_1 Post := by
  intro l hfl _ _ p e ha hc hk s m args below hf hA hF happ hP
  obtain ⟨hcalls, hrest, hpre⟩ := hP
  obtain ⟨-, -, -, hnamed, -, -, -, hat⟩ := (Spec.applies_iff hf).mp happ
  obtain ⟨hg, hn⟩ := and_e (Cond.before_iff.mp (show (Jvm.Cond.and given_1 narrow_1).before args s = true from hpre))
  obtain ⟨hcount, g0⟩ := and_e hg
  obtain ⟨k0, g1⟩ := and_e g0
  obtain ⟨w0, w1, rfl⟩ : ∃ w0 w1 : Value, args = #[w0, w1] := by
    have hs : args.size = 2 := by simpa [Cond.value, given_1] using hcount
    obtain ⟨L⟩ := args
    match L, hs with
    | [w0, w1], _ => exact ⟨w0, w1, rfl⟩
  have hw := fun d (hd : d ∈ tables_1) => atoms_spec (ws := Jvm.Cond.code x code maxLocals ret :: tables_1) hat d (List.mem_cons_of_mem _ hd)
  obtain ⟨i0, e0⟩ := is_v k0
  obtain rfl : w0 = (.int i0) := Option.some.inj e0
  obtain ⟨i1, e1⟩ := is_v g1
  obtain rfl : w1 = (.int i1) := Option.some.inj e1
  obtain ⟨n, o, h1, h2, h3, _, L, rfl, ⟨rfl, N, -⟩, hq⟩ := rm_law l s _ hw tables_1 s.heap s.heap.size i0 i1 p e ha hc hk s m _ below hf ((Spec.applies_iff_loose hf).mp happ).1 ⟨rfl, State.Warmed39.refl s, rfl⟩ trivial
  refine ⟨n, _, h1, h2, h3, hpost _ _ _ _ _ _ ⟨Cond.after_iff.mpr rfl, Cond.after_iff.mpr (eq_i res_at (Term.int_eval (1)) rfl), trivial⟩ ⟨hq.1, hq.2.1, (hq.2.2.sift fun y hy => Or.inr (N y hy)).mono (by decide) (by decide)⟩⟩
theorem main_1_1 : Claimed_1_1 := comes_1 fun _ _ _ _ _ _ h hF => ⟨h.1, hF⟩
theorem main_1_2 : Claimed_1_2 := comes_1 fun _ _ _ _ _ _ h hF => ⟨h.2.1, hF⟩
end Jvm.Pilot.@@N@@
namespace Jvm.Pilot.@@N@@
open Jvm Jvm.ClassFile Sem Op Lib Jvm.Free Jvm.Stand Jvm.Pilot.@@N@@.Jvm.D
/-! MADE BY PROGRAM (witnessworld.py) out of the Statement's table words and the real class files: 11 classes; the members and pool entries that the words name. The judged class is class 1, her method 2. -/
namespace start1
open Jvm.ClassFile
def u (s : String) : CpInfo := .utf8 (stringToUtf16 s)
/-- a pool by its gaps: so many unusable entries, then the entry; so many at the end -/
def gap : Nat → List CpInfo → List CpInfo
  | 0, r => r
  | n + 1, r => .unusable :: gap n r
def poolList (es : List (Nat × CpInfo)) (last : Nat) : List CpInfo := es.foldr (fun e r => gap e.1 (e.2 :: r)) (gap last [])
def pool (es : List (Nat × CpInfo)) (last : Nat) : Array CpInfo := ⟨poolList es last⟩
def fileOf (pool : Array CpInfo) (this : Nat) (attrs : Array Attribute := #[]) (ms : Array MethodInfo := #[]) (fl : Nat := 33) (sup : Nat := 0) (ifs : Array Nat := #[]) (fds : Array FieldInfo := #[]) : ClassFile where
  minorVersion := 0
  majorVersion := 65
  constantPool := pool
  accessFlags := fl
  thisClass := this
  superClass := sup
  interfaces := ifs
  fields := fds
  methods := ms
  attributes := attrs
def plain (name : String) (sup : Option ClassId) : Class where
  name := name
  kind := .ordinary
  loader := none
  accessFlags := 33
  super := sup
  interfaces := #[]
  cf := none
  fields := #[]
  methods := #[]
  instanceTypes := #[]
  staticTypes := #[]
  resolved := #[]
  callSites := []
  init := .initialized
  statics := none
  mirror := none

def pool0 : Array CpInfo := pool [(5, u "<init>"), (0, u "()V"), (1, .class_ 10), (1, u "java/lang/Object")] 113

def k0m0 : Method := { name := "<init>", desc := "()V", sig := { parameters := [], returnType := none }, accessFlags := 1, code := none }
/-- java/lang/Object -/
def k0 : Class := { plain "java/lang/Object" none with
  accessFlags := 33
  interfaces := #[]
  cf := some (fileOf pool0 8 #[] #[{ accessFlags := 1, nameIndex := 5, descriptorIndex := 6, attributes := #[] }] 33 0 #[] #[])
  fields := #[]
  methods := #[k0m0]
  instanceTypes := #[]
  staticTypes := #[]
  resolved := Array.replicate 124 none
  statics := none }

def pool1 : Array CpInfo := pool [(2, .class_ 4), (1, u "java/lang/Object"), (0, u "<init>"), (0, u "()V"), (0, .methodref 8 9), (0, .class_ 10), (0, .nameAndType 11 12), (0, u "com/example/knotwork/knotwork/sparql/Atom$Triple"), (0, u "selectivity"), (0, u "(ZZZ)I"), (0, .methodref 14 15), (0, .class_ 16), (0, .nameAndType 17 18), (0, u "com/example/knotwork/knotwork/sparql/TripleSelectivityPinLaw"), (0, u "sel"), (0, u "(I)I"), (3, u "law"), (0, u "(II)Z")] 6

def k1m0 : Method := { name := "<init>", desc := "()V", sig := { parameters := [], returnType := none }, accessFlags := 2, code := none }
def k1c1 : Code := { maxStack := 4, maxLocals := 1, code := method_2_code, exceptionTable := #[], attributes := #[] }
def k1m1 : Method := { name := "sel", desc := "(I)I", sig := { parameters := [.int], returnType := some .int }, accessFlags := 10, code := some k1c1 }
def k1c2 : Code := { maxStack := 3, maxLocals := 8, code := code, exceptionTable := #[], attributes := #[] }
def k1m2 : Method := { name := "law", desc := "(II)Z", sig := { parameters := [.int, .int], returnType := some .boolean }, accessFlags := 9, code := some k1c2 }
/-- com/example/knotwork/knotwork/sparql/TripleSelectivityPinLaw -/
def k1 : Class := { plain "com/example/knotwork/knotwork/sparql/TripleSelectivityPinLaw" (some 0) with
  accessFlags := 49
  interfaces := #[]
  cf := some (fileOf pool1 14 #[] #[{ accessFlags := 2, nameIndex := 5, descriptorIndex := 6, attributes := #[] }, { accessFlags := 10, nameIndex := 17, descriptorIndex := 18, attributes := #[] }, { accessFlags := 9, nameIndex := 22, descriptorIndex := 23, attributes := #[] }] 49 2 #[] #[])
  fields := #[]
  methods := #[k1m0, k1m1, k1m2]
  instanceTypes := #[]
  staticTypes := #[]
  resolved := Array.replicate 30 none
  statics := none }

def pool2 : Array CpInfo := pool [(2, .class_ 4), (1, u "java/lang/Object"), (0, u "<init>"), (0, u "()V"), (0, .class_ 8), (0, u "java/lang/Record")] 13

def k2m0 : Method := { name := "<init>", desc := "()V", sig := { parameters := [], returnType := none }, accessFlags := 4, code := none }
/-- java/lang/Record -/
def k2 : Class := { plain "java/lang/Record" (some 0) with
  accessFlags := 1057
  interfaces := #[]
  cf := some (fileOf pool2 7 #[] #[{ accessFlags := 4, nameIndex := 5, descriptorIndex := 6, attributes := #[] }] 1057 2 #[] #[])
  fields := #[]
  methods := #[k2m0]
  instanceTypes := #[]
  staticTypes := #[]
  resolved := Array.replicate 22 none
  statics := none }

def pool3 : Array CpInfo := pool [(2, .class_ 4), (1, u "com/example/knotwork/knotwork/sparql/Atom"), (4, .class_ 10), (0, u "com/example/knotwork/knotwork/sparql/Atom$Triple"), (24, .class_ 36), (0, u "com/example/knotwork/knotwork/sparql/Atom$Path"), (17, .class_ 55), (0, u "java/lang/Object"), (15, .class_ 72), (0, u "com/example/knotwork/knotwork/sparql/Atom$PathVariable")] 14

/-- com/example/knotwork/knotwork/sparql/Atom -/
def k3 : Class := { plain "com/example/knotwork/knotwork/sparql/Atom" (some 0) with
  accessFlags := 1536
  interfaces := #[]
  cf := some (fileOf pool3 2 #[.nestMembers #[71, 35, 9]] #[] 1536 54 #[] #[])
  fields := #[]
  methods := #[]
  instanceTypes := #[]
  staticTypes := #[]
  resolved := Array.replicate 87 none
  statics := none }

def pool4 : Array CpInfo := pool [(2, .class_ 4), (1, u "java/lang/Record"), (3, .class_ 10), (1, u "com/example/knotwork/knotwork/sparql/Atom$Triple"), (0, u "subject"), (0, u "Lcom/example/knotwork/knotwork/sparql/Slot;"), (2, u "predicate"), (2, u "object"), (74, .class_ 95), (1, u "com/example/knotwork/knotwork/sparql/Atom"), (4, u "selectivity"), (0, u "(ZZZ)I")] 52

def k4c0 : Code := { maxStack := 1, maxLocals := 3, code := prog_223_method_6_code, exceptionTable := #[], attributes := #[] }
def k4m0 : Method := { name := "selectivity", desc := "(ZZZ)I", sig := { parameters := [.boolean, .boolean, .boolean], returnType := some .int }, accessFlags := 8, code := some k4c0 }
/-- com/example/knotwork/knotwork/sparql/Atom$Triple -/
def k4 : Class := { plain "com/example/knotwork/knotwork/sparql/Atom$Triple" (some 2) with
  accessFlags := 49
  interfaces := #[3]
  cf := some (fileOf pool4 8 #[.nestHost 93] #[{ accessFlags := 8, nameIndex := 100, descriptorIndex := 101, attributes := #[] }] 49 2 #[93] #[{ accessFlags := 18, nameIndex := 11, descriptorIndex := 12, attributes := #[] }, { accessFlags := 18, nameIndex := 15, descriptorIndex := 12, attributes := #[] }, { accessFlags := 18, nameIndex := 18, descriptorIndex := 12, attributes := #[] }])
  fields := #[{ name := "subject", type := (.object "com/example/knotwork/knotwork/sparql/Slot"), accessFlags := 18, slot := 0, constantValue := 0 }, { name := "predicate", type := (.object "com/example/knotwork/knotwork/sparql/Slot"), accessFlags := 18, slot := 1, constantValue := 0 }, { name := "object", type := (.object "com/example/knotwork/knotwork/sparql/Slot"), accessFlags := 18, slot := 2, constantValue := 0 }]
  methods := #[k4m0]
  instanceTypes := #[(.object "com/example/knotwork/knotwork/sparql/Slot"), (.object "com/example/knotwork/knotwork/sparql/Slot"), (.object "com/example/knotwork/knotwork/sparql/Slot")]
  staticTypes := #[]
  resolved := Array.replicate 154 none
  statics := none }

def pool5 : Array CpInfo := pool [(1, u "java/lang/Cloneable"), (0, .class_ 1), (0, u "java/lang/Object"), (0, .class_ 3)] 3

/-- java/lang/Cloneable -/
def k5 : Class := { plain "java/lang/Cloneable" (some 0) with
  accessFlags := 1537
  interfaces := #[]
  cf := some (fileOf pool5 2 #[] #[] 1537 4 #[] #[])
  fields := #[]
  methods := #[]
  instanceTypes := #[]
  staticTypes := #[]
  resolved := Array.replicate 8 none
  statics := none }

def pool6 : Array CpInfo := pool [(1, u "java/io/Serializable"), (0, .class_ 1), (0, u "java/lang/Object"), (0, .class_ 3)] 3

/-- java/io/Serializable -/
def k6 : Class := { plain "java/io/Serializable" (some 0) with
  accessFlags := 1537
  interfaces := #[]
  cf := some (fileOf pool6 2 #[] #[] 1537 4 #[] #[])
  fields := #[]
  methods := #[]
  instanceTypes := #[]
  staticTypes := #[]
  resolved := Array.replicate 8 none
  statics := none }

/-- the primitive byte -/
def k7 : Class := { plain "byte" none with kind := .primitive 'B', accessFlags := 0x411 }
/-- [B -/
def k8 : Class := { plain "[B" (some 0) with kind := .array 7 .byte, interfaces := #[5, 6], accessFlags := 1041 }

/-- the primitive int -/
def k9 : Class := { plain "int" none with kind := .primitive 'I', accessFlags := 0x411 }
/-- [I -/
def k10 : Class := { plain "[I" (some 0) with kind := .array 9 .int, interfaces := #[5, 6], accessFlags := 1041 }

def heap : Heap := #[]
def classes : Array Class := #[k0, k1, k2, k3, k4, k5, k6, k7, k8, k9, k10]
def interned : List (Array UInt16 × Addr) := []
def slotsUsed : Nat := 0
def theMethod : MethodId := ⟨1, 2⟩
def args0 : Array Value := #[.int 5, .int 6]
def aboutOver (below : List Frame) : State where
  vm := { classes := classes, interned := interned.toArray }
  heap := heap
  slotsUsed := slotsUsed
  threads := #[{ frames := .invoking theMethod args0 :: below }]
def below0 : List Frame := [.native { method := ⟨0, 0⟩, args := #[] }]
def about1 : State := aboutOver below0
def p0 : Program := .bare "" "" ""
def e0 : Env := launch0.env 0 0 0
theorem w_frames : about1.frames = Frame.invoking theMethod args0 :: below0 := rfl
set_option maxRecDepth 65536 in
theorem w_args : argsFit about1.vm theMethod args0 = true := by decide +kernel
set_option maxRecDepth 65536 in
theorem w_heap : heapFits about1 = true := by decide +kernel
set_option maxRecDepth 65536 in
theorem w_runnable : about1.curStatus? = some .runnable := by decide +kernel
set_option maxRecDepth 65536 in
theorem w_alone : about1.alone = true := by decide +kernel
set_option maxRecDepth 65536 in
theorem w_named : about1.methodNamed? x = some theMethod := by decide +kernel
set_option maxRecDepth 65536 in
theorem w_hears : about1.hears theMethod below0 = true := by decide +kernel
set_option maxRecDepth 65536 in
theorem w_ripe : about1.ripe theMethod args0 below0 = true := by decide +kernel
theorem w_running : about1.status = .running := rfl
set_option maxRecDepth 65536 in
theorem w_room : about1.hasRoom e0.platform room_1 = true :=
  launch0.hasRoom_least _ room_1 (by decide +kernel) (by decide +kernel) (by decide +kernel) (by decide +kernel) (by decide +kernel) (by decide +kernel)
theorem allAtoms_all (ts : List Jvm.Cond) (a : Array Jvm.Value) (st : Jvm.State) : (allAtoms ts).before a st = ts.all (fun c => c.before a st) := by
  induction ts with
  | nil => rfl
  | cons c t ih =>
    show (Jvm.Cond.and c (allAtoms t)).before a st = _
    rw [Jvm.Cond.before_and, ih, List.all_cons]
def words1 : List Jvm.Cond := Jvm.Cond.code x code maxLocals ret :: tables_1
/-- a 'code' word, met by the world's own term for the bytes: nothing is compared byte by byte -/
theorem code_word {y : MethodName} {bytes : ByteArray} {mx : Nat} {rt : Option FieldType} {a : Array Value} {s : State} {m : MethodId} {meth : Method} {c : Code} (h1 : s.methodNamed? y = some m) (h2 : s.vm.method? m = some meth) (h3 : meth.code = some c) (h4 : c.code = bytes)
    (h5 : (c.maxLocals == mx && c.exceptionTable.isEmpty && decide (c.maxStack ≤ mostOperands) && decide (meth.sig.returnType = rt) && !meth.locks && decide (parseMethodDescriptor y.desc = some meth.sig)) = true) : (Jvm.Cond.code y bytes mx rt).before a s = true := by
  simp only [Bool.and_eq_true, beq_iff_eq, Bool.not_eq_true', decide_eq_true_eq] at h5
  obtain ⟨⟨⟨⟨⟨g1, g2⟩, g3⟩, g4⟩, g5⟩, g6⟩ := h5
  simp [Cond.before, Cond.holds, Cond.value, h1, h2, h3, h4, g1, g2, g3, g4, g5, g6]
def isCode : Jvm.Cond → Bool
  | .code _ _ _ _ => true
  | _ => false
theorem all_split {L : List Jvm.Cond} {P : Jvm.Cond → Bool} (h1 : L.all (fun c => isCode c || P c) = true) (h2 : ∀ c ∈ L.filter isCode, P c = true) : L.all P = true := by
  refine List.all_eq_true.mpr fun c hc => ?_
  have h := List.all_eq_true.mp h1 c hc
  rcases Bool.eq_false_or_eq_true (isCode c) with hi | hi
  · exact h2 c (List.mem_filter.mpr ⟨hc, hi⟩)
  · simpa [hi] using h
set_option maxRecDepth 65536 in
theorem w_c0 : (Jvm.Cond.code x code maxLocals ret).before args0 about1 = true := code_word (m := ⟨1, 2⟩) (meth := k1m2) (c := k1c2) (by decide +kernel) rfl rfl rfl (by decide +kernel)
set_option maxRecDepth 65536 in
theorem w_c1 : (Jvm.Cond.code ({ cls := "com/example/knotwork/knotwork/sparql/TripleSelectivityPinLaw", name := "sel", desc := "(I)I" } : Jvm.MethodName) method_2_code (1 : Nat) (Option.some Jvm.ClassFile.FieldType.int)).before args0 about1 = true := code_word (m := ⟨1, 1⟩) (meth := k1m1) (c := k1c1) (by decide +kernel) rfl rfl rfl (by decide +kernel)
set_option maxRecDepth 65536 in
theorem w_c2 : (Jvm.Cond.code ({ cls := "com/example/knotwork/knotwork/sparql/Atom$Triple", name := "selectivity", desc := "(ZZZ)I" } : Jvm.MethodName) prog_223_method_6_code (3 : Nat) (Option.some Jvm.ClassFile.FieldType.int)).before args0 about1 = true := code_word (m := ⟨4, 0⟩) (meth := k4m0) (c := k4c0) (by decide +kernel) rfl rfl rfl (by decide +kernel)
def codes1 : List Jvm.Cond := [Jvm.Cond.code x code maxLocals ret, Jvm.Cond.code ({ cls := "com/example/knotwork/knotwork/sparql/TripleSelectivityPinLaw", name := "sel", desc := "(I)I" } : Jvm.MethodName) method_2_code (1 : Nat) (Option.some Jvm.ClassFile.FieldType.int), Jvm.Cond.code ({ cls := "com/example/knotwork/knotwork/sparql/Atom$Triple", name := "selectivity", desc := "(ZZZ)I" } : Jvm.MethodName) prog_223_method_6_code (3 : Nat) (Option.some Jvm.ClassFile.FieldType.int)]
set_option maxRecDepth 65536 in
theorem codes_eq : words1.filter isCode = codes1 := rfl
theorem w_codes : ∀ c ∈ words1.filter isCode, c.before args0 about1 = true := by
  rw [codes_eq]
  intro c hc
  simp only [codes1, List.mem_cons, List.not_mem_nil, or_false] at hc
  rcases hc with rfl | rfl | rfl
  · exact w_c0
  · exact w_c1
  · exact w_c2
set_option maxRecDepth 65536 in
theorem w_t1 : words1.all (fun c => isCode c || c.before args0 about1) = true := by decide +kernel
theorem w_tables : (allAtoms (Jvm.Cond.code x code maxLocals ret :: tables_1)).before args0 about1 = true := by
  rw [allAtoms_all]
  show words1.all (fun c => c.before args0 about1) = true
  refine all_split ?_ w_codes
  rw [w_t1]
set_option maxRecDepth 65536 in
theorem w_case : (Jvm.Cond.and given_1 narrow_1).before args0 about1 = true := by decide +kernel
theorem w_applies : (headSpec (Jvm.Cond.code x code maxLocals ret :: tables_1) room_1).applies x e0.platform about1 = true :=
  (Spec.applies_iff w_frames).mpr ⟨w_running, w_runnable, w_alone, w_named, w_hears, w_ripe, w_room, w_tables⟩
theorem atStart : AtStart classFile x code maxLocals ret World_1 tables_1 room_1 Calls_1 rest_1 Pre_1 launch0 p0 e0 about1 theMethod args0 below0 :=
  ⟨lists_1, trivial, launch0.admits_env _ _ _, launch0.least_env, fairChoices_fair.cas, fairChoices_fair.clock, w_frames, w_args, w_heap, w_applies, trivial, trivial, w_case⟩
end start1
theorem witness_1 : WitnessClaimed_1 := ⟨start1.p0, start1.e0, start1.about1, start1.theMethod, start1.args0, start1.below0, start1.atStart⟩
end Jvm.Pilot.@@N@@
