import JvmDerived
import JvmDerived.Pilot.@@N@@Statement
import JvmDerived.Pilot.@@N@@Code
set_option linter.unusedVariables false
set_option linter.unusedSimpArgs false
@@BLOCK:NumsL.lean.txt@@
namespace Jvm.OwnGo
open Sem ClassFile Op Lib Jvm.Stand Jvm.Free Jvm.LawKit Jvm.RoadKit
/-- what the walk of a body is told once: exec, bytes, max_locals, its class, its name, its return kind, no lock, the tables -/
def Cx (p : Program) (s : State) (m : MethodId) (meth : Method) (c : Code) (Z : State) (own nm : String) (code : ByteArray) (ret : Option FieldType) (maxL : Nat) : Prop :=
  p.tables.exec = Jvm.exec ∧ c.code = code ∧ c.maxLocals = maxL ∧ s.vm.findClass own = some m.cls ∧ meth.name = nm ∧ meth.sig.returnType = ret ∧ meth.locks = false ∧ Z.Warmed39 s.vm
/-- from every state with heap h in which the body stands at frame g the body comes to its end, and Q holds of what it leaves -/
def Go (p : Program) (l : Launch) (e : Env) (R : Room) (s : State) (m : MethodId) (args : Array Value) (below : List Frame) (meth : Method) (c : Code) (n0 : Nat) (Q : Option Value → Heap → List Loc → Prop) (h : Heap) (cells slots : Nat) (g : JFrame) : Prop :=
  ∀ (T : State) (L : List Loc), Stand p l e R s m args below meth c T L cells slots → T.heap = h → Fr n0 L →
    ∃ (t : State) (o : Outcome), Steps p.tables e below (T.setTop g) t ∧ t.status = .running ∧ Ended t below o ∧ ∃ v L', o = .returned v ∧ Q v t.heap L' ∧ FrameEnd s o t L' R.cells R.slots
/-- the contract of a body, at given arguments and heap -/
def Con (l : Launch) (Z : State) (y : MethodName) (bytes : ByteArray) (maxL : Nat) (ret : Option FieldType) (rm : Room) (ws : List Jvm.Cond) (as' : Array Value) (h : Heap) (Q : Option Value → Heap → List Loc → Prop) : Prop :=
  MetFree l y (head1 (Jvm.Cond.code y bytes maxL ret :: ws) rm) (fun a U => a = as' ∧ Z.Warmed39 U.vm ∧ U.heap = h) (fun _ _ _ _ _ => True) (fun _ U o U' => ∃ v L, o = .returned v ∧ Q v U'.heap L ∧ FrameEnd U o U' L rm.cells rm.slots)
/-- an int is returned; the heap is as H says; nothing old is written -/
def Ret (n0 : Nat) (H : Heap → Prop) (r : Int32) (v : Option Value) (hh : Heap) (L : List Loc) : Prop := v = some (.int r) ∧ Fr n0 L ∧ H hh
theorem con_of {l : Launch} {Z : State} {y : MethodName} {bytes : ByteArray} {maxL : Nat} {ret : Option FieldType} {rm : Room} {ws : List Jvm.Cond} {as' : Array Value} {h : Heap} {Q : Option Value → Heap → List Loc → Prop} (n0 : Nat) {Ls0 : Array Slot} (hn : plainName y.cls = true) (hef : ∀ m, entryFrame m as' maxL = mkF m 0 Ls0 [])
    (body : ∀ (p : Program) (e : Env) (s : State) (m : MethodId) (below : List Frame) (meth : Method) (c : Code), Cx p s m meth c Z y.cls y.name bytes ret maxL → Go p l e rm s m as' below meth c n0 Q h 0 0 (mkF m 0 Ls0 [])) : Con l Z y bytes maxL ret rm ws as' h Q := by
  refine MetFree.of_bodySF (plainFor_of_name hn) hisR ?_
  intro p e s m args below meth c s₁ Bd hml0 hP hK
  obtain ⟨rfl, hZ, hh⟩ := hP
  rw [hef m]
  exact body p e s m below meth c ⟨Bd.exec, Bd.bytes, hml0, findClass_of_methodNamed Bd.named, (name_of_methodNamed Bd.named Bd.method).1, Bd.returns, Bd.notSynchronized, hZ⟩ s₁ [] (Stand.of_body Bd) (by rw [← hh, Bd.state]; rfl) (Fr.nil n0)
section Steps
variable {p : Program} {l : Launch} {e : Env} {R : Room} {s : State} {m : MethodId} {args : Array Value} {below : List Frame} {meth : Method} {c : Code} {n0 : Nat} {Q : Option Value → Heap → List Loc → Prop} {h : Heap} {cells slots : Nat} {Z : State} {own nm : String} {code : ByteArray} {ret : Option FieldType} {maxL : Nat} {pc pc' pc2 : Nat} {Ls Ls' : Array Slot} {st : List Value} {a0 : Array Value}
theorem Go.step {g g' : JFrame} (f : ∀ T, At T m c below → ∀ target, Steps p.tables e below (T.setTop g') target → Steps p.tables e below (T.setTop g) target) (q : Go p l e R s m args below meth c n0 Q h cells slots g') : Go p l e R s m args below meth c n0 Q h cells slots g := fun T L X eT N => by
  obtain ⟨t, o, k, r⟩ := q T L X eT N
  exact ⟨t, o, f T X.here t k, r⟩
theorem Go.at {g g' : JFrame} (q : Go p l e R s m args below meth c n0 Q h cells slots g') (hg : g = g') : Go p l e R s m args below meth c n0 Q h cells slots g := hg ▸ q
theorem g_iloadN (C : Cx p s m meth c Z own nm code ret maxL) {k : Fin 4} {v : Int32} (hd : decode code pc = .ok (.iload_n k, 1)) (hl : Ls[k.val]? = some (.val (.int v))) (hp : pc + 1 = pc') (q : Go p l e R s m args below meth c n0 Q h cells slots (mkF m pc' Ls (.int v :: st))) : Go p l e R s m args below meth c n0 Q h cells slots (mkF m pc Ls st) := by
  subst hp
  exact q.step fun T A t r => XS.iloadN A C.1 rfl (hb C.2.1 hd) hl r
theorem g_iload (C : Cx p s m meth c Z own nm code ret maxL) {k : Nat} {v : Int32} (hd : decode code pc = .ok (.iload k, 2)) (hl : Ls[k]? = some (.val (.int v))) (hp : pc + 2 = pc') (q : Go p l e R s m args below meth c n0 Q h cells slots (mkF m pc' Ls (.int v :: st))) : Go p l e R s m args below meth c n0 Q h cells slots (mkF m pc Ls st) := by
  subst hp
  exact q.step fun T A t r => XS.iload A C.1 rfl (hb C.2.1 hd) hl r
theorem g_aloadN (C : Cx p s m meth c Z own nm code ret maxL) {k : Fin 4} {v : Value} (hd : decode code pc = .ok (.aload_n k, 1)) (hl : Ls[k.val]? = some (.val v)) (hv : v.isRef = true) (hp : pc + 1 = pc') (q : Go p l e R s m args below meth c n0 Q h cells slots (mkF m pc' Ls (v :: st))) : Go p l e R s m args below meth c n0 Q h cells slots (mkF m pc Ls st) := by
  subst hp
  exact q.step fun T A t r => XS.aloadN A C.1 rfl (hb C.2.1 hd) hl hv r
theorem g_aload (C : Cx p s m meth c Z own nm code ret maxL) {k : Nat} {v : Value} (hd : decode code pc = .ok (.aload k, 2)) (hl : Ls[k]? = some (.val v)) (hv : v.isRef = true) (hp : pc + 2 = pc') (q : Go p l e R s m args below meth c n0 Q h cells slots (mkF m pc' Ls (v :: st))) : Go p l e R s m args below meth c n0 Q h cells slots (mkF m pc Ls st) := by
  subst hp
  exact q.step fun T A t r => XS.aload A C.1 rfl (hb C.2.1 hd) hl hv r
theorem g_iconst (C : Cx p s m meth c Z own nm code ret maxL) {i : Int} {v : Int32} (hd : decode code pc = .ok (.iconst i, 1)) (hv : Int32.ofInt i = v) (hp : pc + 1 = pc') (q : Go p l e R s m args below meth c n0 Q h cells slots (mkF m pc' Ls (.int v :: st))) : Go p l e R s m args below meth c n0 Q h cells slots (mkF m pc Ls st) := by
  subst hp hv
  exact q.step fun T A t r => XS.iconst A C.1 rfl (hb C.2.1 hd) r
theorem g_bipush (C : Cx p s m meth c Z own nm code ret maxL) {i : Int} {v : Int32} (hd : decode code pc = .ok (.bipush i, 2)) (hv : (Int8.ofInt i).toInt32 = v) (hp : pc + 2 = pc') (q : Go p l e R s m args below meth c n0 Q h cells slots (mkF m pc' Ls (.int v :: st))) : Go p l e R s m args below meth c n0 Q h cells slots (mkF m pc Ls st) := by
  subst hp hv
  exact q.step fun T A t r => XS.bipush A C.1 rfl (hb C.2.1 hd) r
theorem g_sipush (C : Cx p s m meth c Z own nm code ret maxL) {i : Int} {v : Int32} (hd : decode code pc = .ok (.sipush i, 3)) (hv : (Int16.ofInt i).toInt32 = v) (hp : pc + 3 = pc') (q : Go p l e R s m args below meth c n0 Q h cells slots (mkF m pc' Ls (.int v :: st))) : Go p l e R s m args below meth c n0 Q h cells slots (mkF m pc Ls st) := by
  subst hp hv
  exact q.step fun T A t r => XS.sipush A C.1 rfl (hb C.2.1 hd) r
theorem g_ldc (C : Cx p s m meth c Z own nm code ret maxL) {i : Nat} {v : Int32} (w : (Jvm.Cond.constant own i v).before a0 Z = true) (hd : decode code pc = .ok (.ldc i, 2)) (hp : pc + 2 = pc') (q : Go p l e R s m args below meth c n0 Q h cells slots (mkF m pc' Ls (.int v :: st))) : Go p l e R s m args below meth c n0 Q h cells slots (mkF m pc Ls st) := by
  subst hp
  intro T L X eT N
  obtain ⟨t, o, k, r⟩ := q T L X eT N
  exact ⟨t, o, X.ldcInt C.1 C.2.2.2.1 (mvT C.2.2.2.2.2.2.2 w) (g := mkF m pc Ls st) rfl (hb C.2.1 hd) t k, r⟩
theorem g_iadd (C : Cx p s m meth c Z own nm code ret maxL) {x y : Int32} (hd : decode code pc = .ok (.iadd, 1)) (hp : pc + 1 = pc') (q : Go p l e R s m args below meth c n0 Q h cells slots (mkF m pc' Ls (.int (x + y) :: st))) : Go p l e R s m args below meth c n0 Q h cells slots (mkF m pc Ls (.int y :: .int x :: st)) := by
  subst hp
  exact q.step fun T A t r => XS.iadd A C.1 rfl (hb C.2.1 hd) rfl r
theorem g_isub (C : Cx p s m meth c Z own nm code ret maxL) {x y : Int32} (hd : decode code pc = .ok (.isub, 1)) (hp : pc + 1 = pc') (q : Go p l e R s m args below meth c n0 Q h cells slots (mkF m pc' Ls (.int (x - y) :: st))) : Go p l e R s m args below meth c n0 Q h cells slots (mkF m pc Ls (.int y :: .int x :: st)) := by
  subst hp
  exact q.step fun T A t r => XS.isub A C.1 rfl (hb C.2.1 hd) rfl r
theorem g_imul (C : Cx p s m meth c Z own nm code ret maxL) {x y : Int32} (hd : decode code pc = .ok (.imul, 1)) (hp : pc + 1 = pc') (q : Go p l e R s m args below meth c n0 Q h cells slots (mkF m pc' Ls (.int (x * y) :: st))) : Go p l e R s m args below meth c n0 Q h cells slots (mkF m pc Ls (.int y :: .int x :: st)) := by
  subst hp
  exact q.step fun T A t r => XS.imul A C.1 rfl (hb C.2.1 hd) rfl r
theorem g_iand (C : Cx p s m meth c Z own nm code ret maxL) {x y : Int32} (hd : decode code pc = .ok (.iand, 1)) (hp : pc + 1 = pc') (q : Go p l e R s m args below meth c n0 Q h cells slots (mkF m pc' Ls (.int (x &&& y) :: st))) : Go p l e R s m args below meth c n0 Q h cells slots (mkF m pc Ls (.int y :: .int x :: st)) := by
  subst hp
  exact q.step fun T A t r => XS.iand A C.1 rfl (hb C.2.1 hd) rfl r
theorem g_ixor (C : Cx p s m meth c Z own nm code ret maxL) {x y : Int32} (hd : decode code pc = .ok (.ixor, 1)) (hp : pc + 1 = pc') (q : Go p l e R s m args below meth c n0 Q h cells slots (mkF m pc' Ls (.int (x ^^^ y) :: st))) : Go p l e R s m args below meth c n0 Q h cells slots (mkF m pc Ls (.int y :: .int x :: st)) := by
  subst hp
  exact q.step fun T A t r => XT.ixor A C.1 rfl (hb C.2.1 hd) rfl r
theorem g_irem (C : Cx p s m meth c Z own nm code ret maxL) {x y : Int32} (hd : decode code pc = .ok (.irem, 1)) (hy : y ≠ 0) (hp : pc + 1 = pc') (q : Go p l e R s m args below meth c n0 Q h cells slots (mkF m pc' Ls (.int (x % y) :: st))) : Go p l e R s m args below meth c n0 Q h cells slots (mkF m pc Ls (.int y :: .int x :: st)) := by
  subst hp
  intro T L X eT N
  obtain ⟨t, o, k, r⟩ := q T L X eT N
  exact ⟨t, o, iremM X C.1 (g := mkF m pc Ls (.int y :: .int x :: st)) rfl (hb C.2.1 hd) rfl hy k, r⟩
theorem g_dup (C : Cx p s m meth c Z own nm code ret maxL) {x : Value} (hd : decode code pc = .ok (.dup, 1)) (hx : x.category = 1) (hp : pc + 1 = pc') (q : Go p l e R s m args below meth c n0 Q h cells slots (mkF m pc' Ls (x :: x :: st))) : Go p l e R s m args below meth c n0 Q h cells slots (mkF m pc Ls (x :: st)) := by
  subst hp
  exact q.step fun T A t r => XS.dup A C.1 rfl (hb C.2.1 hd) rfl hx r
theorem g_istoreN (C : Cx p s m meth c Z own nm code ret maxL) {k : Fin 4} {x : Int32} (hd : decode code pc = .ok (.istore_n k, 1)) (hl : storeLocals Ls k.val (.int x) = some Ls') (hp : pc + 1 = pc') (q : Go p l e R s m args below meth c n0 Q h cells slots (mkF m pc' Ls' st)) : Go p l e R s m args below meth c n0 Q h cells slots (mkF m pc Ls (.int x :: st)) := by
  subst hp
  exact q.step fun T A t r => XS.istoreN A C.1 rfl (hb C.2.1 hd) rfl hl r
theorem g_istore (C : Cx p s m meth c Z own nm code ret maxL) {k : Nat} {x : Int32} (hd : decode code pc = .ok (.istore k, 2)) (hl : storeLocals Ls k (.int x) = some Ls') (hp : pc + 2 = pc') (q : Go p l e R s m args below meth c n0 Q h cells slots (mkF m pc' Ls' st)) : Go p l e R s m args below meth c n0 Q h cells slots (mkF m pc Ls (.int x :: st)) := by
  subst hp
  exact q.step fun T A t r => XS.istore A C.1 rfl (hb C.2.1 hd) rfl hl r
theorem g_astoreN (C : Cx p s m meth c Z own nm code ret maxL) {k : Fin 4} {x : Value} (hd : decode code pc = .ok (.astore_n k, 1)) (hv : x.isRef = true) (hl : storeLocals Ls k.val x = some Ls') (hp : pc + 1 = pc') (q : Go p l e R s m args below meth c n0 Q h cells slots (mkF m pc' Ls' st)) : Go p l e R s m args below meth c n0 Q h cells slots (mkF m pc Ls (x :: st)) := by
  subst hp
  exact q.step fun T A t r => XS.astoreN A C.1 rfl (hb C.2.1 hd) rfl hv hl r
theorem g_astore (C : Cx p s m meth c Z own nm code ret maxL) {k : Nat} {x : Value} (hd : decode code pc = .ok (.astore k, 2)) (hv : x.isRef = true) (hl : storeLocals Ls k x = some Ls') (hp : pc + 2 = pc') (q : Go p l e R s m args below meth c n0 Q h cells slots (mkF m pc' Ls' st)) : Go p l e R s m args below meth c n0 Q h cells slots (mkF m pc Ls (x :: st)) := by
  subst hp
  exact q.step fun T A t r => XS.astore A C.1 rfl (hb C.2.1 hd) rfl hv hl r
theorem g_goto (C : Cx p s m meth c Z own nm code ret maxL) {o : Int} (hd : decode code pc = .ok (.goto o, 3)) (ho : 0 ≤ (pc : Int) + o) (hp : ((pc : Int) + o).toNat = pc') (q : Go p l e R s m args below meth c n0 Q h cells slots (mkF m pc' Ls st)) : Go p l e R s m args below meth c n0 Q h cells slots (mkF m pc Ls st) := q.step fun T A t r => XS.goto A C.1 rfl (pc0 := pc) rfl (hb C.2.1 hd) ho hp r
/-- a comparison of two ints: both ways -/
theorem g_icmp (C : Cx p s m meth c Z own nm code ret maxL) {cd : ClassFile.Cond} {x y : Int32} {o : Int} {P : Prop} [Decidable P] (hd : decode code pc = .ok (.if_icmp cd o, 3)) (hc : if_icmp.holds cd x y = decide P) (ho : 0 ≤ (pc : Int) + o) (hp2 : ((pc : Int) + o).toNat = pc2) (hp : pc + 3 = pc')
    (q1 : P → Go p l e R s m args below meth c n0 Q h cells slots (mkF m pc2 Ls st)) (q2 : ¬ P → Go p l e R s m args below meth c n0 Q h cells slots (mkF m pc' Ls st)) : Go p l e R s m args below meth c n0 Q h cells slots (mkF m pc Ls (.int y :: .int x :: st)) := by
  subst hp
  by_cases hP : P
  · exact (q1 hP).step fun T A t r => XS.icmpYes A C.1 rfl (pc0 := pc) rfl (hb C.2.1 hd) rfl (hc.trans (decide_eq_true hP)) ho hp2 r
  · exact (q2 hP).step fun T A t r => XS.icmpNo A C.1 rfl (hb C.2.1 hd) rfl (hc.trans (decide_eq_false hP)) r
/-- a comparison of an int with 0: both ways -/
theorem g_if (C : Cx p s m meth c Z own nm code ret maxL) {cd : ClassFile.Cond} {x : Int32} {o : Int} {P : Prop} [Decidable P] (hd : decode code pc = .ok (.ifCond cd o, 3)) (hc : if_icmp.holds cd x 0 = decide P) (ho : 0 ≤ (pc : Int) + o) (hp2 : ((pc : Int) + o).toNat = pc2) (hp : pc + 3 = pc')
    (q1 : P → Go p l e R s m args below meth c n0 Q h cells slots (mkF m pc2 Ls st)) (q2 : ¬ P → Go p l e R s m args below meth c n0 Q h cells slots (mkF m pc' Ls st)) : Go p l e R s m args below meth c n0 Q h cells slots (mkF m pc Ls (.int x :: st)) := by
  subst hp
  by_cases hP : P
  · exact (q1 hP).step fun T A t r => XS.ifYes A C.1 rfl (pc0 := pc) rfl (hb C.2.1 hd) rfl ((if0 cd x).trans (hc.trans (decide_eq_true hP))) ho hp2 r
  · exact (q2 hP).step fun T A t r => XS.ifNo A C.1 rfl (hb C.2.1 hd) rfl ((if0 cd x).trans (hc.trans (decide_eq_false hP))) r
theorem c_lt (x y : Int32) : if_icmp.holds .lt x y = decide (x < y) := by
  by_cases q : x < y
  · exact (tlt q).1.trans (decide_eq_true q).symm
  · exact (flt q).1.trans (decide_eq_false q).symm
theorem c_ge (x y : Int32) : if_icmp.holds .ge x y = decide (¬ x < y) := by
  by_cases q : x < y
  · exact (tlt q).2.1.trans (decide_eq_false (not_not_intro q)).symm
  · exact (flt q).2.1.trans (decide_eq_true q).symm
theorem c_gt (x y : Int32) : if_icmp.holds .gt x y = decide (y < x) := by
  by_cases q : y < x
  · exact (tlt q).2.2.1.trans (decide_eq_true q).symm
  · exact (flt q).2.2.1.trans (decide_eq_false q).symm
theorem c_le (x y : Int32) : if_icmp.holds .le x y = decide (¬ y < x) := by
  by_cases q : y < x
  · exact (tlt q).2.2.2.trans (decide_eq_false (not_not_intro q)).symm
  · exact (flt q).2.2.2.trans (decide_eq_true q).symm
theorem c_eq (x y : Int32) : if_icmp.holds .eq x y = decide (x = y) := by
  by_cases q : x = y
  · exact (teq q).1.trans (decide_eq_true q).symm
  · exact (feq q).1.trans (decide_eq_false q).symm
theorem c_ne (x y : Int32) : if_icmp.holds .ne x y = decide (¬ x = y) := by
  by_cases q : x = y
  · exact (teq q).2.trans (decide_eq_false (not_not_intro q)).symm
  · exact (feq q).2.trans (decide_eq_true q).symm
/-- a fork of what is returned -/
theorem Go.pos {H : Heap → Prop} {P : Prop} [Decidable P] {a b : Int32} {g : JFrame} (q : Go p l e R s m args below meth c n0 (Ret n0 H a) h cells slots g) (hP : P) : Go p l e R s m args below meth c n0 (Ret n0 H (if P then a else b)) h cells slots g := by rw [if_pos hP]; exact q
theorem Go.neg {H : Heap → Prop} {P : Prop} [Decidable P] {a b : Int32} {g : JFrame} (q : Go p l e R s m args below meth c n0 (Ret n0 H b) h cells slots g) (hP : ¬ P) : Go p l e R s m args below meth c n0 (Ret n0 H (if P then a else b)) h cells slots g := by rw [if_neg hP]; exact q
theorem Go.cast {H : Heap → Prop} {a b : Int32} {g : JFrame} (q : Go p l e R s m args below meth c n0 (Ret n0 H a) h cells slots g) (hab : a = b) : Go p l e R s m args below meth c n0 (Ret n0 H b) h cells slots g := hab ▸ q
theorem g_retZ {H : Heap → Prop} (C : Cx p s m meth c Z own nm code (some .boolean) maxL) {z r : Int32} (hd : decode code pc = .ok (.ireturn, 1)) (hz : nar .boolean z = r) (hH : H h) (hc : cells ≤ R.cells) (hs : slots ≤ R.slots) : Go p l e R s m args below meth c n0 (Ret n0 H r) h cells slots (mkF m pc Ls (.int z :: st)) := fun T L X eT N => by
  obtain ⟨-, -, -, -, -, hret, hlk, -⟩ := id C
  obtain ⟨fs, hr, hrun, hended, hW, hsame⟩ := X.leave (v := some (.int (nar .boolean z))) (fun q => by rw [hret] at q; cases q) hlk
  exact ⟨_, _, retN X C.1 (t := .boolean) hret (by simp) (hb C.2.1 hd) hr, hrun, hended, _, L, rfl, ⟨by rw [hz], N, by show H T.heap; rw [eT]; exact hH⟩, ⟨_, rfl⟩, hW, hsame.mono hc hs⟩
theorem g_retI {H : Heap → Prop} (C : Cx p s m meth c Z own nm code (some .int) maxL) {z : Int32} (hd : decode code pc = .ok (.ireturn, 1)) (hH : H h) (hc : cells ≤ R.cells) (hs : slots ≤ R.slots) : Go p l e R s m args below meth c n0 (Ret n0 H z) h cells slots (mkF m pc Ls (.int z :: st)) := fun T L X eT N => by
  obtain ⟨-, -, -, -, -, hret, hlk, -⟩ := id C
  obtain ⟨fs, hr, hrun, hended, hW, hsame⟩ := X.leave (v := some (.int z)) (fun q => by rw [hret] at q; cases q) hlk
  exact ⟨_, _, retOut X C.1 hret rfl (Or.inl ⟨rfl, Or.inl rfl, z, rfl⟩) (hb C.2.1 hd) hr, hrun, hended, _, L, rfl, ⟨rfl, N, by show H T.heap; rw [eT]; exact hH⟩, ⟨_, rfl⟩, hW, hsame.mono hc hs⟩
/-- a static call, paid by the callee's contract; the callee makes at most rm.cells cells and rm.slots slots -/
theorem g_callS (C : Cx p s m meth c Z own nm code ret maxL) {i : Nat} {y : MethodName} {bytes : ByteArray} {ml : Nat} {rt : Option FieldType} {rm : Room} {as' : List Value} {Qc : Option Value → Heap → List Loc → Prop} (W : Nat) (w1 : (Jvm.Cond.methodLink own i y).before a0 Z = true) (w2 : (Jvm.Cond.static y).before a0 Z = true) (w3 : (Jvm.Cond.initialized y.cls).before a0 Z = true) (w4 : (Jvm.Cond.code y bytes ml rt).before a0 Z = true)
    (hy : y.cls ≠ "java/lang/invoke/MethodHandle" ∧ y.cls ≠ "java/lang/invoke/VarHandle") (hM : Con l Z y bytes ml rt rm [] as'.toArray h Qc) (hf : rm.frames + 1 ≤ R.frames) (hl : W + (ml + 11) + rm.locals ≤ R.locals) (hrc : cells + rm.cells ≤ R.cells) (hrs : slots + rm.slots ≤ R.slots) {ps : List FieldType} {rr : Option FieldType} (hpd : parseMethodDescriptor y.desc = some ⟨ps, rr⟩) (hlen : as'.length = ps.length)
    (hsz : Ls.size = maxL) {stk : List Value} (hst : stk = as'.reverse ++ st) (hW : (st.map fun v => v.category).sum ≤ W) (hd : decode code pc = .ok (.invokestatic i, 3)) (hp : pc + 3 = pc')
    (q : ∀ v h' L', Qc v h' L' → (Fr n0 L' ∧ Go p l e R s m args below meth c n0 Q h' (cells + rm.cells) (slots + rm.slots) (mkF m pc' Ls (v.toList ++ st)))) : Go p l e R s m args below meth c n0 Q h cells slots (mkF m pc Ls stk) := by
  intro T L X eT N
  subst hp
  obtain ⟨hx, hby, hml, hown, -, hret, hlk, hZ⟩ := id C
  obtain ⟨v, _, ⟨T1, L1, k1, n1⟩, -, X1, ⟨Lc, hQ, l1, y1, z1⟩, st1⟩ := Jvm.LawKit.callS X hx (y := y) hown (mvT hZ w1) (mvT hZ w2) (mvT hZ w3) (mvT hZ w4) hy (backOf (W := W) hM hZ w4 w3 hf hl) (g := mkF m pc Ls stk) rfl (hsz.trans hml.symm) (argsL := as') (rest := st) (lenOf hpd hlen) hst (by show 2 * 0 + _ ≤ _; omega) (hb hby hd) (fun _ _ => ⟨rfl, eT, hrc, hrs⟩)
  dsimp only [Pt.U, Pt.locs, Pt.cells, Pt.slots] at X1 l1 y1 z1 st1 hQ
  subst l1 y1 z1
  obtain ⟨hN, hG⟩ := q v _ Lc hQ
  obtain ⟨t, o, k, r⟩ := hG T1 _ X1 rfl (N.app hN)
  exact ⟨t, o, st1 t k, r⟩
/-- a static call of a method that computes an int and leaves the heap as it was -/
theorem g_callP (C : Cx p s m meth c Z own nm code ret maxL) {i : Nat} {y : MethodName} {bytes : ByteArray} {ml : Nat} {rt : Option FieldType} {rm : Room} {as' : List Value} {z : Int32} (W : Nat) (w1 : (Jvm.Cond.methodLink own i y).before a0 Z = true) (w2 : (Jvm.Cond.static y).before a0 Z = true) (w3 : (Jvm.Cond.initialized y.cls).before a0 Z = true) (w4 : (Jvm.Cond.code y bytes ml rt).before a0 Z = true)
    (hy : y.cls ≠ "java/lang/invoke/MethodHandle" ∧ y.cls ≠ "java/lang/invoke/VarHandle") (hM : Con l Z y bytes ml rt rm [] as'.toArray h (Ret n0 (· = h) z)) (hf : rm.frames + 1 ≤ R.frames) (hl : W + (ml + 11) + rm.locals ≤ R.locals) (hrc : rm.cells = 0) (hrs : rm.slots = 0) (hcl : cells ≤ R.cells) (hsl : slots ≤ R.slots) {ps : List FieldType} {rr : Option FieldType} (hpd : parseMethodDescriptor y.desc = some ⟨ps, rr⟩) (hlen : as'.length = ps.length)
    (hsz : Ls.size = maxL) {stk : List Value} (hst : stk = as'.reverse ++ st) (hW : (st.map fun v => v.category).sum ≤ W) (hd : decode code pc = .ok (.invokestatic i, 3)) (hp : pc + 3 = pc')
    (q : Go p l e R s m args below meth c n0 Q h cells slots (mkF m pc' Ls (.int z :: st))) : Go p l e R s m args below meth c n0 Q h cells slots (mkF m pc Ls stk) := by
  refine g_callS C W w1 w2 w3 w4 hy hM hf hl (by rw [hrc]; exact hcl) (by rw [hrs]; exact hsl) hpd hlen hsz hst hW hd hp ?_
  rintro v h' L' ⟨rfl, hN, rfl⟩
  refine ⟨hN, ?_⟩
  rw [hrc, hrs]
  exact q
end Steps
end Jvm.OwnGo
namespace Jvm.OwnGo
open Sem ClassFile Op Lib Jvm.Stand Jvm.Free Jvm.LawKit Jvm.RoadKit
/-- the int array at a holds just vs -/
def IA (Z : State) (h : Heap) (a : Addr) (vs : List Int32) : Prop := ∃ cl : Cell, Arr Z h a cl .int ∧ cl.slots = (vs.map Value.int).toArray
theorem IA.ext {Z : State} {h h' : Heap} {a : Addr} {vs : List Int32} (I : IA Z h a vs) (E : Ext h h') : IA Z h' a vs := by
  obtain ⟨cl, A, S⟩ := I
  exact ⟨cl, A.ext E, S⟩
theorem IA.other {Z : State} {h h' : Heap} {a b : Addr} {sl : Nat} {v : Value} {vs : List Int32} (I : IA Z h a vs) (W : Wr h h' b sl v) (q : a ≠ b) : IA Z h' a vs := by
  obtain ⟨cl, A, S⟩ := I
  exact ⟨cl, A.other W q, S⟩
theorem IA.lt {Z : State} {h : Heap} {a : Addr} {vs : List Int32} (I : IA Z h a vs) : a < h.size := by
  obtain ⟨cl, A, S⟩ := I
  exact A.lt
theorem IA.set {Z : State} {h h' : Heap} {a : Addr} {j : Nat} {x : Int32} {vs : List Int32} (I : IA Z h a vs) (W : Wr h h' a j (.int x)) : IA Z h' a (vs.set j x) := by
  obtain ⟨cl, A, S⟩ := I
  refine ⟨_, A.same W, ?_⟩
  show cl.slots.setIfInBounds j (.int x) = _
  rw [S, List.setIfInBounds_toArray, List.map_set]
theorem IA.ne {Z : State} {h : Heap} {a b : Addr} {C : String} {vs : List Int32} {a0 : Array Value} {k : Nat} (I : IA Z h b vs) (F : Exa Z h a C) (wi : (Jvm.Cond.instantiable C k).before a0 Z = true) : a ≠ b := by
  obtain ⟨cl, A, S⟩ := I
  exact ne_arr F wi A
/-- a place of a list, by an int -/
theorem inb_lt {j : Int32} {n : Nat} {k : Nat} (h1 : j.toInt = k) (h2 : k < n) : ¬ (j < 0 ∨ n ≤ j.toNatClampNeg) := by
  simp only [Int32.lt_iff_toInt_lt, Int32.toNatClampNeg, Int32.reduceToInt]
  omega
theorem clamp_of {j : Int32} {k : Nat} (h1 : j.toInt = k) : j.toNatClampNeg = k := by
  simp only [Int32.toNatClampNeg]
  omega
section Objs
variable {p : Program} {l : Launch} {e : Env} {R : Room} {s : State} {m : MethodId} {args : Array Value} {below : List Frame} {meth : Method} {c : Code} {n0 : Nat} {Q : Option Value → Heap → List Loc → Prop} {h : Heap} {cells slots : Nat} {Z : State} {own nm : String} {code : ByteArray} {ret : Option FieldType} {maxL : Nat} {pc pc' pc2 : Nat} {Ls Ls' : Array Slot} {st : List Value} {a0 : Array Value}
theorem g_newIA (C : Cx p s m meth c Z own nm code ret maxL) (w : (Jvm.Cond.arrayClass .int).before a0 Z = true) {n : Int32} {k cap : Nat} (hd : decode code pc = .ok (.newarray .int, 2)) (hk : n.toInt = k) (hcap : k ≤ cap) (hk8 : cap * 8 ≤ 536870912) (hc : cells + 1 ≤ R.cells) (hl : slots + cap ≤ R.slots) (hp : pc + 2 = pc')
    (q : ∀ h', Ext h h' → IA Z h' h.size (List.replicate k 0) → Go p l e R s m args below meth c n0 Q h' (cells + 1) (slots + cap) (mkF m pc' Ls (.ref h.size :: st))) : Go p l e R s m args below meth c n0 Q h cells slots (mkF m pc Ls (.int n :: st)) := by
  intro T L X eT N
  subst hp
  obtain ⟨hx, hby, hml, hown, -, hret, hlk, hZ⟩ := id C
  have hck := clamp_of hk
  obtain ⟨T1, h1, cA, X1, e1, E1, A1, st1⟩ := newP X hx hZ (aty := .int) w eT (g := mkF m pc Ls (.int n :: st)) rfl (hb hby hd) rfl (by simp only [Int32.lt_iff_toInt_lt, Int32.reduceToInt]; omega) (cap := cap) (by omega) hk8 hc hl
  obtain ⟨t, o, kk, r⟩ := q h1 E1 ⟨_, A1, by
    show Array.replicate n.toNatClampNeg (defaultValue .int) = _
    rw [hck, List.map_replicate, List.toArray_replicate]; rfl⟩ T1 _ X1 e1 N
  exact ⟨t, o, st1 t kk, r⟩
theorem g_stIA (C : Cx p s m meth c Z own nm code ret maxL) {a : Addr} {vs : List Int32} {j x : Int32} {k : Nat} (I : IA Z h a vs) (hn0 : n0 ≤ a) (hj : j.toInt = k) (hk : k < vs.length) (hd : decode code pc = .ok (.iastore, 1)) (hp : pc + 1 = pc')
    (q : ∀ h', Wr h h' a k (.int x) → Go p l e R s m args below meth c n0 Q h' cells slots (mkF m pc' Ls st)) : Go p l e R s m args below meth c n0 Q h cells slots (mkF m pc Ls (.int x :: .int j :: .ref a :: st)) := by
  intro T L X eT N
  subst hp
  obtain ⟨hx, hby, hml, hown, -, hret, hlk, hZ⟩ := id C
  obtain ⟨cl, A, S⟩ := I
  have hsz : cl.slots.size = vs.length := by rw [S]; simp
  obtain ⟨T1, h1, X1, e1, W1, st1⟩ := stI X hx hZ eT A (j := j) (x := x) (by rw [hsz]; exact inb_lt hj hk) (g := mkF m pc Ls (.int x :: .int j :: .ref a :: st)) rfl rfl (hb hby hd)
  obtain ⟨t, o, kk, r⟩ := q h1 (by rw [← clamp_of hj]; exact W1) T1 _ X1 e1 (Fr.snoc X1 N hn0)
  exact ⟨t, o, st1 t kk, r⟩
theorem g_ldIA (C : Cx p s m meth c Z own nm code ret maxL) {a : Addr} {vs : List Int32} {j v : Int32} {k : Nat} (I : IA Z h a vs) (hj : j.toInt = k) (hv : vs[k]? = some v) (hd : decode code pc = .ok (.iaload, 1)) (hp : pc + 1 = pc')
    (q : Go p l e R s m args below meth c n0 Q h cells slots (mkF m pc' Ls (.int v :: st))) : Go p l e R s m args below meth c n0 Q h cells slots (mkF m pc Ls (.int j :: .ref a :: st)) := by
  intro T L X eT N
  subst hp
  obtain ⟨hx, hby, hml, hown, -, hret, hlk, hZ⟩ := id C
  obtain ⟨cl, A, S⟩ := I
  have hsz : cl.slots.size = vs.length := by rw [S]; simp
  obtain ⟨hlt, -⟩ := List.getElem?_eq_some_iff.mp hv
  obtain ⟨t, o, kk, r⟩ := q T L X eT N
  exact ⟨t, o, X.iaload hx (j := j) (v := .int v) (by rw [eT]; exact A.1) (State.isArrayOf_alike hZ.alike A.2.1) A.2.2 (by rw [hsz]; exact inb_lt hj hlt) (by rw [clamp_of hj, S]; simp [hv]) (g := mkF m pc Ls (.int j :: .ref a :: st)) rfl rfl (hb hby hd) t kk, r⟩
theorem g_lenIA (C : Cx p s m meth c Z own nm code ret maxL) {a : Addr} {vs : List Int32} (I : IA Z h a vs) (hd : decode code pc = .ok (.arraylength, 1)) (hp : pc + 1 = pc')
    (q : Go p l e R s m args below meth c n0 Q h cells slots (mkF m pc' Ls (.int vs.length.toInt32 :: st))) : Go p l e R s m args below meth c n0 Q h cells slots (mkF m pc Ls (.ref a :: st)) := by
  intro T L X eT N
  subst hp
  obtain ⟨hx, hby, hml, hown, -, hret, hlk, hZ⟩ := id C
  obtain ⟨cl, A, S⟩ := I
  have hsz : cl.slots.size = vs.length := by rw [S]; simp
  obtain ⟨t, o, kk, r⟩ := q T L X eT N
  exact ⟨t, o, X.arraylength hx (by rw [eT]; exact A.1) (State.isArrayOf_alike hZ.alike A.2.1) (g := mkF m pc Ls (.ref a :: st)) rfl rfl (hb hby hd) t (by rw [hsz]; exact kk), r⟩
theorem g_getF (C : Cx p s m meth c Z own nm code ret maxL) {O n d : String} {i : Nat} {a : Addr} {v : Value} (w : (Jvm.Cond.fieldLink own i O n d).before a0 Z = true) (F : Fld Z h a O n d v) (hd : decode code pc = .ok (.getfield i, 3)) (hp : pc + 3 = pc')
    (q : Go p l e R s m args below meth c n0 Q h cells slots (mkF m pc' Ls (v :: st))) : Go p l e R s m args below meth c n0 Q h cells slots (mkF m pc Ls (.ref a :: st)) := by
  intro T L X eT N
  subst hp
  obtain ⟨hx, hby, hml, hown, -, hret, hlk, hZ⟩ := id C
  obtain ⟨T1, X1, e1, st1⟩ := getF X hx hZ hown (host := "") (Or.inl w) Via.refl eT F (g := mkF m pc Ls (.ref a :: st)) rfl rfl (hb hby hd)
  obtain ⟨t, o, kk, r⟩ := q T1 L X1 e1 N
  exact ⟨t, o, st1 t kk, r⟩
theorem g_putF (C : Cx p s m meth c Z own nm code ret maxL) {O n d D : String} {i kk : Nat} {ty : FieldType} {a : Addr} {v old : Value} (w : (Jvm.Cond.fieldLink own i O n d).before a0 Z = true) (F : Fld Z h a O n d old) (E : Exa Z h a D) (hl : (Jvm.Cond.lays D O n d).before a0 Z = true ∨ ((Jvm.Cond.laysFinal D O n d).before a0 Z = true ∧ own = O ∧ nm = "<init>")) (wi : (Jvm.Cond.instantiable D kk).before a0 Z = true)
    (hty : parseFieldDescriptor d = some ty) (hv : narrow ty v = v) (hf : fits ty v = true) (hn0 : n0 ≤ a) (hd : decode code pc = .ok (.putfield i, 3)) (hp : pc + 3 = pc')
    (q : ∀ h', Wr h h' a (Jvm.RoadKit.slotOf Z O n d) v → Go p l e R s m args below meth c n0 Q h' cells slots (mkF m pc' Ls st)) : Go p l e R s m args below meth c n0 Q h cells slots (mkF m pc Ls (v :: .ref a :: st)) := by
  intro T L X eT N
  subst hp
  obtain ⟨hx, hby, hml, hown, hnm, hret, hlk, hZ⟩ := id C
  obtain ⟨T1, h1, X1, e1, W1, st1⟩ := putF X hx hZ hown (host := "") (Or.inl w) Via.refl eT F E (hl.imp id fun z => ⟨z.1, z.2.1, hnm.trans z.2.2⟩) wi hty hv hf (g := mkF m pc Ls (v :: .ref a :: st)) rfl rfl (hb hby hd)
  obtain ⟨t, o, k, r⟩ := q h1 W1 T1 _ X1 e1 (Fr.snoc X1 N hn0)
  exact ⟨t, o, st1 t k, r⟩
theorem g_newO (C : Cx p s m meth c Z own nm code ret maxL) {D : String} {i n : Nat} (w : (Jvm.Cond.classLink own i D).before a0 Z = true) (wi : (Jvm.Cond.instantiable D n).before a0 Z = true) (wz : (Jvm.Cond.initialized D).before a0 Z = true) (hd : decode code pc = .ok (.new i, 3)) (hc : cells + 1 ≤ R.cells) (hl : slots + n ≤ R.slots) (hp : pc + 3 = pc')
    (q : ∀ h', Ext h h' → Exa Z h' h.size D → (∀ {O nn d : String} {ty : FieldType}, Laid Z a0 D O nn d → parseFieldDescriptor d = some ty → Fld Z h' h.size O nn d (defaultValue ty)) → Go p l e R s m args below meth c n0 Q h' (cells + 1) (slots + n) (mkF m pc' Ls (.ref h.size :: st))) : Go p l e R s m args below meth c n0 Q h cells slots (mkF m pc Ls st) := by
  intro T L X eT N
  subst hp
  obtain ⟨hx, hby, hml, hown, -, hret, hlk, hZ⟩ := id C
  obtain ⟨T1, h1, X1, e1, E1, A1, D1, -, st1⟩ := newO X hx hZ hown w wi wz eT (g := mkF m pc Ls st) rfl (hb hby hd) hc hl
  obtain ⟨t, o, k, r⟩ := q h1 E1 A1 D1 T1 _ X1 e1 N
  exact ⟨t, o, st1 t k, r⟩
theorem g_initO (C : Cx p s m meth c Z own nm code ret maxL) {i : Nat} {a : Addr} (W : Nat) (w1 : (Jvm.Cond.methodLink own i Lib.objectInit).before a0 Z = true) (w2 : (Jvm.Cond.instanceMethod Lib.objectInit).before a0 Z = true) (w3 : (Jvm.Cond.code Lib.objectInit Jvm.Pilot.@@N@@.object_method_1_code 1 none).before a0 Z = true) (hsz : Ls.size = maxL) (hd : decode code pc = .ok (.invokespecial i, 3)) (hf : 1 ≤ R.frames) (hW : (st.map fun v => v.category).sum ≤ W) (hl : W + 12 ≤ R.locals) (hp : pc + 3 = pc')
    (q : Go p l e R s m args below meth c n0 Q h cells slots (mkF m pc' Ls st)) : Go p l e R s m args below meth c n0 Q h cells slots (mkF m pc Ls (.ref a :: st)) := by
  intro T L X eT N
  subst hp
  obtain ⟨hx, hby, hml, hown, -, hret, hlk, hZ⟩ := id C
  obtain ⟨T1, X1, e1, st1⟩ := initO X hx hZ hown w1 w2 w3 eT (g := mkF m pc Ls (.ref a :: st)) rfl (hsz.trans hml.symm) rfl (hb hby hd) hf (W := W) (by show 2 * 0 + _ ≤ _; omega) hl
  obtain ⟨t, o, k, r⟩ := q T1 _ X1 e1 N
  exact ⟨t, o, st1 t k, r⟩
/-- a constructor by its contract -/
theorem g_callI (C : Cx p s m meth c Z own nm code ret maxL) {i : Nat} {y : MethodName} {bytes : ByteArray} {ml : Nat} {rm : Room} {a : Addr} {as' : List Value} {Qc : Option Value → Heap → List Loc → Prop} (W : Nat) (hy1 : y.name = "<init>") (w1 : (Jvm.Cond.methodLink own i y).before a0 Z = true) (w2 : (Jvm.Cond.instanceMethod y).before a0 Z = true) (w3 : (Jvm.Cond.initialized y.cls).before a0 Z = true) (w4 : (Jvm.Cond.code y bytes ml none).before a0 Z = true)
    (hy : y.cls ≠ "java/lang/invoke/MethodHandle" ∧ y.cls ≠ "java/lang/invoke/VarHandle") (hM : Con l Z y bytes ml none rm [] (.ref a :: as').toArray h Qc) (hf : rm.frames + 1 ≤ R.frames) (hl : W + (ml + 11) + rm.locals ≤ R.locals) (hrc : cells + rm.cells ≤ R.cells) (hrs : slots + rm.slots ≤ R.slots) {ps : List FieldType} {rr : Option FieldType} (hpd : parseMethodDescriptor y.desc = some ⟨ps, rr⟩) (hlen : as'.length = ps.length)
    (hsz : Ls.size = maxL) {stk : List Value} (hst : stk = as'.reverse ++ .ref a :: st) (hW : (st.map fun v => v.category).sum ≤ W) (hd : decode code pc = .ok (.invokespecial i, 3)) (hp : pc + 3 = pc')
    (q : ∀ v h' L', Qc v h' L' → (Fr n0 L' ∧ Go p l e R s m args below meth c n0 Q h' (cells + rm.cells) (slots + rm.slots) (mkF m pc' Ls (v.toList ++ st)))) : Go p l e R s m args below meth c n0 Q h cells slots (mkF m pc Ls stk) := by
  intro T L X eT N
  subst hp
  obtain ⟨hx, hby, hml, hown, -, hret, hlk, hZ⟩ := id C
  obtain ⟨v, _, ⟨T1, L1, k1, n1⟩, -, X1, ⟨Lc, hQ, l1, y1, z1⟩, st1⟩ := X.specialBack hx (y := y) hy1 hown (mvT hZ w1) (mvT hZ w2) (mvT hZ w4) hy (backOf (W := W) hM hZ w4 w3 hf hl) (g := mkF m pc Ls stk) rfl (hsz.trans hml.symm) (Steps.refl _) (a := a) (argsL := as') (rest := st) (lenOf hpd hlen) hst (by show 2 * 0 + _ ≤ _; omega) (hb hby hd) (fun _ _ => ⟨rfl, eT, hrc, hrs⟩)
  dsimp only [Pt.U, Pt.locs, Pt.cells, Pt.slots] at X1 l1 y1 z1 st1 hQ
  subst l1 y1 z1
  obtain ⟨hN, hG⟩ := q v _ Lc hQ
  obtain ⟨t, o, k, r⟩ := hG T1 _ X1 rfl (N.app hN)
  exact ⟨t, o, st1.trans k, r⟩
/-- an instance method by its contract -/
theorem g_callV (C : Cx p s m meth c Z own nm code ret maxL) {i : Nat} {y : MethodName} {bytes : ByteArray} {ml : Nat} {rt : Option FieldType} {rm : Room} {a : Addr} {as' : List Value} {Qc : Option Value → Heap → List Loc → Prop} (W : Nat) (w1 : (Jvm.Cond.methodLink own i y).before a0 Z = true) (w2 : (Jvm.Cond.declares y).before a0 Z = true) (w5 : (Jvm.Cond.selects y.cls y y).before a0 Z = true) (w6 : (Jvm.Cond.instanceMethod y).before a0 Z = true) (w3 : (Jvm.Cond.initialized y.cls).before a0 Z = true) (w4 : (Jvm.Cond.code y bytes ml rt).before a0 Z = true)
    (hy : y.cls ≠ "java/lang/invoke/MethodHandle" ∧ y.cls ≠ "java/lang/invoke/VarHandle") (E : Exa Z h a y.cls) (hM : Con l Z y bytes ml rt rm [] (.ref a :: as').toArray h Qc) (hf : rm.frames + 1 ≤ R.frames) (hl : W + (ml + 11) + rm.locals ≤ R.locals) (hrc : cells + rm.cells ≤ R.cells) (hrs : slots + rm.slots ≤ R.slots) {ps : List FieldType} {rr : Option FieldType} (hpd : parseMethodDescriptor y.desc = some ⟨ps, rr⟩) (hlen : as'.length = ps.length)
    (hsz : Ls.size = maxL) {stk : List Value} (hst : stk = as'.reverse ++ .ref a :: st) (hW : (st.map fun v => v.category).sum ≤ W) (hd : decode code pc = .ok (.invokevirtual i, 3)) (hp : pc + 3 = pc')
    (q : ∀ v h' L', Qc v h' L' → (Fr n0 L' ∧ Go p l e R s m args below meth c n0 Q h' (cells + rm.cells) (slots + rm.slots) (mkF m pc' Ls (v.toList ++ st)))) : Go p l e R s m args below meth c n0 Q h cells slots (mkF m pc Ls stk) := by
  intro T L X eT N
  subst hp
  obtain ⟨hx, hby, hml, hown, -, hret, hlk, hZ⟩ := id C
  obtain ⟨cq, kq, qa, qb, qc⟩ := isOf hZ eT E
  obtain ⟨v, _, ⟨T1, L1, k1, n1⟩, -, X1, ⟨Lc, hQ, l1, y1, z1⟩, st1⟩ := X.virtualBack hx (y := y) (z := y) hown (mvT hZ w1) (mvT hZ w2) (notFace_of_selects (args := #[]) (mvT hZ w5)) (mvT hZ w5) (mvT hZ w6) hy (backOf (W := W) hM hZ w4 w3 hf hl) qa qc (g := mkF m pc Ls stk) rfl (hsz.trans hml.symm) (Steps.refl _) (argsL := as') (rest := st) (lenOf hpd hlen) hst (by show 2 * 0 + _ ≤ _; omega) (hb hby hd) (fun _ _ => ⟨rfl, eT, hrc, hrs⟩)
  dsimp only [Pt.U, Pt.locs, Pt.cells, Pt.slots] at X1 l1 y1 z1 st1 hQ
  subst l1 y1 z1
  obtain ⟨hN, hG⟩ := q v _ Lc hQ
  obtain ⟨t, o, k, r⟩ := hG T1 _ X1 rfl (N.app hN)
  exact ⟨t, o, st1.trans k, r⟩
/-- nothing is returned; the heap is as H says; nothing old is written -/
def RetV (n0 : Nat) (H : Heap → Prop) (v : Option Value) (hh : Heap) (L : List Loc) : Prop := v = none ∧ Fr n0 L ∧ H hh
/-- a reference is returned, of which and of the heap H speaks -/
def RetA (n0 : Nat) (H : Addr → Heap → Prop) (v : Option Value) (hh : Heap) (L : List Loc) : Prop := Fr n0 L ∧ ∃ a, v = some (.ref a) ∧ H a hh
theorem g_retV {H : Heap → Prop} (C : Cx p s m meth c Z own nm code none maxL) (hd : decode code pc = .ok (.return_, 1)) (hH : H h) (hc : cells ≤ R.cells) (hs : slots ≤ R.slots) : Go p l e R s m args below meth c n0 (RetV n0 H) h cells slots (mkF m pc Ls []) := fun T L X eT N => by
  obtain ⟨-, -, -, -, -, hret, hlk, -⟩ := id C
  obtain ⟨fs, hr, hrun, hended, hW, hsame⟩ := X.leave (v := none) (fun _ => rfl) hlk
  exact ⟨_, _, X.returnOut C.1 hret (hb C.2.1 hd) hr, hrun, hended, _, L, rfl, ⟨rfl, N, by show H T.heap; rw [eT]; exact hH⟩, ⟨_, rfl⟩, hW, hsame.mono hc hs⟩
theorem g_retA {H : Addr → Heap → Prop} {ty : FieldType} (C : Cx p s m meth c Z own nm code (some (.array ty)) maxL) {a : Addr} (hd : decode code pc = .ok (.areturn, 1)) (hH : H a h) (hc : cells ≤ R.cells) (hs : slots ≤ R.slots) : Go p l e R s m args below meth c n0 (RetA n0 H) h cells slots (mkF m pc Ls (.ref a :: st)) := fun T L X eT N => by
  obtain ⟨-, -, -, -, -, hret, hlk, -⟩ := id C
  obtain ⟨fs, hr, hrun, hended, hW, hsame⟩ := X.leave (v := some (.ref a)) (fun q => by rw [hret] at q; cases q) hlk
  exact ⟨_, _, retOut X C.1 hret rfl (Or.inr (Or.inr (Or.inr (Or.inr ⟨rfl, rfl, rfl⟩)))) (hb C.2.1 hd) hr, hrun, hended, _, L, rfl, ⟨N, a, rfl, by show H a T.heap; rw [eT]; exact hH⟩, ⟨_, rfl⟩, hW, hsame.mono hc hs⟩
theorem g_dupX1 (C : Cx p s m meth c Z own nm code ret maxL) {x y : Value} (hd : decode code pc = .ok (.dup_x1, 1)) (hx : x.category = 1) (hy : y.category = 1) (hp : pc + 1 = pc') (q : Go p l e R s m args below meth c n0 Q h cells slots (mkF m pc' Ls (x :: y :: x :: st))) : Go p l e R s m args below meth c n0 Q h cells slots (mkF m pc Ls (x :: y :: st)) := by
  subst hp
  exact q.step fun T A t r => XT.dupX1 A C.1 rfl (hb C.2.1 hd) rfl hx hy r
/-- the same, of a method that returns nothing -/
theorem g_callVV {H : Heap → Prop} (C : Cx p s m meth c Z own nm code ret maxL) {i : Nat} {y : MethodName} {bytes : ByteArray} {ml : Nat} {rt : Option FieldType} {rm : Room} {a : Addr} {as' : List Value} (W : Nat) (w1 : (Jvm.Cond.methodLink own i y).before a0 Z = true) (w2 : (Jvm.Cond.declares y).before a0 Z = true) (w5 : (Jvm.Cond.selects y.cls y y).before a0 Z = true) (w6 : (Jvm.Cond.instanceMethod y).before a0 Z = true) (w3 : (Jvm.Cond.initialized y.cls).before a0 Z = true) (w4 : (Jvm.Cond.code y bytes ml rt).before a0 Z = true)
    (hy : y.cls ≠ "java/lang/invoke/MethodHandle" ∧ y.cls ≠ "java/lang/invoke/VarHandle") (E : Exa Z h a y.cls) (hM : Con l Z y bytes ml rt rm [] (.ref a :: as').toArray h (RetV n0 H)) (hf : rm.frames + 1 ≤ R.frames) (hl : W + (ml + 11) + rm.locals ≤ R.locals) (hrc : cells + rm.cells ≤ R.cells) (hrs : slots + rm.slots ≤ R.slots) {ps : List FieldType} {rr : Option FieldType} (hpd : parseMethodDescriptor y.desc = some ⟨ps, rr⟩) (hlen : as'.length = ps.length)
    (hsz : Ls.size = maxL) {stk : List Value} (hst : stk = as'.reverse ++ .ref a :: st) (hW : (st.map fun v => v.category).sum ≤ W) (hd : decode code pc = .ok (.invokevirtual i, 3)) (hp : pc + 3 = pc')
    (q : ∀ h', H h' → Go p l e R s m args below meth c n0 Q h' (cells + rm.cells) (slots + rm.slots) (mkF m pc' Ls st)) : Go p l e R s m args below meth c n0 Q h cells slots (mkF m pc Ls stk) :=
  g_callV C W w1 w2 w5 w6 w3 w4 hy E hM hf hl hrc hrs hpd hlen hsz hst hW hd hp (by rintro v h' L' ⟨rfl, N, hH⟩; exact ⟨N, q h' hH⟩)
/-- the same, of a method that returns an int -/
theorem g_callVI {H : Heap → Prop} {r : Int32} (C : Cx p s m meth c Z own nm code ret maxL) {i : Nat} {y : MethodName} {bytes : ByteArray} {ml : Nat} {rt : Option FieldType} {rm : Room} {a : Addr} {as' : List Value} (W : Nat) (w1 : (Jvm.Cond.methodLink own i y).before a0 Z = true) (w2 : (Jvm.Cond.declares y).before a0 Z = true) (w5 : (Jvm.Cond.selects y.cls y y).before a0 Z = true) (w6 : (Jvm.Cond.instanceMethod y).before a0 Z = true) (w3 : (Jvm.Cond.initialized y.cls).before a0 Z = true) (w4 : (Jvm.Cond.code y bytes ml rt).before a0 Z = true)
    (hy : y.cls ≠ "java/lang/invoke/MethodHandle" ∧ y.cls ≠ "java/lang/invoke/VarHandle") (E : Exa Z h a y.cls) (hM : Con l Z y bytes ml rt rm [] (.ref a :: as').toArray h (Ret n0 H r)) (hf : rm.frames + 1 ≤ R.frames) (hl : W + (ml + 11) + rm.locals ≤ R.locals) (hrc : cells + rm.cells ≤ R.cells) (hrs : slots + rm.slots ≤ R.slots) {ps : List FieldType} {rr : Option FieldType} (hpd : parseMethodDescriptor y.desc = some ⟨ps, rr⟩) (hlen : as'.length = ps.length)
    (hsz : Ls.size = maxL) {stk : List Value} (hst : stk = as'.reverse ++ .ref a :: st) (hW : (st.map fun v => v.category).sum ≤ W) (hd : decode code pc = .ok (.invokevirtual i, 3)) (hp : pc + 3 = pc')
    (q : ∀ h', H h' → Go p l e R s m args below meth c n0 Q h' (cells + rm.cells) (slots + rm.slots) (mkF m pc' Ls (.int r :: st))) : Go p l e R s m args below meth c n0 Q h cells slots (mkF m pc Ls stk) :=
  g_callV C W w1 w2 w5 w6 w3 w4 hy E hM hf hl hrc hrs hpd hlen hsz hst hW hd hp (by rintro v h' L' ⟨rfl, N, hH⟩; exact ⟨N, q h' hH⟩)
/-- a constructor by its contract -/
theorem g_callIV {H : Heap → Prop} (C : Cx p s m meth c Z own nm code ret maxL) {i : Nat} {y : MethodName} {bytes : ByteArray} {ml : Nat} {rm : Room} {a : Addr} {as' : List Value} (W : Nat) (hy1 : y.name = "<init>") (w1 : (Jvm.Cond.methodLink own i y).before a0 Z = true) (w2 : (Jvm.Cond.instanceMethod y).before a0 Z = true) (w3 : (Jvm.Cond.initialized y.cls).before a0 Z = true) (w4 : (Jvm.Cond.code y bytes ml none).before a0 Z = true)
    (hy : y.cls ≠ "java/lang/invoke/MethodHandle" ∧ y.cls ≠ "java/lang/invoke/VarHandle") (hM : Con l Z y bytes ml none rm [] (.ref a :: as').toArray h (RetV n0 H)) (hf : rm.frames + 1 ≤ R.frames) (hl : W + (ml + 11) + rm.locals ≤ R.locals) (hrc : cells + rm.cells ≤ R.cells) (hrs : slots + rm.slots ≤ R.slots) {ps : List FieldType} {rr : Option FieldType} (hpd : parseMethodDescriptor y.desc = some ⟨ps, rr⟩) (hlen : as'.length = ps.length)
    (hsz : Ls.size = maxL) {stk : List Value} (hst : stk = as'.reverse ++ .ref a :: st) (hW : (st.map fun v => v.category).sum ≤ W) (hd : decode code pc = .ok (.invokespecial i, 3)) (hp : pc + 3 = pc')
    (q : ∀ h', H h' → Go p l e R s m args below meth c n0 Q h' (cells + rm.cells) (slots + rm.slots) (mkF m pc' Ls st)) : Go p l e R s m args below meth c n0 Q h cells slots (mkF m pc Ls stk) :=
  g_callI C W hy1 w1 w2 w3 w4 hy hM hf hl hrc hrs hpd hlen hsz hst hW hd hp (by rintro v h' L' ⟨rfl, N, hH⟩; exact ⟨N, q h' hH⟩)
/-- a static call that returns a reference -/
theorem g_callSA {H : Addr → Heap → Prop} (C : Cx p s m meth c Z own nm code ret maxL) {i : Nat} {y : MethodName} {bytes : ByteArray} {ml : Nat} {rt : Option FieldType} {rm : Room} {as' : List Value} (W : Nat) (w1 : (Jvm.Cond.methodLink own i y).before a0 Z = true) (w2 : (Jvm.Cond.static y).before a0 Z = true) (w3 : (Jvm.Cond.initialized y.cls).before a0 Z = true) (w4 : (Jvm.Cond.code y bytes ml rt).before a0 Z = true)
    (hy : y.cls ≠ "java/lang/invoke/MethodHandle" ∧ y.cls ≠ "java/lang/invoke/VarHandle") (hM : Con l Z y bytes ml rt rm [] as'.toArray h (RetA n0 H)) (hf : rm.frames + 1 ≤ R.frames) (hl : W + (ml + 11) + rm.locals ≤ R.locals) (hrc : cells + rm.cells ≤ R.cells) (hrs : slots + rm.slots ≤ R.slots) {ps : List FieldType} {rr : Option FieldType} (hpd : parseMethodDescriptor y.desc = some ⟨ps, rr⟩) (hlen : as'.length = ps.length)
    (hsz : Ls.size = maxL) {stk : List Value} (hst : stk = as'.reverse ++ st) (hW : (st.map fun v => v.category).sum ≤ W) (hd : decode code pc = .ok (.invokestatic i, 3)) (hp : pc + 3 = pc')
    (q : ∀ a h', H a h' → Go p l e R s m args below meth c n0 Q h' (cells + rm.cells) (slots + rm.slots) (mkF m pc' Ls (.ref a :: st))) : Go p l e R s m args below meth c n0 Q h cells slots (mkF m pc Ls stk) :=
  g_callS C W w1 w2 w3 w4 hy hM hf hl hrc hrs hpd hlen hsz hst hW hd hp (by rintro v h' L' ⟨N, a, rfl, hH⟩; exact ⟨N, q a h' hH⟩)
/-- a static call that returns nothing -/
theorem g_callSV {H : Heap → Prop} (C : Cx p s m meth c Z own nm code ret maxL) {i : Nat} {y : MethodName} {bytes : ByteArray} {ml : Nat} {rt : Option FieldType} {rm : Room} {as' : List Value} (W : Nat) (w1 : (Jvm.Cond.methodLink own i y).before a0 Z = true) (w2 : (Jvm.Cond.static y).before a0 Z = true) (w3 : (Jvm.Cond.initialized y.cls).before a0 Z = true) (w4 : (Jvm.Cond.code y bytes ml rt).before a0 Z = true)
    (hy : y.cls ≠ "java/lang/invoke/MethodHandle" ∧ y.cls ≠ "java/lang/invoke/VarHandle") (hM : Con l Z y bytes ml rt rm [] as'.toArray h (RetV n0 H)) (hf : rm.frames + 1 ≤ R.frames) (hl : W + (ml + 11) + rm.locals ≤ R.locals) (hrc : cells + rm.cells ≤ R.cells) (hrs : slots + rm.slots ≤ R.slots) {ps : List FieldType} {rr : Option FieldType} (hpd : parseMethodDescriptor y.desc = some ⟨ps, rr⟩) (hlen : as'.length = ps.length)
    (hsz : Ls.size = maxL) {stk : List Value} (hst : stk = as'.reverse ++ st) (hW : (st.map fun v => v.category).sum ≤ W) (hd : decode code pc = .ok (.invokestatic i, 3)) (hp : pc + 3 = pc')
    (q : ∀ h', H h' → Go p l e R s m args below meth c n0 Q h' (cells + rm.cells) (slots + rm.slots) (mkF m pc' Ls st)) : Go p l e R s m args below meth c n0 Q h cells slots (mkF m pc Ls stk) :=
  g_callS C W w1 w2 w3 w4 hy hM hf hl hrc hrs hpd hlen hsz hst hW hd hp (by rintro v h' L' ⟨rfl, N, hH⟩; exact ⟨N, q h' hH⟩)
end Objs
end Jvm.OwnGo
namespace Jvm.OwnGo
open Sem ClassFile Op Lib Jvm.Stand Jvm.Free Jvm.LawKit Jvm.RoadKit
theorem IA.keep {Z : State} {h h' : Heap} {a : Addr} {ws : List Addr} {vs : List Int32} (I : IA Z h a vs) (K : Keep h h' ws) (q : a ∉ ws) : IA Z h' a vs := by
  obtain ⟨cl, A, S⟩ := I
  exact ⟨cl, ⟨K.2.1 a cl A.1 q, A.2⟩, S⟩
theorem IA.arv {Z : State} {h : Heap} {a : Addr} {vs : List Int32} (I : IA Z h a vs) (hl : vs.length < 2 ^ 31) : ∃ k, Arv Z h a k .int vs.length.toInt32 (vs.map Value.int) (.int 0) := by
  obtain ⟨cl, A, S⟩ := I
  have hsz : cl.slots.size = vs.length := by rw [S]; simp
  have hti := len_toInt hl
  refine ⟨_, cl, A, rfl, by rw [hsz]; exact (clamp_of hti).symm, by simp only [Int32.lt_iff_toInt_lt, hti, Int32.reduceToInt]; omega, fun j hj => ?_, fun j hj => ?_⟩
  · rw [hsz] at hj
    rw [S]
    simp [hj]
  · rw [hsz] at hj
    simp [hj, fits]
theorem IA.of_arv {Z : State} {h : Heap} {a : Addr} {k : ClassId} {n : Int32} {d : Value} {vs : List Int32} (A : Arv Z h a k .int n (vs.map Value.int) d) (hl : n.toNatClampNeg = vs.length) : IA Z h a vs := by
  obtain ⟨cl, A, -, S, -, H, -⟩ := A
  refine ⟨cl, A, Array.ext_getElem? fun j => ?_⟩
  by_cases hj : j < vs.length
  · rw [H j (by omega)]
    simp [hj]
  · rw [Array.getElem?_eq_none (by omega), eq_comm, Array.getElem?_eq_none (by simp; omega)]
theorem ext_refl (h : Heap) : Ext h h := ⟨Nat.le_refl _, fun _ _ q => q⟩
theorem ext_trans {h h1 h2 : Heap} (E : Ext h h1) (F : Ext h1 h2) : Ext h h2 := ⟨Nat.le_trans E.1 F.1, fun a c q => F.2 a c (E.2 a c q)⟩
theorem ext_keep {h h1 h2 : Heap} {b : Addr} (E : Ext h h1) (K : Keep h1 h2 [b]) (hb : h.size ≤ b) : Ext h h2 := ⟨Nat.le_trans E.1 K.1, fun a c q => K.2.1 a c (E.2 a c q) (fun z => absurd (List.mem_singleton.mp z) (Nat.ne_of_lt (Nat.lt_of_lt_of_le (Array.getElem?_eq_some_iff.mp q).1 hb)))⟩
section Jdk
variable {p : Program} {l : Launch} {e : Env} {R : Room} {s : State} {m : MethodId} {args : Array Value} {below : List Frame} {meth : Method} {c : Code} {n0 : Nat} {Q : Option Value → Heap → List Loc → Prop} {h : Heap} {cells slots : Nat} {Z : State} {own nm : String} {code : ByteArray} {ret : Option FieldType} {maxL : Nat} {pc pc' pc2 : Nat} {Ls Ls' : Array Slot} {st : List Value} {a0 : Array Value}
theorem Go.more {g : JFrame} {cells' slots' : Nat} (q : Go p l e R s m args below meth c n0 Q h cells' slots' g) (hc : cells ≤ cells') (hs : slots ≤ slots') : Go p l e R s m args below meth c n0 Q h cells slots g := fun T L X eT N => q T L (X.more hc hs) eT N
theorem g_iinc (C : Cx p s m meth c Z own nm code ret maxL) {k : Nat} {cst : Int} {x y : Int32} (hd : decode code pc = .ok (.iinc k cst, 3)) (hl : Ls[k]? = some (.val (.int x))) (hy : x + Int32.ofInt cst = y) (hl' : storeLocals Ls k (.int y) = some Ls') (hp : pc + 3 = pc') (q : Go p l e R s m args below meth c n0 Q h cells slots (mkF m pc' Ls' st)) : Go p l e R s m args below meth c n0 Q h cells slots (mkF m pc Ls st) := by
  subst hp hy
  exact q.step fun T A t r => XS.iinc A C.1 rfl (hb C.2.1 hd) hl hl' r
theorem g_ldcF (C : Cx p s m meth c Z own nm code ret maxL) {i : Nat} {b : UInt32} (w : (Jvm.Cond.constantFloat own i b).before a0 Z = true) (hd : decode code pc = .ok (.ldc i, 2)) (hp : pc + 2 = pc') (q : Go p l e R s m args below meth c n0 Q h cells slots (mkF m pc' Ls (.float b :: st))) : Go p l e R s m args below meth c n0 Q h cells slots (mkF m pc Ls st) := by
  subst hp
  intro T L X eT N
  obtain ⟨t, o, k, r⟩ := q T L X eT N
  exact ⟨t, o, X.ldcFloatC C.1 C.2.2.2.1 (mvT C.2.2.2.2.2.2.2 w) (g := mkF m pc Ls st) rfl (hb C.2.1 hd) t k, r⟩
theorem g_max (C : Cx p s m meth c Z own nm code ret maxL) {i : Nat} {x y : Int32} (w1 : (Jvm.Cond.methodLink own i Lib.Math.max.name).before a0 Z = true) (w2 : (Jvm.Cond.static Lib.Math.max.name).before a0 Z = true) (w3 : (Jvm.Cond.initialized "java/lang/Math").before a0 Z = true) (w4 : (Jvm.Cond.code Lib.Math.max.name Lib.Math.max.code 2 (some .int)).before a0 Z = true) (hsz : Ls.size = maxL) (hd : decode code pc = .ok (.invokestatic i, 3)) (hf : 1 ≤ R.frames) (hl : (st.map fun v => v.category).sum + 13 ≤ R.locals) (hc : cells ≤ R.cells) (hs : slots ≤ R.slots) (hp : pc + 3 = pc')
    (q : Go p l e R s m args below meth c n0 Q h cells slots (mkF m pc' Ls (.int (if x < y then y else x) :: st))) : Go p l e R s m args below meth c n0 Q h cells slots (mkF m pc Ls (.int y :: .int x :: st)) := by
  subst hp
  intro T L X eT N
  obtain ⟨hx, hby, hml, hown, -, hret, hlk, hZ⟩ := id C
  obtain ⟨vm, X1, st1⟩ := X.mathMaxH hx hown (mvT hZ w1) (mvT hZ w2) (mvT hZ w3) (mvT hZ w4) (g := mkF m pc Ls (.int y :: .int x :: st)) rfl (hsz.trans hml.symm) rfl (hb hby hd) hf (by show 2 * 0 + _ + 13 ≤ _; omega) hc hs
  obtain ⟨t, o, k, r⟩ := q _ L X1 eT N
  exact ⟨t, o, st1 t k, r⟩
theorem g_min (C : Cx p s m meth c Z own nm code ret maxL) {i : Nat} {x y : Int32} (w1 : (Jvm.Cond.methodLink own i Lib.Math.min.name).before a0 Z = true) (w2 : (Jvm.Cond.static Lib.Math.min.name).before a0 Z = true) (w3 : (Jvm.Cond.initialized "java/lang/Math").before a0 Z = true) (w4 : (Jvm.Cond.code Lib.Math.min.name Lib.Math.min.code 2 (some .int)).before a0 Z = true) (hsz : Ls.size = maxL) (hd : decode code pc = .ok (.invokestatic i, 3)) (hf : 1 ≤ R.frames) (hl : (st.map fun v => v.category).sum + 13 ≤ R.locals) (hc : cells ≤ R.cells) (hs : slots ≤ R.slots) (hp : pc + 3 = pc')
    (q : Go p l e R s m args below meth c n0 Q h cells slots (mkF m pc' Ls (.int (if y < x then y else x) :: st))) : Go p l e R s m args below meth c n0 Q h cells slots (mkF m pc Ls (.int y :: .int x :: st)) := by
  subst hp
  intro T L X eT N
  obtain ⟨hx, hby, hml, hown, -, hret, hlk, hZ⟩ := id C
  obtain ⟨vm, X1, st1⟩ := X.mathMinH hx hown (mvT hZ w1) (mvT hZ w2) (mvT hZ w3) (mvT hZ w4) (g := mkF m pc Ls (.int y :: .int x :: st)) rfl (hsz.trans hml.symm) rfl (hb hby hd) hf (by show 2 * 0 + _ + 13 ≤ _; omega) hc hs
  obtain ⟨t, o, k, r⟩ := q _ L X1 eT N
  exact ⟨t, o, st1 t k, r⟩
/-- System.arraycopy of a whole int array to the front of another -/
theorem g_cpy (C : Cx p s m meth c Z own nm code ret maxL) {i : Nat} {a b : Addr} {vs us : List Int32} (W : Nat) (w1 : (Jvm.Cond.methodLink own i Jvm.Stand.acN).before a0 Z = true) (w2 : (Jvm.Cond.native Jvm.Stand.acN).before a0 Z = true) (w3 : (Jvm.Cond.static Jvm.Stand.acN).before a0 Z = true) (w4 : (Jvm.Cond.initialized "java/lang/System").before a0 Z = true) (I : IA Z h a vs) (J : IA Z h b us) (hvs : vs.length ≤ us.length) (hus : us.length < 2 ^ 31) (ge : n0 ≤ b)
    (hsz : Ls.size = maxL) (hd : decode code pc = .ok (.invokestatic i, 3)) (hf : 1 ≤ R.frames) (hW : (st.map fun v => v.category).sum ≤ W) (hl : W + (nativeFrameWords "java/lang/System" "arraycopy" 5 + 11) ≤ R.locals) (hp : pc + 3 = pc')
    (q : ∀ h', Keep h h' [b] → IA Z h' b (vs ++ us.drop vs.length) → Go p l e R s m args below meth c n0 Q h' cells slots (mkF m pc' Ls st)) : Go p l e R s m args below meth c n0 Q h cells slots (mkF m pc Ls (.int vs.length.toInt32 :: .int 0 :: .ref b :: .int 0 :: .ref a :: st)) := by
  subst hp
  intro T L X eT N
  obtain ⟨hx, hby, hml, hown, -, hret, hlk, hZ⟩ := id C
  obtain ⟨ka, A⟩ := I.arv (by omega)
  obtain ⟨kb, B⟩ := J.arv hus
  have e1 := clamp_of (len_toInt (n := vs.length) (by omega))
  have e2 := clamp_of (len_toInt hus)
  have z0 : (0 : Int32).toNatClampNeg = 0 := by decide
  obtain ⟨T1, h1, L1, X1, eh, N1, K1, B1, st1⟩ := cpA X hx hZ hown w1 w2 w3 w4 eT (us := vs.map Value.int) A B (Or.inl ⟨rfl, rfl⟩) (sp := 0) (dp := 0) (nn := vs.length.toInt32) (by decide) (by decide) (by simp only [Int32.lt_iff_toInt_lt, len_toInt (n := vs.length) (by omega), Int32.reduceToInt]; omega) (by rw [z0, e1]; omega) (by rw [z0, e1, e2]; omega)
    (by rw [e1, z0]; refine List.ext_getElem? fun j => ?_; by_cases hj : j < vs.length <;> simp [hj]) (by rw [z0, e1]; simp; omega) N ge (g := mkF m pc Ls (.int vs.length.toInt32 :: .int 0 :: .ref b :: .int 0 :: .ref a :: st)) rfl (hsz.trans hml.symm) rfl (hb hby hd) hf (W := W) (by show 2 * 0 + _ ≤ _; omega) hl
  rw [z0, e1] at B1
  have B2 : Arv Z h1 b kb .int us.length.toInt32 ((vs ++ us.drop vs.length).map Value.int) (.int 0) := by simpa using B1
  obtain ⟨t, o, k, r⟩ := q h1 K1 (IA.of_arv B2 (by rw [e2]; simp; omega)) T1 _ X1 eh N1
  exact ⟨t, o, st1 t k, r⟩
end Jdk
end Jvm.OwnGo
namespace Jvm.Pilot.@@N@@
open Jvm Jvm.ClassFile Sem Op Lib Jvm.Free Jvm.Stand Jvm.LawKit Jvm.RoadKit Jvm.OwnGo Bundle Jvm.Pilot.@@N@@.Jvm.D
theorem pn1 : plainName "com/example/tasks_to_traces/taskstotraces/sensor/Events" = true := by first | (simp [plainName, overriddenIn]; done) | decide +kernel
theorem pn2 : plainName "java/util/HashMap" = true := by first | (simp [plainName, overriddenIn]; done) | decide +kernel
theorem pn3 : plainName "java/util/AbstractMap" = true := by first | (simp [plainName, overriddenIn]; done) | decide +kernel
theorem pn6 : plainName "java/util/Arrays" = true := by first | (simp [plainName, overriddenIn]; done) | decide +kernel
/-- the table at o (its field ofCodes) holds just tab -/
def Ev (Z : State) (n0 : Nat) (h : Heap) (o : Addr) (tab : List Int32) : Prop := ∃ a : Addr, n0 ≤ o ∧ n0 ≤ a ∧ Exa Z h o "com/example/tasks_to_traces/taskstotraces/sensor/Events" ∧ Fld Z h o "com/example/tasks_to_traces/taskstotraces/sensor/Events" "ofCodes" "[I" (.ref a) ∧ IA Z h a tab
theorem Ev.exa {Z : State} {n0 : Nat} {h : Heap} {o : Addr} {tab : List Int32} (E : Ev Z n0 h o tab) : Exa Z h o "com/example/tasks_to_traces/taskstotraces/sensor/Events" := by
  obtain ⟨a, -, -, E, -⟩ := E
  exact E
/-- the table, grown where place k isn't in it -/
def grown (tab : List Int32) (k : Nat) : List Int32 := if k < tab.length then tab else tab ++ List.replicate (max (k + 1) (2 * tab.length) - tab.length) (-1)
def put (tab : List Int32) (k : Nat) (v : Int32) : List Int32 := (grown tab k).set k v
theorem grown_get (tab : List Int32) (k q : Nat) : (grown tab k).getD q (-1) = tab.getD q (-1) := by
  unfold grown
  split
  · rfl
  · simp only [List.getD_eq_getElem?_getD]
    by_cases hq : q < tab.length
    · rw [List.getElem?_append_left hq]
    · rw [List.getElem?_append_right (by omega), List.getElem?_replicate, List.getElem?_eq_none (by omega)]
      split <;> rfl
theorem grown_len (tab : List Int32) (k : Nat) : k < (grown tab k).length := by
  unfold grown
  split
  · assumption
  · simp
    omega
theorem put_get (tab : List Int32) (k q : Nat) (v : Int32) : (put tab k v).getD q (-1) = if q = k then v else tab.getD q (-1) := by
  unfold put
  by_cases hq : q = k
  · subst hq
    have := grown_len tab q
    simp [this]
  · rw [if_neg hq, ← grown_get tab k q]
    simp [List.getElem?_set, Ne.symm hq]
theorem put_len (tab : List Int32) (k : Nat) (v : Int32) (hk : k < 64) (ht : tab.length ≤ 64) : (put tab k v).length ≤ 126 := by
  unfold put grown
  split
  · simp
    omega
  · simp
    omega
theorem put_len0 (k : Nat) (v : Int32) (hk : k < 64) : (put [] k v).length ≤ 64 := by
  unfold put grown
  simp
  omega
theorem own_up (n : Nat) : n.toInt32 + 1 = (n + 1).toInt32 := (Int32.ofNat_add n 1).symm
theorem own_lt {x y : Int32} {i j : Nat} (hx : x.toInt = i) (hy : y.toInt = j) : x < y ↔ i < j := by rw [Int32.lt_iff_toInt_lt]; omega
theorem own_eq {x y : Int32} {i j : Nat} (hx : x.toInt = i) (hy : y.toInt = j) : x = y ↔ i = j := by rw [← Int32.toInt_inj]; omega
theorem slots1 {Z : State} {a0 : Array Value} (hw : ∀ d ∈ tables_1, d.before a0 Z = true) : Jvm.RoadKit.slotOf Z "com/example/tasks_to_traces/taskstotraces/sensor/Events" "ofCodes" "[I" ≠ Jvm.RoadKit.slotOf Z "com/example/tasks_to_traces/taskstotraces/sensor/Events" "ofTasks" "[I" := slot_ne (a0 := a0) (C := "com/example/tasks_to_traces/taskstotraces/sensor/Events") (Or.inl (hw _ (List.mem_of_getElem? (i := 31) rfl))) (Or.inl (hw _ (List.mem_of_getElem? (i := 29) rfl))) (by decide) (t := .array .int) (t' := .array .int) (by decide) (by decide)
theorem slots2 {Z : State} {a0 : Array Value} (hw : ∀ d ∈ tables_1, d.before a0 Z = true) : Jvm.RoadKit.slotOf Z "com/example/tasks_to_traces/taskstotraces/sensor/Events" "ofCodes" "[I" ≠ Jvm.RoadKit.slotOf Z "com/example/tasks_to_traces/taskstotraces/sensor/Events" "numbers" "Ljava/util/Map;" := slot_ne (a0 := a0) (C := "com/example/tasks_to_traces/taskstotraces/sensor/Events") (Or.inl (hw _ (List.mem_of_getElem? (i := 31) rfl))) (Or.inr (hw _ (List.mem_of_getElem? (i := 26) rfl))) (by decide) (t := .array .int) (t' := .object "java/util/Map") (by decide) (by decide)
theorem slots3 {Z : State} {a0 : Array Value} (hw : ∀ d ∈ tables_1, d.before a0 Z = true) : Jvm.RoadKit.slotOf Z "com/example/tasks_to_traces/taskstotraces/sensor/Events" "ofTasks" "[I" ≠ Jvm.RoadKit.slotOf Z "com/example/tasks_to_traces/taskstotraces/sensor/Events" "numbers" "Ljava/util/Map;" := slot_ne (a0 := a0) (C := "com/example/tasks_to_traces/taskstotraces/sensor/Events") (Or.inl (hw _ (List.mem_of_getElem? (i := 29) rfl))) (Or.inr (hw _ (List.mem_of_getElem? (i := 26) rfl))) (by decide) (t := .array .int) (t' := .object "java/util/Map") (by decide) (by decide)
theorem d8_0 : decode jdk_65_method_30_code 0 = .ok (.iload_n 1, 1) := by decide +kernel
theorem d8_1 : decode jdk_65_method_30_code 1 = .ok (.iload_n 2, 1) := by decide +kernel
theorem d8_2 : decode jdk_65_method_30_code 2 = .ok (.if_icmp .le 44, 3) := by decide +kernel
theorem d8_46 : decode jdk_65_method_30_code 46 = .ok (.iload_n 1, 1) := by decide +kernel
theorem d8_47 : decode jdk_65_method_30_code 47 = .ok (.ifCond .ge 12, 3) := by decide +kernel
theorem d8_59 : decode jdk_65_method_30_code 59 = .ok (.iload_n 2, 1) := by decide +kernel
theorem d8_60 : decode jdk_65_method_30_code 60 = .ok (.iload_n 0, 1) := by decide +kernel
theorem d8_61 : decode jdk_65_method_30_code 61 = .ok (.if_icmp .le 12, 3) := by decide +kernel
theorem d8_73 : decode jdk_65_method_30_code 73 = .ok (.return_, 1) := by decide +kernel
def r8 : Room := { frames := 0, cells := 0, slots := 0, locals := 0 }
theorem pd8 : parseMethodDescriptor "(III)V" = some ⟨[.int, .int, .int], none⟩ := by decide +kernel
theorem ef8 (m : MethodId) (x0 : Int32) (x1 : Int32) (x2 : Int32) : entryFrame m #[(.int x0), (.int x1), (.int x2)] 3 = mkF m 0 #[.val (.int x0), .val (.int x1), .val (.int x2)] [] := by first | (simp [entryFrame, mkF, argsToLocals, Value.category]; done) | rfl
theorem rm8 (l : Launch) (Z : State) (a0 : Array Value) (hw : ∀ d ∈ tables_1, d.before a0 Z = true) (ws : List Jvm.Cond) (n0 : Nat) (h : Heap) (x0 x1 x2 : Int32) (q1 : ¬ x2 < x1) (q2 : ¬ x1 < 0) (q3 : ¬ x0 < x2) : Con l Z (⟨"java/util/Arrays", "rangeCheck", "(III)V"⟩ : MethodName) jdk_65_method_30_code 3 (none) r8 ws #[(.int x0), (.int x1), (.int x2)] h (RetV n0 (· = h)) := by
  refine con_of n0 pn6 (fun m => ef8 m x0 x1 x2) fun p e s m below meth c C => ?_
  refine g_iloadN C d8_0 rfl (pc' := 1) rfl ?_
  refine g_iloadN C d8_1 rfl (pc' := 2) rfl ?_
  refine g_icmp C d8_2 (c_le x1 x2) (by decide) (pc2 := 46) (by decide) (pc' := 5) rfl (fun _ => ?_) (fun hP => absurd q1 hP)
  refine g_iloadN C d8_46 rfl (pc' := 47) rfl ?_
  refine g_if C d8_47 (c_ge x1 0) (by decide) (pc2 := 59) (by decide) (pc' := 50) rfl (fun _ => ?_) (fun hP => absurd q2 hP)
  refine g_iloadN C d8_59 rfl (pc' := 60) rfl ?_
  refine g_iloadN C d8_60 rfl (pc' := 61) rfl ?_
  refine g_icmp C d8_61 (c_le x2 x0) (by decide) (pc2 := 73) (by decide) (pc' := 64) rfl (fun _ => ?_) (fun hP => absurd q3 hP)
  exact g_retV C d8_73 rfl (by decide) (by decide)
theorem d7_0 : decode jdk_65_method_104_code 0 = .ok (.aload_n 0, 1) := by decide +kernel
theorem d7_1 : decode jdk_65_method_104_code 1 = .ok (.arraylength, 1) := by decide +kernel
theorem d7_2 : decode jdk_65_method_104_code 2 = .ok (.iload_n 1, 1) := by decide +kernel
theorem d7_3 : decode jdk_65_method_104_code 3 = .ok (.iload_n 2, 1) := by decide +kernel
theorem d7_4 : decode jdk_65_method_104_code 4 = .ok (.invokestatic 13, 3) := by decide +kernel
theorem d7_7 : decode jdk_65_method_104_code 7 = .ok (.iload_n 1, 1) := by decide +kernel
theorem d7_8 : decode jdk_65_method_104_code 8 = .ok (.istore 4, 2) := by decide +kernel
theorem d7_10 : decode jdk_65_method_104_code 10 = .ok (.iload 4, 2) := by decide +kernel
theorem d7_12 : decode jdk_65_method_104_code 12 = .ok (.iload_n 2, 1) := by decide +kernel
theorem d7_13 : decode jdk_65_method_104_code 13 = .ok (.if_icmp .ge 14, 3) := by decide +kernel
theorem d7_16 : decode jdk_65_method_104_code 16 = .ok (.aload_n 0, 1) := by decide +kernel
theorem d7_17 : decode jdk_65_method_104_code 17 = .ok (.iload 4, 2) := by decide +kernel
theorem d7_19 : decode jdk_65_method_104_code 19 = .ok (.iload_n 3, 1) := by decide +kernel
theorem d7_20 : decode jdk_65_method_104_code 20 = .ok (.iastore, 1) := by decide +kernel
theorem d7_21 : decode jdk_65_method_104_code 21 = .ok (.iinc 4 1, 3) := by decide +kernel
theorem d7_24 : decode jdk_65_method_104_code 24 = .ok (.goto (-14), 3) := by decide +kernel
theorem d7_27 : decode jdk_65_method_104_code 27 = .ok (.return_, 1) := by decide +kernel
def r7 : Room := { frames := 1, cells := 0, slots := 0, locals := 16 }
theorem pd7 : parseMethodDescriptor "([IIII)V" = some ⟨[(.array .int), .int, .int, .int], none⟩ := by decide +kernel
theorem ef7 (m : MethodId) (a : Addr) (x1 : Int32) (x2 : Int32) (v : Int32) : entryFrame m #[(.ref a), (.int x1), (.int x2), (.int v)] 5 = mkF m 0 #[.val (.ref a), .val (.int x1), .val (.int x2), .val (.int v), .unset] [] := by first | (simp [entryFrame, mkF, argsToLocals, Value.category]; done) | rfl
theorem loop7 {p : Program} {l : Launch} {e : Env} {s : State} {m : MethodId} {args : Array Value} {below : List Frame} {meth : Method} {c : Code} {n0 : Nat} {Z : State} {a0 : Array Value} (hw : ∀ d ∈ tables_1, d.before a0 Z = true) {h0 : Heap} (C : Cx p s m meth c Z "java/util/Arrays" "fill" jdk_65_method_104_code none 5) (a : Addr) (x1 x2 v : Int32) (n : Nat) (hx2 : x2.toInt = n) (hn : n < 1000) (ga : n0 ≤ a) (fin : List Int32) :
    ∀ (us2 us : List Int32) (h : Heap), (us ++ us2).length = n → fin = us ++ List.replicate us2.length v → Keep h0 h [a] → IA Z h a (us ++ us2) → Go p l e r7 s m args below meth c n0 (RetV n0 (fun h' => Keep h0 h' [a] ∧ IA Z h' a fin)) h 0 0 (mkF m 10 #[.val (.ref a), .val (.int x1), .val (.int x2), .val (.int v), .val (.int us.length.toInt32)] []) := by
  intro us2
  induction us2 with
  | nil =>
    intro us h hl hf K I
    have hi : us.length.toInt32.toInt = us.length := len_toInt (by simp at hl; omega)
    refine g_iload C d7_10 rfl (pc' := 12) rfl ?_
    refine g_iloadN C d7_12 rfl (pc' := 13) rfl ?_
    refine g_icmp C d7_13 (c_ge us.length.toInt32 x2) (by decide) (pc2 := 27) (by decide) (pc' := 16) rfl (fun _ => ?_) (fun hP => absurd (fun q => ?_) hP)
    · exact g_retV C d7_27 ⟨K, by simpa [hf] using I⟩ (by decide) (by decide)
    · rw [own_lt hi hx2] at q
      simp at hl
      omega
  | cons u us2 ih =>
    intro us h hl hf K I
    have hlen : us.length + (us2.length + 1) = n := by simpa using hl
    have hi : us.length.toInt32.toInt = us.length := len_toInt (by omega)
    refine g_iload C d7_10 rfl (pc' := 12) rfl ?_
    refine g_iloadN C d7_12 rfl (pc' := 13) rfl ?_
    refine g_icmp C d7_13 (c_ge us.length.toInt32 x2) (by decide) (pc2 := 27) (by decide) (pc' := 16) rfl (fun hP => absurd ((own_lt hi hx2).mpr (by omega)) hP) (fun _ => ?_)
    refine g_aloadN C d7_16 rfl rfl (pc' := 17) rfl ?_
    refine g_iload C d7_17 rfl (pc' := 19) rfl ?_
    refine g_iloadN C d7_19 rfl (pc' := 20) rfl ?_
    refine g_stIA C (k := us.length) I ga hi (by simp) d7_20 (pc' := 21) rfl fun h1 W1 => ?_
    refine g_iinc C d7_21 rfl (y := (us.length + 1).toInt32) (own_up us.length) (Ls' := #[.val (.ref a), .val (.int x1), .val (.int x2), .val (.int v), .val (.int (us.length + 1).toInt32)]) rfl (pc' := 24) rfl ?_
    refine g_goto C d7_24 (by decide) (pc' := 10) (by decide) ?_
    have I1 := I.set W1
    rw [show (us ++ u :: us2).set us.length v = (us ++ [v]) ++ us2 by simp] at I1
    have q := ih (us ++ [v]) h1 (by simp; omega) (by rw [hf]; simp [List.replicate_succ]) (K.wr W1 (Or.inl (List.mem_singleton.mpr rfl))) I1
    rw [show (us ++ [v]).length = us.length + 1 by simp] at q
    exact q
theorem rm7 (l : Launch) (Z : State) (a0 : Array Value) (hw : ∀ d ∈ tables_1, d.before a0 Z = true) (ws : List Jvm.Cond) (n0 : Nat) (h : Heap) (a : Addr) (v : Int32) (us us2 : List Int32) (hn : (us ++ us2).length < 1000) (ga : n0 ≤ a) (I : IA Z h a (us ++ us2)) : Con l Z (⟨"java/util/Arrays", "fill", "([IIII)V"⟩ : MethodName) jdk_65_method_104_code 5 (none) r7 ws #[(.ref a), (.int us.length.toInt32), (.int (us ++ us2).length.toInt32), (.int v)] h (RetV n0 (fun h' => Keep h h' [a] ∧ IA Z h' a (us ++ List.replicate us2.length v))) := by
  have hlen : (us ++ us2).length = us.length + us2.length := by simp
  have h1 : us.length.toInt32.toInt = us.length := len_toInt (by omega)
  have h2 : (us ++ us2).length.toInt32.toInt = (us ++ us2).length := len_toInt (by omega)
  refine con_of n0 pn6 (fun m => ef7 m a us.length.toInt32 (us ++ us2).length.toInt32 v) fun p e s m below meth c C => ?_
  refine g_aloadN C d7_0 rfl rfl (pc' := 1) rfl ?_
  refine g_lenIA C I d7_1 (pc' := 2) rfl ?_
  refine g_iloadN C d7_2 rfl (pc' := 3) rfl ?_
  refine g_iloadN C d7_3 rfl (pc' := 4) rfl ?_
  refine g_callSV C 0 (hw _ (List.mem_of_getElem? (i := 58) rfl)) (hw _ (List.mem_of_getElem? (i := 59) rfl)) (hw _ (List.mem_of_getElem? (i := 46) rfl)) (hw _ (List.mem_of_getElem? (i := 60) rfl)) (by decide) (rm8 l Z a0 hw [] n0 h (us ++ us2).length.toInt32 us.length.toInt32 (us ++ us2).length.toInt32 (fun q => by rw [own_lt h2 h1] at q; omega) (fun q => by rw [own_lt h1 (j := 0) rfl] at q; omega) (fun q => by rw [own_lt h2 h2] at q; omega)) (by decide) (by decide) (by decide) (by decide) pd8 rfl rfl (st := []) rfl (Nat.le_of_eq rfl) d7_4 (pc' := 7) rfl ?_
  rintro _ rfl
  refine g_iloadN C d7_7 rfl (pc' := 8) rfl ?_
  refine g_istore C d7_8 (Ls' := #[.val (.ref a), .val (.int us.length.toInt32), .val (.int (us ++ us2).length.toInt32), .val (.int v), .val (.int us.length.toInt32)]) rfl (pc' := 10) rfl ?_
  exact loop7 hw C a _ _ v _ h2 hn ga _ us2 us _ rfl rfl (Keep.refl _ _) I
theorem d6_0 : decode jdk_65_method_123_code 0 = .ok (.iload_n 1, 1) := by decide +kernel
theorem d6_1 : decode jdk_65_method_123_code 1 = .ok (.aload_n 0, 1) := by decide +kernel
theorem d6_2 : decode jdk_65_method_123_code 2 = .ok (.arraylength, 1) := by decide +kernel
theorem d6_3 : decode jdk_65_method_123_code 3 = .ok (.if_icmp .ne 11, 3) := by decide +kernel
theorem d6_14 : decode jdk_65_method_123_code 14 = .ok (.iload_n 1, 1) := by decide +kernel
theorem d6_15 : decode jdk_65_method_123_code 15 = .ok (.newarray .int, 2) := by decide +kernel
theorem d6_17 : decode jdk_65_method_123_code 17 = .ok (.astore_n 2, 1) := by decide +kernel
theorem d6_18 : decode jdk_65_method_123_code 18 = .ok (.aload_n 0, 1) := by decide +kernel
theorem d6_19 : decode jdk_65_method_123_code 19 = .ok (.iconst 0, 1) := by decide +kernel
theorem d6_20 : decode jdk_65_method_123_code 20 = .ok (.aload_n 2, 1) := by decide +kernel
theorem d6_21 : decode jdk_65_method_123_code 21 = .ok (.iconst 0, 1) := by decide +kernel
theorem d6_22 : decode jdk_65_method_123_code 22 = .ok (.aload_n 0, 1) := by decide +kernel
theorem d6_23 : decode jdk_65_method_123_code 23 = .ok (.arraylength, 1) := by decide +kernel
theorem d6_24 : decode jdk_65_method_123_code 24 = .ok (.iload_n 1, 1) := by decide +kernel
theorem d6_25 : decode jdk_65_method_123_code 25 = .ok (.invokestatic 304, 3) := by decide +kernel
theorem d6_28 : decode jdk_65_method_123_code 28 = .ok (.invokestatic 150, 3) := by decide +kernel
theorem d6_31 : decode jdk_65_method_123_code 31 = .ok (.aload_n 2, 1) := by decide +kernel
theorem d6_32 : decode jdk_65_method_123_code 32 = .ok (.areturn, 1) := by decide +kernel
def r6 : Room := { frames := 1, cells := 1, slots := 126, locals := 40 }
theorem pd6 : parseMethodDescriptor "([II)[I" = some ⟨[(.array .int), .int], some (.array .int)⟩ := by decide +kernel
theorem ef6 (m : MethodId) (a : Addr) (x1 : Int32) : entryFrame m #[(.ref a), (.int x1)] 3 = mkF m 0 #[.val (.ref a), .val (.int x1), .unset] [] := by first | (simp [entryFrame, mkF, argsToLocals, Value.category]; done) | rfl
set_option maxRecDepth 65536 in
theorem rm6 (l : Launch) (Z : State) (a0 : Array Value) (hw : ∀ d ∈ tables_1, d.before a0 Z = true) (ws : List Jvm.Cond) (n0 : Nat) (h : Heap) (a : Addr) (x1 : Int32) (n : Nat) (tab : List Int32) (hx : x1.toInt = n) (hlt : tab.length < n) (hn : n ≤ 126) (gs : n0 ≤ h.size) (I : IA Z h a tab) : Con l Z (⟨"java/util/Arrays", "copyOf", "([II)[I"⟩ : MethodName) jdk_65_method_123_code 3 (some (.array .int)) r6 ws #[(.ref a), (.int x1)] h (RetA n0 (fun b h' => h.size ≤ b ∧ Ext h h' ∧ IA Z h' b (tab ++ List.replicate (n - tab.length) 0))) := by
  have h1 : tab.length.toInt32.toInt = tab.length := len_toInt (by omega)
  refine con_of n0 pn6 (fun m => ef6 m a x1) fun p e s m below meth c C => ?_
  refine g_iloadN C d6_0 rfl (pc' := 1) rfl ?_
  refine g_aloadN C d6_1 rfl rfl (pc' := 2) rfl ?_
  refine g_lenIA C I d6_2 (pc' := 3) rfl ?_
  refine g_icmp C d6_3 (c_ne x1 tab.length.toInt32) (by decide) (pc2 := 14) (by decide) (pc' := 6) rfl (fun _ => ?_) (fun hP => absurd (fun q => ?_) hP)
  · refine g_iloadN C d6_14 rfl (pc' := 15) rfl ?_
    refine g_newIA C (hw _ (List.mem_of_getElem? (i := 27) rfl)) (k := n) (cap := 126) d6_15 hx hn (by decide) (by decide) (by decide) (pc' := 17) rfl fun h1' X1 I1 => ?_
    refine g_astoreN C d6_17 rfl (Ls' := #[.val (.ref a), .val (.int x1), .val (.ref h.size)]) rfl (pc' := 18) rfl ?_
    refine g_aloadN C d6_18 rfl rfl (pc' := 19) rfl ?_
    refine g_iconst C d6_19 (v := 0) (by decide) (pc' := 20) rfl ?_
    refine g_aloadN C d6_20 rfl rfl (pc' := 21) rfl ?_
    refine g_iconst C d6_21 (v := 0) (by decide) (pc' := 22) rfl ?_
    refine g_aloadN C d6_22 rfl rfl (pc' := 23) rfl ?_
    refine g_lenIA C (I.ext X1) d6_23 (pc' := 24) rfl ?_
    refine g_iloadN C d6_24 rfl (pc' := 25) rfl ?_
    refine g_min C (hw _ (List.mem_of_getElem? (i := 48) rfl)) (hw _ (List.mem_of_getElem? (i := 49) rfl)) (hw _ (List.mem_of_getElem? (i := 42) rfl)) (hw _ (List.mem_of_getElem? (i := 50) rfl)) rfl d6_25 (by decide) (by show 17 ≤ 40; omega) (by decide) (by decide) (pc' := 28) rfl ?_
    rw [if_neg (fun q => by rw [own_lt hx h1] at q; omega)]
    refine g_cpy C 0 (hw _ (List.mem_of_getElem? (i := 51) rfl)) (hw _ (List.mem_of_getElem? (i := 54) rfl)) (hw _ (List.mem_of_getElem? (i := 52) rfl)) (hw _ (List.mem_of_getElem? (i := 53) rfl)) (I.ext X1) I1 (by simp; omega) (by simp; omega) gs rfl d6_28 (by decide) (Nat.le_of_eq rfl) (by decide) (pc' := 31) rfl fun h2 K2 I2 => ?_
    refine g_aloadN C d6_31 rfl rfl (pc' := 32) rfl ?_
    rw [List.drop_replicate] at I2
    exact g_retA C d6_32 ⟨Nat.le_refl _, ext_keep X1 K2 (Nat.le_refl _), I2⟩ (by decide) (by decide)
  · rw [own_eq hx h1] at q
    omega
theorem d5_0 : decode prog_151_method_9_code 0 = .ok (.aload_n 0, 1) := by decide +kernel
theorem d5_1 : decode prog_151_method_9_code 1 = .ok (.astore_n 3, 1) := by decide +kernel
theorem d5_2 : decode prog_151_method_9_code 2 = .ok (.iload_n 1, 1) := by decide +kernel
theorem d5_3 : decode prog_151_method_9_code 3 = .ok (.aload_n 0, 1) := by decide +kernel
theorem d5_4 : decode prog_151_method_9_code 4 = .ok (.arraylength, 1) := by decide +kernel
theorem d5_5 : decode prog_151_method_9_code 5 = .ok (.if_icmp .lt 27, 3) := by decide +kernel
theorem d5_8 : decode prog_151_method_9_code 8 = .ok (.aload_n 0, 1) := by decide +kernel
theorem d5_9 : decode prog_151_method_9_code 9 = .ok (.iload_n 1, 1) := by decide +kernel
theorem d5_10 : decode prog_151_method_9_code 10 = .ok (.iconst 1, 1) := by decide +kernel
theorem d5_11 : decode prog_151_method_9_code 11 = .ok (.iadd, 1) := by decide +kernel
theorem d5_12 : decode prog_151_method_9_code 12 = .ok (.aload_n 0, 1) := by decide +kernel
theorem d5_13 : decode prog_151_method_9_code 13 = .ok (.arraylength, 1) := by decide +kernel
theorem d5_14 : decode prog_151_method_9_code 14 = .ok (.iconst 2, 1) := by decide +kernel
theorem d5_15 : decode prog_151_method_9_code 15 = .ok (.imul, 1) := by decide +kernel
theorem d5_16 : decode prog_151_method_9_code 16 = .ok (.invokestatic 53, 3) := by decide +kernel
theorem d5_19 : decode prog_151_method_9_code 19 = .ok (.invokestatic 59, 3) := by decide +kernel
theorem d5_22 : decode prog_151_method_9_code 22 = .ok (.astore_n 3, 1) := by decide +kernel
theorem d5_23 : decode prog_151_method_9_code 23 = .ok (.aload_n 3, 1) := by decide +kernel
theorem d5_24 : decode prog_151_method_9_code 24 = .ok (.aload_n 0, 1) := by decide +kernel
theorem d5_25 : decode prog_151_method_9_code 25 = .ok (.arraylength, 1) := by decide +kernel
theorem d5_26 : decode prog_151_method_9_code 26 = .ok (.aload_n 3, 1) := by decide +kernel
theorem d5_27 : decode prog_151_method_9_code 27 = .ok (.arraylength, 1) := by decide +kernel
theorem d5_28 : decode prog_151_method_9_code 28 = .ok (.iconst (-1), 1) := by decide +kernel
theorem d5_29 : decode prog_151_method_9_code 29 = .ok (.invokestatic 65, 3) := by decide +kernel
theorem d5_32 : decode prog_151_method_9_code 32 = .ok (.aload_n 3, 1) := by decide +kernel
theorem d5_33 : decode prog_151_method_9_code 33 = .ok (.iload_n 1, 1) := by decide +kernel
theorem d5_34 : decode prog_151_method_9_code 34 = .ok (.iload_n 2, 1) := by decide +kernel
theorem d5_35 : decode prog_151_method_9_code 35 = .ok (.iastore, 1) := by decide +kernel
theorem d5_36 : decode prog_151_method_9_code 36 = .ok (.aload_n 3, 1) := by decide +kernel
theorem d5_37 : decode prog_151_method_9_code 37 = .ok (.areturn, 1) := by decide +kernel
def r5 : Room := { frames := 2, cells := 1, slots := 126, locals := 54 }
theorem pd5 : parseMethodDescriptor "([III)[I" = some ⟨[(.array .int), .int, .int], some (.array .int)⟩ := by decide +kernel
theorem ef5 (m : MethodId) (a : Addr) (x1 : Int32) (v : Int32) : entryFrame m #[(.ref a), (.int x1), (.int v)] 4 = mkF m 0 #[.val (.ref a), .val (.int x1), .val (.int v), .unset] [] := by first | (simp [entryFrame, mkF, argsToLocals, Value.category]; done) | rfl
set_option maxRecDepth 65536 in
theorem rm5 (l : Launch) (Z : State) (a0 : Array Value) (hw : ∀ d ∈ tables_1, d.before a0 Z = true) (ws : List Jvm.Cond) (n0 : Nat) (h : Heap) (a : Addr) (x1 v : Int32) (k : Nat) (tab : List Int32) (hk : x1.toInt = k) (hk64 : k < 64) (ht : tab.length ≤ 64) (ga : n0 ≤ a) (gs : n0 ≤ h.size) (I : IA Z h a tab) : Con l Z (⟨"com/example/tasks_to_traces/taskstotraces/sensor/Events", "set", "([III)[I"⟩ : MethodName) prog_151_method_9_code 4 (some (.array .int)) r5 ws #[(.ref a), (.int x1), (.int v)] h (RetA n0 (fun b h' => n0 ≤ b ∧ Keep h h' [a] ∧ IA Z h' b (put tab k v))) := by
  have h1 : tab.length.toInt32.toInt = tab.length := len_toInt (by omega)
  refine con_of n0 pn1 (fun m => ef5 m a x1 v) fun p e s m below meth c C => ?_
  refine g_aloadN C d5_0 rfl rfl (pc' := 1) rfl ?_
  refine g_astoreN C d5_1 rfl (Ls' := #[.val (.ref a), .val (.int x1), .val (.int v), .val (.ref a)]) rfl (pc' := 2) rfl ?_
  refine g_iloadN C d5_2 rfl (pc' := 3) rfl ?_
  refine g_aloadN C d5_3 rfl rfl (pc' := 4) rfl ?_
  refine g_lenIA C I d5_4 (pc' := 5) rfl ?_
  refine g_icmp C d5_5 (c_lt x1 tab.length.toInt32) (by decide) (pc2 := 32) (by decide) (pc' := 8) rfl (fun hP => ?_) (fun hP => ?_)
  · rw [own_lt hk h1] at hP
    refine g_aloadN C d5_32 rfl rfl (pc' := 33) rfl ?_
    refine g_iloadN C d5_33 rfl (pc' := 34) rfl ?_
    refine g_iloadN C d5_34 rfl (pc' := 35) rfl ?_
    refine g_stIA C (k := k) I ga hk hP d5_35 (pc' := 36) rfl fun h2 W2 => ?_
    refine g_aloadN C d5_36 rfl rfl (pc' := 37) rfl ?_
    refine g_retA C d5_37 ⟨ga, Keep.of_wr W2, ?_⟩ (by decide) (by decide)
    have q := I.set W2
    unfold put grown
    rw [if_pos hP]
    exact q
  · rw [own_lt hk h1] at hP
    have e1 : (x1 + 1).toInt = (k + 1 : Nat) := by
      have := Jvm.Kit.i32_add (p := x1) (q := 1) (by rw [hk]; simp only [Int32.reduceToInt]; omega) (by rw [hk]; simp only [Int32.reduceToInt]; omega)
      rw [this, hk]
      simp only [Int32.reduceToInt]
      omega
    have e2 : (tab.length.toInt32 * 2).toInt = (2 * tab.length : Nat) := by
      have := Jvm.Kit.i32_mul (p := tab.length.toInt32) (q := 2) (by rw [h1]; simp only [Int32.reduceToInt]; omega) (by rw [h1]; simp only [Int32.reduceToInt]; omega)
      rw [this, h1]
      simp only [Int32.reduceToInt]
      omega
    have e3 : (if x1 + 1 < tab.length.toInt32 * 2 then tab.length.toInt32 * 2 else x1 + 1).toInt = (max (k + 1) (2 * tab.length) : Nat) := by
      split
      · rename_i q
        rw [own_lt e1 e2] at q
        rw [e2]
        congr 1
        omega
      · rename_i q
        rw [own_lt e1 e2] at q
        rw [e1]
        congr 1
        omega
    refine g_aloadN C d5_8 rfl rfl (pc' := 9) rfl ?_
    refine g_iloadN C d5_9 rfl (pc' := 10) rfl ?_
    refine g_iconst C d5_10 (v := 1) (by decide) (pc' := 11) rfl ?_
    refine g_iadd C d5_11 (pc' := 12) rfl ?_
    refine g_aloadN C d5_12 rfl rfl (pc' := 13) rfl ?_
    refine g_lenIA C I d5_13 (pc' := 14) rfl ?_
    refine g_iconst C d5_14 (v := 2) (by decide) (pc' := 15) rfl ?_
    refine g_imul C d5_15 (pc' := 16) rfl ?_
    refine g_max C (hw _ (List.mem_of_getElem? (i := 40) rfl)) (hw _ (List.mem_of_getElem? (i := 41) rfl)) (hw _ (List.mem_of_getElem? (i := 42) rfl)) (hw _ (List.mem_of_getElem? (i := 43) rfl)) rfl d5_16 (by decide) (by show 14 ≤ 54; omega) (by decide) (by decide) (pc' := 19) rfl ?_
    refine g_callSA C 0 (hw _ (List.mem_of_getElem? (i := 44) rfl)) (hw _ (List.mem_of_getElem? (i := 45) rfl)) (hw _ (List.mem_of_getElem? (i := 46) rfl)) (hw _ (List.mem_of_getElem? (i := 47) rfl)) (by decide) (rm6 l Z a0 hw [] n0 h a (if x1 + 1 < tab.length.toInt32 * 2 then tab.length.toInt32 * 2 else x1 + 1) (max (k + 1) (2 * tab.length)) tab e3 (by omega) (by omega) gs I) (by decide) (by decide) (by decide) (by decide) pd6 rfl rfl (st := []) rfl (Nat.le_of_eq rfl) d5_19 (pc' := 22) rfl ?_
    rintro b h2 ⟨gb, X2, I2⟩
    refine g_astoreN C d5_22 rfl (Ls' := #[.val (.ref a), .val (.int x1), .val (.int v), .val (.ref b)]) rfl (pc' := 23) rfl ?_
    refine g_aloadN C d5_23 rfl rfl (pc' := 24) rfl ?_
    refine g_aloadN C d5_24 rfl rfl (pc' := 25) rfl ?_
    refine g_lenIA C (I.ext X2) d5_25 (pc' := 26) rfl ?_
    refine g_aloadN C d5_26 rfl rfl (pc' := 27) rfl ?_
    refine g_lenIA C I2 d5_27 (pc' := 28) rfl ?_
    refine g_iconst C d5_28 (v := -1) (by decide) (pc' := 29) rfl ?_
    refine g_callSV C 0 (hw _ (List.mem_of_getElem? (i := 55) rfl)) (hw _ (List.mem_of_getElem? (i := 56) rfl)) (hw _ (List.mem_of_getElem? (i := 46) rfl)) (hw _ (List.mem_of_getElem? (i := 57) rfl)) (by decide) (rm7 l Z a0 hw [] n0 h2 b (-1) tab (List.replicate (max (k + 1) (2 * tab.length) - tab.length) 0) (by simp; omega) (Nat.le_trans gs gb) I2) (by decide) (by decide) (by decide) (by decide) pd7 rfl rfl (st := []) rfl (Nat.le_of_eq rfl) d5_29 (pc' := 32) rfl ?_
    rintro h3 ⟨K3, I3⟩
    rw [List.length_replicate] at I3
    refine g_aloadN C d5_32 rfl rfl (pc' := 33) rfl ?_
    refine g_iloadN C d5_33 rfl (pc' := 34) rfl ?_
    refine g_iloadN C d5_34 rfl (pc' := 35) rfl ?_
    refine g_stIA C (k := k) I3 (Nat.le_trans gs gb) hk (by simp; omega) d5_35 (pc' := 36) rfl fun h4 W4 => ?_
    refine g_aloadN C d5_36 rfl rfl (pc' := 37) rfl ?_
    refine g_retA C d5_37 ⟨Nat.le_trans gs gb, ((((Keep.refl h [a]).ext X2).trans K3 fun y hy => Or.inr ?_).wr W4 (Or.inr gb)), ?_⟩ (by decide) (by decide)
    · rw [List.mem_singleton] at hy
      subst hy
      exact gb
    · have q := I3.set W4
      unfold put grown
      rw [if_neg hP]
      exact q
theorem d4_0 : decode prog_151_method_6_code 0 = .ok (.aload_n 0, 1) := by decide +kernel
theorem d4_1 : decode prog_151_method_6_code 1 = .ok (.aload_n 0, 1) := by decide +kernel
theorem d4_2 : decode prog_151_method_6_code 2 = .ok (.getfield 20, 3) := by decide +kernel
theorem d4_5 : decode prog_151_method_6_code 5 = .ok (.iload_n 1, 1) := by decide +kernel
theorem d4_6 : decode prog_151_method_6_code 6 = .ok (.iload_n 2, 1) := by decide +kernel
theorem d4_7 : decode prog_151_method_6_code 7 = .ok (.invokestatic 49, 3) := by decide +kernel
theorem d4_10 : decode prog_151_method_6_code 10 = .ok (.putfield 20, 3) := by decide +kernel
theorem d4_13 : decode prog_151_method_6_code 13 = .ok (.return_, 1) := by decide +kernel
def r4 : Room := { frames := 3, cells := 1, slots := 126, locals := 70 }
theorem pd4 : parseMethodDescriptor "(II)V" = some ⟨[.int, .int], none⟩ := by decide +kernel
theorem ef4 (m : MethodId) (o : Addr) (x1 : Int32) (v : Int32) : entryFrame m #[(.ref o), (.int x1), (.int v)] 3 = mkF m 0 #[.val (.ref o), .val (.int x1), .val (.int v)] [] := by first | (simp [entryFrame, mkF, argsToLocals, Value.category]; done) | rfl
set_option maxRecDepth 65536 in
theorem rm4 (l : Launch) (Z : State) (a0 : Array Value) (hw : ∀ d ∈ tables_1, d.before a0 Z = true) (ws : List Jvm.Cond) (n0 : Nat) (h : Heap) (o : Addr) (x1 v : Int32) (k : Nat) (tab : List Int32) (hk : x1.toInt = k) (hk64 : k < 64) (ht : tab.length ≤ 64) (EE : Ev Z n0 h o tab) : Con l Z (⟨"com/example/tasks_to_traces/taskstotraces/sensor/Events", "setCode", "(II)V"⟩ : MethodName) prog_151_method_6_code 3 (none) r4 ws #[(.ref o), (.int x1), (.int v)] h (RetV n0 (fun h' => Ev Z n0 h' o (put tab k v))) := by
  obtain ⟨a, g0, g1, E, F, I⟩ := EE
  have ne : o ≠ a := IA.ne I E (hw _ (List.mem_of_getElem? (i := 1) rfl))
  refine con_of n0 pn1 (fun m => ef4 m o x1 v) fun p e s m below meth c C => ?_
  refine g_aloadN C d4_0 rfl rfl (pc' := 1) rfl ?_
  refine g_aloadN C d4_1 rfl rfl (pc' := 2) rfl ?_
  refine g_getF C (hw _ (List.mem_of_getElem? (i := 30) rfl)) F d4_2 (pc' := 5) rfl ?_
  refine g_iloadN C d4_5 rfl (pc' := 6) rfl ?_
  refine g_iloadN C d4_6 rfl (pc' := 7) rfl ?_
  refine g_callSA C 1 (hw _ (List.mem_of_getElem? (i := 37) rfl)) (hw _ (List.mem_of_getElem? (i := 38) rfl)) (hw _ (List.mem_of_getElem? (i := 2) rfl)) (hw _ (List.mem_of_getElem? (i := 39) rfl)) (by decide) (rm5 l Z a0 hw [] n0 h a x1 v k tab hk hk64 ht g1 (Nat.le_of_lt (Nat.lt_of_le_of_lt g0 E.lt)) I) (by decide) (by decide) (by decide) (by decide) pd5 rfl rfl (st := [(.ref o)]) rfl (Nat.le_of_eq rfl) d4_7 (pc' := 10) rfl ?_
  rintro b h1 ⟨gb, K1, I1⟩
  have E1 := E.keep K1
  have F1 := F.keep K1 (by rw [List.mem_singleton]; exact ne)
  refine g_putF C (hw _ (List.mem_of_getElem? (i := 30) rfl)) F1 E1 (Or.inl (hw _ (List.mem_of_getElem? (i := 31) rfl))) (hw _ (List.mem_of_getElem? (i := 1) rfl)) (ty := .array .int) (by decide) rfl rfl g0 d4_10 (pc' := 13) rfl fun h2 W2 => ?_
  exact g_retV C d4_13 ⟨b, g0, gb, E1.wr W2, F1.same W2, I1.other W2 (IA.ne I1 E1 (hw _ (List.mem_of_getElem? (i := 1) rfl))).symm⟩ (by decide) (by decide)
theorem d9_0 : decode prog_151_method_8_code 0 = .ok (.iload_n 1, 1) := by decide +kernel
theorem d9_1 : decode prog_151_method_8_code 1 = .ok (.aload_n 0, 1) := by decide +kernel
theorem d9_2 : decode prog_151_method_8_code 2 = .ok (.getfield 20, 3) := by decide +kernel
theorem d9_5 : decode prog_151_method_8_code 5 = .ok (.arraylength, 1) := by decide +kernel
theorem d9_6 : decode prog_151_method_8_code 6 = .ok (.if_icmp .ge 12, 3) := by decide +kernel
theorem d9_9 : decode prog_151_method_8_code 9 = .ok (.aload_n 0, 1) := by decide +kernel
theorem d9_10 : decode prog_151_method_8_code 10 = .ok (.getfield 20, 3) := by decide +kernel
theorem d9_13 : decode prog_151_method_8_code 13 = .ok (.iload_n 1, 1) := by decide +kernel
theorem d9_14 : decode prog_151_method_8_code 14 = .ok (.iaload, 1) := by decide +kernel
theorem d9_15 : decode prog_151_method_8_code 15 = .ok (.goto 4, 3) := by decide +kernel
theorem d9_18 : decode prog_151_method_8_code 18 = .ok (.iconst (-1), 1) := by decide +kernel
theorem d9_19 : decode prog_151_method_8_code 19 = .ok (.ireturn, 1) := by decide +kernel
def r9 : Room := { frames := 0, cells := 0, slots := 0, locals := 0 }
theorem pd9 : parseMethodDescriptor "(I)I" = some ⟨[.int], some .int⟩ := by decide +kernel
theorem ef9 (m : MethodId) (o : Addr) (x1 : Int32) : entryFrame m #[(.ref o), (.int x1)] 2 = mkF m 0 #[.val (.ref o), .val (.int x1)] [] := by first | (simp [entryFrame, mkF, argsToLocals, Value.category]; done) | rfl
theorem rm9 (l : Launch) (Z : State) (a0 : Array Value) (hw : ∀ d ∈ tables_1, d.before a0 Z = true) (ws : List Jvm.Cond) (n0 : Nat) (h : Heap) (o : Addr) (x1 : Int32) (k : Nat) (tab : List Int32) (hk : x1.toInt = k) (ht : tab.length ≤ 126) (EE : Ev Z n0 h o tab) : Con l Z (⟨"com/example/tasks_to_traces/taskstotraces/sensor/Events", "code", "(I)I"⟩ : MethodName) prog_151_method_8_code 2 (some .int) r9 ws #[(.ref o), (.int x1)] h (Ret n0 (· = h) (tab.getD k (-1))) := by
  obtain ⟨a, g0, g1, E, F, I⟩ := EE
  have h1 : tab.length.toInt32.toInt = tab.length := len_toInt (by omega)
  refine con_of n0 pn1 (fun m => ef9 m o x1) fun p e s m below meth c C => ?_
  refine g_iloadN C d9_0 rfl (pc' := 1) rfl ?_
  refine g_aloadN C d9_1 rfl rfl (pc' := 2) rfl ?_
  refine g_getF C (hw _ (List.mem_of_getElem? (i := 30) rfl)) F d9_2 (pc' := 5) rfl ?_
  refine g_lenIA C I d9_5 (pc' := 6) rfl ?_
  refine g_icmp C d9_6 (c_ge x1 tab.length.toInt32) (by decide) (pc2 := 18) (by decide) (pc' := 9) rfl (fun hP => ?_) (fun hP => ?_)
  · rw [own_lt hk h1] at hP
    rw [show tab.getD k (-1) = -1 by rw [List.getD_eq_getElem?_getD, List.getElem?_eq_none (by omega)]; rfl]
    refine g_iconst C d9_18 (v := -1) (by decide) (pc' := 19) rfl ?_
    exact g_retI C d9_19 rfl (by decide) (by decide)
  · rw [Decidable.not_not, own_lt hk h1] at hP
    refine g_aloadN C d9_9 rfl rfl (pc' := 10) rfl ?_
    refine g_getF C (hw _ (List.mem_of_getElem? (i := 30) rfl)) F d9_10 (pc' := 13) rfl ?_
    refine g_iloadN C d9_13 rfl (pc' := 14) rfl ?_
    refine g_ldIA C (k := k) (v := tab.getD k (-1)) I hk (by simp [hP]) d9_14 (pc' := 15) rfl ?_
    refine g_goto C d9_15 (by decide) (pc' := 19) (by decide) ?_
    exact g_retI C d9_19 rfl (by decide) (by decide)
theorem d3_0 : decode jdk_71_method_1_code 0 = .ok (.aload_n 0, 1) := by decide +kernel
theorem d3_1 : decode jdk_71_method_1_code 1 = .ok (.invokespecial 1, 3) := by decide +kernel
theorem d3_4 : decode jdk_71_method_1_code 4 = .ok (.return_, 1) := by decide +kernel
def r3 : Room := { frames := 1, cells := 0, slots := 0, locals := 12 }
theorem pd3 : parseMethodDescriptor "()V" = some ⟨[], none⟩ := by decide +kernel
theorem ef3 (m : MethodId) (a : Addr) : entryFrame m #[(.ref a)] 1 = mkF m 0 #[.val (.ref a)] [] := by first | (simp [entryFrame, mkF, argsToLocals, Value.category]; done) | rfl
theorem rm3 (l : Launch) (Z : State) (a0 : Array Value) (hw : ∀ d ∈ tables_1, d.before a0 Z = true) (ws : List Jvm.Cond) (n0 : Nat) (h : Heap) (a : Addr) : Con l Z (⟨"java/util/AbstractMap", "<init>", "()V"⟩ : MethodName) jdk_71_method_1_code 1 (none) r3 ws #[(.ref a)] h (RetV n0 (· = h)) := by
  refine con_of n0 pn3 (fun m => ef3 m a) fun p e s m below meth c C => ?_
  refine g_aloadN C d3_0 rfl rfl (pc' := 1) rfl ?_
  refine g_initO C 0 (hw _ (List.mem_of_getElem? (i := 21) rfl)) (hw _ (List.mem_of_getElem? (i := 7) rfl)) (hw _ (List.mem_of_getElem? (i := 8) rfl)) rfl d3_1 (by decide) (Nat.le_of_eq rfl) (by decide) (pc' := 4) rfl ?_
  exact g_retV C d3_4 rfl (by decide) (by decide)
theorem d2_0 : decode jdk_69_method_7_code 0 = .ok (.aload_n 0, 1) := by decide +kernel
theorem d2_1 : decode jdk_69_method_7_code 1 = .ok (.invokespecial 43, 3) := by decide +kernel
theorem d2_4 : decode jdk_69_method_7_code 4 = .ok (.aload_n 0, 1) := by decide +kernel
theorem d2_5 : decode jdk_69_method_7_code 5 = .ok (.ldc 92, 2) := by decide +kernel
theorem d2_7 : decode jdk_69_method_7_code 7 = .ok (.putfield 81, 3) := by decide +kernel
theorem d2_10 : decode jdk_69_method_7_code 10 = .ok (.return_, 1) := by decide +kernel
def r2 : Room := { frames := 2, cells := 0, slots := 0, locals := 24 }
theorem pd2 : parseMethodDescriptor "()V" = some ⟨[], none⟩ := by decide +kernel
theorem ef2 (m : MethodId) (a : Addr) : entryFrame m #[(.ref a)] 1 = mkF m 0 #[.val (.ref a)] [] := by first | (simp [entryFrame, mkF, argsToLocals, Value.category]; done) | rfl
theorem rm2 (l : Launch) (Z : State) (a0 : Array Value) (hw : ∀ d ∈ tables_1, d.before a0 Z = true) (ws : List Jvm.Cond) (n0 : Nat) (h : Heap) (a : Addr) (ga : n0 ≤ a) (E : Exa Z h a "java/util/HashMap") (F : Fld Z h a "java/util/HashMap" "loadFactor" "F" (.float 0)) : Con l Z (⟨"java/util/HashMap", "<init>", "()V"⟩ : MethodName) jdk_69_method_7_code 1 (none) r2 ws #[(.ref a)] h (RetV n0 (fun h' => Keep h h' [a])) := by
  refine con_of n0 pn2 (fun m => ef2 m a) fun p e s m below meth c C => ?_
  refine g_aloadN C d2_0 rfl rfl (pc' := 1) rfl ?_
  refine g_callIV C 0 rfl (hw _ (List.mem_of_getElem? (i := 15) rfl)) (hw _ (List.mem_of_getElem? (i := 16) rfl)) (hw _ (List.mem_of_getElem? (i := 19) rfl)) (hw _ (List.mem_of_getElem? (i := 20) rfl)) (by decide) (rm3 l Z a0 hw [] n0 h a) (by decide) (by decide) (by decide) (by decide) pd3 rfl rfl (as' := []) (st := []) rfl (Nat.le_of_eq rfl) d2_1 (pc' := 4) rfl ?_
  rintro _ rfl
  refine g_aloadN C d2_4 rfl rfl (pc' := 5) rfl ?_
  refine g_ldcF C (b := 1061158912) (hw _ (List.mem_of_getElem? (i := 22) rfl)) d2_5 (pc' := 7) rfl ?_
  refine g_putF C (hw _ (List.mem_of_getElem? (i := 23) rfl)) F E (Or.inr ⟨(hw _ (List.mem_of_getElem? (i := 24) rfl)), rfl, rfl⟩) (hw _ (List.mem_of_getElem? (i := 10) rfl)) (ty := .float) (by decide) rfl rfl ga d2_7 (pc' := 10) rfl fun h2 W2 => ?_
  exact g_retV C d2_10 (Keep.of_wr W2) (by decide) (by decide)
theorem d1_0 : decode prog_151_method_1_code 0 = .ok (.aload_n 0, 1) := by decide +kernel
theorem d1_1 : decode prog_151_method_1_code 1 = .ok (.invokespecial 1, 3) := by decide +kernel
theorem d1_4 : decode prog_151_method_1_code 4 = .ok (.aload_n 0, 1) := by decide +kernel
theorem d1_5 : decode prog_151_method_1_code 5 = .ok (.new 7, 3) := by decide +kernel
theorem d1_8 : decode prog_151_method_1_code 8 = .ok (.dup, 1) := by decide +kernel
theorem d1_9 : decode prog_151_method_1_code 9 = .ok (.invokespecial 9, 3) := by decide +kernel
theorem d1_12 : decode prog_151_method_1_code 12 = .ok (.putfield 10, 3) := by decide +kernel
theorem d1_15 : decode prog_151_method_1_code 15 = .ok (.aload_n 0, 1) := by decide +kernel
theorem d1_16 : decode prog_151_method_1_code 16 = .ok (.iconst 0, 1) := by decide +kernel
theorem d1_17 : decode prog_151_method_1_code 17 = .ok (.newarray .int, 2) := by decide +kernel
theorem d1_19 : decode prog_151_method_1_code 19 = .ok (.putfield 16, 3) := by decide +kernel
theorem d1_22 : decode prog_151_method_1_code 22 = .ok (.aload_n 0, 1) := by decide +kernel
theorem d1_23 : decode prog_151_method_1_code 23 = .ok (.iconst 0, 1) := by decide +kernel
theorem d1_24 : decode prog_151_method_1_code 24 = .ok (.newarray .int, 2) := by decide +kernel
theorem d1_26 : decode prog_151_method_1_code 26 = .ok (.putfield 20, 3) := by decide +kernel
theorem d1_29 : decode prog_151_method_1_code 29 = .ok (.return_, 1) := by decide +kernel
def r1 : Room := { frames := 3, cells := 3, slots := 8, locals := 38 }
theorem pd1 : parseMethodDescriptor "()V" = some ⟨[], none⟩ := by decide +kernel
theorem ef1 (m : MethodId) (o : Addr) : entryFrame m #[(.ref o)] 1 = mkF m 0 #[.val (.ref o)] [] := by first | (simp [entryFrame, mkF, argsToLocals, Value.category]; done) | rfl
set_option maxRecDepth 65536 in
theorem rm1 (l : Launch) (Z : State) (a0 : Array Value) (hw : ∀ d ∈ tables_1, d.before a0 Z = true) (ws : List Jvm.Cond) (n0 : Nat) (h : Heap) (o : Addr) (g0 : n0 ≤ o) (gs : n0 ≤ h.size) (E : Exa Z h o "com/example/tasks_to_traces/taskstotraces/sensor/Events") (FN : Fld Z h o "com/example/tasks_to_traces/taskstotraces/sensor/Events" "numbers" "Ljava/util/Map;" .null) (FT : Fld Z h o "com/example/tasks_to_traces/taskstotraces/sensor/Events" "ofTasks" "[I" .null) (FC : Fld Z h o "com/example/tasks_to_traces/taskstotraces/sensor/Events" "ofCodes" "[I" .null) : Con l Z (⟨"com/example/tasks_to_traces/taskstotraces/sensor/Events", "<init>", "()V"⟩ : MethodName) prog_151_method_1_code 1 (none) r1 ws #[(.ref o)] h (RetV n0 (fun h' => Ev Z n0 h' o [])) := by
  have hlt := E.lt
  refine con_of n0 pn1 (fun m => ef1 m o) fun p e s m below meth c C => ?_
  refine g_aloadN C d1_0 rfl rfl (pc' := 1) rfl ?_
  refine g_initO C 0 (hw _ (List.mem_of_getElem? (i := 6) rfl)) (hw _ (List.mem_of_getElem? (i := 7) rfl)) (hw _ (List.mem_of_getElem? (i := 8) rfl)) rfl d1_1 (by decide) (Nat.le_of_eq rfl) (by decide) (pc' := 4) rfl ?_
  refine g_aloadN C d1_4 rfl rfl (pc' := 5) rfl ?_
  refine g_newO C (hw _ (List.mem_of_getElem? (i := 9) rfl)) (hw _ (List.mem_of_getElem? (i := 10) rfl)) (hw _ (List.mem_of_getElem? (i := 11) rfl)) d1_5 (by decide) (by decide) (pc' := 8) rfl fun h1 X1 E1 D1 => ?_
  refine g_dup C d1_8 rfl (pc' := 9) rfl ?_
  refine g_callIV C 2 rfl (hw _ (List.mem_of_getElem? (i := 12) rfl)) (hw _ (List.mem_of_getElem? (i := 13) rfl)) (hw _ (List.mem_of_getElem? (i := 11) rfl)) (hw _ (List.mem_of_getElem? (i := 14) rfl)) (by decide) (rm2 l Z a0 hw [] n0 h1 h.size gs E1 (D1 (Or.inr (hw _ (List.mem_of_getElem? (i := 24) rfl))) (ty := .float) (by decide))) (by decide) (by decide) (by decide) (by decide) pd2 rfl rfl (as' := []) (st := [(.ref h.size), (.ref o)]) rfl (Nat.le_of_eq rfl) d1_9 (pc' := 12) rfl fun h2 K2 => ?_
  have no : o ∉ [h.size] := fun z => absurd (List.mem_singleton.mp z) (Nat.ne_of_lt hlt)
  have E2 := (E.ext X1).keep K2
  have FN2 := (FN.ext X1).keep K2 no
  have FT2 := (FT.ext X1).keep K2 no
  have FC2 := (FC.ext X1).keep K2 no
  have gs2 : n0 ≤ h2.size := Nat.le_trans gs (Nat.le_trans X1.1 K2.1)
  refine g_putF C (hw _ (List.mem_of_getElem? (i := 25) rfl)) FN2 E2 (Or.inr ⟨(hw _ (List.mem_of_getElem? (i := 26) rfl)), rfl, rfl⟩) (hw _ (List.mem_of_getElem? (i := 1) rfl)) (ty := .object "java/util/Map") (by decide) rfl rfl g0 d1_12 (pc' := 15) rfl fun h3 W3 => ?_
  refine g_aloadN C d1_15 rfl rfl (pc' := 16) rfl ?_
  refine g_iconst C d1_16 (v := 0) (by decide) (pc' := 17) rfl ?_
  refine g_newIA C (hw _ (List.mem_of_getElem? (i := 27) rfl)) (k := 0) (cap := 0) d1_17 (by decide) (by decide) (by decide) (by decide) (by decide) (pc' := 19) rfl fun h4 X4 I4 => ?_
  have E4 := (E2.wr W3).ext X4
  have FT4 := (FT2.other W3 (Or.inr (slots3 hw))).ext X4
  have FC4 := (FC2.other W3 (Or.inr (slots2 hw))).ext X4
  have gs4 : n0 ≤ h4.size := Nat.le_trans gs2 (Nat.le_trans (Nat.le_of_eq W3.size.symm) X4.1)
  refine g_putF C (hw _ (List.mem_of_getElem? (i := 28) rfl)) FT4 E4 (Or.inl (hw _ (List.mem_of_getElem? (i := 29) rfl))) (hw _ (List.mem_of_getElem? (i := 1) rfl)) (ty := .array .int) (by decide) rfl rfl g0 d1_19 (pc' := 22) rfl fun h5 W5 => ?_
  refine g_aloadN C d1_22 rfl rfl (pc' := 23) rfl ?_
  refine g_iconst C d1_23 (v := 0) (by decide) (pc' := 24) rfl ?_
  refine g_newIA C (hw _ (List.mem_of_getElem? (i := 27) rfl)) (k := 0) (cap := 0) d1_24 (by decide) (by decide) (by decide) (by decide) (by decide) (pc' := 26) rfl fun h6 X6 I6 => ?_
  have E6 := (E4.wr W5).ext X6
  have FC6 := (FC4.other W5 (Or.inr (slots1 hw))).ext X6
  have gs5 : n0 ≤ h5.size := Nat.le_trans gs4 (Nat.le_of_eq W5.size.symm)
  refine g_putF C (hw _ (List.mem_of_getElem? (i := 30) rfl)) FC6 E6 (Or.inl (hw _ (List.mem_of_getElem? (i := 31) rfl))) (hw _ (List.mem_of_getElem? (i := 1) rfl)) (ty := .array .int) (by decide) rfl rfl g0 d1_26 (pc' := 29) rfl fun h7 W7 => ?_
  exact g_retV C d1_29 ⟨h5.size, g0, gs5, E6.wr W7, FC6.same W7, I6.other W7 (IA.ne I6 E6 (hw _ (List.mem_of_getElem? (i := 1) rfl))).symm⟩ (by decide) (by decide)
theorem j118 {p : Program} {l : Launch} {e : Env} {s : State} {m : MethodId} {args : Array Value} {below : List Frame} {meth : Method} {c : Code} {n0 : Nat} {h : Heap} {Z : State} {a0 : Array Value} (hw : ∀ d ∈ tables_1, d.before a0 Z = true) (C : Cx p s m meth c Z "com/example/tasks_to_traces/taskstotraces/sensor/EventsCodePinLaw" "law" code (some .boolean) 13) (x0 x1 x2 x3 x4 x5 : Int32) (o : Addr) (ia ib q A B E : Int32) (nq : Nat) (hq : q.toInt = nq) (tab : List Int32) (ht : tab.length ≤ 126) (EE : Ev Z n0 h o tab) (hE : tab.getD nq (-1) = E) : Go p l e room_1 s m args below meth c n0 (Ret n0 (fun _ => True) 1) h 6 263 (mkF m 118 #[.val (.int x0), .val (.int x1), .val (.int x2), .val (.int x3), .val (.int x4), .val (.int x5), .val (.ref o), .val (.int ia), .val (.int ib), .val (.int q), .val (.int A), .val (.int B), .val (.int E)] []) := by
  refine g_aload C at_118 rfl rfl (pc' := 120) rfl ?_
  refine g_iload C at_120 rfl (pc' := 122) rfl ?_
  refine g_callVI C 0 (hw _ (List.mem_of_getElem? (i := 61) rfl)) (hw _ (List.mem_of_getElem? (i := 62) rfl)) (hw _ (List.mem_of_getElem? (i := 64) rfl)) (hw _ (List.mem_of_getElem? (i := 63) rfl)) (hw _ (List.mem_of_getElem? (i := 2) rfl)) (hw _ (List.mem_of_getElem? (i := 65) rfl)) (by decide) EE.exa (rm9 l Z a0 hw [] n0 h o q nq tab hq ht EE) (by decide) (by decide) (by decide) (by decide) pd9 rfl rfl (as' := [(.int q)]) (st := []) rfl (Nat.le_of_eq rfl) at_122 (pc' := 125) rfl ?_
  rintro _ rfl
  rw [hE]
  refine g_iload C at_125 rfl (pc' := 127) rfl ?_
  refine g_icmp C at_127 (c_ne E E) (by decide) (pc2 := 134) (by decide) (pc' := 130) rfl (fun hP => absurd rfl hP) (fun _ => ?_)
  refine g_iconst C at_130 (v := 1) (by decide) (pc' := 131) rfl ?_
  refine g_goto C at_131 (by decide) (pc' := 135) (by decide) ?_
  exact g_retZ C at_135 (by decide) trivial (by decide) (by decide)
theorem j103 {p : Program} {l : Launch} {e : Env} {s : State} {m : MethodId} {args : Array Value} {below : List Frame} {meth : Method} {c : Code} {n0 : Nat} {h : Heap} {Z : State} {a0 : Array Value} (hw : ∀ d ∈ tables_1, d.before a0 Z = true) (C : Cx p s m meth c Z "com/example/tasks_to_traces/taskstotraces/sensor/EventsCodePinLaw" "law" code (some .boolean) 13) (x0 x1 x2 x3 x4 x5 : Int32) (o : Addr) (ia ib q A B : Int32) (na nb nq : Nat) (hia : ia.toInt = na) (hib : ib.toInt = nb) (hq : q.toInt = nq) (ha : na < 64) (hb : nb < 64) (tab : List Int32) (ht : tab.length ≤ 126) (EE : Ev Z n0 h o tab) (hE : tab.getD nq (-1) = if ¬ A = 0 ∧ nq = na then x1 else -1) : Go p l e room_1 s m args below meth c n0 (Ret n0 (fun _ => True) 1) h 6 263 (mkF m 103 #[.val (.int x0), .val (.int x1), .val (.int x2), .val (.int x3), .val (.int x4), .val (.int x5), .val (.ref o), .val (.int ia), .val (.int ib), .val (.int q), .val (.int A), .val (.int B), .val (.int (-1))] []) := by
  refine g_iload C at_103 rfl (pc' := 105) rfl ?_
  refine g_if C at_105 (c_eq A 0) (by decide) (pc2 := 118) (by decide) (pc' := 108) rfl (fun hP => ?_) (fun hP => ?_)
  · exact j118 hw C x0 x1 x2 x3 x4 x5 o ia ib q A B (-1) nq hq tab ht EE (by rw [hE, if_neg (fun z => z.1 hP)])
  · refine g_iload C at_108 rfl (pc' := 110) rfl ?_
    refine g_iload C at_110 rfl (pc' := 112) rfl ?_
    refine g_icmp C at_112 (c_ne q ia) (by decide) (pc2 := 118) (by decide) (pc' := 115) rfl (fun hQ => ?_) (fun hQ => ?_)
    · rw [own_eq hq hia] at hQ
      exact j118 hw C x0 x1 x2 x3 x4 x5 o ia ib q A B (-1) nq hq tab ht EE (by rw [hE, if_neg (fun z => hQ z.2)])
    · rw [Decidable.not_not, own_eq hq hia] at hQ
      refine g_iloadN C at_115 rfl (pc' := 116) rfl ?_
      refine g_istore C at_116 (Ls' := #[.val (.int x0), .val (.int x1), .val (.int x2), .val (.int x3), .val (.int x4), .val (.int x5), .val (.ref o), .val (.int ia), .val (.int ib), .val (.int q), .val (.int A), .val (.int B), .val (.int x1)]) rfl (pc' := 118) rfl ?_
      exact j118 hw C x0 x1 x2 x3 x4 x5 o ia ib q A B x1 nq hq tab ht EE (by rw [hE, if_pos ⟨hP, hQ⟩])
theorem j82 {p : Program} {l : Launch} {e : Env} {s : State} {m : MethodId} {args : Array Value} {below : List Frame} {meth : Method} {c : Code} {n0 : Nat} {h : Heap} {Z : State} {a0 : Array Value} (hw : ∀ d ∈ tables_1, d.before a0 Z = true) (C : Cx p s m meth c Z "com/example/tasks_to_traces/taskstotraces/sensor/EventsCodePinLaw" "law" code (some .boolean) 13) (x0 x1 x2 x3 x4 x5 : Int32) (o : Addr) (ia ib q A B : Int32) (na nb nq : Nat) (hia : ia.toInt = na) (hib : ib.toInt = nb) (hq : q.toInt = nq) (ha : na < 64) (hb : nb < 64) (tab : List Int32) (ht : tab.length ≤ 126) (EE : Ev Z n0 h o tab) (hE : tab.getD nq (-1) = (if ¬ B = 0 ∧ nq = nb then x3 else if ¬ A = 0 ∧ nq = na then x1 else -1)) : Go p l e room_1 s m args below meth c n0 (Ret n0 (fun _ => True) 1) h 6 263 (mkF m 82 #[.val (.int x0), .val (.int x1), .val (.int x2), .val (.int x3), .val (.int x4), .val (.int x5), .val (.ref o), .val (.int ia), .val (.int ib), .val (.int q), .val (.int A), .val (.int B), .unset] []) := by
  refine g_iconst C at_82 (v := -1) (by decide) (pc' := 83) rfl ?_
  refine g_istore C at_83 (Ls' := #[.val (.int x0), .val (.int x1), .val (.int x2), .val (.int x3), .val (.int x4), .val (.int x5), .val (.ref o), .val (.int ia), .val (.int ib), .val (.int q), .val (.int A), .val (.int B), .val (.int (-1))]) rfl (pc' := 85) rfl ?_
  refine g_iload C at_85 rfl (pc' := 87) rfl ?_
  refine g_if C at_87 (c_eq B 0) (by decide) (pc2 := 103) (by decide) (pc' := 90) rfl (fun hP => ?_) (fun hP => ?_)
  · exact j103 hw C x0 x1 x2 x3 x4 x5 o ia ib q A B na nb nq hia hib hq ha hb tab ht EE (by rw [hE, if_neg (fun z => z.1 hP)])
  · refine g_iload C at_90 rfl (pc' := 92) rfl ?_
    refine g_iload C at_92 rfl (pc' := 94) rfl ?_
    refine g_icmp C at_94 (c_ne q ib) (by decide) (pc2 := 103) (by decide) (pc' := 97) rfl (fun hQ => ?_) (fun hQ => ?_)
    · rw [own_eq hq hib] at hQ
      exact j103 hw C x0 x1 x2 x3 x4 x5 o ia ib q A B na nb nq hia hib hq ha hb tab ht EE (by rw [hE, if_neg (fun z => hQ z.2)])
    · rw [Decidable.not_not, own_eq hq hib] at hQ
      refine g_iloadN C at_97 rfl (pc' := 98) rfl ?_
      refine g_istore C at_98 (Ls' := #[.val (.int x0), .val (.int x1), .val (.int x2), .val (.int x3), .val (.int x4), .val (.int x5), .val (.ref o), .val (.int ia), .val (.int ib), .val (.int q), .val (.int A), .val (.int B), .val (.int x3)]) rfl (pc' := 100) rfl ?_
      refine g_goto C at_100 (by decide) (pc' := 118) (by decide) ?_
      exact j118 hw C x0 x1 x2 x3 x4 x5 o ia ib q A B x3 nq hq tab ht EE (by rw [hE, if_pos ⟨hP, hQ⟩])
theorem j69 {p : Program} {l : Launch} {e : Env} {s : State} {m : MethodId} {args : Array Value} {below : List Frame} {meth : Method} {c : Code} {n0 : Nat} {h : Heap} {Z : State} {a0 : Array Value} (hw : ∀ d ∈ tables_1, d.before a0 Z = true) (C : Cx p s m meth c Z "com/example/tasks_to_traces/taskstotraces/sensor/EventsCodePinLaw" "law" code (some .boolean) 13) (x0 x1 x2 x3 x4 x5 : Int32) (o : Addr) (ia ib q A B : Int32) (na nb nq : Nat) (hia : ia.toInt = na) (hib : ib.toInt = nb) (hq : q.toInt = nq) (ha : na < 64) (hb : nb < 64) (tab : List Int32) (ht : tab.length ≤ 64) (EE : Ev Z n0 h o tab) (hE : tab.getD nq (-1) = if ¬ A = 0 ∧ nq = na then x1 else -1) : Go p l e room_1 s m args below meth c n0 (Ret n0 (fun _ => True) 1) h 5 137 (mkF m 69 #[.val (.int x0), .val (.int x1), .val (.int x2), .val (.int x3), .val (.int x4), .val (.int x5), .val (.ref o), .val (.int ia), .val (.int ib), .val (.int q), .val (.int A), .val (.int B), .unset] []) := by
  refine g_iload C at_69 rfl (pc' := 71) rfl ?_
  refine g_if C at_71 (c_eq B 0) (by decide) (pc2 := 82) (by decide) (pc' := 74) rfl (fun hP => ?_) (fun hP => ?_)
  · exact (j82 hw C x0 x1 x2 x3 x4 x5 o ia ib q A B na nb nq hia hib hq ha hb tab (by omega) EE (by rw [hE, if_neg (c := ¬ B = 0 ∧ nq = nb) (fun z => z.1 hP)])).more (by decide) (by decide)
  · refine g_aload C at_74 rfl rfl (pc' := 76) rfl ?_
    refine g_iload C at_76 rfl (pc' := 78) rfl ?_
    refine g_iloadN C at_78 rfl (pc' := 79) rfl ?_
    refine g_callVV C 0 (hw _ (List.mem_of_getElem? (i := 32) rfl)) (hw _ (List.mem_of_getElem? (i := 33) rfl)) (hw _ (List.mem_of_getElem? (i := 35) rfl)) (hw _ (List.mem_of_getElem? (i := 34) rfl)) (hw _ (List.mem_of_getElem? (i := 2) rfl)) (hw _ (List.mem_of_getElem? (i := 36) rfl)) (by decide) EE.exa (rm4 l Z a0 hw [] n0 h o ib x3 nb tab hib hb ht EE) (by decide) (by decide) (by decide) (by decide) pd4 rfl rfl (as' := [(.int ib), (.int x3)]) (st := []) rfl (Nat.le_of_eq rfl) at_79 (pc' := 82) rfl fun h1 EE1 => ?_
    exact j82 hw C x0 x1 x2 x3 x4 x5 o ia ib q A B na nb nq hia hib hq ha hb _ (put_len tab nb x3 hb ht) EE1 (by
      rw [put_get, hE]
      by_cases hz : nq = nb
      · rw [if_pos hz, if_pos ⟨hP, hz⟩]
      · rw [if_neg hz, if_neg (c := ¬ B = 0 ∧ nq = nb) (fun z => hz z.2)])
theorem j56 {p : Program} {l : Launch} {e : Env} {s : State} {m : MethodId} {args : Array Value} {below : List Frame} {meth : Method} {c : Code} {n0 : Nat} {h : Heap} {Z : State} {a0 : Array Value} (hw : ∀ d ∈ tables_1, d.before a0 Z = true) (C : Cx p s m meth c Z "com/example/tasks_to_traces/taskstotraces/sensor/EventsCodePinLaw" "law" code (some .boolean) 13) (x0 x1 x2 x3 x4 x5 : Int32) (o : Addr) (ia ib q A B : Int32) (na nb nq : Nat) (hia : ia.toInt = na) (hib : ib.toInt = nb) (hq : q.toInt = nq) (ha : na < 64) (hb : nb < 64) (EE : Ev Z n0 h o []) : Go p l e room_1 s m args below meth c n0 (Ret n0 (fun _ => True) 1) h 4 11 (mkF m 56 #[.val (.int x0), .val (.int x1), .val (.int x2), .val (.int x3), .val (.int x4), .val (.int x5), .val (.ref o), .val (.int ia), .val (.int ib), .val (.int q), .val (.int A), .val (.int B), .unset] []) := by
  refine g_iload C at_56 rfl (pc' := 58) rfl ?_
  refine g_if C at_58 (c_eq A 0) (by decide) (pc2 := 69) (by decide) (pc' := 61) rfl (fun hP => ?_) (fun hP => ?_)
  · exact (j69 hw C x0 x1 x2 x3 x4 x5 o ia ib q A B na nb nq hia hib hq ha hb [] (by decide) EE (by rw [if_neg (fun z => z.1 hP)]; rfl)).more (by decide) (by decide)
  · refine g_aload C at_61 rfl rfl (pc' := 63) rfl ?_
    refine g_iload C at_63 rfl (pc' := 65) rfl ?_
    refine g_iloadN C at_65 rfl (pc' := 66) rfl ?_
    refine g_callVV C 0 (hw _ (List.mem_of_getElem? (i := 32) rfl)) (hw _ (List.mem_of_getElem? (i := 33) rfl)) (hw _ (List.mem_of_getElem? (i := 35) rfl)) (hw _ (List.mem_of_getElem? (i := 34) rfl)) (hw _ (List.mem_of_getElem? (i := 2) rfl)) (hw _ (List.mem_of_getElem? (i := 36) rfl)) (by decide) EE.exa (rm4 l Z a0 hw [] n0 h o ia x1 na [] hia ha (by decide) EE) (by decide) (by decide) (by decide) (by decide) pd4 rfl rfl (as' := [(.int ia), (.int x1)]) (st := []) rfl (Nat.le_of_eq rfl) at_66 (pc' := 69) rfl fun h1 EE1 => ?_
    exact j69 hw C x0 x1 x2 x3 x4 x5 o ia ib q A B na nb nq hia hib hq ha hb _ (put_len0 na x1 ha) EE1 (by
      rw [put_get]
      by_cases hz : nq = na
      · rw [if_pos hz, if_pos ⟨hP, hz⟩]
      · rw [if_neg hz, if_neg (c := ¬ A = 0 ∧ nq = na) (fun z => hz z.2)]; rfl)
theorem j54 {p : Program} {l : Launch} {e : Env} {s : State} {m : MethodId} {args : Array Value} {below : List Frame} {meth : Method} {c : Code} {n0 : Nat} {h : Heap} {Z : State} {a0 : Array Value} (hw : ∀ d ∈ tables_1, d.before a0 Z = true) (C : Cx p s m meth c Z "com/example/tasks_to_traces/taskstotraces/sensor/EventsCodePinLaw" "law" code (some .boolean) 13) (x0 x1 x2 x3 x4 x5 : Int32) (o : Addr) (ia ib q A B : Int32) (na nb nq : Nat) (hia : ia.toInt = na) (hib : ib.toInt = nb) (hq : q.toInt = nq) (ha : na < 64) (hb : nb < 64) (EE : Ev Z n0 h o []) : Go p l e room_1 s m args below meth c n0 (Ret n0 (fun _ => True) 1) h 4 11 (mkF m 54 #[.val (.int x0), .val (.int x1), .val (.int x2), .val (.int x3), .val (.int x4), .val (.int x5), .val (.ref o), .val (.int ia), .val (.int ib), .val (.int q), .val (.int A), .unset, .unset] [(.int B)]) := by
  refine g_istore C at_54 (Ls' := #[.val (.int x0), .val (.int x1), .val (.int x2), .val (.int x3), .val (.int x4), .val (.int x5), .val (.ref o), .val (.int ia), .val (.int ib), .val (.int q), .val (.int A), .val (.int B), .unset]) rfl (pc' := 56) rfl ?_
  exact j56 hw C x0 x1 x2 x3 x4 x5 o ia ib q A B na nb nq hia hib hq ha hb EE
theorem j40 {p : Program} {l : Launch} {e : Env} {s : State} {m : MethodId} {args : Array Value} {below : List Frame} {meth : Method} {c : Code} {n0 : Nat} {h : Heap} {Z : State} {a0 : Array Value} (hw : ∀ d ∈ tables_1, d.before a0 Z = true) (C : Cx p s m meth c Z "com/example/tasks_to_traces/taskstotraces/sensor/EventsCodePinLaw" "law" code (some .boolean) 13) (x0 x1 x2 x3 x4 x5 : Int32) (o : Addr) (ia ib q A : Int32) (na nb nq : Nat) (hia : ia.toInt = na) (hib : ib.toInt = nb) (hq : q.toInt = nq) (ha : na < 64) (hb : nb < 64) (EE : Ev Z n0 h o []) : Go p l e room_1 s m args below meth c n0 (Ret n0 (fun _ => True) 1) h 4 11 (mkF m 40 #[.val (.int x0), .val (.int x1), .val (.int x2), .val (.int x3), .val (.int x4), .val (.int x5), .val (.ref o), .val (.int ia), .val (.int ib), .val (.int q), .unset, .unset, .unset] [(.int A)]) := by
  refine g_istore C at_40 (Ls' := #[.val (.int x0), .val (.int x1), .val (.int x2), .val (.int x3), .val (.int x4), .val (.int x5), .val (.ref o), .val (.int ia), .val (.int ib), .val (.int q), .val (.int A), .unset, .unset]) rfl (pc' := 42) rfl ?_
  refine g_iload C at_42 rfl (pc' := 44) rfl ?_
  refine g_iconst C at_44 (v := 2) (by decide) (pc' := 45) rfl ?_
  refine g_iand C at_45 (pc' := 46) rfl ?_
  refine g_if C at_46 (c_eq _ 0) (by decide) (pc2 := 53) (by decide) (pc' := 49) rfl (fun hP => ?_) (fun hP => ?_)
  · refine g_iconst C at_53 (v := 0) (by decide) (pc' := 54) rfl ?_
    exact j54 hw C x0 x1 x2 x3 x4 x5 o ia ib q A 0 na nb nq hia hib hq ha hb EE
  · refine g_iconst C at_49 (v := 1) (by decide) (pc' := 50) rfl ?_
    refine g_goto C at_50 (by decide) (pc' := 54) (by decide) ?_
    exact j54 hw C x0 x1 x2 x3 x4 x5 o ia ib q A 1 na nb nq hia hib hq ha hb EE
theorem own_nat (x : Int32) {mk : Int32} {k : Nat} (hk : k < 31) (hm : mk.toBitVec.toNat = 2 ^ k - 1) : ∃ n : Nat, (x &&& mk).toInt = n ∧ n < 2 ^ k := by
  have e := Jvm.Kit.i32_mask x mk (k := k) (by omega) hm
  have p1 : (0 : Int) < 2 ^ k := Int.pow_pos (by decide)
  have e1 := Int.emod_nonneg x.toInt (b := 2 ^ k) (by omega)
  have e2 := Int.emod_lt_of_pos x.toInt p1
  refine ⟨(x &&& mk).toInt.toNat, by omega, ?_⟩
  have e3 : ((2 ^ k : Nat) : Int) = (2 : Int) ^ k := by simp
  omega
theorem pn0 : plainName "com/example/tasks_to_traces/taskstotraces/sensor/EventsCodePinLaw" = true := by first | (simp [plainName, overriddenIn]; done) | decide +kernel
theorem ef0 (m : MethodId) (x0 x1 x2 x3 x4 x5 : Int32) : entryFrame m #[(.int x0), (.int x1), (.int x2), (.int x3), (.int x4), (.int x5)] maxLocals = mkF m 0 #[.val (.int x0), .val (.int x1), .val (.int x2), .val (.int x3), .val (.int x4), .val (.int x5), .unset, .unset, .unset, .unset, .unset, .unset, .unset] [] := by first | (simp [entryFrame, mkF, argsToLocals, Value.category, maxLocals]; done) | rfl
set_option maxRecDepth 65536 in
theorem j0_A {p : Program} {l : Launch} {e : Env} {s : State} {m : MethodId} {args : Array Value} {below : List Frame} {meth : Method} {c : Code} {n0 : Nat} {h : Heap} {Z : State} {a0 : Array Value} (hw : ∀ d ∈ tables_1, d.before a0 Z = true) (hn0 : n0 ≤ h.size) (C : Cx p s m meth c Z "com/example/tasks_to_traces/taskstotraces/sensor/EventsCodePinLaw" "law" code (some .boolean) 13) (x0 x1 x2 x3 x4 x5 : Int32) : Go p l e room_1 s m args below meth c n0 (Ret n0 (fun _ => True) 1) h 0 0 (mkF m 0 #[.val (.int x0), .val (.int x1), .val (.int x2), .val (.int x3), .val (.int x4), .val (.int x5), .unset, .unset, .unset, .unset, .unset, .unset, .unset] []) := by
  obtain ⟨na, hia, ha⟩ := own_nat x0 (mk := 63) (k := 6) (by decide) (by decide)
  obtain ⟨nb, hib, hb⟩ := own_nat x2 (mk := 63) (k := 6) (by decide) (by decide)
  obtain ⟨nq, hq, -⟩ := own_nat x4 (mk := 127) (k := 7) (by decide) (by decide)
  refine g_newO C (hw _ (List.mem_of_getElem? (i := 0) rfl)) (hw _ (List.mem_of_getElem? (i := 1) rfl)) (hw _ (List.mem_of_getElem? (i := 2) rfl)) at_0 (by decide) (by decide) (pc' := 3) rfl fun h1 X1 E1 D1 => ?_
  refine g_dup C at_3 rfl (pc' := 4) rfl ?_
  refine g_callIV C 1 rfl (hw _ (List.mem_of_getElem? (i := 3) rfl)) (hw _ (List.mem_of_getElem? (i := 4) rfl)) (hw _ (List.mem_of_getElem? (i := 2) rfl)) (hw _ (List.mem_of_getElem? (i := 5) rfl)) (by decide) (rm1 l Z a0 hw [] n0 h1 h.size hn0 (Nat.le_trans hn0 X1.1) E1 (D1 (Or.inr (hw _ (List.mem_of_getElem? (i := 26) rfl))) (ty := .object "java/util/Map") (by decide)) (D1 (Or.inl (hw _ (List.mem_of_getElem? (i := 29) rfl))) (ty := .array .int) (by decide)) (D1 (Or.inl (hw _ (List.mem_of_getElem? (i := 31) rfl))) (ty := .array .int) (by decide))) (by decide) (by decide) (by decide) (by decide) pd1 rfl rfl (as' := []) (st := [(.ref h.size)]) rfl (Nat.le_of_eq rfl) at_4 (pc' := 7) rfl fun h2 EE => ?_
  refine g_astore C at_7 rfl (Ls' := #[.val (.int x0), .val (.int x1), .val (.int x2), .val (.int x3), .val (.int x4), .val (.int x5), .val (.ref h.size), .unset, .unset, .unset, .unset, .unset, .unset]) rfl (pc' := 9) rfl ?_
  refine g_iloadN C at_9 rfl (pc' := 10) rfl ?_
  refine g_bipush C at_10 (v := (63 : Int32)) (by decide) (pc' := 12) rfl ?_
  refine g_iand C at_12 (pc' := 13) rfl ?_
  refine g_istore C at_13 (Ls' := #[.val (.int x0), .val (.int x1), .val (.int x2), .val (.int x3), .val (.int x4), .val (.int x5), .val (.ref h.size), .val (.int (x0 &&& (63 : Int32))), .unset, .unset, .unset, .unset, .unset]) rfl (pc' := 15) rfl ?_
  refine g_iloadN C at_15 rfl (pc' := 16) rfl ?_
  refine g_bipush C at_16 (v := (63 : Int32)) (by decide) (pc' := 18) rfl ?_
  refine g_iand C at_18 (pc' := 19) rfl ?_
  refine g_istore C at_19 (Ls' := #[.val (.int x0), .val (.int x1), .val (.int x2), .val (.int x3), .val (.int x4), .val (.int x5), .val (.ref h.size), .val (.int (x0 &&& (63 : Int32))), .val (.int (x2 &&& (63 : Int32))), .unset, .unset, .unset, .unset]) rfl (pc' := 21) rfl ?_
  refine g_iload C at_21 rfl (pc' := 23) rfl ?_
  refine g_bipush C at_23 (v := (127 : Int32)) (by decide) (pc' := 25) rfl ?_
  refine g_iand C at_25 (pc' := 26) rfl ?_
  refine g_istore C at_26 (Ls' := #[.val (.int x0), .val (.int x1), .val (.int x2), .val (.int x3), .val (.int x4), .val (.int x5), .val (.ref h.size), .val (.int (x0 &&& (63 : Int32))), .val (.int (x2 &&& (63 : Int32))), .val (.int (x4 &&& (127 : Int32))), .unset, .unset, .unset]) rfl (pc' := 28) rfl ?_
  refine g_iload C at_28 rfl (pc' := 30) rfl ?_
  refine g_iconst C at_30 (v := 1) (by decide) (pc' := 31) rfl ?_
  refine g_iand C at_31 (pc' := 32) rfl ?_
  refine g_if C at_32 (c_eq _ 0) (by decide) (pc2 := 39) (by decide) (pc' := 35) rfl (fun hP => ?_) (fun hP => ?_)
  · refine g_iconst C at_39 (v := 0) (by decide) (pc' := 40) rfl ?_
    exact j40 hw C x0 x1 x2 x3 x4 x5 h.size _ _ _ 0 na nb nq hia hib hq ha hb EE
  · refine g_iconst C at_35 (v := 1) (by decide) (pc' := 36) rfl ?_
    refine g_goto C at_36 (by decide) (pc' := 40) (by decide) ?_
    exact j40 hw C x0 x1 x2 x3 x4 x5 h.size _ _ _ 1 na nb nq hia hib hq ha hb EE
theorem rm_law (l : Launch) (Z : State) (a0 : Array Value) (hw : ∀ d ∈ tables_1, d.before a0 Z = true) (ws : List Jvm.Cond) (h : Heap) (n0 : Nat) (hn0 : n0 ≤ h.size) (x0 x1 x2 x3 x4 x5 : Int32) : Con l Z x code maxLocals ret room_1 ws #[(.int x0), (.int x1), (.int x2), (.int x3), (.int x4), (.int x5)] h (Ret n0 (fun _ => True) 1) :=
  con_of n0 pn0 (fun m => ef0 m x0 x1 x2 x3 x4 x5) fun p e s m below meth c C => j0_A hw hn0 C x0 x1 x2 x3 x4 x5
set_option maxRecDepth 65536 in
set_option maxHeartbeats 4000000 in
theorem comes_1 {Post : Tables → Env → Array Value → State → Outcome → State → Prop} (hpost : ∀ tb e args s v u, (limb_1_1.after args s (.returned v) u = true ∧ limb_1_2.after args s (.returned v) u = true ∧ True) → FrameEnd s (.returned v) u (Jvm.fieldLocs frame_1_writes args s ++ Jvm.arrayLocs frame_1_arrays args s ++ Jvm.staticLocs frame_1_statics s) 24 448 → Post tb e args s (.returned v) u) :
    ArmFor flags0 classFile x code maxLocals ret World_1 tables_1 room_1 Calls_1 rest_1 Pre_1 Post := by
  intro l hfl _ _ p e ha hc hk s m args below hf hA hF happ hP
  obtain ⟨hcalls, hrest, hpre⟩ := hP
  obtain ⟨-, -, -, hnamed, -, -, -, hat⟩ := (Spec.applies_iff hf).mp happ
  obtain ⟨hg, hn⟩ := and_e (Cond.before_iff.mp (show (Jvm.Cond.and given_1 narrow_1).before args s = true from hpre))
  obtain ⟨hcount, g0⟩ := and_e hg
  obtain ⟨k0, g1⟩ := and_e g0
  obtain ⟨k1, g2⟩ := and_e g1
  obtain ⟨k2, g3⟩ := and_e g2
  obtain ⟨k3, g4⟩ := and_e g3
  obtain ⟨k4, g5⟩ := and_e g4
  obtain ⟨w0, w1, w2, w3, w4, w5, rfl⟩ : ∃ w0 w1 w2 w3 w4 w5 : Value, args = #[w0, w1, w2, w3, w4, w5] := by
    have hs : args.size = 6 := by simpa [Cond.value, given_1] using hcount
    obtain ⟨L⟩ := args
    match L, hs with
    | [w0, w1, w2, w3, w4, w5], _ => exact ⟨w0, w1, w2, w3, w4, w5, rfl⟩
  have hw := fun d (hd : d ∈ tables_1) => atoms_spec (ws := Jvm.Cond.code x code maxLocals ret :: tables_1) hat d (List.mem_cons_of_mem _ hd)
  obtain ⟨i0, e0⟩ := is_v k0
  obtain rfl : w0 = (.int i0) := Option.some.inj e0
  obtain ⟨i1, e1⟩ := is_v k1
  obtain rfl : w1 = (.int i1) := Option.some.inj e1
  obtain ⟨i2, e2⟩ := is_v k2
  obtain rfl : w2 = (.int i2) := Option.some.inj e2
  obtain ⟨i3, e3⟩ := is_v k3
  obtain rfl : w3 = (.int i3) := Option.some.inj e3
  obtain ⟨i4, e4⟩ := is_v k4
  obtain rfl : w4 = (.int i4) := Option.some.inj e4
  obtain ⟨i5, e5⟩ := is_v g5
  obtain rfl : w5 = (.int i5) := Option.some.inj e5
  obtain ⟨n, o, h1, h2, h3, _, L, rfl, ⟨rfl, N, -⟩, hq⟩ := rm_law l s _ hw tables_1 s.heap s.heap.size (Nat.le_refl _) i0 i1 i2 i3 i4 i5 p e ha hc hk s m _ below hf ((Spec.applies_iff_loose hf).mp happ).1 ⟨rfl, State.Warmed39.refl s, rfl⟩ trivial
  refine ⟨n, _, h1, h2, h3, hpost _ _ _ _ _ _ ⟨Cond.after_iff.mpr rfl, Cond.after_iff.mpr (eq_i res_at (Term.int_eval (1)) rfl), trivial⟩ ⟨hq.1, hq.2.1, (hq.2.2.sift fun y hy => Or.inr (N y hy)).mono (by decide) (by decide)⟩⟩
theorem main_1_1 : Claimed_1_1 := comes_1 fun _ _ _ _ _ _ h hF => ⟨h.1, hF⟩
theorem main_1_2 : Claimed_1_2 := comes_1 fun _ _ _ _ _ _ h hF => ⟨h.2.1, hF⟩
end Jvm.Pilot.@@N@@
namespace Jvm.Pilot.@@N@@
open Jvm Jvm.ClassFile Sem Op Lib Jvm.Free Jvm.Stand Jvm.Pilot.@@N@@.Jvm.D
/-! MADE BY PROGRAM (witnessworld.py) out of the Statement's table words and the real class files: 15 classes; the members and pool entries that the words name. The judged class is class 1, her method 1. -/
namespace start1
open Jvm.ClassFile
def u (s : String) : CpInfo := .utf8 (stringToUtf16 s)
/-- a pool by its gaps: so many unusable entries, then the entry; so many at the end -/
def gap : Nat → List CpInfo → List CpInfo
  | 0, r => r
  | n + 1, r => .unusable :: gap n r
def poolList (es : List (Nat × CpInfo)) (last : Nat) : List CpInfo := es.foldr (fun e r => gap e.1 (e.2 :: r)) (gap last [])
def pool (es : List (Nat × CpInfo)) (last : Nat) : Array CpInfo := ⟨poolList es last⟩
def fileOf (pool : Array CpInfo) (this : Nat) (attrs : Array Attribute := #[]) (ms : Array MethodInfo := #[]) (fl : Nat := 33) (sup : Nat := 0) (ifs : Array Nat := #[]) (fds : Array FieldInfo := #[]) : ClassFile where
  minorVersion := 0
  majorVersion := 65
  constantPool := pool
  accessFlags := fl
  thisClass := this
  superClass := sup
  interfaces := ifs
  fields := fds
  methods := ms
  attributes := attrs
def plain (name : String) (sup : Option ClassId) : Class where
  name := name
  kind := .ordinary
  loader := none
  accessFlags := 33
  super := sup
  interfaces := #[]
  cf := none
  fields := #[]
  methods := #[]
  instanceTypes := #[]
  staticTypes := #[]
  resolved := #[]
  callSites := []
  init := .initialized
  statics := none
  mirror := none

def pool0 : Array CpInfo := pool [(5, u "<init>"), (0, u "()V"), (1, .class_ 10), (1, u "java/lang/Object")] 113

def k0c0 : Code := { maxStack := 0, maxLocals := 1, code := object_method_1_code, exceptionTable := #[], attributes := #[] }
def k0m0 : Method := { name := "<init>", desc := "()V", sig := { parameters := [], returnType := none }, accessFlags := 1, code := some k0c0 }
/-- java/lang/Object -/
def k0 : Class := { plain "java/lang/Object" none with
  accessFlags := 33
  interfaces := #[]
  cf := some (fileOf pool0 8 #[] #[{ accessFlags := 1, nameIndex := 5, descriptorIndex := 6, attributes := #[] }] 33 0 #[] #[])
  fields := #[]
  methods := #[k0m0]
  instanceTypes := #[]
  staticTypes := #[]
  resolved := Array.replicate 124 none
  statics := none }

def pool1 : Array CpInfo := pool [(2, .class_ 4), (0, .nameAndType 5 6), (0, u "java/lang/Object"), (0, u "<init>"), (0, u "()V"), (0, .class_ 8), (0, u "com/example/tasks_to_traces/taskstotraces/sensor/Events"), (0, .methodref 7 3), (0, .methodref 7 11), (0, .nameAndType 12 13), (0, u "setCode"), (0, u "(II)V"), (0, .methodref 7 15), (0, .nameAndType 16 17), (0, u "code"), (0, u "(I)I"), (0, .class_ 19), (0, u "com/example/tasks_to_traces/taskstotraces/sensor/EventsCodePinLaw"), (2, u "law"), (0, u "(IIIIII)Z")] 3

def k1m0 : Method := { name := "<init>", desc := "()V", sig := { parameters := [], returnType := none }, accessFlags := 1, code := none }
def k1c1 : Code := { maxStack := 3, maxLocals := 13, code := code, exceptionTable := #[], attributes := #[] }
def k1m1 : Method := { name := "law", desc := "(IIIIII)Z", sig := { parameters := [.int, .int, .int, .int, .int, .int], returnType := some .boolean }, accessFlags := 9, code := some k1c1 }
/-- com/example/tasks_to_traces/taskstotraces/sensor/EventsCodePinLaw -/
def k1 : Class := { plain "com/example/tasks_to_traces/taskstotraces/sensor/EventsCodePinLaw" (some 0) with
  accessFlags := 49
  interfaces := #[]
  cf := some (fileOf pool1 18 #[] #[{ accessFlags := 1, nameIndex := 5, descriptorIndex := 6, attributes := #[] }, { accessFlags := 9, nameIndex := 22, descriptorIndex := 23, attributes := #[] }] 49 2 #[] #[])
  fields := #[]
  methods := #[k1m0, k1m1]
  instanceTypes := #[]
  staticTypes := #[]
  resolved := Array.replicate 27 none
  statics := none }

def pool2 : Array CpInfo := pool [(1, .methodref 2 3), (0, .class_ 4), (0, .nameAndType 5 6), (0, u "java/lang/Object"), (0, u "<init>"), (0, u "()V"), (0, .class_ 8), (0, u "java/util/HashMap"), (0, .methodref 7 3), (0, .fieldref 11 12), (0, .class_ 13), (0, .nameAndType 14 15), (0, u "com/example/tasks_to_traces/taskstotraces/sensor/Events"), (0, u "numbers"), (0, u "Ljava/util/Map;"), (0, .fieldref 11 17), (0, .nameAndType 18 19), (0, u "ofTasks"), (0, u "[I"), (0, .fieldref 11 21), (0, .nameAndType 22 19), (0, u "ofCodes"), (26, .methodref 11 50), (0, .nameAndType 51 52), (0, u "set"), (0, u "([III)[I"), (0, .methodref 54 55), (0, .class_ 56), (0, .nameAndType 57 58), (0, u "java/lang/Math"), (0, u "max"), (0, u "(II)I"), (0, .methodref 60 61), (0, .class_ 62), (0, .nameAndType 63 64), (0, u "java/util/Arrays"), (0, u "copyOf"), (0, u "([II)[I"), (0, .methodref 60 66), (0, .nameAndType 67 68), (0, u "fill"), (0, u "([IIII)V"), (0, u "NONE"), (0, u "I"), (12, u "(II)V"), (0, u "setCode"), (1, u "(I)I"), (0, u "code")] 3

def k2c0 : Code := { maxStack := 3, maxLocals := 1, code := prog_151_method_1_code, exceptionTable := #[], attributes := #[] }
def k2m0 : Method := { name := "<init>", desc := "()V", sig := { parameters := [], returnType := none }, accessFlags := 0, code := some k2c0 }
def k2c1 : Code := { maxStack := 4, maxLocals := 3, code := prog_151_method_6_code, exceptionTable := #[], attributes := #[] }
def k2m1 : Method := { name := "setCode", desc := "(II)V", sig := { parameters := [.int, .int], returnType := none }, accessFlags := 0, code := some k2c1 }
def k2c2 : Code := { maxStack := 2, maxLocals := 2, code := prog_151_method_8_code, exceptionTable := #[], attributes := #[] }
def k2m2 : Method := { name := "code", desc := "(I)I", sig := { parameters := [.int], returnType := some .int }, accessFlags := 0, code := some k2c2 }
def k2c3 : Code := { maxStack := 4, maxLocals := 4, code := prog_151_method_9_code, exceptionTable := #[], attributes := #[] }
def k2m3 : Method := { name := "set", desc := "([III)[I", sig := { parameters := [(.array .int), .int, .int], returnType := some (.array .int) }, accessFlags := 10, code := some k2c3 }
/-- com/example/tasks_to_traces/taskstotraces/sensor/Events -/
def k2 : Class := { plain "com/example/tasks_to_traces/taskstotraces/sensor/Events" (some 0) with
  accessFlags := 48
  interfaces := #[]
  cf := some (fileOf pool2 11 #[] #[{ accessFlags := 0, nameIndex := 5, descriptorIndex := 6, attributes := #[] }, { accessFlags := 0, nameIndex := 84, descriptorIndex := 83, attributes := #[] }, { accessFlags := 0, nameIndex := 87, descriptorIndex := 86, attributes := #[] }, { accessFlags := 10, nameIndex := 51, descriptorIndex := 52, attributes := #[] }] 48 2 #[] #[{ accessFlags := 26, nameIndex := 69, descriptorIndex := 70, attributes := #[] }, { accessFlags := 18, nameIndex := 14, descriptorIndex := 15, attributes := #[] }, { accessFlags := 2, nameIndex := 18, descriptorIndex := 19, attributes := #[] }, { accessFlags := 2, nameIndex := 22, descriptorIndex := 19, attributes := #[] }])
  fields := #[{ name := "NONE", type := .int, accessFlags := 26, slot := 0, constantValue := 0 }, { name := "numbers", type := (.object "java/util/Map"), accessFlags := 18, slot := 0, constantValue := 0 }, { name := "ofTasks", type := (.array .int), accessFlags := 2, slot := 1, constantValue := 0 }, { name := "ofCodes", type := (.array .int), accessFlags := 2, slot := 2, constantValue := 0 }]
  methods := #[k2m0, k2m1, k2m2, k2m3]
  instanceTypes := #[(.object "java/util/Map"), (.array .int), (.array .int)]
  staticTypes := #[.int]
  resolved := Array.replicate 91 none
  statics := none }

def pool3 : Array CpInfo := pool [(2, .class_ 4), (1, u "java/util/Map"), (31, .class_ 37), (0, u "java/util/Map$Entry"), (55, .class_ 94), (0, u "java/lang/Object")] 168

/-- java/util/Map -/
def k3 : Class := { plain "java/util/Map" (some 0) with
  accessFlags := 1537
  interfaces := #[]
  cf := some (fileOf pool3 2 #[.nestMembers #[36]] #[] 1537 93 #[] #[])
  fields := #[]
  methods := #[]
  instanceTypes := #[]
  staticTypes := #[]
  resolved := Array.replicate 263 none
  statics := none }

def pool4 : Array CpInfo := pool [(1, .methodref 2 3), (0, .class_ 4), (0, .nameAndType 5 6), (0, u "java/lang/Object"), (0, u "<init>"), (0, u "()V"), (1, .class_ 10), (1, u "java/util/AbstractMap"), (42, .class_ 54), (0, u "java/util/Map"), (9, u "keySet"), (0, u "Ljava/util/Set;"), (0, .class_ 67), (0, u "java/util/AbstractMap$1"), (5, u "values"), (0, u "Ljava/util/Collection;"), (0, .class_ 76), (0, u "java/util/AbstractMap$2"), (104, .class_ 182), (0, u "java/util/AbstractMap$ViewCollection"), (0, .class_ 184), (0, u "java/util/AbstractMap$SimpleImmutableEntry"), (0, .class_ 186), (0, u "java/util/AbstractMap$SimpleEntry"), (0, .class_ 188), (0, u "java/util/AbstractMap$2$1"), (0, .class_ 190), (0, u "java/util/AbstractMap$1$1")] 5

def k4c0 : Code := { maxStack := 1, maxLocals := 1, code := jdk_71_method_1_code, exceptionTable := #[], attributes := #[] }
def k4m0 : Method := { name := "<init>", desc := "()V", sig := { parameters := [], returnType := none }, accessFlags := 4, code := some k4c0 }
/-- java/util/AbstractMap -/
def k4 : Class := { plain "java/util/AbstractMap" (some 0) with
  accessFlags := 1057
  interfaces := #[3]
  cf := some (fileOf pool4 8 #[.nestMembers #[181, 183, 185, 75, 187, 66, 189]] #[{ accessFlags := 4, nameIndex := 5, descriptorIndex := 6, attributes := #[] }] 1057 2 #[53] #[{ accessFlags := 128, nameIndex := 64, descriptorIndex := 65, attributes := #[] }, { accessFlags := 128, nameIndex := 73, descriptorIndex := 74, attributes := #[] }])
  fields := #[{ name := "keySet", type := (.object "java/util/Set"), accessFlags := 128, slot := 0, constantValue := 0 }, { name := "values", type := (.object "java/util/Collection"), accessFlags := 128, slot := 1, constantValue := 0 }]
  methods := #[k4m0]
  instanceTypes := #[(.object "java/util/Set"), (.object "java/util/Collection")]
  staticTypes := #[]
  resolved := Array.replicate 196 none
  statics := none }

def pool5 : Array CpInfo := pool [(1, .class_ 2), (0, u "java/lang/Cloneable"), (0, .class_ 4), (0, u "java/lang/Object")] 2

/-- java/lang/Cloneable -/
def k5 : Class := { plain "java/lang/Cloneable" (some 0) with
  accessFlags := 1537
  interfaces := #[]
  cf := some (fileOf pool5 1 #[] #[] 1537 3 #[] #[])
  fields := #[]
  methods := #[]
  instanceTypes := #[]
  staticTypes := #[]
  resolved := Array.replicate 7 none
  statics := none }

def pool6 : Array CpInfo := pool [(1, .class_ 2), (0, u "java/io/Serializable"), (0, .class_ 4), (0, u "java/lang/Object")] 2

/-- java/io/Serializable -/
def k6 : Class := { plain "java/io/Serializable" (some 0) with
  accessFlags := 1537
  interfaces := #[]
  cf := some (fileOf pool6 1 #[] #[] 1537 3 #[] #[])
  fields := #[]
  methods := #[]
  instanceTypes := #[]
  staticTypes := #[]
  resolved := Array.replicate 7 none
  statics := none }

def pool7 : Array CpInfo := pool [(40, .class_ 41), (0, u "java/util/HashMap"), (1, .methodref 44 45), (0, .class_ 46), (0, .nameAndType 47 48), (0, u "java/util/AbstractMap"), (0, u "<init>"), (0, u "()V"), (32, .fieldref 40 82), (0, .nameAndType 83 84), (0, u "loadFactor"), (0, u "F"), (5, u "threshold"), (0, u "I"), (0, .float 1061158912), (8, .class_ 103), (1, u "java/util/Map"), (0, u "size"), (2, u "table"), (0, u "[Ljava/util/HashMap$Node;"), (14, u "entrySet"), (39, .class_ 165), (1, u "java/util/HashMap$Node"), (14, .class_ 181), (0, u "java/util/HashMap$TreeNode"), (22, u "modCount"), (37, u "Ljava/util/Set;"), (0, .class_ 244), (0, u "java/util/HashMap$KeySet"), (18, .class_ 264), (0, u "java/util/HashMap$Values"), (3, .class_ 269), (0, u "java/util/HashMap$EntrySet"), (76, .class_ 348), (1, u "java/util/HashMap$UnsafeHolder"), (43, .class_ 393), (0, u "java/lang/Cloneable"), (0, .class_ 395), (0, u "java/io/Serializable"), (0, u "serialVersionUID"), (0, u "J"), (3, u "DEFAULT_INITIAL_CAPACITY"), (1, u "MAXIMUM_CAPACITY"), (0, u "DEFAULT_LOAD_FACTOR"), (0, u "TREEIFY_THRESHOLD"), (1, u "UNTREEIFY_THRESHOLD"), (1, u "MIN_TREEIFY_CAPACITY"), (186, .class_ 597), (0, u "java/util/HashMap$EntrySpliterator"), (0, .class_ 599), (0, u "java/util/HashMap$ValueSpliterator"), (0, .class_ 601), (0, u "java/util/HashMap$KeySpliterator"), (0, .class_ 603), (0, u "java/util/HashMap$HashMapSpliterator"), (0, .class_ 605), (0, u "java/util/HashMap$EntryIterator"), (0, .class_ 607), (0, u "java/util/HashMap$ValueIterator"), (0, .class_ 609), (0, u "java/util/HashMap$KeyIterator"), (0, .class_ 611), (0, u "java/util/HashMap$HashIterator")] 17

def k7c0 : Code := { maxStack := 2, maxLocals := 1, code := jdk_69_method_7_code, exceptionTable := #[], attributes := #[] }
def k7m0 : Method := { name := "<init>", desc := "()V", sig := { parameters := [], returnType := none }, accessFlags := 1, code := some k7c0 }
/-- java/util/HashMap -/
def k7 : Class := { plain "java/util/HashMap" (some 4) with
  accessFlags := 33
  interfaces := #[3, 5, 6]
  cf := some (fileOf pool7 40 #[.nestMembers #[180, 596, 598, 600, 602, 604, 606, 608, 610, 346, 268, 263, 243, 163]] #[{ accessFlags := 1, nameIndex := 47, descriptorIndex := 48, attributes := #[] }] 33 44 #[101, 392, 394] #[{ accessFlags := 26, nameIndex := 396, descriptorIndex := 397, attributes := #[] }, { accessFlags := 24, nameIndex := 401, descriptorIndex := 91, attributes := #[] }, { accessFlags := 24, nameIndex := 403, descriptorIndex := 91, attributes := #[] }, { accessFlags := 24, nameIndex := 404, descriptorIndex := 84, attributes := #[] }, { accessFlags := 24, nameIndex := 405, descriptorIndex := 91, attributes := #[] }, { accessFlags := 24, nameIndex := 407, descriptorIndex := 91, attributes := #[] }, { accessFlags := 24, nameIndex := 409, descriptorIndex := 91, attributes := #[] }, { accessFlags := 128, nameIndex := 107, descriptorIndex := 108, attributes := #[] }, { accessFlags := 128, nameIndex := 123, descriptorIndex := 242, attributes := #[] }, { accessFlags := 128, nameIndex := 104, descriptorIndex := 91, attributes := #[] }, { accessFlags := 128, nameIndex := 204, descriptorIndex := 91, attributes := #[] }, { accessFlags := 0, nameIndex := 90, descriptorIndex := 91, attributes := #[] }, { accessFlags := 16, nameIndex := 83, descriptorIndex := 84, attributes := #[] }])
  fields := #[{ name := "serialVersionUID", type := .long, accessFlags := 26, slot := 0, constantValue := 0 }, { name := "DEFAULT_INITIAL_CAPACITY", type := .int, accessFlags := 24, slot := 1, constantValue := 0 }, { name := "MAXIMUM_CAPACITY", type := .int, accessFlags := 24, slot := 2, constantValue := 0 }, { name := "DEFAULT_LOAD_FACTOR", type := .float, accessFlags := 24, slot := 3, constantValue := 0 }, { name := "TREEIFY_THRESHOLD", type := .int, accessFlags := 24, slot := 4, constantValue := 0 }, { name := "UNTREEIFY_THRESHOLD", type := .int, accessFlags := 24, slot := 5, constantValue := 0 }, { name := "MIN_TREEIFY_CAPACITY", type := .int, accessFlags := 24, slot := 6, constantValue := 0 }, { name := "table", type := (.array (.object "java/util/HashMap$Node")), accessFlags := 128, slot := 2, constantValue := 0 }, { name := "entrySet", type := (.object "java/util/Set"), accessFlags := 128, slot := 3, constantValue := 0 }, { name := "size", type := .int, accessFlags := 128, slot := 4, constantValue := 0 }, { name := "modCount", type := .int, accessFlags := 128, slot := 5, constantValue := 0 }, { name := "threshold", type := .int, accessFlags := 0, slot := 6, constantValue := 0 }, { name := "loadFactor", type := .float, accessFlags := 16, slot := 7, constantValue := 0 }]
  methods := #[k7m0]
  instanceTypes := #[(.object "java/util/Set"), (.object "java/util/Collection"), (.array (.object "java/util/HashMap$Node")), (.object "java/util/Set"), .int, .int, .int, .float]
  staticTypes := #[.long, .int, .int, .float, .int, .int, .int]
  resolved := Array.replicate 629 none
  statics := none }

def pool8 : Array CpInfo := pool [(1, .class_ 2), (0, u "java/lang/Math"), (1, .class_ 6), (1, u "java/lang/Object"), (0, u "<init>"), (0, u "()V"), (89, .class_ 100), (1, u "java/lang/Math$RandomNumberGeneratorHolder"), (71, u "negativeZeroFloatBits"), (0, u "J"), (2, u "negativeZeroDoubleBits"), (21, u "max"), (2, u "min"), (43, u "$assertionsDisabled"), (0, u "Z"), (88, u "(II)I"), (2, u "twoToTheDoubleScaleDown"), (0, u "D"), (4, u "twoToTheDoubleScaleUp"), (9, u "E"), (3, u "PI"), (2, u "TAU"), (2, u "DEGREES_TO_RADIANS"), (0, u "RADIANS_TO_DEGREES")] 94

def k8m0 : Method := { name := "<init>", desc := "()V", sig := { parameters := [], returnType := none }, accessFlags := 2, code := none }
def k8c1 : Code := { maxStack := 2, maxLocals := 2, code := jdk_29_method_65_code, exceptionTable := #[], attributes := #[] }
def k8m1 : Method := { name := "max", desc := "(II)I", sig := { parameters := [.int, .int], returnType := some .int }, accessFlags := 9, code := some k8c1 }
def k8c2 : Code := { maxStack := 2, maxLocals := 2, code := jdk_29_method_69_code, exceptionTable := #[], attributes := #[] }
def k8m2 : Method := { name := "min", desc := "(II)I", sig := { parameters := [.int, .int], returnType := some .int }, accessFlags := 9, code := some k8c2 }
/-- java/lang/Math -/
def k8 : Class := { plain "java/lang/Math" (some 0) with
  accessFlags := 49
  interfaces := #[]
  cf := some (fileOf pool8 1 #[.nestMembers #[98]] #[{ accessFlags := 2, nameIndex := 7, descriptorIndex := 8, attributes := #[] }, { accessFlags := 9, nameIndex := 198, descriptorIndex := 335, attributes := #[] }, { accessFlags := 9, nameIndex := 201, descriptorIndex := 335, attributes := #[] }] 49 4 #[] #[{ accessFlags := 25, nameIndex := 354, descriptorIndex := 339, attributes := #[] }, { accessFlags := 25, nameIndex := 358, descriptorIndex := 339, attributes := #[] }, { accessFlags := 25, nameIndex := 361, descriptorIndex := 339, attributes := #[] }, { accessFlags := 26, nameIndex := 364, descriptorIndex := 339, attributes := #[] }, { accessFlags := 26, nameIndex := 365, descriptorIndex := 339, attributes := #[] }, { accessFlags := 26, nameIndex := 172, descriptorIndex := 173, attributes := #[] }, { accessFlags := 26, nameIndex := 176, descriptorIndex := 173, attributes := #[] }, { accessFlags := 8, nameIndex := 344, descriptorIndex := 339, attributes := #[] }, { accessFlags := 8, nameIndex := 338, descriptorIndex := 339, attributes := #[] }, { accessFlags := 4120, nameIndex := 245, descriptorIndex := 246, attributes := #[] }])
  fields := #[{ name := "E", type := .double, accessFlags := 25, slot := 0, constantValue := 0 }, { name := "PI", type := .double, accessFlags := 25, slot := 1, constantValue := 0 }, { name := "TAU", type := .double, accessFlags := 25, slot := 2, constantValue := 0 }, { name := "DEGREES_TO_RADIANS", type := .double, accessFlags := 26, slot := 3, constantValue := 0 }, { name := "RADIANS_TO_DEGREES", type := .double, accessFlags := 26, slot := 4, constantValue := 0 }, { name := "negativeZeroFloatBits", type := .long, accessFlags := 26, slot := 5, constantValue := 0 }, { name := "negativeZeroDoubleBits", type := .long, accessFlags := 26, slot := 6, constantValue := 0 }, { name := "twoToTheDoubleScaleUp", type := .double, accessFlags := 8, slot := 7, constantValue := 0 }, { name := "twoToTheDoubleScaleDown", type := .double, accessFlags := 8, slot := 8, constantValue := 0 }, { name := "$assertionsDisabled", type := .boolean, accessFlags := 4120, slot := 9, constantValue := 0 }]
  methods := #[k8m0, k8m1, k8m2]
  instanceTypes := #[]
  staticTypes := #[.double, .double, .double, .double, .double, .long, .long, .double, .double, .boolean]
  resolved := Array.replicate 460 none
  statics := none }

def pool9 : Array CpInfo := pool [(2, .class_ 4), (1, u "java/lang/Object"), (0, u "<init>"), (0, u "()V"), (5, u "([IIII)V"), (0, .methodref 14 15), (0, .class_ 16), (0, .nameAndType 17 18), (0, u "java/util/Arrays"), (0, u "rangeCheck"), (0, u "(III)V"), (55, .class_ 76), (1, u "java/util/Arrays$NaturalOrder"), (36, .class_ 115), (1, u "java/util/Arrays$LegacyMergeSort"), (1, u "Z"), (32, .methodref 151 152), (0, .class_ 153), (0, .nameAndType 154 155), (0, u "java/lang/System"), (0, u "arraycopy"), (0, u "(Ljava/lang/Object;ILjava/lang/Object;II)V"), (146, u "copyOf"), (1, .methodref 305 306), (0, .class_ 307), (0, .nameAndType 308 309), (0, u "java/lang/Math"), (0, u "min"), (0, u "(II)I"), (65, .class_ 376), (0, u "java/util/Arrays$ArrayList"), (68, u "$assertionsDisabled"), (269, u "MIN_ARRAY_SORT_GRAN"), (0, u "I"), (2, u "INSERTIONSORT_THRESHOLD"), (120, u "fill"), (30, u "([II)[I"), (103, .class_ 976), (0, u "java/util/Arrays$ArrayItr")] 52

def k9m0 : Method := { name := "<init>", desc := "()V", sig := { parameters := [], returnType := none }, accessFlags := 2, code := none }
def k9c1 : Code := { maxStack := 4, maxLocals := 3, code := jdk_65_method_30_code, exceptionTable := #[], attributes := #[] }
def k9m1 : Method := { name := "rangeCheck", desc := "(III)V", sig := { parameters := [.int, .int, .int], returnType := none }, accessFlags := 8, code := some k9c1 }
def k9c2 : Code := { maxStack := 3, maxLocals := 5, code := jdk_65_method_104_code, exceptionTable := #[], attributes := #[] }
def k9m2 : Method := { name := "fill", desc := "([IIII)V", sig := { parameters := [(.array .int), .int, .int, .int], returnType := none }, accessFlags := 9, code := some k9c2 }
def k9c3 : Code := { maxStack := 6, maxLocals := 3, code := jdk_65_method_123_code, exceptionTable := #[], attributes := #[] }
def k9m3 : Method := { name := "copyOf", desc := "([II)[I", sig := { parameters := [(.array .int), .int], returnType := some (.array .int) }, accessFlags := 9, code := some k9c3 }
/-- java/util/Arrays -/
def k9 : Class := { plain "java/util/Arrays" (some 0) with
  accessFlags := 49
  interfaces := #[]
  cf := some (fileOf pool9 14 #[.nestMembers #[975, 375, 113, 74]] #[{ accessFlags := 2, nameIndex := 5, descriptorIndex := 6, attributes := #[] }, { accessFlags := 8, nameIndex := 17, descriptorIndex := 18, attributes := #[] }, { accessFlags := 9, nameIndex := 840, descriptorIndex := 12, attributes := #[] }, { accessFlags := 9, nameIndex := 302, descriptorIndex := 871, attributes := #[] }] 49 2 #[] #[{ accessFlags := 26, nameIndex := 715, descriptorIndex := 716, attributes := #[] }, { accessFlags := 26, nameIndex := 719, descriptorIndex := 716, attributes := #[] }, { accessFlags := 4120, nameIndex := 445, descriptorIndex := 117, attributes := #[] }])
  fields := #[{ name := "MIN_ARRAY_SORT_GRAN", type := .int, accessFlags := 26, slot := 0, constantValue := 0 }, { name := "INSERTIONSORT_THRESHOLD", type := .int, accessFlags := 26, slot := 1, constantValue := 0 }, { name := "$assertionsDisabled", type := .boolean, accessFlags := 4120, slot := 2, constantValue := 0 }]
  methods := #[k9m0, k9m1, k9m2, k9m3]
  instanceTypes := #[]
  staticTypes := #[.int, .int, .boolean]
  resolved := Array.replicate 1029 none
  statics := none }

def pool10 : Array CpInfo := pool [(2, .class_ 4), (1, u "java/lang/Object"), (0, u "<init>"), (0, u "()V"), (1, .class_ 10), (1, u "java/lang/System"), (0, u "allowSecurityManager"), (0, u "I"), (16, u "cons"), (0, u "Ljava/io/Console;"), (77, .class_ 110), (1, u "java/lang/System$CallersHolder"), (43, u "initialErrStream"), (0, u "Ljava/io/PrintStream;"), (19, u "security"), (0, u "Ljava/lang/SecurityManager;"), (31, .class_ 209), (0, u "java/lang/System$1"), (7, u "props"), (0, u "Ljava/util/Properties;"), (2, u "lineSeparator"), (0, u "Ljava/lang/String;"), (96, .class_ 321), (1, u "java/lang/System$LoggerFinder"), (5, .class_ 328), (0, u "java/lang/System$Logger"), (67, u "err"), (2, u "out"), (91, u "notSupportedJnuEncoding"), (15, u "in"), (17, u "initialIn"), (0, u "Ljava/io/InputStream;"), (35, u "bootLayer"), (0, u "Ljava/lang/ModuleLayer;"), (99, .class_ 664), (0, u "java/lang/System$2"), (9, u "NEVER"), (2, u "MAYBE"), (49, u "arraycopy"), (0, u "(Ljava/lang/Object;ILjava/lang/Object;II)V"), (72, .class_ 802), (0, u "java/lang/System$Logger$Level")] 31

def k10m0 : Method := { name := "<init>", desc := "()V", sig := { parameters := [], returnType := none }, accessFlags := 2, code := none }
def k10m1 : Method := { name := "arraycopy", desc := "(Ljava/lang/Object;ILjava/lang/Object;II)V", sig := { parameters := [(.object "java/lang/Object"), .int, (.object "java/lang/Object"), .int, .int], returnType := none }, accessFlags := 265, code := none }
/-- java/lang/System -/
def k10 : Class := { plain "java/lang/System" (some 0) with
  accessFlags := 49
  interfaces := #[]
  cf := some (fileOf pool10 8 #[.nestMembers #[319, 327, 801, 108, 663, 208]] #[{ accessFlags := 2, nameIndex := 5, descriptorIndex := 6, attributes := #[] }, { accessFlags := 265, nameIndex := 727, descriptorIndex := 728, attributes := #[] }] 49 2 #[] #[{ accessFlags := 25, nameIndex := 507, descriptorIndex := 526, attributes := #[] }, { accessFlags := 25, nameIndex := 399, descriptorIndex := 155, attributes := #[] }, { accessFlags := 25, nameIndex := 396, descriptorIndex := 155, attributes := #[] }, { accessFlags := 10, nameIndex := 525, descriptorIndex := 526, attributes := #[] }, { accessFlags := 26, nameIndex := 674, descriptorIndex := 12, attributes := #[] }, { accessFlags := 26, nameIndex := 677, descriptorIndex := 12, attributes := #[] }, { accessFlags := 10, nameIndex := 11, descriptorIndex := 12, attributes := #[] }, { accessFlags := 74, nameIndex := 175, descriptorIndex := 176, attributes := #[] }, { accessFlags := 10, nameIndex := 491, descriptorIndex := 222, attributes := #[] }, { accessFlags := 74, nameIndex := 29, descriptorIndex := 30, attributes := #[] }, { accessFlags := 74, nameIndex := 154, descriptorIndex := 155, attributes := #[] }, { accessFlags := 10, nameIndex := 217, descriptorIndex := 218, attributes := #[] }, { accessFlags := 10, nameIndex := 221, descriptorIndex := 222, attributes := #[] }, { accessFlags := 8, nameIndex := 562, descriptorIndex := 563, attributes := #[] }])
  fields := #[{ name := "in", type := (.object "java/io/InputStream"), accessFlags := 25, slot := 0, constantValue := 0 }, { name := "out", type := (.object "java/io/PrintStream"), accessFlags := 25, slot := 1, constantValue := 0 }, { name := "err", type := (.object "java/io/PrintStream"), accessFlags := 25, slot := 2, constantValue := 0 }, { name := "initialIn", type := (.object "java/io/InputStream"), accessFlags := 10, slot := 3, constantValue := 0 }, { name := "NEVER", type := .int, accessFlags := 26, slot := 4, constantValue := 0 }, { name := "MAYBE", type := .int, accessFlags := 26, slot := 5, constantValue := 0 }, { name := "allowSecurityManager", type := .int, accessFlags := 10, slot := 6, constantValue := 0 }, { name := "security", type := (.object "java/lang/SecurityManager"), accessFlags := 74, slot := 7, constantValue := 0 }, { name := "notSupportedJnuEncoding", type := (.object "java/lang/String"), accessFlags := 10, slot := 8, constantValue := 0 }, { name := "cons", type := (.object "java/io/Console"), accessFlags := 74, slot := 9, constantValue := 0 }, { name := "initialErrStream", type := (.object "java/io/PrintStream"), accessFlags := 74, slot := 10, constantValue := 0 }, { name := "props", type := (.object "java/util/Properties"), accessFlags := 10, slot := 11, constantValue := 0 }, { name := "lineSeparator", type := (.object "java/lang/String"), accessFlags := 10, slot := 12, constantValue := 0 }, { name := "bootLayer", type := (.object "java/lang/ModuleLayer"), accessFlags := 8, slot := 13, constantValue := 0 }]
  methods := #[k10m0, k10m1]
  instanceTypes := #[]
  staticTypes := #[(.object "java/io/InputStream"), (.object "java/io/PrintStream"), (.object "java/io/PrintStream"), (.object "java/io/InputStream"), .int, .int, .int, (.object "java/lang/SecurityManager"), (.object "java/lang/String"), (.object "java/io/Console"), (.object "java/io/PrintStream"), (.object "java/util/Properties"), (.object "java/lang/String"), (.object "java/lang/ModuleLayer")]
  resolved := Array.replicate 834 none
  statics := none }

/-- the primitive byte -/
def k11 : Class := { plain "byte" none with kind := .primitive 'B', accessFlags := 0x411 }
/-- [B -/
def k12 : Class := { plain "[B" (some 0) with kind := .array 11 .byte, interfaces := #[5, 6], accessFlags := 1041 }

/-- the primitive int -/
def k13 : Class := { plain "int" none with kind := .primitive 'I', accessFlags := 0x411 }
/-- [I -/
def k14 : Class := { plain "[I" (some 0) with kind := .array 13 .int, interfaces := #[5, 6], accessFlags := 1041 }

def heap : Heap := #[]
def classes : Array Class := #[k0, k1, k2, k3, k4, k5, k6, k7, k8, k9, k10, k11, k12, k13, k14]
def interned : List (Array UInt16 × Addr) := []
def slotsUsed : Nat := 0
def theMethod : MethodId := ⟨1, 1⟩
def args0 : Array Value := #[.int 5, .int 6, .int 7, .int 8, .int 9, .int 10]
def aboutOver (below : List Frame) : State where
  vm := { classes := classes, interned := interned.toArray }
  heap := heap
  slotsUsed := slotsUsed
  threads := #[{ frames := .invoking theMethod args0 :: below }]
def below0 : List Frame := [.native { method := ⟨0, 0⟩, args := #[] }]
def about1 : State := aboutOver below0
def p0 : Program := .bare "" "" ""
def e0 : Env := launch0.env 0 0 0
theorem w_frames : about1.frames = Frame.invoking theMethod args0 :: below0 := rfl
set_option maxRecDepth 65536 in
theorem w_args : argsFit about1.vm theMethod args0 = true := by decide +kernel
set_option maxRecDepth 65536 in
theorem w_heap : heapFits about1 = true := by decide +kernel
set_option maxRecDepth 65536 in
theorem w_runnable : about1.curStatus? = some .runnable := by decide +kernel
set_option maxRecDepth 65536 in
theorem w_alone : about1.alone = true := by decide +kernel
set_option maxRecDepth 65536 in
theorem w_named : about1.methodNamed? x = some theMethod := by decide +kernel
set_option maxRecDepth 65536 in
theorem w_hears : about1.hears theMethod below0 = true := by decide +kernel
set_option maxRecDepth 65536 in
theorem w_ripe : about1.ripe theMethod args0 below0 = true := by decide +kernel
theorem w_running : about1.status = .running := rfl
set_option maxRecDepth 65536 in
theorem w_room : about1.hasRoom e0.platform room_1 = true :=
  launch0.hasRoom_least _ room_1 (by decide +kernel) (by decide +kernel) (by decide +kernel) (by decide +kernel) (by decide +kernel) (by decide +kernel)
theorem allAtoms_all (ts : List Jvm.Cond) (a : Array Jvm.Value) (st : Jvm.State) : (allAtoms ts).before a st = ts.all (fun c => c.before a st) := by
  induction ts with
  | nil => rfl
  | cons c t ih =>
    show (Jvm.Cond.and c (allAtoms t)).before a st = _
    rw [Jvm.Cond.before_and, ih, List.all_cons]
def words1 : List Jvm.Cond := Jvm.Cond.code x code maxLocals ret :: tables_1
/-- a 'code' word, met by the world's own term for the bytes: nothing is compared byte by byte -/
theorem code_word {y : MethodName} {bytes : ByteArray} {mx : Nat} {rt : Option FieldType} {a : Array Value} {s : State} {m : MethodId} {meth : Method} {c : Code} (h1 : s.methodNamed? y = some m) (h2 : s.vm.method? m = some meth) (h3 : meth.code = some c) (h4 : c.code = bytes)
    (h5 : (c.maxLocals == mx && c.exceptionTable.isEmpty && decide (c.maxStack ≤ mostOperands) && decide (meth.sig.returnType = rt) && !meth.locks && decide (parseMethodDescriptor y.desc = some meth.sig)) = true) : (Jvm.Cond.code y bytes mx rt).before a s = true := by
  simp only [Bool.and_eq_true, beq_iff_eq, Bool.not_eq_true', decide_eq_true_eq] at h5
  obtain ⟨⟨⟨⟨⟨g1, g2⟩, g3⟩, g4⟩, g5⟩, g6⟩ := h5
  simp [Cond.before, Cond.holds, Cond.value, h1, h2, h3, h4, g1, g2, g3, g4, g5, g6]
def isCode : Jvm.Cond → Bool
  | .code _ _ _ _ => true
  | _ => false
theorem all_split {L : List Jvm.Cond} {P : Jvm.Cond → Bool} (h1 : L.all (fun c => isCode c || P c) = true) (h2 : ∀ c ∈ L.filter isCode, P c = true) : L.all P = true := by
  refine List.all_eq_true.mpr fun c hc => ?_
  have h := List.all_eq_true.mp h1 c hc
  rcases Bool.eq_false_or_eq_true (isCode c) with hi | hi
  · exact h2 c (List.mem_filter.mpr ⟨hc, hi⟩)
  · simpa [hi] using h
set_option maxRecDepth 65536 in
theorem w_c0 : (Jvm.Cond.code x code maxLocals ret).before args0 about1 = true := code_word (m := ⟨1, 1⟩) (meth := k1m1) (c := k1c1) (by decide +kernel) rfl rfl rfl (by decide +kernel)
set_option maxRecDepth 65536 in
theorem w_c1 : (Jvm.Cond.code ({ cls := "com/example/tasks_to_traces/taskstotraces/sensor/Events", name := "<init>", desc := "()V" } : Jvm.MethodName) prog_151_method_1_code (1 : Nat) (Option.none : Option Jvm.ClassFile.FieldType)).before args0 about1 = true := code_word (m := ⟨2, 0⟩) (meth := k2m0) (c := k2c0) (by decide +kernel) rfl rfl rfl (by decide +kernel)
set_option maxRecDepth 65536 in
theorem w_c2 : (Jvm.Cond.code ({ cls := "java/lang/Object", name := "<init>", desc := "()V" } : Jvm.MethodName) object_method_1_code (1 : Nat) (Option.none : Option Jvm.ClassFile.FieldType)).before args0 about1 = true := code_word (m := ⟨0, 0⟩) (meth := k0m0) (c := k0c0) (by decide +kernel) rfl rfl rfl (by decide +kernel)
set_option maxRecDepth 65536 in
theorem w_c3 : (Jvm.Cond.code ({ cls := "java/util/HashMap", name := "<init>", desc := "()V" } : Jvm.MethodName) jdk_69_method_7_code (1 : Nat) (Option.none : Option Jvm.ClassFile.FieldType)).before args0 about1 = true := code_word (m := ⟨7, 0⟩) (meth := k7m0) (c := k7c0) (by decide +kernel) rfl rfl rfl (by decide +kernel)
set_option maxRecDepth 65536 in
theorem w_c4 : (Jvm.Cond.code ({ cls := "java/util/AbstractMap", name := "<init>", desc := "()V" } : Jvm.MethodName) jdk_71_method_1_code (1 : Nat) (Option.none : Option Jvm.ClassFile.FieldType)).before args0 about1 = true := code_word (m := ⟨4, 0⟩) (meth := k4m0) (c := k4c0) (by decide +kernel) rfl rfl rfl (by decide +kernel)
set_option maxRecDepth 65536 in
theorem w_c5 : (Jvm.Cond.code ({ cls := "com/example/tasks_to_traces/taskstotraces/sensor/Events", name := "setCode", desc := "(II)V" } : Jvm.MethodName) prog_151_method_6_code (3 : Nat) (Option.none : Option Jvm.ClassFile.FieldType)).before args0 about1 = true := code_word (m := ⟨2, 1⟩) (meth := k2m1) (c := k2c1) (by decide +kernel) rfl rfl rfl (by decide +kernel)
set_option maxRecDepth 65536 in
theorem w_c6 : (Jvm.Cond.code ({ cls := "com/example/tasks_to_traces/taskstotraces/sensor/Events", name := "set", desc := "([III)[I" } : Jvm.MethodName) prog_151_method_9_code (4 : Nat) (Option.some (Jvm.ClassFile.FieldType.array Jvm.ClassFile.FieldType.int))).before args0 about1 = true := code_word (m := ⟨2, 3⟩) (meth := k2m3) (c := k2c3) (by decide +kernel) rfl rfl rfl (by decide +kernel)
set_option maxRecDepth 65536 in
theorem w_c7 : (Jvm.Cond.code ({ cls := "java/lang/Math", name := "max", desc := "(II)I" } : Jvm.MethodName) jdk_29_method_65_code (2 : Nat) (Option.some Jvm.ClassFile.FieldType.int)).before args0 about1 = true := code_word (m := ⟨8, 1⟩) (meth := k8m1) (c := k8c1) (by decide +kernel) rfl rfl rfl (by decide +kernel)
set_option maxRecDepth 65536 in
theorem w_c8 : (Jvm.Cond.code ({ cls := "java/util/Arrays", name := "copyOf", desc := "([II)[I" } : Jvm.MethodName) jdk_65_method_123_code (3 : Nat) (Option.some (Jvm.ClassFile.FieldType.array Jvm.ClassFile.FieldType.int))).before args0 about1 = true := code_word (m := ⟨9, 3⟩) (meth := k9m3) (c := k9c3) (by decide +kernel) rfl rfl rfl (by decide +kernel)
set_option maxRecDepth 65536 in
theorem w_c9 : (Jvm.Cond.code ({ cls := "java/lang/Math", name := "min", desc := "(II)I" } : Jvm.MethodName) jdk_29_method_69_code (2 : Nat) (Option.some Jvm.ClassFile.FieldType.int)).before args0 about1 = true := code_word (m := ⟨8, 2⟩) (meth := k8m2) (c := k8c2) (by decide +kernel) rfl rfl rfl (by decide +kernel)
set_option maxRecDepth 65536 in
theorem w_c10 : (Jvm.Cond.code ({ cls := "java/util/Arrays", name := "fill", desc := "([IIII)V" } : Jvm.MethodName) jdk_65_method_104_code (5 : Nat) (Option.none : Option Jvm.ClassFile.FieldType)).before args0 about1 = true := code_word (m := ⟨9, 2⟩) (meth := k9m2) (c := k9c2) (by decide +kernel) rfl rfl rfl (by decide +kernel)
set_option maxRecDepth 65536 in
theorem w_c11 : (Jvm.Cond.code ({ cls := "java/util/Arrays", name := "rangeCheck", desc := "(III)V" } : Jvm.MethodName) jdk_65_method_30_code (3 : Nat) (Option.none : Option Jvm.ClassFile.FieldType)).before args0 about1 = true := code_word (m := ⟨9, 1⟩) (meth := k9m1) (c := k9c1) (by decide +kernel) rfl rfl rfl (by decide +kernel)
set_option maxRecDepth 65536 in
theorem w_c12 : (Jvm.Cond.code ({ cls := "com/example/tasks_to_traces/taskstotraces/sensor/Events", name := "code", desc := "(I)I" } : Jvm.MethodName) prog_151_method_8_code (2 : Nat) (Option.some Jvm.ClassFile.FieldType.int)).before args0 about1 = true := code_word (m := ⟨2, 2⟩) (meth := k2m2) (c := k2c2) (by decide +kernel) rfl rfl rfl (by decide +kernel)
def codes1 : List Jvm.Cond := [Jvm.Cond.code x code maxLocals ret, Jvm.Cond.code ({ cls := "com/example/tasks_to_traces/taskstotraces/sensor/Events", name := "<init>", desc := "()V" } : Jvm.MethodName) prog_151_method_1_code (1 : Nat) (Option.none : Option Jvm.ClassFile.FieldType), Jvm.Cond.code ({ cls := "java/lang/Object", name := "<init>", desc := "()V" } : Jvm.MethodName) object_method_1_code (1 : Nat) (Option.none : Option Jvm.ClassFile.FieldType), Jvm.Cond.code ({ cls := "java/util/HashMap", name := "<init>", desc := "()V" } : Jvm.MethodName) jdk_69_method_7_code (1 : Nat) (Option.none : Option Jvm.ClassFile.FieldType), Jvm.Cond.code ({ cls := "java/util/AbstractMap", name := "<init>", desc := "()V" } : Jvm.MethodName) jdk_71_method_1_code (1 : Nat) (Option.none : Option Jvm.ClassFile.FieldType), Jvm.Cond.code ({ cls := "com/example/tasks_to_traces/taskstotraces/sensor/Events", name := "setCode", desc := "(II)V" } : Jvm.MethodName) prog_151_method_6_code (3 : Nat) (Option.none : Option Jvm.ClassFile.FieldType), Jvm.Cond.code ({ cls := "com/example/tasks_to_traces/taskstotraces/sensor/Events", name := "set", desc := "([III)[I" } : Jvm.MethodName) prog_151_method_9_code (4 : Nat) (Option.some (Jvm.ClassFile.FieldType.array Jvm.ClassFile.FieldType.int)), Jvm.Cond.code ({ cls := "java/lang/Math", name := "max", desc := "(II)I" } : Jvm.MethodName) jdk_29_method_65_code (2 : Nat) (Option.some Jvm.ClassFile.FieldType.int), Jvm.Cond.code ({ cls := "java/util/Arrays", name := "copyOf", desc := "([II)[I" } : Jvm.MethodName) jdk_65_method_123_code (3 : Nat) (Option.some (Jvm.ClassFile.FieldType.array Jvm.ClassFile.FieldType.int)), Jvm.Cond.code ({ cls := "java/lang/Math", name := "min", desc := "(II)I" } : Jvm.MethodName) jdk_29_method_69_code (2 : Nat) (Option.some Jvm.ClassFile.FieldType.int), Jvm.Cond.code ({ cls := "java/util/Arrays", name := "fill", desc := "([IIII)V" } : Jvm.MethodName) jdk_65_method_104_code (5 : Nat) (Option.none : Option Jvm.ClassFile.FieldType), Jvm.Cond.code ({ cls := "java/util/Arrays", name := "rangeCheck", desc := "(III)V" } : Jvm.MethodName) jdk_65_method_30_code (3 : Nat) (Option.none : Option Jvm.ClassFile.FieldType), Jvm.Cond.code ({ cls := "com/example/tasks_to_traces/taskstotraces/sensor/Events", name := "code", desc := "(I)I" } : Jvm.MethodName) prog_151_method_8_code (2 : Nat) (Option.some Jvm.ClassFile.FieldType.int)]
set_option maxRecDepth 65536 in
theorem codes_eq : words1.filter isCode = codes1 := rfl
theorem w_codes : ∀ c ∈ words1.filter isCode, c.before args0 about1 = true := by
  rw [codes_eq]
  intro c hc
  simp only [codes1, List.mem_cons, List.not_mem_nil, or_false] at hc
  rcases hc with rfl | rfl | rfl | rfl | rfl | rfl | rfl | rfl | rfl | rfl | rfl | rfl | rfl
  · exact w_c0
  · exact w_c1
  · exact w_c2
  · exact w_c3
  · exact w_c4
  · exact w_c5
  · exact w_c6
  · exact w_c7
  · exact w_c8
  · exact w_c9
  · exact w_c10
  · exact w_c11
  · exact w_c12
set_option maxRecDepth 65536 in
theorem w_t1 : (words1.take 24).all (fun c => isCode c || c.before args0 about1) = true := by decide +kernel
set_option maxRecDepth 65536 in
theorem w_t2 : ((words1.drop 24).take 24).all (fun c => isCode c || c.before args0 about1) = true := by decide +kernel
set_option maxRecDepth 65536 in
theorem w_t3 : ((words1.drop 24).drop 24).all (fun c => isCode c || c.before args0 about1) = true := by decide +kernel
theorem w_tables : (allAtoms (Jvm.Cond.code x code maxLocals ret :: tables_1)).before args0 about1 = true := by
  rw [allAtoms_all]
  show words1.all (fun c => c.before args0 about1) = true
  refine all_split ?_ w_codes
  rw [← List.take_append_drop 24 words1, List.all_append, w_t1, ← List.take_append_drop 24 (words1.drop 24), List.all_append, w_t2, w_t3]
  rfl
set_option maxRecDepth 65536 in
theorem w_case : (Jvm.Cond.and given_1 narrow_1).before args0 about1 = true := by decide +kernel
theorem w_applies : (headSpec (Jvm.Cond.code x code maxLocals ret :: tables_1) room_1).applies x e0.platform about1 = true :=
  (Spec.applies_iff w_frames).mpr ⟨w_running, w_runnable, w_alone, w_named, w_hears, w_ripe, w_room, w_tables⟩
theorem atStart : AtStart classFile x code maxLocals ret World_1 tables_1 room_1 Calls_1 rest_1 Pre_1 launch0 p0 e0 about1 theMethod args0 below0 :=
  ⟨lists_1, trivial, launch0.admits_env _ _ _, launch0.least_env, fairChoices_fair.cas, fairChoices_fair.clock, w_frames, w_args, w_heap, w_applies, trivial, trivial, w_case⟩
end start1
theorem witness_1 : WitnessClaimed_1 := ⟨start1.p0, start1.e0, start1.about1, start1.theMethod, start1.args0, start1.below0, start1.atStart⟩
end Jvm.Pilot.@@N@@
