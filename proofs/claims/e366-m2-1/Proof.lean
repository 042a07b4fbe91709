import JvmDerived
import JvmDerived.Pilot.@@N@@Statement
import JvmDerived.Pilot.@@N@@Code
set_option linter.unusedVariables false
set_option linter.unusedSimpArgs false
@@BLOCK:NumsL.lean.txt@@
namespace Jvm.OwnGo
open Sem ClassFile Op Lib Jvm.Stand Jvm.Free Jvm.LawKit Jvm.RoadKit
/-- what the walk of a body is told once: exec, bytes, max_locals, its class, its name, its return kind, no lock, the tables -/
def Cx (p : Program) (s : State) (m : MethodId) (meth : Method) (c : Code) (Z : State) (own nm : String) (code : ByteArray) (ret : Option FieldType) (maxL : Nat) : Prop :=
  p.tables.exec = Jvm.exec ∧ c.code = code ∧ c.maxLocals = maxL ∧ s.vm.findClass own = some m.cls ∧ meth.name = nm ∧ meth.sig.returnType = ret ∧ meth.locks = false ∧ Z.Warmed39 s.vm
/-- from every state with heap h in which the body stands at frame g the body comes to its end, and Q holds of what it leaves -/
def Go (p : Program) (l : Launch) (e : Env) (R : Room) (s : State) (m : MethodId) (args : Array Value) (below : List Frame) (meth : Method) (c : Code) (n0 : Nat) (Q : Option Value → Heap → List Loc → Prop) (h : Heap) (cells slots : Nat) (g : JFrame) : Prop :=
  ∀ (T : State) (L : List Loc), Stand p l e R s m args below meth c T L cells slots → T.heap = h → Fr n0 L →
    ∃ (t : State) (o : Outcome), Steps p.tables e below (T.setTop g) t ∧ t.status = .running ∧ Ended t below o ∧ ∃ v L', o = .returned v ∧ Q v t.heap L' ∧ FrameEnd s o t L' R.cells R.slots
/-- the contract of a body, at given arguments and heap -/
def Con (l : Launch) (Z : State) (y : MethodName) (bytes : ByteArray) (maxL : Nat) (ret : Option FieldType) (rm : Room) (ws : List Jvm.Cond) (as' : Array Value) (h : Heap) (Q : Option Value → Heap → List Loc → Prop) : Prop :=
  MetFree l y (head1 (Jvm.Cond.code y bytes maxL ret :: ws) rm) (fun a U => a = as' ∧ Z.Warmed39 U.vm ∧ U.heap = h) (fun _ _ _ _ _ => True) (fun _ U o U' => ∃ v L, o = .returned v ∧ Q v U'.heap L ∧ FrameEnd U o U' L rm.cells rm.slots)
/-- an int is returned; the heap is as H says; nothing old is written -/
def Ret (n0 : Nat) (H : Heap → Prop) (r : Int32) (v : Option Value) (hh : Heap) (L : List Loc) : Prop := v = some (.int r) ∧ Fr n0 L ∧ H hh
theorem con_of {l : Launch} {Z : State} {y : MethodName} {bytes : ByteArray} {maxL : Nat} {ret : Option FieldType} {rm : Room} {ws : List Jvm.Cond} {as' : Array Value} {h : Heap} {Q : Option Value → Heap → List Loc → Prop} (n0 : Nat) {Ls0 : Array Slot} (hn : plainName y.cls = true) (hef : ∀ m, entryFrame m as' maxL = mkF m 0 Ls0 [])
    (body : ∀ (p : Program) (e : Env) (s : State) (m : MethodId) (below : List Frame) (meth : Method) (c : Code), Cx p s m meth c Z y.cls y.name bytes ret maxL → Go p l e rm s m as' below meth c n0 Q h 0 0 (mkF m 0 Ls0 [])) : Con l Z y bytes maxL ret rm ws as' h Q := by
  refine MetFree.of_bodySF (plainFor_of_name hn) hisR ?_
  intro p e s m args below meth c s₁ Bd hml0 hP hK
  obtain ⟨rfl, hZ, hh⟩ := hP
  rw [hef m]
  exact body p e s m below meth c ⟨Bd.exec, Bd.bytes, hml0, findClass_of_methodNamed Bd.named, (name_of_methodNamed Bd.named Bd.method).1, Bd.returns, Bd.notSynchronized, hZ⟩ s₁ [] (Stand.of_body Bd) (by rw [← hh, Bd.state]; rfl) (Fr.nil n0)
section Steps
variable {p : Program} {l : Launch} {e : Env} {R : Room} {s : State} {m : MethodId} {args : Array Value} {below : List Frame} {meth : Method} {c : Code} {n0 : Nat} {Q : Option Value → Heap → List Loc → Prop} {h : Heap} {cells slots : Nat} {Z : State} {own nm : String} {code : ByteArray} {ret : Option FieldType} {maxL : Nat} {pc pc' pc2 : Nat} {Ls Ls' : Array Slot} {st : List Value} {a0 : Array Value}
theorem Go.step {g g' : JFrame} (f : ∀ T, At T m c below → ∀ target, Steps p.tables e below (T.setTop g') target → Steps p.tables e below (T.setTop g) target) (q : Go p l e R s m args below meth c n0 Q h cells slots g') : Go p l e R s m args below meth c n0 Q h cells slots g := fun T L X eT N => by
  obtain ⟨t, o, k, r⟩ := q T L X eT N
  exact ⟨t, o, f T X.here t k, r⟩
theorem Go.at {g g' : JFrame} (q : Go p l e R s m args below meth c n0 Q h cells slots g') (hg : g = g') : Go p l e R s m args below meth c n0 Q h cells slots g := hg ▸ q
theorem g_iloadN (C : Cx p s m meth c Z own nm code ret maxL) {k : Fin 4} {v : Int32} (hd : decode code pc = .ok (.iload_n k, 1)) (hl : Ls[k.val]? = some (.val (.int v))) (hp : pc + 1 = pc') (q : Go p l e R s m args below meth c n0 Q h cells slots (mkF m pc' Ls (.int v :: st))) : Go p l e R s m args below meth c n0 Q h cells slots (mkF m pc Ls st) := by
  subst hp
  exact q.step fun T A t r => XS.iloadN A C.1 rfl (hb C.2.1 hd) hl r
theorem g_iload (C : Cx p s m meth c Z own nm code ret maxL) {k : Nat} {v : Int32} (hd : decode code pc = .ok (.iload k, 2)) (hl : Ls[k]? = some (.val (.int v))) (hp : pc + 2 = pc') (q : Go p l e R s m args below meth c n0 Q h cells slots (mkF m pc' Ls (.int v :: st))) : Go p l e R s m args below meth c n0 Q h cells slots (mkF m pc Ls st) := by
  subst hp
  exact q.step fun T A t r => XS.iload A C.1 rfl (hb C.2.1 hd) hl r
theorem g_aloadN (C : Cx p s m meth c Z own nm code ret maxL) {k : Fin 4} {v : Value} (hd : decode code pc = .ok (.aload_n k, 1)) (hl : Ls[k.val]? = some (.val v)) (hv : v.isRef = true) (hp : pc + 1 = pc') (q : Go p l e R s m args below meth c n0 Q h cells slots (mkF m pc' Ls (v :: st))) : Go p l e R s m args below meth c n0 Q h cells slots (mkF m pc Ls st) := by
  subst hp
  exact q.step fun T A t r => XS.aloadN A C.1 rfl (hb C.2.1 hd) hl hv r
theorem g_aload (C : Cx p s m meth c Z own nm code ret maxL) {k : Nat} {v : Value} (hd : decode code pc = .ok (.aload k, 2)) (hl : Ls[k]? = some (.val v)) (hv : v.isRef = true) (hp : pc + 2 = pc') (q : Go p l e R s m args below meth c n0 Q h cells slots (mkF m pc' Ls (v :: st))) : Go p l e R s m args below meth c n0 Q h cells slots (mkF m pc Ls st) := by
  subst hp
  exact q.step fun T A t r => XS.aload A C.1 rfl (hb C.2.1 hd) hl hv r
theorem g_iconst (C : Cx p s m meth c Z own nm code ret maxL) {i : Int} {v : Int32} (hd : decode code pc = .ok (.iconst i, 1)) (hv : Int32.ofInt i = v) (hp : pc + 1 = pc') (q : Go p l e R s m args below meth c n0 Q h cells slots (mkF m pc' Ls (.int v :: st))) : Go p l e R s m args below meth c n0 Q h cells slots (mkF m pc Ls st) := by
  subst hp hv
  exact q.step fun T A t r => XS.iconst A C.1 rfl (hb C.2.1 hd) r
theorem g_bipush (C : Cx p s m meth c Z own nm code ret maxL) {i : Int} {v : Int32} (hd : decode code pc = .ok (.bipush i, 2)) (hv : (Int8.ofInt i).toInt32 = v) (hp : pc + 2 = pc') (q : Go p l e R s m args below meth c n0 Q h cells slots (mkF m pc' Ls (.int v :: st))) : Go p l e R s m args below meth c n0 Q h cells slots (mkF m pc Ls st) := by
  subst hp hv
  exact q.step fun T A t r => XS.bipush A C.1 rfl (hb C.2.1 hd) r
theorem g_sipush (C : Cx p s m meth c Z own nm code ret maxL) {i : Int} {v : Int32} (hd : decode code pc = .ok (.sipush i, 3)) (hv : (Int16.ofInt i).toInt32 = v) (hp : pc + 3 = pc') (q : Go p l e R s m args below meth c n0 Q h cells slots (mkF m pc' Ls (.int v :: st))) : Go p l e R s m args below meth c n0 Q h cells slots (mkF m pc Ls st) := by
  subst hp hv
  exact q.step fun T A t r => XS.sipush A C.1 rfl (hb C.2.1 hd) r
theorem g_ldc (C : Cx p s m meth c Z own nm code ret maxL) {i : Nat} {v : Int32} (w : (Jvm.Cond.constant own i v).before a0 Z = true) (hd : decode code pc = .ok (.ldc i, 2)) (hp : pc + 2 = pc') (q : Go p l e R s m args below meth c n0 Q h cells slots (mkF m pc' Ls (.int v :: st))) : Go p l e R s m args below meth c n0 Q h cells slots (mkF m pc Ls st) := by
  subst hp
  intro T L X eT N
  obtain ⟨t, o, k, r⟩ := q T L X eT N
  exact ⟨t, o, X.ldcInt C.1 C.2.2.2.1 (mvT C.2.2.2.2.2.2.2 w) (g := mkF m pc Ls st) rfl (hb C.2.1 hd) t k, r⟩
theorem g_iadd (C : Cx p s m meth c Z own nm code ret maxL) {x y : Int32} (hd : decode code pc = .ok (.iadd, 1)) (hp : pc + 1 = pc') (q : Go p l e R s m args below meth c n0 Q h cells slots (mkF m pc' Ls (.int (x + y) :: st))) : Go p l e R s m args below meth c n0 Q h cells slots (mkF m pc Ls (.int y :: .int x :: st)) := by
  subst hp
  exact q.step fun T A t r => XS.iadd A C.1 rfl (hb C.2.1 hd) rfl r
theorem g_isub (C : Cx p s m meth c Z own nm code ret maxL) {x y : Int32} (hd : decode code pc = .ok (.isub, 1)) (hp : pc + 1 = pc') (q : Go p l e R s m args below meth c n0 Q h cells slots (mkF m pc' Ls (.int (x - y) :: st))) : Go p l e R s m args below meth c n0 Q h cells slots (mkF m pc Ls (.int y :: .int x :: st)) := by
  subst hp
  exact q.step fun T A t r => XS.isub A C.1 rfl (hb C.2.1 hd) rfl r
theorem g_imul (C : Cx p s m meth c Z own nm code ret maxL) {x y : Int32} (hd : decode code pc = .ok (.imul, 1)) (hp : pc + 1 = pc') (q : Go p l e R s m args below meth c n0 Q h cells slots (mkF m pc' Ls (.int (x * y) :: st))) : Go p l e R s m args below meth c n0 Q h cells slots (mkF m pc Ls (.int y :: .int x :: st)) := by
  subst hp
  exact q.step fun T A t r => XS.imul A C.1 rfl (hb C.2.1 hd) rfl r
theorem g_iand (C : Cx p s m meth c Z own nm code ret maxL) {x y : Int32} (hd : decode code pc = .ok (.iand, 1)) (hp : pc + 1 = pc') (q : Go p l e R s m args below meth c n0 Q h cells slots (mkF m pc' Ls (.int (x &&& y) :: st))) : Go p l e R s m args below meth c n0 Q h cells slots (mkF m pc Ls (.int y :: .int x :: st)) := by
  subst hp
  exact q.step fun T A t r => XS.iand A C.1 rfl (hb C.2.1 hd) rfl r
theorem g_ixor (C : Cx p s m meth c Z own nm code ret maxL) {x y : Int32} (hd : decode code pc = .ok (.ixor, 1)) (hp : pc + 1 = pc') (q : Go p l e R s m args below meth c n0 Q h cells slots (mkF m pc' Ls (.int (x ^^^ y) :: st))) : Go p l e R s m args below meth c n0 Q h cells slots (mkF m pc Ls (.int y :: .int x :: st)) := by
  subst hp
  exact q.step fun T A t r => XT.ixor A C.1 rfl (hb C.2.1 hd) rfl r
theorem g_irem (C : Cx p s m meth c Z own nm code ret maxL) {x y : Int32} (hd : decode code pc = .ok (.irem, 1)) (hy : y ≠ 0) (hp : pc + 1 = pc') (q : Go p l e R s m args below meth c n0 Q h cells slots (mkF m pc' Ls (.int (x % y) :: st))) : Go p l e R s m args below meth c n0 Q h cells slots (mkF m pc Ls (.int y :: .int x :: st)) := by
  subst hp
  intro T L X eT N
  obtain ⟨t, o, k, r⟩ := q T L X eT N
  exact ⟨t, o, iremM X C.1 (g := mkF m pc Ls (.int y :: .int x :: st)) rfl (hb C.2.1 hd) rfl hy k, r⟩
theorem g_dup (C : Cx p s m meth c Z own nm code ret maxL) {x : Value} (hd : decode code pc = .ok (.dup, 1)) (hx : x.category = 1) (hp : pc + 1 = pc') (q : Go p l e R s m args below meth c n0 Q h cells slots (mkF m pc' Ls (x :: x :: st))) : Go p l e R s m args below meth c n0 Q h cells slots (mkF m pc Ls (x :: st)) := by
  subst hp
  exact q.step fun T A t r => XS.dup A C.1 rfl (hb C.2.1 hd) rfl hx r
theorem g_istoreN (C : Cx p s m meth c Z own nm code ret maxL) {k : Fin 4} {x : Int32} (hd : decode code pc = .ok (.istore_n k, 1)) (hl : storeLocals Ls k.val (.int x) = some Ls') (hp : pc + 1 = pc') (q : Go p l e R s m args below meth c n0 Q h cells slots (mkF m pc' Ls' st)) : Go p l e R s m args below meth c n0 Q h cells slots (mkF m pc Ls (.int x :: st)) := by
  subst hp
  exact q.step fun T A t r => XS.istoreN A C.1 rfl (hb C.2.1 hd) rfl hl r
theorem g_istore (C : Cx p s m meth c Z own nm code ret maxL) {k : Nat} {x : Int32} (hd : decode code pc = .ok (.istore k, 2)) (hl : storeLocals Ls k (.int x) = some Ls') (hp : pc + 2 = pc') (q : Go p l e R s m args below meth c n0 Q h cells slots (mkF m pc' Ls' st)) : Go p l e R s m args below meth c n0 Q h cells slots (mkF m pc Ls (.int x :: st)) := by
  subst hp
  exact q.step fun T A t r => XS.istore A C.1 rfl (hb C.2.1 hd) rfl hl r
theorem g_astoreN (C : Cx p s m meth c Z own nm code ret maxL) {k : Fin 4} {x : Value} (hd : decode code pc = .ok (.astore_n k, 1)) (hv : x.isRef = true) (hl : storeLocals Ls k.val x = some Ls') (hp : pc + 1 = pc') (q : Go p l e R s m args below meth c n0 Q h cells slots (mkF m pc' Ls' st)) : Go p l e R s m args below meth c n0 Q h cells slots (mkF m pc Ls (x :: st)) := by
  subst hp
  exact q.step fun T A t r => XS.astoreN A C.1 rfl (hb C.2.1 hd) rfl hv hl r
theorem g_astore (C : Cx p s m meth c Z own nm code ret maxL) {k : Nat} {x : Value} (hd : decode code pc = .ok (.astore k, 2)) (hv : x.isRef = true) (hl : storeLocals Ls k x = some Ls') (hp : pc + 2 = pc') (q : Go p l e R s m args below meth c n0 Q h cells slots (mkF m pc' Ls' st)) : Go p l e R s m args below meth c n0 Q h cells slots (mkF m pc Ls (x :: st)) := by
  subst hp
  exact q.step fun T A t r => XS.astore A C.1 rfl (hb C.2.1 hd) rfl hv hl r
theorem g_goto (C : Cx p s m meth c Z own nm code ret maxL) {o : Int} (hd : decode code pc = .ok (.goto o, 3)) (ho : 0 ≤ (pc : Int) + o) (hp : ((pc : Int) + o).toNat = pc') (q : Go p l e R s m args below meth c n0 Q h cells slots (mkF m pc' Ls st)) : Go p l e R s m args below meth c n0 Q h cells slots (mkF m pc Ls st) := q.step fun T A t r => XS.goto A C.1 rfl (pc0 := pc) rfl (hb C.2.1 hd) ho hp r
/-- a comparison of two ints: both ways -/
theorem g_icmp (C : Cx p s m meth c Z own nm code ret maxL) {cd : ClassFile.Cond} {x y : Int32} {o : Int} {P : Prop} [Decidable P] (hd : decode code pc = .ok (.if_icmp cd o, 3)) (hc : if_icmp.holds cd x y = decide P) (ho : 0 ≤ (pc : Int) + o) (hp2 : ((pc : Int) + o).toNat = pc2) (hp : pc + 3 = pc')
    (q1 : P → Go p l e R s m args below meth c n0 Q h cells slots (mkF m pc2 Ls st)) (q2 : ¬ P → Go p l e R s m args below meth c n0 Q h cells slots (mkF m pc' Ls st)) : Go p l e R s m args below meth c n0 Q h cells slots (mkF m pc Ls (.int y :: .int x :: st)) := by
  subst hp
  by_cases hP : P
  · exact (q1 hP).step fun T A t r => XS.icmpYes A C.1 rfl (pc0 := pc) rfl (hb C.2.1 hd) rfl (hc.trans (decide_eq_true hP)) ho hp2 r
  · exact (q2 hP).step fun T A t r => XS.icmpNo A C.1 rfl (hb C.2.1 hd) rfl (hc.trans (decide_eq_false hP)) r
/-- a comparison of an int with 0: both ways -/
theorem g_if (C : Cx p s m meth c Z own nm code ret maxL) {cd : ClassFile.Cond} {x : Int32} {o : Int} {P : Prop} [Decidable P] (hd : decode code pc = .ok (.ifCond cd o, 3)) (hc : if_icmp.holds cd x 0 = decide P) (ho : 0 ≤ (pc : Int) + o) (hp2 : ((pc : Int) + o).toNat = pc2) (hp : pc + 3 = pc')
    (q1 : P → Go p l e R s m args below meth c n0 Q h cells slots (mkF m pc2 Ls st)) (q2 : ¬ P → Go p l e R s m args below meth c n0 Q h cells slots (mkF m pc' Ls st)) : Go p l e R s m args below meth c n0 Q h cells slots (mkF m pc Ls (.int x :: st)) := by
  subst hp
  by_cases hP : P
  · exact (q1 hP).step fun T A t r => XS.ifYes A C.1 rfl (pc0 := pc) rfl (hb C.2.1 hd) rfl ((if0 cd x).trans (hc.trans (decide_eq_true hP))) ho hp2 r
  · exact (q2 hP).step fun T A t r => XS.ifNo A C.1 rfl (hb C.2.1 hd) rfl ((if0 cd x).trans (hc.trans (decide_eq_false hP))) r
theorem c_lt (x y : Int32) : if_icmp.holds .lt x y = decide (x < y) := by
  by_cases q : x < y
  · exact (tlt q).1.trans (decide_eq_true q).symm
  · exact (flt q).1.trans (decide_eq_false q).symm
theorem c_ge (x y : Int32) : if_icmp.holds .ge x y = decide (¬ x < y) := by
  by_cases q : x < y
  · exact (tlt q).2.1.trans (decide_eq_false (not_not_intro q)).symm
  · exact (flt q).2.1.trans (decide_eq_true q).symm
theorem c_gt (x y : Int32) : if_icmp.holds .gt x y = decide (y < x) := by
  by_cases q : y < x
  · exact (tlt q).2.2.1.trans (decide_eq_true q).symm
  · exact (flt q).2.2.1.trans (decide_eq_false q).symm
theorem c_le (x y : Int32) : if_icmp.holds .le x y = decide (¬ y < x) := by
  by_cases q : y < x
  · exact (tlt q).2.2.2.trans (decide_eq_false (not_not_intro q)).symm
  · exact (flt q).2.2.2.trans (decide_eq_true q).symm
theorem c_eq (x y : Int32) : if_icmp.holds .eq x y = decide (x = y) := by
  by_cases q : x = y
  · exact (teq q).1.trans (decide_eq_true q).symm
  · exact (feq q).1.trans (decide_eq_false q).symm
theorem c_ne (x y : Int32) : if_icmp.holds .ne x y = decide (¬ x = y) := by
  by_cases q : x = y
  · exact (teq q).2.trans (decide_eq_false (not_not_intro q)).symm
  · exact (feq q).2.trans (decide_eq_true q).symm
/-- a fork of what is returned -/
theorem Go.pos {H : Heap → Prop} {P : Prop} [Decidable P] {a b : Int32} {g : JFrame} (q : Go p l e R s m args below meth c n0 (Ret n0 H a) h cells slots g) (hP : P) : Go p l e R s m args below meth c n0 (Ret n0 H (if P then a else b)) h cells slots g := by rw [if_pos hP]; exact q
theorem Go.neg {H : Heap → Prop} {P : Prop} [Decidable P] {a b : Int32} {g : JFrame} (q : Go p l e R s m args below meth c n0 (Ret n0 H b) h cells slots g) (hP : ¬ P) : Go p l e R s m args below meth c n0 (Ret n0 H (if P then a else b)) h cells slots g := by rw [if_neg hP]; exact q
theorem Go.cast {H : Heap → Prop} {a b : Int32} {g : JFrame} (q : Go p l e R s m args below meth c n0 (Ret n0 H a) h cells slots g) (hab : a = b) : Go p l e R s m args below meth c n0 (Ret n0 H b) h cells slots g := hab ▸ q
theorem g_retZ {H : Heap → Prop} (C : Cx p s m meth c Z own nm code (some .boolean) maxL) {z r : Int32} (hd : decode code pc = .ok (.ireturn, 1)) (hz : nar .boolean z = r) (hH : H h) (hc : cells ≤ R.cells) (hs : slots ≤ R.slots) : Go p l e R s m args below meth c n0 (Ret n0 H r) h cells slots (mkF m pc Ls (.int z :: st)) := fun T L X eT N => by
  obtain ⟨-, -, -, -, -, hret, hlk, -⟩ := id C
  obtain ⟨fs, hr, hrun, hended, hW, hsame⟩ := X.leave (v := some (.int (nar .boolean z))) (fun q => by rw [hret] at q; cases q) hlk
  exact ⟨_, _, retN X C.1 (t := .boolean) hret (by simp) (hb C.2.1 hd) hr, hrun, hended, _, L, rfl, ⟨by rw [hz], N, by show H T.heap; rw [eT]; exact hH⟩, ⟨_, rfl⟩, hW, hsame.mono hc hs⟩
theorem g_retI {H : Heap → Prop} (C : Cx p s m meth c Z own nm code (some .int) maxL) {z : Int32} (hd : decode code pc = .ok (.ireturn, 1)) (hH : H h) (hc : cells ≤ R.cells) (hs : slots ≤ R.slots) : Go p l e R s m args below meth c n0 (Ret n0 H z) h cells slots (mkF m pc Ls (.int z :: st)) := fun T L X eT N => by
  obtain ⟨-, -, -, -, -, hret, hlk, -⟩ := id C
  obtain ⟨fs, hr, hrun, hended, hW, hsame⟩ := X.leave (v := some (.int z)) (fun q => by rw [hret] at q; cases q) hlk
  exact ⟨_, _, retOut X C.1 hret rfl (Or.inl ⟨rfl, Or.inl rfl, z, rfl⟩) (hb C.2.1 hd) hr, hrun, hended, _, L, rfl, ⟨rfl, N, by show H T.heap; rw [eT]; exact hH⟩, ⟨_, rfl⟩, hW, hsame.mono hc hs⟩
/-- a static call, paid by the callee's contract; the callee makes at most rm.cells cells and rm.slots slots -/
theorem g_callS (C : Cx p s m meth c Z own nm code ret maxL) {i : Nat} {y : MethodName} {bytes : ByteArray} {ml : Nat} {rt : Option FieldType} {rm : Room} {as' : List Value} {Qc : Option Value → Heap → List Loc → Prop} (W : Nat) (w1 : (Jvm.Cond.methodLink own i y).before a0 Z = true) (w2 : (Jvm.Cond.static y).before a0 Z = true) (w3 : (Jvm.Cond.initialized y.cls).before a0 Z = true) (w4 : (Jvm.Cond.code y bytes ml rt).before a0 Z = true)
    (hy : y.cls ≠ "java/lang/invoke/MethodHandle" ∧ y.cls ≠ "java/lang/invoke/VarHandle") (hM : Con l Z y bytes ml rt rm [] as'.toArray h Qc) (hf : rm.frames + 1 ≤ R.frames) (hl : W + (ml + 11) + rm.locals ≤ R.locals) (hrc : cells + rm.cells ≤ R.cells) (hrs : slots + rm.slots ≤ R.slots) {ps : List FieldType} {rr : Option FieldType} (hpd : parseMethodDescriptor y.desc = some ⟨ps, rr⟩) (hlen : as'.length = ps.length)
    (hsz : Ls.size = maxL) {stk : List Value} (hst : stk = as'.reverse ++ st) (hW : (st.map fun v => v.category).sum ≤ W) (hd : decode code pc = .ok (.invokestatic i, 3)) (hp : pc + 3 = pc')
    (q : ∀ v h' L', Qc v h' L' → (Fr n0 L' ∧ Go p l e R s m args below meth c n0 Q h' (cells + rm.cells) (slots + rm.slots) (mkF m pc' Ls (v.toList ++ st)))) : Go p l e R s m args below meth c n0 Q h cells slots (mkF m pc Ls stk) := by
  intro T L X eT N
  subst hp
  obtain ⟨hx, hby, hml, hown, -, hret, hlk, hZ⟩ := id C
  obtain ⟨v, _, ⟨T1, L1, k1, n1⟩, -, X1, ⟨Lc, hQ, l1, y1, z1⟩, st1⟩ := Jvm.LawKit.callS X hx (y := y) hown (mvT hZ w1) (mvT hZ w2) (mvT hZ w3) (mvT hZ w4) hy (backOf (W := W) hM hZ w4 w3 hf hl) (g := mkF m pc Ls stk) rfl (hsz.trans hml.symm) (argsL := as') (rest := st) (lenOf hpd hlen) hst (by show 2 * 0 + _ ≤ _; omega) (hb hby hd) (fun _ _ => ⟨rfl, eT, hrc, hrs⟩)
  dsimp only [Pt.U, Pt.locs, Pt.cells, Pt.slots] at X1 l1 y1 z1 st1 hQ
  subst l1 y1 z1
  obtain ⟨hN, hG⟩ := q v _ Lc hQ
  obtain ⟨t, o, k, r⟩ := hG T1 _ X1 rfl (N.app hN)
  exact ⟨t, o, st1 t k, r⟩
/-- a static call of a method that computes an int and leaves the heap as it was -/
theorem g_callP (C : Cx p s m meth c Z own nm code ret maxL) {i : Nat} {y : MethodName} {bytes : ByteArray} {ml : Nat} {rt : Option FieldType} {rm : Room} {as' : List Value} {z : Int32} (W : Nat) (w1 : (Jvm.Cond.methodLink own i y).before a0 Z = true) (w2 : (Jvm.Cond.static y).before a0 Z = true) (w3 : (Jvm.Cond.initialized y.cls).before a0 Z = true) (w4 : (Jvm.Cond.code y bytes ml rt).before a0 Z = true)
    (hy : y.cls ≠ "java/lang/invoke/MethodHandle" ∧ y.cls ≠ "java/lang/invoke/VarHandle") (hM : Con l Z y bytes ml rt rm [] as'.toArray h (Ret n0 (· = h) z)) (hf : rm.frames + 1 ≤ R.frames) (hl : W + (ml + 11) + rm.locals ≤ R.locals) (hrc : rm.cells = 0) (hrs : rm.slots = 0) (hcl : cells ≤ R.cells) (hsl : slots ≤ R.slots) {ps : List FieldType} {rr : Option FieldType} (hpd : parseMethodDescriptor y.desc = some ⟨ps, rr⟩) (hlen : as'.length = ps.length)
    (hsz : Ls.size = maxL) {stk : List Value} (hst : stk = as'.reverse ++ st) (hW : (st.map fun v => v.category).sum ≤ W) (hd : decode code pc = .ok (.invokestatic i, 3)) (hp : pc + 3 = pc')
    (q : Go p l e R s m args below meth c n0 Q h cells slots (mkF m pc' Ls (.int z :: st))) : Go p l e R s m args below meth c n0 Q h cells slots (mkF m pc Ls stk) := by
  refine g_callS C W w1 w2 w3 w4 hy hM hf hl (by rw [hrc]; exact hcl) (by rw [hrs]; exact hsl) hpd hlen hsz hst hW hd hp ?_
  rintro v h' L' ⟨rfl, hN, rfl⟩
  refine ⟨hN, ?_⟩
  rw [hrc, hrs]
  exact q
end Steps
end Jvm.OwnGo
namespace Jvm.OwnGo
open Sem ClassFile Op Lib Jvm.Stand Jvm.Free Jvm.LawKit Jvm.RoadKit
/-- the int array at a holds just vs -/
def IA (Z : State) (h : Heap) (a : Addr) (vs : List Int32) : Prop := ∃ cl : Cell, Arr Z h a cl .int ∧ cl.slots = (vs.map Value.int).toArray
theorem IA.ext {Z : State} {h h' : Heap} {a : Addr} {vs : List Int32} (I : IA Z h a vs) (E : Ext h h') : IA Z h' a vs := by
  obtain ⟨cl, A, S⟩ := I
  exact ⟨cl, A.ext E, S⟩
theorem IA.other {Z : State} {h h' : Heap} {a b : Addr} {sl : Nat} {v : Value} {vs : List Int32} (I : IA Z h a vs) (W : Wr h h' b sl v) (q : a ≠ b) : IA Z h' a vs := by
  obtain ⟨cl, A, S⟩ := I
  exact ⟨cl, A.other W q, S⟩
theorem IA.lt {Z : State} {h : Heap} {a : Addr} {vs : List Int32} (I : IA Z h a vs) : a < h.size := by
  obtain ⟨cl, A, S⟩ := I
  exact A.lt
theorem IA.set {Z : State} {h h' : Heap} {a : Addr} {j : Nat} {x : Int32} {vs : List Int32} (I : IA Z h a vs) (W : Wr h h' a j (.int x)) : IA Z h' a (vs.set j x) := by
  obtain ⟨cl, A, S⟩ := I
  refine ⟨_, A.same W, ?_⟩
  show cl.slots.setIfInBounds j (.int x) = _
  rw [S, List.setIfInBounds_toArray, List.map_set]
theorem IA.ne {Z : State} {h : Heap} {a b : Addr} {C : String} {vs : List Int32} {a0 : Array Value} {k : Nat} (I : IA Z h b vs) (F : Exa Z h a C) (wi : (Jvm.Cond.instantiable C k).before a0 Z = true) : a ≠ b := by
  obtain ⟨cl, A, S⟩ := I
  exact ne_arr F wi A
/-- a place of a list, by an int -/
theorem inb_lt {j : Int32} {n : Nat} {k : Nat} (h1 : j.toInt = k) (h2 : k < n) : ¬ (j < 0 ∨ n ≤ j.toNatClampNeg) := by
  simp only [Int32.lt_iff_toInt_lt, Int32.toNatClampNeg, Int32.reduceToInt]
  omega
theorem clamp_of {j : Int32} {k : Nat} (h1 : j.toInt = k) : j.toNatClampNeg = k := by
  simp only [Int32.toNatClampNeg]
  omega
section Objs
variable {p : Program} {l : Launch} {e : Env} {R : Room} {s : State} {m : MethodId} {args : Array Value} {below : List Frame} {meth : Method} {c : Code} {n0 : Nat} {Q : Option Value → Heap → List Loc → Prop} {h : Heap} {cells slots : Nat} {Z : State} {own nm : String} {code : ByteArray} {ret : Option FieldType} {maxL : Nat} {pc pc' pc2 : Nat} {Ls Ls' : Array Slot} {st : List Value} {a0 : Array Value}
theorem g_newIA (C : Cx p s m meth c Z own nm code ret maxL) (w : (Jvm.Cond.arrayClass .int).before a0 Z = true) {n : Int32} {k cap : Nat} (hd : decode code pc = .ok (.newarray .int, 2)) (hk : n.toInt = k) (hcap : k ≤ cap) (hk8 : cap * 8 ≤ 536870912) (hc : cells + 1 ≤ R.cells) (hl : slots + cap ≤ R.slots) (hp : pc + 2 = pc')
    (q : ∀ h', Ext h h' → IA Z h' h.size (List.replicate k 0) → Go p l e R s m args below meth c n0 Q h' (cells + 1) (slots + cap) (mkF m pc' Ls (.ref h.size :: st))) : Go p l e R s m args below meth c n0 Q h cells slots (mkF m pc Ls (.int n :: st)) := by
  intro T L X eT N
  subst hp
  obtain ⟨hx, hby, hml, hown, -, hret, hlk, hZ⟩ := id C
  have hck := clamp_of hk
  obtain ⟨T1, h1, cA, X1, e1, E1, A1, st1⟩ := newP X hx hZ (aty := .int) w eT (g := mkF m pc Ls (.int n :: st)) rfl (hb hby hd) rfl (by simp only [Int32.lt_iff_toInt_lt, Int32.reduceToInt]; omega) (cap := cap) (by omega) hk8 hc hl
  obtain ⟨t, o, kk, r⟩ := q h1 E1 ⟨_, A1, by
    show Array.replicate n.toNatClampNeg (defaultValue .int) = _
    rw [hck, List.map_replicate, List.toArray_replicate]; rfl⟩ T1 _ X1 e1 N
  exact ⟨t, o, st1 t kk, r⟩
theorem g_stIA (C : Cx p s m meth c Z own nm code ret maxL) {a : Addr} {vs : List Int32} {j x : Int32} {k : Nat} (I : IA Z h a vs) (hn0 : n0 ≤ a) (hj : j.toInt = k) (hk : k < vs.length) (hd : decode code pc = .ok (.iastore, 1)) (hp : pc + 1 = pc')
    (q : ∀ h', Wr h h' a k (.int x) → Go p l e R s m args below meth c n0 Q h' cells slots (mkF m pc' Ls st)) : Go p l e R s m args below meth c n0 Q h cells slots (mkF m pc Ls (.int x :: .int j :: .ref a :: st)) := by
  intro T L X eT N
  subst hp
  obtain ⟨hx, hby, hml, hown, -, hret, hlk, hZ⟩ := id C
  obtain ⟨cl, A, S⟩ := I
  have hsz : cl.slots.size = vs.length := by rw [S]; simp
  obtain ⟨T1, h1, X1, e1, W1, st1⟩ := stI X hx hZ eT A (j := j) (x := x) (by rw [hsz]; exact inb_lt hj hk) (g := mkF m pc Ls (.int x :: .int j :: .ref a :: st)) rfl rfl (hb hby hd)
  obtain ⟨t, o, kk, r⟩ := q h1 (by rw [← clamp_of hj]; exact W1) T1 _ X1 e1 (Fr.snoc X1 N hn0)
  exact ⟨t, o, st1 t kk, r⟩
theorem g_ldIA (C : Cx p s m meth c Z own nm code ret maxL) {a : Addr} {vs : List Int32} {j v : Int32} {k : Nat} (I : IA Z h a vs) (hj : j.toInt = k) (hv : vs[k]? = some v) (hd : decode code pc = .ok (.iaload, 1)) (hp : pc + 1 = pc')
    (q : Go p l e R s m args below meth c n0 Q h cells slots (mkF m pc' Ls (.int v :: st))) : Go p l e R s m args below meth c n0 Q h cells slots (mkF m pc Ls (.int j :: .ref a :: st)) := by
  intro T L X eT N
  subst hp
  obtain ⟨hx, hby, hml, hown, -, hret, hlk, hZ⟩ := id C
  obtain ⟨cl, A, S⟩ := I
  have hsz : cl.slots.size = vs.length := by rw [S]; simp
  obtain ⟨hlt, -⟩ := List.getElem?_eq_some_iff.mp hv
  obtain ⟨t, o, kk, r⟩ := q T L X eT N
  exact ⟨t, o, X.iaload hx (j := j) (v := .int v) (by rw [eT]; exact A.1) (State.isArrayOf_alike hZ.alike A.2.1) A.2.2 (by rw [hsz]; exact inb_lt hj hlt) (by rw [clamp_of hj, S]; simp [hv]) (g := mkF m pc Ls (.int j :: .ref a :: st)) rfl rfl (hb hby hd) t kk, r⟩
theorem g_lenIA (C : Cx p s m meth c Z own nm code ret maxL) {a : Addr} {vs : List Int32} (I : IA Z h a vs) (hd : decode code pc = .ok (.arraylength, 1)) (hp : pc + 1 = pc')
    (q : Go p l e R s m args below meth c n0 Q h cells slots (mkF m pc' Ls (.int vs.length.toInt32 :: st))) : Go p l e R s m args below meth c n0 Q h cells slots (mkF m pc Ls (.ref a :: st)) := by
  intro T L X eT N
  subst hp
  obtain ⟨hx, hby, hml, hown, -, hret, hlk, hZ⟩ := id C
  obtain ⟨cl, A, S⟩ := I
  have hsz : cl.slots.size = vs.length := by rw [S]; simp
  obtain ⟨t, o, kk, r⟩ := q T L X eT N
  exact ⟨t, o, X.arraylength hx (by rw [eT]; exact A.1) (State.isArrayOf_alike hZ.alike A.2.1) (g := mkF m pc Ls (.ref a :: st)) rfl rfl (hb hby hd) t (by rw [hsz]; exact kk), r⟩
theorem g_getF (C : Cx p s m meth c Z own nm code ret maxL) {O n d : String} {i : Nat} {a : Addr} {v : Value} (w : (Jvm.Cond.fieldLink own i O n d).before a0 Z = true) (F : Fld Z h a O n d v) (hd : decode code pc = .ok (.getfield i, 3)) (hp : pc + 3 = pc')
    (q : Go p l e R s m args below meth c n0 Q h cells slots (mkF m pc' Ls (v :: st))) : Go p l e R s m args below meth c n0 Q h cells slots (mkF m pc Ls (.ref a :: st)) := by
  intro T L X eT N
  subst hp
  obtain ⟨hx, hby, hml, hown, -, hret, hlk, hZ⟩ := id C
  obtain ⟨T1, X1, e1, st1⟩ := getF X hx hZ hown (host := "") (Or.inl w) Via.refl eT F (g := mkF m pc Ls (.ref a :: st)) rfl rfl (hb hby hd)
  obtain ⟨t, o, kk, r⟩ := q T1 L X1 e1 N
  exact ⟨t, o, st1 t kk, r⟩
theorem g_putF (C : Cx p s m meth c Z own nm code ret maxL) {O n d D : String} {i kk : Nat} {ty : FieldType} {a : Addr} {v old : Value} (w : (Jvm.Cond.fieldLink own i O n d).before a0 Z = true) (F : Fld Z h a O n d old) (E : Exa Z h a D) (hl : (Jvm.Cond.lays D O n d).before a0 Z = true ∨ ((Jvm.Cond.laysFinal D O n d).before a0 Z = true ∧ own = O ∧ nm = "<init>")) (wi : (Jvm.Cond.instantiable D kk).before a0 Z = true)
    (hty : parseFieldDescriptor d = some ty) (hv : narrow ty v = v) (hf : fits ty v = true) (hn0 : n0 ≤ a) (hd : decode code pc = .ok (.putfield i, 3)) (hp : pc + 3 = pc')
    (q : ∀ h', Wr h h' a (Jvm.RoadKit.slotOf Z O n d) v → Go p l e R s m args below meth c n0 Q h' cells slots (mkF m pc' Ls st)) : Go p l e R s m args below meth c n0 Q h cells slots (mkF m pc Ls (v :: .ref a :: st)) := by
  intro T L X eT N
  subst hp
  obtain ⟨hx, hby, hml, hown, hnm, hret, hlk, hZ⟩ := id C
  obtain ⟨T1, h1, X1, e1, W1, st1⟩ := putF X hx hZ hown (host := "") (Or.inl w) Via.refl eT F E (hl.imp id fun z => ⟨z.1, z.2.1, hnm.trans z.2.2⟩) wi hty hv hf (g := mkF m pc Ls (v :: .ref a :: st)) rfl rfl (hb hby hd)
  obtain ⟨t, o, k, r⟩ := q h1 W1 T1 _ X1 e1 (Fr.snoc X1 N hn0)
  exact ⟨t, o, st1 t k, r⟩
theorem g_newO (C : Cx p s m meth c Z own nm code ret maxL) {D : String} {i n : Nat} (w : (Jvm.Cond.classLink own i D).before a0 Z = true) (wi : (Jvm.Cond.instantiable D n).before a0 Z = true) (wz : (Jvm.Cond.initialized D).before a0 Z = true) (hd : decode code pc = .ok (.new i, 3)) (hc : cells + 1 ≤ R.cells) (hl : slots + n ≤ R.slots) (hp : pc + 3 = pc')
    (q : ∀ h', Ext h h' → Exa Z h' h.size D → (∀ {O nn d : String} {ty : FieldType}, Laid Z a0 D O nn d → parseFieldDescriptor d = some ty → Fld Z h' h.size O nn d (defaultValue ty)) → Go p l e R s m args below meth c n0 Q h' (cells + 1) (slots + n) (mkF m pc' Ls (.ref h.size :: st))) : Go p l e R s m args below meth c n0 Q h cells slots (mkF m pc Ls st) := by
  intro T L X eT N
  subst hp
  obtain ⟨hx, hby, hml, hown, -, hret, hlk, hZ⟩ := id C
  obtain ⟨T1, h1, X1, e1, E1, A1, D1, -, st1⟩ := newO X hx hZ hown w wi wz eT (g := mkF m pc Ls st) rfl (hb hby hd) hc hl
  obtain ⟨t, o, k, r⟩ := q h1 E1 A1 D1 T1 _ X1 e1 N
  exact ⟨t, o, st1 t k, r⟩
theorem g_initO (C : Cx p s m meth c Z own nm code ret maxL) {i : Nat} {a : Addr} (W : Nat) (w1 : (Jvm.Cond.methodLink own i Lib.objectInit).before a0 Z = true) (w2 : (Jvm.Cond.instanceMethod Lib.objectInit).before a0 Z = true) (w3 : (Jvm.Cond.code Lib.objectInit Jvm.Pilot.@@N@@.object_method_1_code 1 none).before a0 Z = true) (hsz : Ls.size = maxL) (hd : decode code pc = .ok (.invokespecial i, 3)) (hf : 1 ≤ R.frames) (hW : (st.map fun v => v.category).sum ≤ W) (hl : W + 12 ≤ R.locals) (hp : pc + 3 = pc')
    (q : Go p l e R s m args below meth c n0 Q h cells slots (mkF m pc' Ls st)) : Go p l e R s m args below meth c n0 Q h cells slots (mkF m pc Ls (.ref a :: st)) := by
  intro T L X eT N
  subst hp
  obtain ⟨hx, hby, hml, hown, -, hret, hlk, hZ⟩ := id C
  obtain ⟨T1, X1, e1, st1⟩ := initO X hx hZ hown w1 w2 w3 eT (g := mkF m pc Ls (.ref a :: st)) rfl (hsz.trans hml.symm) rfl (hb hby hd) hf (W := W) (by show 2 * 0 + _ ≤ _; omega) hl
  obtain ⟨t, o, k, r⟩ := q T1 _ X1 e1 N
  exact ⟨t, o, st1 t k, r⟩
/-- a constructor by its contract -/
theorem g_callI (C : Cx p s m meth c Z own nm code ret maxL) {i : Nat} {y : MethodName} {bytes : ByteArray} {ml : Nat} {rm : Room} {a : Addr} {as' : List Value} {Qc : Option Value → Heap → List Loc → Prop} (W : Nat) (hy1 : y.name = "<init>") (w1 : (Jvm.Cond.methodLink own i y).before a0 Z = true) (w2 : (Jvm.Cond.instanceMethod y).before a0 Z = true) (w3 : (Jvm.Cond.initialized y.cls).before a0 Z = true) (w4 : (Jvm.Cond.code y bytes ml none).before a0 Z = true)
    (hy : y.cls ≠ "java/lang/invoke/MethodHandle" ∧ y.cls ≠ "java/lang/invoke/VarHandle") (hM : Con l Z y bytes ml none rm [] (.ref a :: as').toArray h Qc) (hf : rm.frames + 1 ≤ R.frames) (hl : W + (ml + 11) + rm.locals ≤ R.locals) (hrc : cells + rm.cells ≤ R.cells) (hrs : slots + rm.slots ≤ R.slots) {ps : List FieldType} {rr : Option FieldType} (hpd : parseMethodDescriptor y.desc = some ⟨ps, rr⟩) (hlen : as'.length = ps.length)
    (hsz : Ls.size = maxL) {stk : List Value} (hst : stk = as'.reverse ++ .ref a :: st) (hW : (st.map fun v => v.category).sum ≤ W) (hd : decode code pc = .ok (.invokespecial i, 3)) (hp : pc + 3 = pc')
    (q : ∀ v h' L', Qc v h' L' → (Fr n0 L' ∧ Go p l e R s m args below meth c n0 Q h' (cells + rm.cells) (slots + rm.slots) (mkF m pc' Ls (v.toList ++ st)))) : Go p l e R s m args below meth c n0 Q h cells slots (mkF m pc Ls stk) := by
  intro T L X eT N
  subst hp
  obtain ⟨hx, hby, hml, hown, -, hret, hlk, hZ⟩ := id C
  obtain ⟨v, _, ⟨T1, L1, k1, n1⟩, -, X1, ⟨Lc, hQ, l1, y1, z1⟩, st1⟩ := X.specialBack hx (y := y) hy1 hown (mvT hZ w1) (mvT hZ w2) (mvT hZ w4) hy (backOf (W := W) hM hZ w4 w3 hf hl) (g := mkF m pc Ls stk) rfl (hsz.trans hml.symm) (Steps.refl _) (a := a) (argsL := as') (rest := st) (lenOf hpd hlen) hst (by show 2 * 0 + _ ≤ _; omega) (hb hby hd) (fun _ _ => ⟨rfl, eT, hrc, hrs⟩)
  dsimp only [Pt.U, Pt.locs, Pt.cells, Pt.slots] at X1 l1 y1 z1 st1 hQ
  subst l1 y1 z1
  obtain ⟨hN, hG⟩ := q v _ Lc hQ
  obtain ⟨t, o, k, r⟩ := hG T1 _ X1 rfl (N.app hN)
  exact ⟨t, o, st1.trans k, r⟩
/-- an instance method by its contract -/
theorem g_callV (C : Cx p s m meth c Z own nm code ret maxL) {i : Nat} {y : MethodName} {bytes : ByteArray} {ml : Nat} {rt : Option FieldType} {rm : Room} {a : Addr} {as' : List Value} {Qc : Option Value → Heap → List Loc → Prop} (W : Nat) (w1 : (Jvm.Cond.methodLink own i y).before a0 Z = true) (w2 : (Jvm.Cond.declares y).before a0 Z = true) (w5 : (Jvm.Cond.selects y.cls y y).before a0 Z = true) (w6 : (Jvm.Cond.instanceMethod y).before a0 Z = true) (w3 : (Jvm.Cond.initialized y.cls).before a0 Z = true) (w4 : (Jvm.Cond.code y bytes ml rt).before a0 Z = true)
    (hy : y.cls ≠ "java/lang/invoke/MethodHandle" ∧ y.cls ≠ "java/lang/invoke/VarHandle") (E : Exa Z h a y.cls) (hM : Con l Z y bytes ml rt rm [] (.ref a :: as').toArray h Qc) (hf : rm.frames + 1 ≤ R.frames) (hl : W + (ml + 11) + rm.locals ≤ R.locals) (hrc : cells + rm.cells ≤ R.cells) (hrs : slots + rm.slots ≤ R.slots) {ps : List FieldType} {rr : Option FieldType} (hpd : parseMethodDescriptor y.desc = some ⟨ps, rr⟩) (hlen : as'.length = ps.length)
    (hsz : Ls.size = maxL) {stk : List Value} (hst : stk = as'.reverse ++ .ref a :: st) (hW : (st.map fun v => v.category).sum ≤ W) (hd : decode code pc = .ok (.invokevirtual i, 3)) (hp : pc + 3 = pc')
    (q : ∀ v h' L', Qc v h' L' → (Fr n0 L' ∧ Go p l e R s m args below meth c n0 Q h' (cells + rm.cells) (slots + rm.slots) (mkF m pc' Ls (v.toList ++ st)))) : Go p l e R s m args below meth c n0 Q h cells slots (mkF m pc Ls stk) := by
  intro T L X eT N
  subst hp
  obtain ⟨hx, hby, hml, hown, -, hret, hlk, hZ⟩ := id C
  obtain ⟨cq, kq, qa, qb, qc⟩ := isOf hZ eT E
  obtain ⟨v, _, ⟨T1, L1, k1, n1⟩, -, X1, ⟨Lc, hQ, l1, y1, z1⟩, st1⟩ := X.virtualBack hx (y := y) (z := y) hown (mvT hZ w1) (mvT hZ w2) (notFace_of_selects (args := #[]) (mvT hZ w5)) (mvT hZ w5) (mvT hZ w6) hy (backOf (W := W) hM hZ w4 w3 hf hl) qa qc (g := mkF m pc Ls stk) rfl (hsz.trans hml.symm) (Steps.refl _) (argsL := as') (rest := st) (lenOf hpd hlen) hst (by show 2 * 0 + _ ≤ _; omega) (hb hby hd) (fun _ _ => ⟨rfl, eT, hrc, hrs⟩)
  dsimp only [Pt.U, Pt.locs, Pt.cells, Pt.slots] at X1 l1 y1 z1 st1 hQ
  subst l1 y1 z1
  obtain ⟨hN, hG⟩ := q v _ Lc hQ
  obtain ⟨t, o, k, r⟩ := hG T1 _ X1 rfl (N.app hN)
  exact ⟨t, o, st1.trans k, r⟩
/-- nothing is returned; the heap is as H says; nothing old is written -/
def RetV (n0 : Nat) (H : Heap → Prop) (v : Option Value) (hh : Heap) (L : List Loc) : Prop := v = none ∧ Fr n0 L ∧ H hh
/-- a reference is returned, of which and of the heap H speaks -/
def RetA (n0 : Nat) (H : Addr → Heap → Prop) (v : Option Value) (hh : Heap) (L : List Loc) : Prop := Fr n0 L ∧ ∃ a, v = some (.ref a) ∧ H a hh
theorem g_retV {H : Heap → Prop} (C : Cx p s m meth c Z own nm code none maxL) (hd : decode code pc = .ok (.return_, 1)) (hH : H h) (hc : cells ≤ R.cells) (hs : slots ≤ R.slots) : Go p l e R s m args below meth c n0 (RetV n0 H) h cells slots (mkF m pc Ls []) := fun T L X eT N => by
  obtain ⟨-, -, -, -, -, hret, hlk, -⟩ := id C
  obtain ⟨fs, hr, hrun, hended, hW, hsame⟩ := X.leave (v := none) (fun _ => rfl) hlk
  exact ⟨_, _, X.returnOut C.1 hret (hb C.2.1 hd) hr, hrun, hended, _, L, rfl, ⟨rfl, N, by show H T.heap; rw [eT]; exact hH⟩, ⟨_, rfl⟩, hW, hsame.mono hc hs⟩
theorem g_retA {H : Addr → Heap → Prop} {ty : FieldType} (C : Cx p s m meth c Z own nm code (some (.array ty)) maxL) {a : Addr} (hd : decode code pc = .ok (.areturn, 1)) (hH : H a h) (hc : cells ≤ R.cells) (hs : slots ≤ R.slots) : Go p l e R s m args below meth c n0 (RetA n0 H) h cells slots (mkF m pc Ls (.ref a :: st)) := fun T L X eT N => by
  obtain ⟨-, -, -, -, -, hret, hlk, -⟩ := id C
  obtain ⟨fs, hr, hrun, hended, hW, hsame⟩ := X.leave (v := some (.ref a)) (fun q => by rw [hret] at q; cases q) hlk
  exact ⟨_, _, retOut X C.1 hret rfl (Or.inr (Or.inr (Or.inr (Or.inr ⟨rfl, rfl, rfl⟩)))) (hb C.2.1 hd) hr, hrun, hended, _, L, rfl, ⟨N, a, rfl, by show H a T.heap; rw [eT]; exact hH⟩, ⟨_, rfl⟩, hW, hsame.mono hc hs⟩
theorem g_dupX1 (C : Cx p s m meth c Z own nm code ret maxL) {x y : Value} (hd : decode code pc = .ok (.dup_x1, 1)) (hx : x.category = 1) (hy : y.category = 1) (hp : pc + 1 = pc') (q : Go p l e R s m args below meth c n0 Q h cells slots (mkF m pc' Ls (x :: y :: x :: st))) : Go p l e R s m args below meth c n0 Q h cells slots (mkF m pc Ls (x :: y :: st)) := by
  subst hp
  exact q.step fun T A t r => XT.dupX1 A C.1 rfl (hb C.2.1 hd) rfl hx hy r
/-- the same, of a method that returns nothing -/
theorem g_callVV {H : Heap → Prop} (C : Cx p s m meth c Z own nm code ret maxL) {i : Nat} {y : MethodName} {bytes : ByteArray} {ml : Nat} {rt : Option FieldType} {rm : Room} {a : Addr} {as' : List Value} (W : Nat) (w1 : (Jvm.Cond.methodLink own i y).before a0 Z = true) (w2 : (Jvm.Cond.declares y).before a0 Z = true) (w5 : (Jvm.Cond.selects y.cls y y).before a0 Z = true) (w6 : (Jvm.Cond.instanceMethod y).before a0 Z = true) (w3 : (Jvm.Cond.initialized y.cls).before a0 Z = true) (w4 : (Jvm.Cond.code y bytes ml rt).before a0 Z = true)
    (hy : y.cls ≠ "java/lang/invoke/MethodHandle" ∧ y.cls ≠ "java/lang/invoke/VarHandle") (E : Exa Z h a y.cls) (hM : Con l Z y bytes ml rt rm [] (.ref a :: as').toArray h (RetV n0 H)) (hf : rm.frames + 1 ≤ R.frames) (hl : W + (ml + 11) + rm.locals ≤ R.locals) (hrc : cells + rm.cells ≤ R.cells) (hrs : slots + rm.slots ≤ R.slots) {ps : List FieldType} {rr : Option FieldType} (hpd : parseMethodDescriptor y.desc = some ⟨ps, rr⟩) (hlen : as'.length = ps.length)
    (hsz : Ls.size = maxL) {stk : List Value} (hst : stk = as'.reverse ++ .ref a :: st) (hW : (st.map fun v => v.category).sum ≤ W) (hd : decode code pc = .ok (.invokevirtual i, 3)) (hp : pc + 3 = pc')
    (q : ∀ h', H h' → Go p l e R s m args below meth c n0 Q h' (cells + rm.cells) (slots + rm.slots) (mkF m pc' Ls st)) : Go p l e R s m args below meth c n0 Q h cells slots (mkF m pc Ls stk) :=
  g_callV C W w1 w2 w5 w6 w3 w4 hy E hM hf hl hrc hrs hpd hlen hsz hst hW hd hp (by rintro v h' L' ⟨rfl, N, hH⟩; exact ⟨N, q h' hH⟩)
/-- the same, of a method that returns an int -/
theorem g_callVI {H : Heap → Prop} {r : Int32} (C : Cx p s m meth c Z own nm code ret maxL) {i : Nat} {y : MethodName} {bytes : ByteArray} {ml : Nat} {rt : Option FieldType} {rm : Room} {a : Addr} {as' : List Value} (W : Nat) (w1 : (Jvm.Cond.methodLink own i y).before a0 Z = true) (w2 : (Jvm.Cond.declares y).before a0 Z = true) (w5 : (Jvm.Cond.selects y.cls y y).before a0 Z = true) (w6 : (Jvm.Cond.instanceMethod y).before a0 Z = true) (w3 : (Jvm.Cond.initialized y.cls).before a0 Z = true) (w4 : (Jvm.Cond.code y bytes ml rt).before a0 Z = true)
    (hy : y.cls ≠ "java/lang/invoke/MethodHandle" ∧ y.cls ≠ "java/lang/invoke/VarHandle") (E : Exa Z h a y.cls) (hM : Con l Z y bytes ml rt rm [] (.ref a :: as').toArray h (Ret n0 H r)) (hf : rm.frames + 1 ≤ R.frames) (hl : W + (ml + 11) + rm.locals ≤ R.locals) (hrc : cells + rm.cells ≤ R.cells) (hrs : slots + rm.slots ≤ R.slots) {ps : List FieldType} {rr : Option FieldType} (hpd : parseMethodDescriptor y.desc = some ⟨ps, rr⟩) (hlen : as'.length = ps.length)
    (hsz : Ls.size = maxL) {stk : List Value} (hst : stk = as'.reverse ++ .ref a :: st) (hW : (st.map fun v => v.category).sum ≤ W) (hd : decode code pc = .ok (.invokevirtual i, 3)) (hp : pc + 3 = pc')
    (q : ∀ h', H h' → Go p l e R s m args below meth c n0 Q h' (cells + rm.cells) (slots + rm.slots) (mkF m pc' Ls (.int r :: st))) : Go p l e R s m args below meth c n0 Q h cells slots (mkF m pc Ls stk) :=
  g_callV C W w1 w2 w5 w6 w3 w4 hy E hM hf hl hrc hrs hpd hlen hsz hst hW hd hp (by rintro v h' L' ⟨rfl, N, hH⟩; exact ⟨N, q h' hH⟩)
/-- a constructor by its contract -/
theorem g_callIV {H : Heap → Prop} (C : Cx p s m meth c Z own nm code ret maxL) {i : Nat} {y : MethodName} {bytes : ByteArray} {ml : Nat} {rm : Room} {a : Addr} {as' : List Value} (W : Nat) (hy1 : y.name = "<init>") (w1 : (Jvm.Cond.methodLink own i y).before a0 Z = true) (w2 : (Jvm.Cond.instanceMethod y).before a0 Z = true) (w3 : (Jvm.Cond.initialized y.cls).before a0 Z = true) (w4 : (Jvm.Cond.code y bytes ml none).before a0 Z = true)
    (hy : y.cls ≠ "java/lang/invoke/MethodHandle" ∧ y.cls ≠ "java/lang/invoke/VarHandle") (hM : Con l Z y bytes ml none rm [] (.ref a :: as').toArray h (RetV n0 H)) (hf : rm.frames + 1 ≤ R.frames) (hl : W + (ml + 11) + rm.locals ≤ R.locals) (hrc : cells + rm.cells ≤ R.cells) (hrs : slots + rm.slots ≤ R.slots) {ps : List FieldType} {rr : Option FieldType} (hpd : parseMethodDescriptor y.desc = some ⟨ps, rr⟩) (hlen : as'.length = ps.length)
    (hsz : Ls.size = maxL) {stk : List Value} (hst : stk = as'.reverse ++ .ref a :: st) (hW : (st.map fun v => v.category).sum ≤ W) (hd : decode code pc = .ok (.invokespecial i, 3)) (hp : pc + 3 = pc')
    (q : ∀ h', H h' → Go p l e R s m args below meth c n0 Q h' (cells + rm.cells) (slots + rm.slots) (mkF m pc' Ls st)) : Go p l e R s m args below meth c n0 Q h cells slots (mkF m pc Ls stk) :=
  g_callI C W hy1 w1 w2 w3 w4 hy hM hf hl hrc hrs hpd hlen hsz hst hW hd hp (by rintro v h' L' ⟨rfl, N, hH⟩; exact ⟨N, q h' hH⟩)
/-- a static call that returns a reference -/
theorem g_callSA {H : Addr → Heap → Prop} (C : Cx p s m meth c Z own nm code ret maxL) {i : Nat} {y : MethodName} {bytes : ByteArray} {ml : Nat} {rt : Option FieldType} {rm : Room} {as' : List Value} (W : Nat) (w1 : (Jvm.Cond.methodLink own i y).before a0 Z = true) (w2 : (Jvm.Cond.static y).before a0 Z = true) (w3 : (Jvm.Cond.initialized y.cls).before a0 Z = true) (w4 : (Jvm.Cond.code y bytes ml rt).before a0 Z = true)
    (hy : y.cls ≠ "java/lang/invoke/MethodHandle" ∧ y.cls ≠ "java/lang/invoke/VarHandle") (hM : Con l Z y bytes ml rt rm [] as'.toArray h (RetA n0 H)) (hf : rm.frames + 1 ≤ R.frames) (hl : W + (ml + 11) + rm.locals ≤ R.locals) (hrc : cells + rm.cells ≤ R.cells) (hrs : slots + rm.slots ≤ R.slots) {ps : List FieldType} {rr : Option FieldType} (hpd : parseMethodDescriptor y.desc = some ⟨ps, rr⟩) (hlen : as'.length = ps.length)
    (hsz : Ls.size = maxL) {stk : List Value} (hst : stk = as'.reverse ++ st) (hW : (st.map fun v => v.category).sum ≤ W) (hd : decode code pc = .ok (.invokestatic i, 3)) (hp : pc + 3 = pc')
    (q : ∀ a h', H a h' → Go p l e R s m args below meth c n0 Q h' (cells + rm.cells) (slots + rm.slots) (mkF m pc' Ls (.ref a :: st))) : Go p l e R s m args below meth c n0 Q h cells slots (mkF m pc Ls stk) :=
  g_callS C W w1 w2 w3 w4 hy hM hf hl hrc hrs hpd hlen hsz hst hW hd hp (by rintro v h' L' ⟨N, a, rfl, hH⟩; exact ⟨N, q a h' hH⟩)
/-- a static call that returns nothing -/
theorem g_callSV {H : Heap → Prop} (C : Cx p s m meth c Z own nm code ret maxL) {i : Nat} {y : MethodName} {bytes : ByteArray} {ml : Nat} {rt : Option FieldType} {rm : Room} {as' : List Value} (W : Nat) (w1 : (Jvm.Cond.methodLink own i y).before a0 Z = true) (w2 : (Jvm.Cond.static y).before a0 Z = true) (w3 : (Jvm.Cond.initialized y.cls).before a0 Z = true) (w4 : (Jvm.Cond.code y bytes ml rt).before a0 Z = true)
    (hy : y.cls ≠ "java/lang/invoke/MethodHandle" ∧ y.cls ≠ "java/lang/invoke/VarHandle") (hM : Con l Z y bytes ml rt rm [] as'.toArray h (RetV n0 H)) (hf : rm.frames + 1 ≤ R.frames) (hl : W + (ml + 11) + rm.locals ≤ R.locals) (hrc : cells + rm.cells ≤ R.cells) (hrs : slots + rm.slots ≤ R.slots) {ps : List FieldType} {rr : Option FieldType} (hpd : parseMethodDescriptor y.desc = some ⟨ps, rr⟩) (hlen : as'.length = ps.length)
    (hsz : Ls.size = maxL) {stk : List Value} (hst : stk = as'.reverse ++ st) (hW : (st.map fun v => v.category).sum ≤ W) (hd : decode code pc = .ok (.invokestatic i, 3)) (hp : pc + 3 = pc')
    (q : ∀ h', H h' → Go p l e R s m args below meth c n0 Q h' (cells + rm.cells) (slots + rm.slots) (mkF m pc' Ls st)) : Go p l e R s m args below meth c n0 Q h cells slots (mkF m pc Ls stk) :=
  g_callS C W w1 w2 w3 w4 hy hM hf hl hrc hrs hpd hlen hsz hst hW hd hp (by rintro v h' L' ⟨rfl, N, hH⟩; exact ⟨N, q h' hH⟩)
end Objs
end Jvm.OwnGo
namespace Jvm.Pilot.@@N@@
open Jvm Jvm.ClassFile Sem Op Lib Jvm.Free Jvm.Stand Jvm.LawKit Jvm.RoadKit Jvm.OwnGo Bundle Jvm.Pilot.@@N@@.Jvm.D
theorem pn1 : plainName "com/example/tasks_to_traces/taskstotraces/search/Ints" = true := by first | (simp [plainName, overriddenIn]; done) | decide +kernel
/-- the list at o holds just vs: its array has 16 places -/
def Lst (Z : State) (n0 : Nat) (h : Heap) (o : Addr) (vs : List Int32) : Prop := ∃ (a : Addr) (us : List Int32), n0 ≤ o ∧ n0 ≤ a ∧ Exa Z h o "com/example/tasks_to_traces/taskstotraces/search/Ints" ∧ Fld Z h o "com/example/tasks_to_traces/taskstotraces/search/Ints" "size" "I" (.int vs.length.toInt32) ∧ Fld Z h o "com/example/tasks_to_traces/taskstotraces/search/Ints" "values" "[I" (.ref a) ∧ IA Z h a (vs ++ us) ∧ (vs ++ us).length = 16
theorem Lst.exa {Z : State} {n0 : Nat} {h : Heap} {o : Addr} {vs : List Int32} (L : Lst Z n0 h o vs) : Exa Z h o "com/example/tasks_to_traces/taskstotraces/search/Ints" := by
  obtain ⟨a, us, -, -, E, -⟩ := L
  exact E
theorem own_len {n : Nat} (hn : n ≤ 16) : n.toInt32.toInt = n := len_toInt (by omega)
theorem own_up (n : Nat) : n.toInt32 + 1 = (n + 1).toInt32 := (Int32.ofNat_add n 1).symm
theorem own_down (n : Nat) : (n + 1).toInt32 - 1 = n.toInt32 := by rw [← own_up]; exact Int32.add_sub_cancel _ _
theorem own_slots {Z : State} {a0 : Array Value} (hw : ∀ d ∈ tables_1, d.before a0 Z = true) : Jvm.RoadKit.slotOf Z "com/example/tasks_to_traces/taskstotraces/search/Ints" "size" "I" ≠ Jvm.RoadKit.slotOf Z "com/example/tasks_to_traces/taskstotraces/search/Ints" "values" "[I" := slot_ne (a0 := a0) (C := "com/example/tasks_to_traces/taskstotraces/search/Ints") (Or.inl (hw _ (List.mem_of_getElem? (i := 19) rfl))) (Or.inl (hw _ (List.mem_of_getElem? (i := 12) rfl))) (by decide) (t := .int) (t' := .array .int) (by decide) (by decide)
theorem d1_0 : decode prog_84_method_1_code 0 = .ok (.aload_n 0, 1) := by decide +kernel
theorem d1_1 : decode prog_84_method_1_code 1 = .ok (.invokespecial 1, 3) := by decide +kernel
theorem d1_4 : decode prog_84_method_1_code 4 = .ok (.aload_n 0, 1) := by decide +kernel
theorem d1_5 : decode prog_84_method_1_code 5 = .ok (.bipush 16, 2) := by decide +kernel
theorem d1_7 : decode prog_84_method_1_code 7 = .ok (.newarray .int, 2) := by decide +kernel
theorem d1_9 : decode prog_84_method_1_code 9 = .ok (.putfield 7, 3) := by decide +kernel
theorem d1_12 : decode prog_84_method_1_code 12 = .ok (.return_, 1) := by decide +kernel
def r1 : Room := { frames := 1, cells := 1, slots := 16, locals := 12 }
theorem pd1 : parseMethodDescriptor "()V" = some ⟨[], none⟩ := by decide +kernel
theorem ef1 (m : MethodId) (o : Addr) : entryFrame m #[(.ref o)] 1 = mkF m 0 #[.val (.ref o)] [] := by first | (simp [entryFrame, mkF, argsToLocals, Value.category]; done) | rfl
set_option maxRecDepth 65536 in
theorem rm1 (l : Launch) (Z : State) (a0 : Array Value) (hw : ∀ d ∈ tables_1, d.before a0 Z = true) (ws : List Jvm.Cond) (n0 : Nat) (h : Heap) (o : Addr) (g0 : n0 ≤ o) (g1 : n0 ≤ h.size) (E : Exa Z h o "com/example/tasks_to_traces/taskstotraces/search/Ints") (FS : Fld Z h o "com/example/tasks_to_traces/taskstotraces/search/Ints" "size" "I" (.int 0)) (FV : Fld Z h o "com/example/tasks_to_traces/taskstotraces/search/Ints" "values" "[I" .null) : Con l Z (⟨"com/example/tasks_to_traces/taskstotraces/search/Ints", "<init>", "()V"⟩ : MethodName) prog_84_method_1_code 1 (none) r1 ws #[(.ref o)] h (RetV n0 (fun h' => Lst Z n0 h' o [])) := by
  refine con_of n0 pn1 (fun m => ef1 m o) fun p e s m below meth c C => ?_
  refine g_aloadN C d1_0 rfl rfl (pc' := 1) rfl ?_
  refine g_initO C 0 (hw _ (List.mem_of_getElem? (i := 7) rfl)) (hw _ (List.mem_of_getElem? (i := 8) rfl)) (hw _ (List.mem_of_getElem? (i := 9) rfl)) rfl d1_1 (by decide) (Nat.le_of_eq rfl) (by decide) (pc' := 4) rfl ?_
  refine g_aloadN C d1_4 rfl rfl (pc' := 5) rfl ?_
  refine g_bipush C d1_5 (v := 16) (by decide) (pc' := 7) rfl ?_
  refine g_newIA C (hw _ (List.mem_of_getElem? (i := 10) rfl)) (k := 16) (cap := 16) d1_7 (by decide) (by decide) (by decide) (by decide) (by decide) (pc' := 9) rfl fun h1 X1 I1 => ?_
  refine g_putF C (hw _ (List.mem_of_getElem? (i := 11) rfl)) (FV.ext X1) (E.ext X1) (Or.inl (hw _ (List.mem_of_getElem? (i := 12) rfl))) (hw _ (List.mem_of_getElem? (i := 2) rfl)) (ty := .array .int) (by decide) rfl rfl g0 d1_9 (pc' := 12) rfl fun h2 W2 => ?_
  refine g_retV C d1_12 ⟨h.size, List.replicate 16 0, g0, g1, (E.ext X1).wr W2, (FS.ext X1).other W2 (Or.inr (own_slots hw)), (FV.ext X1).same W2, I1.other W2 (IA.ne I1 (E.ext X1) (hw _ (List.mem_of_getElem? (i := 2) rfl))).symm, rfl⟩ (by decide) (by decide)
theorem d3_0 : decode prog_84_method_3_code 0 = .ok (.aload_n 0, 1) := by decide +kernel
theorem d3_1 : decode prog_84_method_3_code 1 = .ok (.getfield 23, 3) := by decide +kernel
theorem d3_4 : decode prog_84_method_3_code 4 = .ok (.aload_n 0, 1) := by decide +kernel
theorem d3_5 : decode prog_84_method_3_code 5 = .ok (.getfield 7, 3) := by decide +kernel
theorem d3_8 : decode prog_84_method_3_code 8 = .ok (.arraylength, 1) := by decide +kernel
theorem d3_9 : decode prog_84_method_3_code 9 = .ok (.if_icmp .ne 20, 3) := by decide +kernel
theorem d3_12 : decode prog_84_method_3_code 12 = .ok (.aload_n 0, 1) := by decide +kernel
theorem d3_13 : decode prog_84_method_3_code 13 = .ok (.aload_n 0, 1) := by decide +kernel
theorem d3_14 : decode prog_84_method_3_code 14 = .ok (.getfield 7, 3) := by decide +kernel
theorem d3_17 : decode prog_84_method_3_code 17 = .ok (.aload_n 0, 1) := by decide +kernel
theorem d3_18 : decode prog_84_method_3_code 18 = .ok (.getfield 23, 3) := by decide +kernel
theorem d3_21 : decode prog_84_method_3_code 21 = .ok (.iconst 2, 1) := by decide +kernel
theorem d3_22 : decode prog_84_method_3_code 22 = .ok (.imul, 1) := by decide +kernel
theorem d3_23 : decode prog_84_method_3_code 23 = .ok (.invokestatic 27, 3) := by decide +kernel
theorem d3_26 : decode prog_84_method_3_code 26 = .ok (.putfield 7, 3) := by decide +kernel
theorem d3_29 : decode prog_84_method_3_code 29 = .ok (.aload_n 0, 1) := by decide +kernel
theorem d3_30 : decode prog_84_method_3_code 30 = .ok (.getfield 7, 3) := by decide +kernel
theorem d3_33 : decode prog_84_method_3_code 33 = .ok (.aload_n 0, 1) := by decide +kernel
theorem d3_34 : decode prog_84_method_3_code 34 = .ok (.dup, 1) := by decide +kernel
theorem d3_35 : decode prog_84_method_3_code 35 = .ok (.getfield 23, 3) := by decide +kernel
theorem d3_38 : decode prog_84_method_3_code 38 = .ok (.dup_x1, 1) := by decide +kernel
theorem d3_39 : decode prog_84_method_3_code 39 = .ok (.iconst 1, 1) := by decide +kernel
theorem d3_40 : decode prog_84_method_3_code 40 = .ok (.iadd, 1) := by decide +kernel
theorem d3_41 : decode prog_84_method_3_code 41 = .ok (.putfield 23, 3) := by decide +kernel
theorem d3_44 : decode prog_84_method_3_code 44 = .ok (.iload_n 1, 1) := by decide +kernel
theorem d3_45 : decode prog_84_method_3_code 45 = .ok (.iastore, 1) := by decide +kernel
theorem d3_46 : decode prog_84_method_3_code 46 = .ok (.return_, 1) := by decide +kernel
def r3 : Room := { frames := 0, cells := 0, slots := 0, locals := 0 }
theorem pd3 : parseMethodDescriptor "(I)V" = some ⟨[.int], none⟩ := by decide +kernel
theorem ef3 (m : MethodId) (o : Addr) (v : Int32) : entryFrame m #[(.ref o), (.int v)] 2 = mkF m 0 #[.val (.ref o), .val (.int v)] [] := by first | (simp [entryFrame, mkF, argsToLocals, Value.category]; done) | rfl
set_option maxRecDepth 65536 in
theorem rm3 (l : Launch) (Z : State) (a0 : Array Value) (hw : ∀ d ∈ tables_1, d.before a0 Z = true) (ws : List Jvm.Cond) (n0 : Nat) (h : Heap) (o : Addr) (v : Int32) (vs : List Int32) (L : Lst Z n0 h o vs) (hlt : vs.length < 16) : Con l Z (⟨"com/example/tasks_to_traces/taskstotraces/search/Ints", "add", "(I)V"⟩ : MethodName) prog_84_method_3_code 2 (none) r3 ws #[(.ref o), (.int v)] h (RetV n0 (fun h' => Lst Z n0 h' o (vs ++ [v]))) := by
  obtain ⟨a, us, g0, g1, E, FS, FV, I, hl⟩ := L
  refine con_of n0 pn1 (fun m => ef3 m o v) fun p e s m below meth c C => ?_
  refine g_aloadN C d3_0 rfl rfl (pc' := 1) rfl ?_
  refine g_getF C (hw _ (List.mem_of_getElem? (i := 18) rfl)) FS d3_1 (pc' := 4) rfl ?_
  refine g_aloadN C d3_4 rfl rfl (pc' := 5) rfl ?_
  refine g_getF C (hw _ (List.mem_of_getElem? (i := 11) rfl)) FV d3_5 (pc' := 8) rfl ?_
  refine g_lenIA C I d3_8 (pc' := 9) rfl ?_
  refine g_icmp C d3_9 (c_ne _ _) (by decide) (pc2 := 29) (by decide) (pc' := 12) rfl (fun _ => ?_) (fun hP => absurd (fun q => ?_) hP)
  · refine g_aloadN C d3_29 rfl rfl (pc' := 30) rfl ?_
    refine g_getF C (hw _ (List.mem_of_getElem? (i := 11) rfl)) FV d3_30 (pc' := 33) rfl ?_
    refine g_aloadN C d3_33 rfl rfl (pc' := 34) rfl ?_
    refine g_dup C d3_34 rfl (pc' := 35) rfl ?_
    refine g_getF C (hw _ (List.mem_of_getElem? (i := 18) rfl)) FS d3_35 (pc' := 38) rfl ?_
    refine g_dupX1 C d3_38 rfl rfl (pc' := 39) rfl ?_
    refine g_iconst C d3_39 (v := 1) (by decide) (pc' := 40) rfl ?_
    refine g_iadd C d3_40 (pc' := 41) rfl ?_
    refine g_putF C (hw _ (List.mem_of_getElem? (i := 18) rfl)) FS E (Or.inl (hw _ (List.mem_of_getElem? (i := 19) rfl))) (hw _ (List.mem_of_getElem? (i := 2) rfl)) (ty := .int) (by decide) rfl rfl g0 d3_41 (pc' := 44) rfl fun h1 W1 => ?_
    refine g_iloadN C d3_44 rfl (pc' := 45) rfl ?_
    have I1 := I.other W1 (IA.ne I E (hw _ (List.mem_of_getElem? (i := 2) rfl))).symm
    refine g_stIA C (k := vs.length) I1 g1 (own_len (by omega)) (by omega) d3_45 (pc' := 46) rfl fun h2 W2 => ?_
    have I2 := I1.set W2
    match us, hl, I2 with
    | [], hl, _ => simp at hl; omega
    | u :: us, hl, I2 =>
      have q : (vs ++ u :: us).set vs.length v = (vs ++ [v]) ++ us := by simp
      rw [q] at I2
      refine g_retV C d3_46 ⟨a, us, g0, g1, (E.wr W1).wr W2, ?_, (FV.other W1 (Or.inr (own_slots hw).symm)).other W2 (Or.inl (IA.ne I E (hw _ (List.mem_of_getElem? (i := 2) rfl)))), I2, ?_⟩ (by decide) (by decide)
      · have F1 := (FS.same W1).other W2 (Or.inl (IA.ne I E (hw _ (List.mem_of_getElem? (i := 2) rfl))))
        rw [own_up] at F1
        simpa using F1
      · simp at hl ⊢
        omega
  · have e1 := congrArg Int32.toInt q
    rw [own_len (by omega), own_len (by omega)] at e1
    omega
theorem d4_0 : decode prog_84_method_5_code 0 = .ok (.aload_n 0, 1) := by decide +kernel
theorem d4_1 : decode prog_84_method_5_code 1 = .ok (.getfield 7, 3) := by decide +kernel
theorem d4_4 : decode prog_84_method_5_code 4 = .ok (.aload_n 0, 1) := by decide +kernel
theorem d4_5 : decode prog_84_method_5_code 5 = .ok (.dup, 1) := by decide +kernel
theorem d4_6 : decode prog_84_method_5_code 6 = .ok (.getfield 23, 3) := by decide +kernel
theorem d4_9 : decode prog_84_method_5_code 9 = .ok (.iconst 1, 1) := by decide +kernel
theorem d4_10 : decode prog_84_method_5_code 10 = .ok (.isub, 1) := by decide +kernel
theorem d4_11 : decode prog_84_method_5_code 11 = .ok (.dup_x1, 1) := by decide +kernel
theorem d4_12 : decode prog_84_method_5_code 12 = .ok (.putfield 23, 3) := by decide +kernel
theorem d4_15 : decode prog_84_method_5_code 15 = .ok (.iaload, 1) := by decide +kernel
theorem d4_16 : decode prog_84_method_5_code 16 = .ok (.ireturn, 1) := by decide +kernel
def r4 : Room := { frames := 0, cells := 0, slots := 0, locals := 0 }
theorem pd4 : parseMethodDescriptor "()I" = some ⟨[], some .int⟩ := by decide +kernel
theorem ef4 (m : MethodId) (o : Addr) : entryFrame m #[(.ref o)] 1 = mkF m 0 #[.val (.ref o)] [] := by first | (simp [entryFrame, mkF, argsToLocals, Value.category]; done) | rfl
set_option maxRecDepth 65536 in
theorem rm4 (l : Launch) (Z : State) (a0 : Array Value) (hw : ∀ d ∈ tables_1, d.before a0 Z = true) (ws : List Jvm.Cond) (n0 : Nat) (h : Heap) (o : Addr) (v : Int32) (vs : List Int32) (L : Lst Z n0 h o (vs ++ [v])) : Con l Z (⟨"com/example/tasks_to_traces/taskstotraces/search/Ints", "removeLast", "()I"⟩ : MethodName) prog_84_method_5_code 1 (some .int) r4 ws #[(.ref o)] h (Ret n0 (fun h' => Lst Z n0 h' o vs) v) := by
  obtain ⟨a, us, g0, g1, E, FS, FV, I, hl⟩ := L
  have hlen : vs.length + 1 + us.length = 16 := by simp at hl; omega
  rw [show (vs ++ [v]).length = vs.length + 1 by simp] at FS
  refine con_of n0 pn1 (fun m => ef4 m o) fun p e s m below meth c C => ?_
  refine g_aloadN C d4_0 rfl rfl (pc' := 1) rfl ?_
  refine g_getF C (hw _ (List.mem_of_getElem? (i := 11) rfl)) FV d4_1 (pc' := 4) rfl ?_
  refine g_aloadN C d4_4 rfl rfl (pc' := 5) rfl ?_
  refine g_dup C d4_5 rfl (pc' := 6) rfl ?_
  refine g_getF C (hw _ (List.mem_of_getElem? (i := 18) rfl)) FS d4_6 (pc' := 9) rfl ?_
  refine g_iconst C d4_9 (v := 1) (by decide) (pc' := 10) rfl ?_
  refine g_isub C d4_10 (pc' := 11) rfl ?_
  rw [own_down]
  refine g_dupX1 C d4_11 rfl rfl (pc' := 12) rfl ?_
  refine g_putF C (hw _ (List.mem_of_getElem? (i := 18) rfl)) FS E (Or.inl (hw _ (List.mem_of_getElem? (i := 19) rfl))) (hw _ (List.mem_of_getElem? (i := 2) rfl)) (ty := .int) (by decide) rfl rfl g0 d4_12 (pc' := 15) rfl fun h1 W1 => ?_
  have I1 := I.other W1 (IA.ne I E (hw _ (List.mem_of_getElem? (i := 2) rfl))).symm
  refine g_ldIA C (k := vs.length) (v := v) I1 (own_len (by omega)) (by simp) d4_15 (pc' := 16) rfl ?_
  exact g_retI C d4_16 ⟨a, v :: us, g0, g1, E.wr W1, FS.same W1, FV.other W1 (Or.inr (own_slots hw).symm), by simpa using I1, by simpa using hl⟩ (by decide) (by decide)
theorem d5_0 : decode prog_84_method_6_code 0 = .ok (.aload_n 0, 1) := by decide +kernel
theorem d5_1 : decode prog_84_method_6_code 1 = .ok (.getfield 23, 3) := by decide +kernel
theorem d5_4 : decode prog_84_method_6_code 4 = .ok (.ireturn, 1) := by decide +kernel
def r5 : Room := { frames := 0, cells := 0, slots := 0, locals := 0 }
theorem pd5 : parseMethodDescriptor "()I" = some ⟨[], some .int⟩ := by decide +kernel
theorem ef5 (m : MethodId) (o : Addr) : entryFrame m #[(.ref o)] 1 = mkF m 0 #[.val (.ref o)] [] := by first | (simp [entryFrame, mkF, argsToLocals, Value.category]; done) | rfl
theorem rm5 (l : Launch) (Z : State) (a0 : Array Value) (hw : ∀ d ∈ tables_1, d.before a0 Z = true) (ws : List Jvm.Cond) (n0 : Nat) (h : Heap) (o : Addr) (vs : List Int32) (L : Lst Z n0 h o vs) : Con l Z (⟨"com/example/tasks_to_traces/taskstotraces/search/Ints", "size", "()I"⟩ : MethodName) prog_84_method_6_code 1 (some .int) r5 ws #[(.ref o)] h (Ret n0 (fun h' => Lst Z n0 h' o vs) vs.length.toInt32) := by
  obtain ⟨a, us, g0, g1, E, FS, FV, I, hl⟩ := id L
  refine con_of n0 pn1 (fun m => ef5 m o) fun p e s m below meth c C => ?_
  refine g_aloadN C d5_0 rfl rfl (pc' := 1) rfl ?_
  refine g_getF C (hw _ (List.mem_of_getElem? (i := 18) rfl)) FS d5_1 (pc' := 4) rfl ?_
  exact g_retI C d5_4 L (by decide) (by decide)
theorem d6_0 : decode prog_84_method_4_code 0 = .ok (.aload_n 0, 1) := by decide +kernel
theorem d6_1 : decode prog_84_method_4_code 1 = .ok (.getfield 7, 3) := by decide +kernel
theorem d6_4 : decode prog_84_method_4_code 4 = .ok (.iload_n 1, 1) := by decide +kernel
theorem d6_5 : decode prog_84_method_4_code 5 = .ok (.iaload, 1) := by decide +kernel
theorem d6_6 : decode prog_84_method_4_code 6 = .ok (.ireturn, 1) := by decide +kernel
def r6 : Room := { frames := 0, cells := 0, slots := 0, locals := 0 }
theorem pd6 : parseMethodDescriptor "(I)I" = some ⟨[.int], some .int⟩ := by decide +kernel
theorem ef6 (m : MethodId) (o : Addr) (j : Int32) : entryFrame m #[(.ref o), (.int j)] 2 = mkF m 0 #[.val (.ref o), .val (.int j)] [] := by first | (simp [entryFrame, mkF, argsToLocals, Value.category]; done) | rfl
theorem rm6 (l : Launch) (Z : State) (a0 : Array Value) (hw : ∀ d ∈ tables_1, d.before a0 Z = true) (ws : List Jvm.Cond) (n0 : Nat) (h : Heap) (o : Addr) (j : Int32) (k : Nat) (v : Int32) (vs : List Int32) (L : Lst Z n0 h o vs) (hj : j.toInt = k) (hv : vs[k]? = some v) : Con l Z (⟨"com/example/tasks_to_traces/taskstotraces/search/Ints", "get", "(I)I"⟩ : MethodName) prog_84_method_4_code 2 (some .int) r6 ws #[(.ref o), (.int j)] h (Ret n0 (fun h' => Lst Z n0 h' o vs) v) := by
  obtain ⟨a, us, g0, g1, E, FS, FV, I, hl⟩ := id L
  obtain ⟨hk, -⟩ := List.getElem?_eq_some_iff.mp hv
  refine con_of n0 pn1 (fun m => ef6 m o j) fun p e s m below meth c C => ?_
  refine g_aloadN C d6_0 rfl rfl (pc' := 1) rfl ?_
  refine g_getF C (hw _ (List.mem_of_getElem? (i := 11) rfl)) FV d6_1 (pc' := 4) rfl ?_
  refine g_iloadN C d6_4 rfl (pc' := 5) rfl ?_
  refine g_ldIA C (k := k) (v := v) I hj (by rw [List.getElem?_append_left hk]; exact hv) d6_5 (pc' := 6) rfl ?_
  exact g_retI C d6_6 L (by decide) (by decide)
set_option maxRecDepth 65536 in
theorem j0_N1 {p : Program} {l : Launch} {e : Env} {s : State} {m : MethodId} {args : Array Value} {below : List Frame} {meth : Method} {c : Code} {n0 : Nat} {h2 : Heap} {Z : State} {a0 : Array Value} (hw : ∀ d ∈ tables_1, d.before a0 Z = true) (C : Cx p s m meth c Z "com/example/tasks_to_traces/taskstotraces/search/IntsRemoveLastPinLaw" "law" code (some .boolean) 9) (x0 x1 x2 x3 x4 : Int32) (o : Addr) (L2 : Lst Z n0 h2 o []) : Go p l e room_1 s m args below meth c n0 (Ret n0 (fun _ => True) 1) h2 2 18 (mkF m 20 #[.val (.int x0), .val (.int x1), .val (.int x2), .val (.int x3), .val (.int x4), .val (.int (1 : Int32)), .val (.ref o), .unset, .unset] []) := by
  refine g_aload C at_20 rfl rfl (pc' := 22) rfl ?_
  refine g_iloadN C at_22 rfl (pc' := 23) rfl ?_
  refine g_callVV C 0 (hw _ (List.mem_of_getElem? (i := 13) rfl)) (hw _ (List.mem_of_getElem? (i := 14) rfl)) (hw _ (List.mem_of_getElem? (i := 16) rfl)) (hw _ (List.mem_of_getElem? (i := 15) rfl)) (hw _ (List.mem_of_getElem? (i := 3) rfl)) (hw _ (List.mem_of_getElem? (i := 17) rfl)) (by decide) L2.exa (rm3 l Z a0 hw [] n0 h2 o x0 [] L2 (by decide : 0 < 16)) (by decide) (by decide) (by decide) (by decide) pd3 rfl rfl (st := []) rfl (Nat.le_of_eq rfl) at_23 (pc' := 26) rfl fun h3 L3 => ?_
  replace L3 : Lst Z n0 h3 o [x0] := L3
  refine g_iload C at_26 rfl (pc' := 28) rfl ?_
  refine g_iconst C at_28 (v := (2 : Int32)) (by decide) (pc' := 29) rfl ?_
  refine g_icmp C at_29 (c_lt (1 : Int32) (2 : Int32)) (by decide) (pc2 := 38) (by decide) (pc' := 32) rfl (fun _ => ?_) (fun hP => absurd (by decide) hP)
  refine g_iload C at_38 rfl (pc' := 40) rfl ?_
  refine g_iconst C at_40 (v := (3 : Int32)) (by decide) (pc' := 41) rfl ?_
  refine g_icmp C at_41 (c_lt (1 : Int32) (3 : Int32)) (by decide) (pc2 := 50) (by decide) (pc' := 44) rfl (fun _ => ?_) (fun hP => absurd (by decide) hP)
  refine g_iload C at_50 rfl (pc' := 52) rfl ?_
  refine g_iconst C at_52 (v := (1 : Int32)) (by decide) (pc' := 53) rfl ?_
  refine g_icmp C at_53 (c_ne (1 : Int32) (1 : Int32)) (by decide) (pc2 := 62) (by decide) (pc' := 56) rfl (fun hP => absurd hP (by decide)) (fun _ => ?_)
  refine g_iloadN C at_56 rfl (pc' := 57) rfl ?_
  refine g_istore C at_57 (Ls' := #[.val (.int x0), .val (.int x1), .val (.int x2), .val (.int x3), .val (.int x4), .val (.int (1 : Int32)), .val (.ref o), .val (.int x0), .unset]) rfl (pc' := 59) rfl ?_
  refine g_goto C at_59 (by decide) (pc' := 77) (by decide) ?_
  refine g_aload C at_77 rfl rfl (pc' := 79) rfl ?_
  refine g_callVI C 0 (hw _ (List.mem_of_getElem? (i := 20) rfl)) (hw _ (List.mem_of_getElem? (i := 21) rfl)) (hw _ (List.mem_of_getElem? (i := 23) rfl)) (hw _ (List.mem_of_getElem? (i := 22) rfl)) (hw _ (List.mem_of_getElem? (i := 3) rfl)) (hw _ (List.mem_of_getElem? (i := 24) rfl)) (by decide) L3.exa (rm4 l Z a0 hw [] n0 h3 o x0 [] L3) (by decide) (by decide) (by decide) (by decide) pd4 rfl rfl (st := []) rfl (Nat.le_of_eq rfl) at_79 (pc' := 82) rfl fun h4 L4 => ?_
  refine g_istore C at_82 (Ls' := #[.val (.int x0), .val (.int x1), .val (.int x2), .val (.int x3), .val (.int x4), .val (.int (1 : Int32)), .val (.ref o), .val (.int x0), .val (.int x0)]) rfl (pc' := 84) rfl ?_
  refine g_iload C at_84 rfl (pc' := 86) rfl ?_
  refine g_iload C at_86 rfl (pc' := 88) rfl ?_
  refine g_icmp C at_88 (c_eq x0 x0) (by decide) (pc2 := 93) (by decide) (pc' := 91) rfl (fun _ => ?_) (fun hP => absurd rfl hP)
  refine g_aload C at_93 rfl rfl (pc' := 95) rfl ?_
  refine g_callVI C 0 (hw _ (List.mem_of_getElem? (i := 25) rfl)) (hw _ (List.mem_of_getElem? (i := 26) rfl)) (hw _ (List.mem_of_getElem? (i := 28) rfl)) (hw _ (List.mem_of_getElem? (i := 27) rfl)) (hw _ (List.mem_of_getElem? (i := 3) rfl)) (hw _ (List.mem_of_getElem? (i := 29) rfl)) (by decide) L4.exa (rm5 l Z a0 hw [] n0 h4 o [] L4) (by decide) (by decide) (by decide) (by decide) pd5 rfl rfl (st := []) rfl (Nat.le_of_eq rfl) at_95 (pc' := 98) rfl fun h5 L5 => ?_
  rw [show ([] : List Int32).length.toInt32 = (0 : Int32) from rfl]
  refine g_iload C at_98 rfl (pc' := 100) rfl ?_
  refine g_iconst C at_100 (v := (1 : Int32)) (by decide) (pc' := 101) rfl ?_
  refine g_isub C at_101 (pc' := 102) rfl ?_
  rw [show (1 : Int32) - (1 : Int32) = (0 : Int32) by decide]
  refine g_icmp C at_102 (c_eq (0 : Int32) (0 : Int32)) (by decide) (pc2 := 107) (by decide) (pc' := 105) rfl (fun _ => ?_) (fun hP => absurd (by decide) hP)
  refine g_iload C at_107 rfl (pc' := 109) rfl ?_
  refine g_iconst C at_109 (v := (2 : Int32)) (by decide) (pc' := 110) rfl ?_
  refine g_icmp C at_110 (c_lt (1 : Int32) (2 : Int32)) (by decide) (pc2 := 125) (by decide) (pc' := 113) rfl (fun _ => ?_) (fun hP => absurd (by decide) hP)
  refine g_iload C at_125 rfl (pc' := 127) rfl ?_
  refine g_iconst C at_127 (v := (3 : Int32)) (by decide) (pc' := 128) rfl ?_
  refine g_icmp C at_128 (c_ne (1 : Int32) (3 : Int32)) (by decide) (pc2 := 143) (by decide) (pc' := 131) rfl (fun _ => ?_) (fun hP => absurd (by decide) hP)
  refine g_aload C at_143 rfl rfl (pc' := 145) rfl ?_
  refine g_iloadN C at_145 rfl (pc' := 146) rfl ?_
  refine g_callVV C 0 (hw _ (List.mem_of_getElem? (i := 13) rfl)) (hw _ (List.mem_of_getElem? (i := 14) rfl)) (hw _ (List.mem_of_getElem? (i := 16) rfl)) (hw _ (List.mem_of_getElem? (i := 15) rfl)) (hw _ (List.mem_of_getElem? (i := 3) rfl)) (hw _ (List.mem_of_getElem? (i := 17) rfl)) (by decide) L5.exa (rm3 l Z a0 hw [] n0 h5 o x3 [] L5 (by decide : 0 < 16)) (by decide) (by decide) (by decide) (by decide) pd3 rfl rfl (st := []) rfl (Nat.le_of_eq rfl) at_146 (pc' := 149) rfl fun h6 L6 => ?_
  replace L6 : Lst Z n0 h6 o [x3] := L6
  refine g_aload C at_149 rfl rfl (pc' := 151) rfl ?_
  refine g_iload C at_151 rfl (pc' := 153) rfl ?_
  refine g_iconst C at_153 (v := (1 : Int32)) (by decide) (pc' := 154) rfl ?_
  refine g_isub C at_154 (pc' := 155) rfl ?_
  rw [show (1 : Int32) - (1 : Int32) = (0 : Int32) by decide]
  refine g_callVI C 0 (hw _ (List.mem_of_getElem? (i := 30) rfl)) (hw _ (List.mem_of_getElem? (i := 31) rfl)) (hw _ (List.mem_of_getElem? (i := 33) rfl)) (hw _ (List.mem_of_getElem? (i := 32) rfl)) (hw _ (List.mem_of_getElem? (i := 3) rfl)) (hw _ (List.mem_of_getElem? (i := 34) rfl)) (by decide) L6.exa (rm6 l Z a0 hw [] n0 h6 o (0 : Int32) 0 x3 [x3] L6 (by decide) rfl) (by decide) (by decide) (by decide) (by decide) pd6 rfl rfl (st := []) rfl (Nat.le_of_eq rfl) at_155 (pc' := 158) rfl fun h7 L7 => ?_
  refine g_iloadN C at_158 rfl (pc' := 159) rfl ?_
  refine g_icmp C at_159 (c_eq x3 x3) (by decide) (pc2 := 164) (by decide) (pc' := 162) rfl (fun _ => ?_) (fun hP => absurd rfl hP)
  refine g_aload C at_164 rfl rfl (pc' := 166) rfl ?_
  refine g_callVI C 0 (hw _ (List.mem_of_getElem? (i := 25) rfl)) (hw _ (List.mem_of_getElem? (i := 26) rfl)) (hw _ (List.mem_of_getElem? (i := 28) rfl)) (hw _ (List.mem_of_getElem? (i := 27) rfl)) (hw _ (List.mem_of_getElem? (i := 3) rfl)) (hw _ (List.mem_of_getElem? (i := 29) rfl)) (by decide) L7.exa (rm5 l Z a0 hw [] n0 h7 o [x3] L7) (by decide) (by decide) (by decide) (by decide) pd5 rfl rfl (st := []) rfl (Nat.le_of_eq rfl) at_166 (pc' := 169) rfl fun h8 L8 => ?_
  rw [show ([x3] : List Int32).length.toInt32 = (1 : Int32) from rfl]
  refine g_iload C at_169 rfl (pc' := 171) rfl ?_
  refine g_icmp C at_171 (c_ne (1 : Int32) (1 : Int32)) (by decide) (pc2 := 178) (by decide) (pc' := 174) rfl (fun hP => absurd hP (by decide)) (fun _ => ?_)
  refine g_iconst C at_174 (v := (1 : Int32)) (by decide) (pc' := 175) rfl ?_
  refine g_goto C at_175 (by decide) (pc' := 179) (by decide) ?_
  exact g_retZ C at_179 (by decide) trivial (by decide) (by decide)
set_option maxRecDepth 65536 in
theorem j0_N2 {p : Program} {l : Launch} {e : Env} {s : State} {m : MethodId} {args : Array Value} {below : List Frame} {meth : Method} {c : Code} {n0 : Nat} {h2 : Heap} {Z : State} {a0 : Array Value} (hw : ∀ d ∈ tables_1, d.before a0 Z = true) (C : Cx p s m meth c Z "com/example/tasks_to_traces/taskstotraces/search/IntsRemoveLastPinLaw" "law" code (some .boolean) 9) (x0 x1 x2 x3 x4 : Int32) (o : Addr) (L2 : Lst Z n0 h2 o []) : Go p l e room_1 s m args below meth c n0 (Ret n0 (fun _ => True) 1) h2 2 18 (mkF m 20 #[.val (.int x0), .val (.int x1), .val (.int x2), .val (.int x3), .val (.int x4), .val (.int (2 : Int32)), .val (.ref o), .unset, .unset] []) := by
  refine g_aload C at_20 rfl rfl (pc' := 22) rfl ?_
  refine g_iloadN C at_22 rfl (pc' := 23) rfl ?_
  refine g_callVV C 0 (hw _ (List.mem_of_getElem? (i := 13) rfl)) (hw _ (List.mem_of_getElem? (i := 14) rfl)) (hw _ (List.mem_of_getElem? (i := 16) rfl)) (hw _ (List.mem_of_getElem? (i := 15) rfl)) (hw _ (List.mem_of_getElem? (i := 3) rfl)) (hw _ (List.mem_of_getElem? (i := 17) rfl)) (by decide) L2.exa (rm3 l Z a0 hw [] n0 h2 o x0 [] L2 (by decide : 0 < 16)) (by decide) (by decide) (by decide) (by decide) pd3 rfl rfl (st := []) rfl (Nat.le_of_eq rfl) at_23 (pc' := 26) rfl fun h3 L3 => ?_
  replace L3 : Lst Z n0 h3 o [x0] := L3
  refine g_iload C at_26 rfl (pc' := 28) rfl ?_
  refine g_iconst C at_28 (v := (2 : Int32)) (by decide) (pc' := 29) rfl ?_
  refine g_icmp C at_29 (c_lt (2 : Int32) (2 : Int32)) (by decide) (pc2 := 38) (by decide) (pc' := 32) rfl (fun hP => absurd hP (by decide)) (fun _ => ?_)
  refine g_aload C at_32 rfl rfl (pc' := 34) rfl ?_
  refine g_iloadN C at_34 rfl (pc' := 35) rfl ?_
  refine g_callVV C 0 (hw _ (List.mem_of_getElem? (i := 13) rfl)) (hw _ (List.mem_of_getElem? (i := 14) rfl)) (hw _ (List.mem_of_getElem? (i := 16) rfl)) (hw _ (List.mem_of_getElem? (i := 15) rfl)) (hw _ (List.mem_of_getElem? (i := 3) rfl)) (hw _ (List.mem_of_getElem? (i := 17) rfl)) (by decide) L3.exa (rm3 l Z a0 hw [] n0 h3 o x1 [x0] L3 (by decide : 1 < 16)) (by decide) (by decide) (by decide) (by decide) pd3 rfl rfl (st := []) rfl (Nat.le_of_eq rfl) at_35 (pc' := 38) rfl fun h4 L4 => ?_
  replace L4 : Lst Z n0 h4 o [x0, x1] := L4
  refine g_iload C at_38 rfl (pc' := 40) rfl ?_
  refine g_iconst C at_40 (v := (3 : Int32)) (by decide) (pc' := 41) rfl ?_
  refine g_icmp C at_41 (c_lt (2 : Int32) (3 : Int32)) (by decide) (pc2 := 50) (by decide) (pc' := 44) rfl (fun _ => ?_) (fun hP => absurd (by decide) hP)
  refine g_iload C at_50 rfl (pc' := 52) rfl ?_
  refine g_iconst C at_52 (v := (1 : Int32)) (by decide) (pc' := 53) rfl ?_
  refine g_icmp C at_53 (c_ne (2 : Int32) (1 : Int32)) (by decide) (pc2 := 62) (by decide) (pc' := 56) rfl (fun _ => ?_) (fun hP => absurd (by decide) hP)
  refine g_iload C at_62 rfl (pc' := 64) rfl ?_
  refine g_iconst C at_64 (v := (2 : Int32)) (by decide) (pc' := 65) rfl ?_
  refine g_icmp C at_65 (c_ne (2 : Int32) (2 : Int32)) (by decide) (pc2 := 74) (by decide) (pc' := 68) rfl (fun hP => absurd hP (by decide)) (fun _ => ?_)
  refine g_iloadN C at_68 rfl (pc' := 69) rfl ?_
  refine g_istore C at_69 (Ls' := #[.val (.int x0), .val (.int x1), .val (.int x2), .val (.int x3), .val (.int x4), .val (.int (2 : Int32)), .val (.ref o), .val (.int x1), .unset]) rfl (pc' := 71) rfl ?_
  refine g_goto C at_71 (by decide) (pc' := 77) (by decide) ?_
  refine g_aload C at_77 rfl rfl (pc' := 79) rfl ?_
  refine g_callVI C 0 (hw _ (List.mem_of_getElem? (i := 20) rfl)) (hw _ (List.mem_of_getElem? (i := 21) rfl)) (hw _ (List.mem_of_getElem? (i := 23) rfl)) (hw _ (List.mem_of_getElem? (i := 22) rfl)) (hw _ (List.mem_of_getElem? (i := 3) rfl)) (hw _ (List.mem_of_getElem? (i := 24) rfl)) (by decide) L4.exa (rm4 l Z a0 hw [] n0 h4 o x1 [x0] L4) (by decide) (by decide) (by decide) (by decide) pd4 rfl rfl (st := []) rfl (Nat.le_of_eq rfl) at_79 (pc' := 82) rfl fun h5 L5 => ?_
  refine g_istore C at_82 (Ls' := #[.val (.int x0), .val (.int x1), .val (.int x2), .val (.int x3), .val (.int x4), .val (.int (2 : Int32)), .val (.ref o), .val (.int x1), .val (.int x1)]) rfl (pc' := 84) rfl ?_
  refine g_iload C at_84 rfl (pc' := 86) rfl ?_
  refine g_iload C at_86 rfl (pc' := 88) rfl ?_
  refine g_icmp C at_88 (c_eq x1 x1) (by decide) (pc2 := 93) (by decide) (pc' := 91) rfl (fun _ => ?_) (fun hP => absurd rfl hP)
  refine g_aload C at_93 rfl rfl (pc' := 95) rfl ?_
  refine g_callVI C 0 (hw _ (List.mem_of_getElem? (i := 25) rfl)) (hw _ (List.mem_of_getElem? (i := 26) rfl)) (hw _ (List.mem_of_getElem? (i := 28) rfl)) (hw _ (List.mem_of_getElem? (i := 27) rfl)) (hw _ (List.mem_of_getElem? (i := 3) rfl)) (hw _ (List.mem_of_getElem? (i := 29) rfl)) (by decide) L5.exa (rm5 l Z a0 hw [] n0 h5 o [x0] L5) (by decide) (by decide) (by decide) (by decide) pd5 rfl rfl (st := []) rfl (Nat.le_of_eq rfl) at_95 (pc' := 98) rfl fun h6 L6 => ?_
  rw [show ([x0] : List Int32).length.toInt32 = (1 : Int32) from rfl]
  refine g_iload C at_98 rfl (pc' := 100) rfl ?_
  refine g_iconst C at_100 (v := (1 : Int32)) (by decide) (pc' := 101) rfl ?_
  refine g_isub C at_101 (pc' := 102) rfl ?_
  rw [show (2 : Int32) - (1 : Int32) = (1 : Int32) by decide]
  refine g_icmp C at_102 (c_eq (1 : Int32) (1 : Int32)) (by decide) (pc2 := 107) (by decide) (pc' := 105) rfl (fun _ => ?_) (fun hP => absurd (by decide) hP)
  refine g_iload C at_107 rfl (pc' := 109) rfl ?_
  refine g_iconst C at_109 (v := (2 : Int32)) (by decide) (pc' := 110) rfl ?_
  refine g_icmp C at_110 (c_lt (2 : Int32) (2 : Int32)) (by decide) (pc2 := 125) (by decide) (pc' := 113) rfl (fun hP => absurd hP (by decide)) (fun _ => ?_)
  refine g_aload C at_113 rfl rfl (pc' := 115) rfl ?_
  refine g_iconst C at_115 (v := (0 : Int32)) (by decide) (pc' := 116) rfl ?_
  refine g_callVI C 0 (hw _ (List.mem_of_getElem? (i := 30) rfl)) (hw _ (List.mem_of_getElem? (i := 31) rfl)) (hw _ (List.mem_of_getElem? (i := 33) rfl)) (hw _ (List.mem_of_getElem? (i := 32) rfl)) (hw _ (List.mem_of_getElem? (i := 3) rfl)) (hw _ (List.mem_of_getElem? (i := 34) rfl)) (by decide) L6.exa (rm6 l Z a0 hw [] n0 h6 o (0 : Int32) 0 x0 [x0] L6 (by decide) rfl) (by decide) (by decide) (by decide) (by decide) pd6 rfl rfl (st := []) rfl (Nat.le_of_eq rfl) at_116 (pc' := 119) rfl fun h7 L7 => ?_
  refine g_iloadN C at_119 rfl (pc' := 120) rfl ?_
  refine g_icmp C at_120 (c_eq x0 x0) (by decide) (pc2 := 125) (by decide) (pc' := 123) rfl (fun _ => ?_) (fun hP => absurd rfl hP)
  refine g_iload C at_125 rfl (pc' := 127) rfl ?_
  refine g_iconst C at_127 (v := (3 : Int32)) (by decide) (pc' := 128) rfl ?_
  refine g_icmp C at_128 (c_ne (2 : Int32) (3 : Int32)) (by decide) (pc2 := 143) (by decide) (pc' := 131) rfl (fun _ => ?_) (fun hP => absurd (by decide) hP)
  refine g_aload C at_143 rfl rfl (pc' := 145) rfl ?_
  refine g_iloadN C at_145 rfl (pc' := 146) rfl ?_
  refine g_callVV C 0 (hw _ (List.mem_of_getElem? (i := 13) rfl)) (hw _ (List.mem_of_getElem? (i := 14) rfl)) (hw _ (List.mem_of_getElem? (i := 16) rfl)) (hw _ (List.mem_of_getElem? (i := 15) rfl)) (hw _ (List.mem_of_getElem? (i := 3) rfl)) (hw _ (List.mem_of_getElem? (i := 17) rfl)) (by decide) L7.exa (rm3 l Z a0 hw [] n0 h7 o x3 [x0] L7 (by decide : 1 < 16)) (by decide) (by decide) (by decide) (by decide) pd3 rfl rfl (st := []) rfl (Nat.le_of_eq rfl) at_146 (pc' := 149) rfl fun h8 L8 => ?_
  replace L8 : Lst Z n0 h8 o [x0, x3] := L8
  refine g_aload C at_149 rfl rfl (pc' := 151) rfl ?_
  refine g_iload C at_151 rfl (pc' := 153) rfl ?_
  refine g_iconst C at_153 (v := (1 : Int32)) (by decide) (pc' := 154) rfl ?_
  refine g_isub C at_154 (pc' := 155) rfl ?_
  rw [show (2 : Int32) - (1 : Int32) = (1 : Int32) by decide]
  refine g_callVI C 0 (hw _ (List.mem_of_getElem? (i := 30) rfl)) (hw _ (List.mem_of_getElem? (i := 31) rfl)) (hw _ (List.mem_of_getElem? (i := 33) rfl)) (hw _ (List.mem_of_getElem? (i := 32) rfl)) (hw _ (List.mem_of_getElem? (i := 3) rfl)) (hw _ (List.mem_of_getElem? (i := 34) rfl)) (by decide) L8.exa (rm6 l Z a0 hw [] n0 h8 o (1 : Int32) 1 x3 [x0, x3] L8 (by decide) rfl) (by decide) (by decide) (by decide) (by decide) pd6 rfl rfl (st := []) rfl (Nat.le_of_eq rfl) at_155 (pc' := 158) rfl fun h9 L9 => ?_
  refine g_iloadN C at_158 rfl (pc' := 159) rfl ?_
  refine g_icmp C at_159 (c_eq x3 x3) (by decide) (pc2 := 164) (by decide) (pc' := 162) rfl (fun _ => ?_) (fun hP => absurd rfl hP)
  refine g_aload C at_164 rfl rfl (pc' := 166) rfl ?_
  refine g_callVI C 0 (hw _ (List.mem_of_getElem? (i := 25) rfl)) (hw _ (List.mem_of_getElem? (i := 26) rfl)) (hw _ (List.mem_of_getElem? (i := 28) rfl)) (hw _ (List.mem_of_getElem? (i := 27) rfl)) (hw _ (List.mem_of_getElem? (i := 3) rfl)) (hw _ (List.mem_of_getElem? (i := 29) rfl)) (by decide) L9.exa (rm5 l Z a0 hw [] n0 h9 o [x0, x3] L9) (by decide) (by decide) (by decide) (by decide) pd5 rfl rfl (st := []) rfl (Nat.le_of_eq rfl) at_166 (pc' := 169) rfl fun h10 L10 => ?_
  rw [show ([x0, x3] : List Int32).length.toInt32 = (2 : Int32) from rfl]
  refine g_iload C at_169 rfl (pc' := 171) rfl ?_
  refine g_icmp C at_171 (c_ne (2 : Int32) (2 : Int32)) (by decide) (pc2 := 178) (by decide) (pc' := 174) rfl (fun hP => absurd hP (by decide)) (fun _ => ?_)
  refine g_iconst C at_174 (v := (1 : Int32)) (by decide) (pc' := 175) rfl ?_
  refine g_goto C at_175 (by decide) (pc' := 179) (by decide) ?_
  exact g_retZ C at_179 (by decide) trivial (by decide) (by decide)
set_option maxRecDepth 65536 in
theorem j0_N3 {p : Program} {l : Launch} {e : Env} {s : State} {m : MethodId} {args : Array Value} {below : List Frame} {meth : Method} {c : Code} {n0 : Nat} {h2 : Heap} {Z : State} {a0 : Array Value} (hw : ∀ d ∈ tables_1, d.before a0 Z = true) (C : Cx p s m meth c Z "com/example/tasks_to_traces/taskstotraces/search/IntsRemoveLastPinLaw" "law" code (some .boolean) 9) (x0 x1 x2 x3 x4 : Int32) (o : Addr) (L2 : Lst Z n0 h2 o []) : Go p l e room_1 s m args below meth c n0 (Ret n0 (fun _ => True) 1) h2 2 18 (mkF m 20 #[.val (.int x0), .val (.int x1), .val (.int x2), .val (.int x3), .val (.int x4), .val (.int (3 : Int32)), .val (.ref o), .unset, .unset] []) := by
  refine g_aload C at_20 rfl rfl (pc' := 22) rfl ?_
  refine g_iloadN C at_22 rfl (pc' := 23) rfl ?_
  refine g_callVV C 0 (hw _ (List.mem_of_getElem? (i := 13) rfl)) (hw _ (List.mem_of_getElem? (i := 14) rfl)) (hw _ (List.mem_of_getElem? (i := 16) rfl)) (hw _ (List.mem_of_getElem? (i := 15) rfl)) (hw _ (List.mem_of_getElem? (i := 3) rfl)) (hw _ (List.mem_of_getElem? (i := 17) rfl)) (by decide) L2.exa (rm3 l Z a0 hw [] n0 h2 o x0 [] L2 (by decide : 0 < 16)) (by decide) (by decide) (by decide) (by decide) pd3 rfl rfl (st := []) rfl (Nat.le_of_eq rfl) at_23 (pc' := 26) rfl fun h3 L3 => ?_
  replace L3 : Lst Z n0 h3 o [x0] := L3
  refine g_iload C at_26 rfl (pc' := 28) rfl ?_
  refine g_iconst C at_28 (v := (2 : Int32)) (by decide) (pc' := 29) rfl ?_
  refine g_icmp C at_29 (c_lt (3 : Int32) (2 : Int32)) (by decide) (pc2 := 38) (by decide) (pc' := 32) rfl (fun hP => absurd hP (by decide)) (fun _ => ?_)
  refine g_aload C at_32 rfl rfl (pc' := 34) rfl ?_
  refine g_iloadN C at_34 rfl (pc' := 35) rfl ?_
  refine g_callVV C 0 (hw _ (List.mem_of_getElem? (i := 13) rfl)) (hw _ (List.mem_of_getElem? (i := 14) rfl)) (hw _ (List.mem_of_getElem? (i := 16) rfl)) (hw _ (List.mem_of_getElem? (i := 15) rfl)) (hw _ (List.mem_of_getElem? (i := 3) rfl)) (hw _ (List.mem_of_getElem? (i := 17) rfl)) (by decide) L3.exa (rm3 l Z a0 hw [] n0 h3 o x1 [x0] L3 (by decide : 1 < 16)) (by decide) (by decide) (by decide) (by decide) pd3 rfl rfl (st := []) rfl (Nat.le_of_eq rfl) at_35 (pc' := 38) rfl fun h4 L4 => ?_
  replace L4 : Lst Z n0 h4 o [x0, x1] := L4
  refine g_iload C at_38 rfl (pc' := 40) rfl ?_
  refine g_iconst C at_40 (v := (3 : Int32)) (by decide) (pc' := 41) rfl ?_
  refine g_icmp C at_41 (c_lt (3 : Int32) (3 : Int32)) (by decide) (pc2 := 50) (by decide) (pc' := 44) rfl (fun hP => absurd hP (by decide)) (fun _ => ?_)
  refine g_aload C at_44 rfl rfl (pc' := 46) rfl ?_
  refine g_iloadN C at_46 rfl (pc' := 47) rfl ?_
  refine g_callVV C 0 (hw _ (List.mem_of_getElem? (i := 13) rfl)) (hw _ (List.mem_of_getElem? (i := 14) rfl)) (hw _ (List.mem_of_getElem? (i := 16) rfl)) (hw _ (List.mem_of_getElem? (i := 15) rfl)) (hw _ (List.mem_of_getElem? (i := 3) rfl)) (hw _ (List.mem_of_getElem? (i := 17) rfl)) (by decide) L4.exa (rm3 l Z a0 hw [] n0 h4 o x2 [x0, x1] L4 (by decide : 2 < 16)) (by decide) (by decide) (by decide) (by decide) pd3 rfl rfl (st := []) rfl (Nat.le_of_eq rfl) at_47 (pc' := 50) rfl fun h5 L5 => ?_
  replace L5 : Lst Z n0 h5 o [x0, x1, x2] := L5
  refine g_iload C at_50 rfl (pc' := 52) rfl ?_
  refine g_iconst C at_52 (v := (1 : Int32)) (by decide) (pc' := 53) rfl ?_
  refine g_icmp C at_53 (c_ne (3 : Int32) (1 : Int32)) (by decide) (pc2 := 62) (by decide) (pc' := 56) rfl (fun _ => ?_) (fun hP => absurd (by decide) hP)
  refine g_iload C at_62 rfl (pc' := 64) rfl ?_
  refine g_iconst C at_64 (v := (2 : Int32)) (by decide) (pc' := 65) rfl ?_
  refine g_icmp C at_65 (c_ne (3 : Int32) (2 : Int32)) (by decide) (pc2 := 74) (by decide) (pc' := 68) rfl (fun _ => ?_) (fun hP => absurd (by decide) hP)
  refine g_iloadN C at_74 rfl (pc' := 75) rfl ?_
  refine g_istore C at_75 (Ls' := #[.val (.int x0), .val (.int x1), .val (.int x2), .val (.int x3), .val (.int x4), .val (.int (3 : Int32)), .val (.ref o), .val (.int x2), .unset]) rfl (pc' := 77) rfl ?_
  refine g_aload C at_77 rfl rfl (pc' := 79) rfl ?_
  refine g_callVI C 0 (hw _ (List.mem_of_getElem? (i := 20) rfl)) (hw _ (List.mem_of_getElem? (i := 21) rfl)) (hw _ (List.mem_of_getElem? (i := 23) rfl)) (hw _ (List.mem_of_getElem? (i := 22) rfl)) (hw _ (List.mem_of_getElem? (i := 3) rfl)) (hw _ (List.mem_of_getElem? (i := 24) rfl)) (by decide) L5.exa (rm4 l Z a0 hw [] n0 h5 o x2 [x0, x1] L5) (by decide) (by decide) (by decide) (by decide) pd4 rfl rfl (st := []) rfl (Nat.le_of_eq rfl) at_79 (pc' := 82) rfl fun h6 L6 => ?_
  refine g_istore C at_82 (Ls' := #[.val (.int x0), .val (.int x1), .val (.int x2), .val (.int x3), .val (.int x4), .val (.int (3 : Int32)), .val (.ref o), .val (.int x2), .val (.int x2)]) rfl (pc' := 84) rfl ?_
  refine g_iload C at_84 rfl (pc' := 86) rfl ?_
  refine g_iload C at_86 rfl (pc' := 88) rfl ?_
  refine g_icmp C at_88 (c_eq x2 x2) (by decide) (pc2 := 93) (by decide) (pc' := 91) rfl (fun _ => ?_) (fun hP => absurd rfl hP)
  refine g_aload C at_93 rfl rfl (pc' := 95) rfl ?_
  refine g_callVI C 0 (hw _ (List.mem_of_getElem? (i := 25) rfl)) (hw _ (List.mem_of_getElem? (i := 26) rfl)) (hw _ (List.mem_of_getElem? (i := 28) rfl)) (hw _ (List.mem_of_getElem? (i := 27) rfl)) (hw _ (List.mem_of_getElem? (i := 3) rfl)) (hw _ (List.mem_of_getElem? (i := 29) rfl)) (by decide) L6.exa (rm5 l Z a0 hw [] n0 h6 o [x0, x1] L6) (by decide) (by decide) (by decide) (by decide) pd5 rfl rfl (st := []) rfl (Nat.le_of_eq rfl) at_95 (pc' := 98) rfl fun h7 L7 => ?_
  rw [show ([x0, x1] : List Int32).length.toInt32 = (2 : Int32) from rfl]
  refine g_iload C at_98 rfl (pc' := 100) rfl ?_
  refine g_iconst C at_100 (v := (1 : Int32)) (by decide) (pc' := 101) rfl ?_
  refine g_isub C at_101 (pc' := 102) rfl ?_
  rw [show (3 : Int32) - (1 : Int32) = (2 : Int32) by decide]
  refine g_icmp C at_102 (c_eq (2 : Int32) (2 : Int32)) (by decide) (pc2 := 107) (by decide) (pc' := 105) rfl (fun _ => ?_) (fun hP => absurd (by decide) hP)
  refine g_iload C at_107 rfl (pc' := 109) rfl ?_
  refine g_iconst C at_109 (v := (2 : Int32)) (by decide) (pc' := 110) rfl ?_
  refine g_icmp C at_110 (c_lt (3 : Int32) (2 : Int32)) (by decide) (pc2 := 125) (by decide) (pc' := 113) rfl (fun hP => absurd hP (by decide)) (fun _ => ?_)
  refine g_aload C at_113 rfl rfl (pc' := 115) rfl ?_
  refine g_iconst C at_115 (v := (0 : Int32)) (by decide) (pc' := 116) rfl ?_
  refine g_callVI C 0 (hw _ (List.mem_of_getElem? (i := 30) rfl)) (hw _ (List.mem_of_getElem? (i := 31) rfl)) (hw _ (List.mem_of_getElem? (i := 33) rfl)) (hw _ (List.mem_of_getElem? (i := 32) rfl)) (hw _ (List.mem_of_getElem? (i := 3) rfl)) (hw _ (List.mem_of_getElem? (i := 34) rfl)) (by decide) L7.exa (rm6 l Z a0 hw [] n0 h7 o (0 : Int32) 0 x0 [x0, x1] L7 (by decide) rfl) (by decide) (by decide) (by decide) (by decide) pd6 rfl rfl (st := []) rfl (Nat.le_of_eq rfl) at_116 (pc' := 119) rfl fun h8 L8 => ?_
  refine g_iloadN C at_119 rfl (pc' := 120) rfl ?_
  refine g_icmp C at_120 (c_eq x0 x0) (by decide) (pc2 := 125) (by decide) (pc' := 123) rfl (fun _ => ?_) (fun hP => absurd rfl hP)
  refine g_iload C at_125 rfl (pc' := 127) rfl ?_
  refine g_iconst C at_127 (v := (3 : Int32)) (by decide) (pc' := 128) rfl ?_
  refine g_icmp C at_128 (c_ne (3 : Int32) (3 : Int32)) (by decide) (pc2 := 143) (by decide) (pc' := 131) rfl (fun hP => absurd hP (by decide)) (fun _ => ?_)
  refine g_aload C at_131 rfl rfl (pc' := 133) rfl ?_
  refine g_iconst C at_133 (v := (1 : Int32)) (by decide) (pc' := 134) rfl ?_
  refine g_callVI C 0 (hw _ (List.mem_of_getElem? (i := 30) rfl)) (hw _ (List.mem_of_getElem? (i := 31) rfl)) (hw _ (List.mem_of_getElem? (i := 33) rfl)) (hw _ (List.mem_of_getElem? (i := 32) rfl)) (hw _ (List.mem_of_getElem? (i := 3) rfl)) (hw _ (List.mem_of_getElem? (i := 34) rfl)) (by decide) L8.exa (rm6 l Z a0 hw [] n0 h8 o (1 : Int32) 1 x1 [x0, x1] L8 (by decide) rfl) (by decide) (by decide) (by decide) (by decide) pd6 rfl rfl (st := []) rfl (Nat.le_of_eq rfl) at_134 (pc' := 137) rfl fun h9 L9 => ?_
  refine g_iloadN C at_137 rfl (pc' := 138) rfl ?_
  refine g_icmp C at_138 (c_eq x1 x1) (by decide) (pc2 := 143) (by decide) (pc' := 141) rfl (fun _ => ?_) (fun hP => absurd rfl hP)
  refine g_aload C at_143 rfl rfl (pc' := 145) rfl ?_
  refine g_iloadN C at_145 rfl (pc' := 146) rfl ?_
  refine g_callVV C 0 (hw _ (List.mem_of_getElem? (i := 13) rfl)) (hw _ (List.mem_of_getElem? (i := 14) rfl)) (hw _ (List.mem_of_getElem? (i := 16) rfl)) (hw _ (List.mem_of_getElem? (i := 15) rfl)) (hw _ (List.mem_of_getElem? (i := 3) rfl)) (hw _ (List.mem_of_getElem? (i := 17) rfl)) (by decide) L9.exa (rm3 l Z a0 hw [] n0 h9 o x3 [x0, x1] L9 (by decide : 2 < 16)) (by decide) (by decide) (by decide) (by decide) pd3 rfl rfl (st := []) rfl (Nat.le_of_eq rfl) at_146 (pc' := 149) rfl fun h10 L10 => ?_
  replace L10 : Lst Z n0 h10 o [x0, x1, x3] := L10
  refine g_aload C at_149 rfl rfl (pc' := 151) rfl ?_
  refine g_iload C at_151 rfl (pc' := 153) rfl ?_
  refine g_iconst C at_153 (v := (1 : Int32)) (by decide) (pc' := 154) rfl ?_
  refine g_isub C at_154 (pc' := 155) rfl ?_
  rw [show (3 : Int32) - (1 : Int32) = (2 : Int32) by decide]
  refine g_callVI C 0 (hw _ (List.mem_of_getElem? (i := 30) rfl)) (hw _ (List.mem_of_getElem? (i := 31) rfl)) (hw _ (List.mem_of_getElem? (i := 33) rfl)) (hw _ (List.mem_of_getElem? (i := 32) rfl)) (hw _ (List.mem_of_getElem? (i := 3) rfl)) (hw _ (List.mem_of_getElem? (i := 34) rfl)) (by decide) L10.exa (rm6 l Z a0 hw [] n0 h10 o (2 : Int32) 2 x3 [x0, x1, x3] L10 (by decide) rfl) (by decide) (by decide) (by decide) (by decide) pd6 rfl rfl (st := []) rfl (Nat.le_of_eq rfl) at_155 (pc' := 158) rfl fun h11 L11 => ?_
  refine g_iloadN C at_158 rfl (pc' := 159) rfl ?_
  refine g_icmp C at_159 (c_eq x3 x3) (by decide) (pc2 := 164) (by decide) (pc' := 162) rfl (fun _ => ?_) (fun hP => absurd rfl hP)
  refine g_aload C at_164 rfl rfl (pc' := 166) rfl ?_
  refine g_callVI C 0 (hw _ (List.mem_of_getElem? (i := 25) rfl)) (hw _ (List.mem_of_getElem? (i := 26) rfl)) (hw _ (List.mem_of_getElem? (i := 28) rfl)) (hw _ (List.mem_of_getElem? (i := 27) rfl)) (hw _ (List.mem_of_getElem? (i := 3) rfl)) (hw _ (List.mem_of_getElem? (i := 29) rfl)) (by decide) L11.exa (rm5 l Z a0 hw [] n0 h11 o [x0, x1, x3] L11) (by decide) (by decide) (by decide) (by decide) pd5 rfl rfl (st := []) rfl (Nat.le_of_eq rfl) at_166 (pc' := 169) rfl fun h12 L12 => ?_
  rw [show ([x0, x1, x3] : List Int32).length.toInt32 = (3 : Int32) from rfl]
  refine g_iload C at_169 rfl (pc' := 171) rfl ?_
  refine g_icmp C at_171 (c_ne (3 : Int32) (3 : Int32)) (by decide) (pc2 := 178) (by decide) (pc' := 174) rfl (fun hP => absurd hP (by decide)) (fun _ => ?_)
  refine g_iconst C at_174 (v := (1 : Int32)) (by decide) (pc' := 175) rfl ?_
  refine g_goto C at_175 (by decide) (pc' := 179) (by decide) ?_
  exact g_retZ C at_179 (by decide) trivial (by decide) (by decide)
theorem pn0 : plainName "com/example/tasks_to_traces/taskstotraces/search/IntsRemoveLastPinLaw" = true := by first | (simp [plainName, overriddenIn]; done) | decide +kernel
theorem ef0 (m : MethodId) (x0 x1 x2 x3 x4 : Int32) : entryFrame m #[(.int x0), (.int x1), (.int x2), (.int x3), (.int x4)] maxLocals = mkF m 0 #[.val (.int x0), .val (.int x1), .val (.int x2), .val (.int x3), .val (.int x4), .unset, .unset, .unset, .unset] [] := by first | (simp [entryFrame, mkF, argsToLocals, Value.category, maxLocals]; done) | rfl
theorem own_N (x : Int32) : (x &&& (2147483647 : Int32)) % (3 : Int32) + (1 : Int32) = 1 ∨ (x &&& (2147483647 : Int32)) % (3 : Int32) + (1 : Int32) = 2 ∨ (x &&& (2147483647 : Int32)) % (3 : Int32) + (1 : Int32) = 3 := by
  have e1 : (x &&& 2147483647).toInt = x.toInt % 2 ^ 31 := Jvm.Kit.i32_mask x 2147483647 (k := 31) (by decide) (by decide)
  have e2 : 0 ≤ (x &&& 2147483647).toInt := by rw [e1]; exact Int.emod_nonneg _ (by decide)
  have e3 := Jvm.Kit.i32_rem_nonneg (x := x &&& 2147483647) (y := 3) e2
  have e4 : ((x &&& 2147483647) % 3 + 1).toInt = ((x &&& 2147483647) % 3).toInt + (1 : Int32).toInt := Jvm.Kit.i32_add (by rw [e3]; simp only [Int32.reduceToInt]; omega) (by rw [e3]; simp only [Int32.reduceToInt]; omega)
  simp only [← Int32.toInt_inj, e4, e3, Int32.reduceToInt]
  omega
set_option maxRecDepth 65536 in
theorem j0_A {p : Program} {l : Launch} {e : Env} {s : State} {m : MethodId} {args : Array Value} {below : List Frame} {meth : Method} {c : Code} {n0 : Nat} {h : Heap} {Z : State} {a0 : Array Value} (hw : ∀ d ∈ tables_1, d.before a0 Z = true) (hn0 : n0 ≤ h.size) (C : Cx p s m meth c Z "com/example/tasks_to_traces/taskstotraces/search/IntsRemoveLastPinLaw" "law" code (some .boolean) 9) (x0 x1 x2 x3 x4 : Int32) : Go p l e room_1 s m args below meth c n0 (Ret n0 (fun _ => True) 1) h 0 0 (mkF m 0 #[.val (.int x0), .val (.int x1), .val (.int x2), .val (.int x3), .val (.int x4), .unset, .unset, .unset, .unset] []) := by
  refine g_iload C at_0 rfl (pc' := 2) rfl ?_
  refine g_ldc C (v := (2147483647 : Int32)) (hw _ (List.mem_of_getElem? (i := 0) rfl)) at_2 (pc' := 4) rfl ?_
  refine g_iand C at_4 (pc' := 5) rfl ?_
  refine g_iconst C at_5 (v := (3 : Int32)) (by decide) (pc' := 6) rfl ?_
  refine g_irem C at_6 (by decide) (pc' := 7) rfl ?_
  refine g_iconst C at_7 (v := (1 : Int32)) (by decide) (pc' := 8) rfl ?_
  refine g_iadd C at_8 (pc' := 9) rfl ?_
  refine g_istore C at_9 (Ls' := #[.val (.int x0), .val (.int x1), .val (.int x2), .val (.int x3), .val (.int x4), .val (.int ((x4 &&& (2147483647 : Int32)) % (3 : Int32) + (1 : Int32))), .unset, .unset, .unset]) rfl (pc' := 11) rfl ?_
  refine g_newO C (hw _ (List.mem_of_getElem? (i := 1) rfl)) (hw _ (List.mem_of_getElem? (i := 2) rfl)) (hw _ (List.mem_of_getElem? (i := 3) rfl)) at_11 (by decide) (by decide) (pc' := 14) rfl fun h1 X1 E1 D1 => ?_
  refine g_dup C at_14 rfl (pc' := 15) rfl ?_
  refine g_callIV C 1 rfl (hw _ (List.mem_of_getElem? (i := 4) rfl)) (hw _ (List.mem_of_getElem? (i := 5) rfl)) (hw _ (List.mem_of_getElem? (i := 3) rfl)) (hw _ (List.mem_of_getElem? (i := 6) rfl)) (by decide) (rm1 l Z a0 hw [] n0 h1 h.size hn0 (Nat.le_trans hn0 X1.1) E1 (D1 (Or.inl (hw _ (List.mem_of_getElem? (i := 19) rfl))) (ty := .int) (by decide)) (D1 (Or.inl (hw _ (List.mem_of_getElem? (i := 12) rfl))) (ty := .array .int) (by decide))) (by decide) (by decide) (by decide) (by decide) pd1 rfl rfl (as' := []) (st := [(.ref h.size)]) rfl (Nat.le_of_eq rfl) at_15 (pc' := 18) rfl fun h2 L2 => ?_
  refine g_astore C at_18 rfl (Ls' := #[.val (.int x0), .val (.int x1), .val (.int x2), .val (.int x3), .val (.int x4), .val (.int ((x4 &&& (2147483647 : Int32)) % (3 : Int32) + (1 : Int32))), .val (.ref h.size), .unset, .unset]) rfl (pc' := 20) rfl ?_
  rcases own_N x4 with q | q | q <;> rw [q]
  · exact j0_N1 hw C x0 x1 x2 x3 x4 _ L2
  · exact j0_N2 hw C x0 x1 x2 x3 x4 _ L2
  · exact j0_N3 hw C x0 x1 x2 x3 x4 _ L2
theorem rm_law (l : Launch) (Z : State) (a0 : Array Value) (hw : ∀ d ∈ tables_1, d.before a0 Z = true) (ws : List Jvm.Cond) (h : Heap) (n0 : Nat) (hn0 : n0 ≤ h.size) (x0 x1 x2 x3 x4 : Int32) : Con l Z x code maxLocals ret room_1 ws #[(.int x0), (.int x1), (.int x2), (.int x3), (.int x4)] h (Ret n0 (fun _ => True) 1) :=
  con_of n0 pn0 (fun m => ef0 m x0 x1 x2 x3 x4) fun p e s m below meth c C => j0_A hw hn0 C x0 x1 x2 x3 x4
set_option maxRecDepth 65536 in
set_option maxHeartbeats 4000000 in
theorem comes_1 {Post : Tables → Env → Array Value → State → Outcome → State → Prop} (hpost : ∀ tb e args s v u, (limb_1_1.after args s (.returned v) u = true ∧ limb_1_2.after args s (.returned v) u = true ∧ True) → FrameEnd s (.returned v) u (Jvm.fieldLocs frame_1_writes args s ++ Jvm.arrayLocs frame_1_arrays args s ++ Jvm.staticLocs frame_1_statics s) 16 128 → Post tb e args s (.returned v) u) :
    ArmFor flags0 classFile x code maxLocals ret World_1 tables_1 room_1 Calls_1 rest_1 Pre_1 Post := by
  intro l hfl _ _ p e ha hc hk s m args below hf hA hF happ hP
  obtain ⟨hcalls, hrest, hpre⟩ := hP
  obtain ⟨-, -, -, hnamed, -, -, -, hat⟩ := (Spec.applies_iff hf).mp happ
  obtain ⟨hg, hn⟩ := and_e (Cond.before_iff.mp (show (Jvm.Cond.and given_1 narrow_1).before args s = true from hpre))
  obtain ⟨hcount, g0⟩ := and_e hg
  obtain ⟨k0, g1⟩ := and_e g0
  obtain ⟨k1, g2⟩ := and_e g1
  obtain ⟨k2, g3⟩ := and_e g2
  obtain ⟨k3, g4⟩ := and_e g3
  obtain ⟨w0, w1, w2, w3, w4, rfl⟩ : ∃ w0 w1 w2 w3 w4 : Value, args = #[w0, w1, w2, w3, w4] := by
    have hs : args.size = 5 := by simpa [Cond.value, given_1] using hcount
    obtain ⟨L⟩ := args
    match L, hs with
    | [w0, w1, w2, w3, w4], _ => exact ⟨w0, w1, w2, w3, w4, rfl⟩
  have hw := fun d (hd : d ∈ tables_1) => atoms_spec (ws := Jvm.Cond.code x code maxLocals ret :: tables_1) hat d (List.mem_cons_of_mem _ hd)
  obtain ⟨i0, e0⟩ := is_v k0
  obtain rfl : w0 = (.int i0) := Option.some.inj e0
  obtain ⟨i1, e1⟩ := is_v k1
  obtain rfl : w1 = (.int i1) := Option.some.inj e1
  obtain ⟨i2, e2⟩ := is_v k2
  obtain rfl : w2 = (.int i2) := Option.some.inj e2
  obtain ⟨i3, e3⟩ := is_v k3
  obtain rfl : w3 = (.int i3) := Option.some.inj e3
  obtain ⟨i4, e4⟩ := is_v g4
  obtain rfl : w4 = (.int i4) := Option.some.inj e4
  obtain ⟨n, o, h1, h2, h3, _, L, rfl, ⟨rfl, N, -⟩, hq⟩ := rm_law l s _ hw tables_1 s.heap s.heap.size (Nat.le_refl _) i0 i1 i2 i3 i4 p e ha hc hk s m _ below hf ((Spec.applies_iff_loose hf).mp happ).1 ⟨rfl, State.Warmed39.refl s, rfl⟩ trivial
  refine ⟨n, _, h1, h2, h3, hpost _ _ _ _ _ _ ⟨Cond.after_iff.mpr rfl, Cond.after_iff.mpr (eq_i res_at (Term.int_eval (1)) rfl), trivial⟩ ⟨hq.1, hq.2.1, (hq.2.2.sift fun y hy => Or.inr (N y hy)).mono (by decide) (by decide)⟩⟩
theorem main_1_1 : Claimed_1_1 := comes_1 fun _ _ _ _ _ _ h hF => ⟨h.1, hF⟩
theorem main_1_2 : Claimed_1_2 := comes_1 fun _ _ _ _ _ _ h hF => ⟨h.2.1, hF⟩
end Jvm.Pilot.@@N@@
namespace Jvm.Pilot.@@N@@
open Jvm Jvm.ClassFile Sem Op Lib Jvm.Free Jvm.Stand Jvm.Pilot.@@N@@.Jvm.D
/-! MADE BY PROGRAM (witnessworld.py) out of the Statement's table words and the real class files: 9 classes; the members and pool entries that the words name. The judged class is class 1, her method 1. -/
namespace start1
open Jvm.ClassFile
def u (s : String) : CpInfo := .utf8 (stringToUtf16 s)
/-- a pool by its gaps: so many unusable entries, then the entry; so many at the end -/
def gap : Nat → List CpInfo → List CpInfo
  | 0, r => r
  | n + 1, r => .unusable :: gap n r
def poolList (es : List (Nat × CpInfo)) (last : Nat) : List CpInfo := es.foldr (fun e r => gap e.1 (e.2 :: r)) (gap last [])
def pool (es : List (Nat × CpInfo)) (last : Nat) : Array CpInfo := ⟨poolList es last⟩
def fileOf (pool : Array CpInfo) (this : Nat) (attrs : Array Attribute := #[]) (ms : Array MethodInfo := #[]) (fl : Nat := 33) (sup : Nat := 0) (ifs : Array Nat := #[]) (fds : Array FieldInfo := #[]) : ClassFile where
  minorVersion := 0
  majorVersion := 65
  constantPool := pool
  accessFlags := fl
  thisClass := this
  superClass := sup
  interfaces := ifs
  fields := fds
  methods := ms
  attributes := attrs
def plain (name : String) (sup : Option ClassId) : Class where
  name := name
  kind := .ordinary
  loader := none
  accessFlags := 33
  super := sup
  interfaces := #[]
  cf := none
  fields := #[]
  methods := #[]
  instanceTypes := #[]
  staticTypes := #[]
  resolved := #[]
  callSites := []
  init := .initialized
  statics := none
  mirror := none

def pool0 : Array CpInfo := pool [(5, u "<init>"), (0, u "()V"), (1, .class_ 10), (1, u "java/lang/Object")] 113

def k0c0 : Code := { maxStack := 0, maxLocals := 1, code := object_method_1_code, exceptionTable := #[], attributes := #[] }
def k0m0 : Method := { name := "<init>", desc := "()V", sig := { parameters := [], returnType := none }, accessFlags := 1, code := some k0c0 }
/-- java/lang/Object -/
def k0 : Class := { plain "java/lang/Object" none with
  accessFlags := 33
  interfaces := #[]
  cf := some (fileOf pool0 8 #[] #[{ accessFlags := 1, nameIndex := 5, descriptorIndex := 6, attributes := #[] }] 33 0 #[] #[])
  fields := #[]
  methods := #[k0m0]
  instanceTypes := #[]
  staticTypes := #[]
  resolved := Array.replicate 124 none
  statics := none }

def pool1 : Array CpInfo := pool [(2, .class_ 4), (0, .nameAndType 5 6), (0, u "java/lang/Object"), (0, u "<init>"), (0, u "()V"), (0, .integer 2147483647), (0, .class_ 9), (0, u "com/example/tasks_to_traces/taskstotraces/search/Ints"), (0, .methodref 8 3), (0, .methodref 8 12), (0, .nameAndType 13 14), (0, u "add"), (0, u "(I)V"), (0, .methodref 8 16), (0, .nameAndType 17 18), (0, u "removeLast"), (0, u "()I"), (0, .methodref 8 20), (0, .nameAndType 21 18), (0, u "size"), (0, .methodref 8 23), (0, .nameAndType 24 25), (0, u "get"), (0, u "(I)I"), (0, .class_ 27), (0, u "com/example/tasks_to_traces/taskstotraces/search/IntsRemoveLastPinLaw"), (2, u "law"), (0, u "(IIIII)Z")] 3

def k1m0 : Method := { name := "<init>", desc := "()V", sig := { parameters := [], returnType := none }, accessFlags := 1, code := none }
def k1c1 : Code := { maxStack := 3, maxLocals := 9, code := code, exceptionTable := #[], attributes := #[] }
def k1m1 : Method := { name := "law", desc := "(IIIII)Z", sig := { parameters := [.int, .int, .int, .int, .int], returnType := some .boolean }, accessFlags := 9, code := some k1c1 }
/-- com/example/tasks_to_traces/taskstotraces/search/IntsRemoveLastPinLaw -/
def k1 : Class := { plain "com/example/tasks_to_traces/taskstotraces/search/IntsRemoveLastPinLaw" (some 0) with
  accessFlags := 49
  interfaces := #[]
  cf := some (fileOf pool1 26 #[] #[{ accessFlags := 1, nameIndex := 5, descriptorIndex := 6, attributes := #[] }, { accessFlags := 9, nameIndex := 30, descriptorIndex := 31, attributes := #[] }] 49 2 #[] #[])
  fields := #[]
  methods := #[k1m0, k1m1]
  instanceTypes := #[]
  staticTypes := #[]
  resolved := Array.replicate 35 none
  statics := none }

def pool2 : Array CpInfo := pool [(1, .methodref 2 3), (0, .class_ 4), (0, .nameAndType 5 6), (0, u "java/lang/Object"), (0, u "<init>"), (0, u "()V"), (0, .fieldref 8 9), (0, .class_ 10), (0, .nameAndType 11 12), (0, u "com/example/tasks_to_traces/taskstotraces/search/Ints"), (0, u "values"), (0, u "[I"), (5, u "()I"), (3, u "(I)I"), (0, .fieldref 8 24), (0, .nameAndType 25 26), (0, u "size"), (0, u "I"), (12, u "add"), (0, u "(I)V"), (0, u "get"), (0, u "removeLast")] 4

def k2c0 : Code := { maxStack := 2, maxLocals := 1, code := prog_84_method_1_code, exceptionTable := #[], attributes := #[] }
def k2m0 : Method := { name := "<init>", desc := "()V", sig := { parameters := [], returnType := none }, accessFlags := 1, code := some k2c0 }
def k2c1 : Code := { maxStack := 5, maxLocals := 2, code := prog_84_method_3_code, exceptionTable := #[], attributes := #[] }
def k2m1 : Method := { name := "add", desc := "(I)V", sig := { parameters := [.int], returnType := none }, accessFlags := 1, code := some k2c1 }
def k2c2 : Code := { maxStack := 2, maxLocals := 2, code := prog_84_method_4_code, exceptionTable := #[], attributes := #[] }
def k2m2 : Method := { name := "get", desc := "(I)I", sig := { parameters := [.int], returnType := some .int }, accessFlags := 1, code := some k2c2 }
def k2c3 : Code := { maxStack := 4, maxLocals := 1, code := prog_84_method_5_code, exceptionTable := #[], attributes := #[] }
def k2m3 : Method := { name := "removeLast", desc := "()I", sig := { parameters := [], returnType := some .int }, accessFlags := 1, code := some k2c3 }
def k2c4 : Code := { maxStack := 1, maxLocals := 1, code := prog_84_method_6_code, exceptionTable := #[], attributes := #[] }
def k2m4 : Method := { name := "size", desc := "()I", sig := { parameters := [], returnType := some .int }, accessFlags := 1, code := some k2c4 }
/-- com/example/tasks_to_traces/taskstotraces/search/Ints -/
def k2 : Class := { plain "com/example/tasks_to_traces/taskstotraces/search/Ints" (some 0) with
  accessFlags := 49
  interfaces := #[]
  cf := some (fileOf pool2 8 #[] #[{ accessFlags := 1, nameIndex := 5, descriptorIndex := 6, attributes := #[] }, { accessFlags := 1, nameIndex := 39, descriptorIndex := 40, attributes := #[] }, { accessFlags := 1, nameIndex := 41, descriptorIndex := 22, attributes := #[] }, { accessFlags := 1, nameIndex := 42, descriptorIndex := 18, attributes := #[] }, { accessFlags := 1, nameIndex := 25, descriptorIndex := 18, attributes := #[] }] 49 2 #[] #[{ accessFlags := 2, nameIndex := 11, descriptorIndex := 12, attributes := #[] }, { accessFlags := 2, nameIndex := 25, descriptorIndex := 26, attributes := #[] }])
  fields := #[{ name := "values", type := (.array .int), accessFlags := 2, slot := 0, constantValue := 0 }, { name := "size", type := .int, accessFlags := 2, slot := 1, constantValue := 0 }]
  methods := #[k2m0, k2m1, k2m2, k2m3, k2m4]
  instanceTypes := #[(.array .int), .int]
  staticTypes := #[]
  resolved := Array.replicate 47 none
  statics := none }

def pool3 : Array CpInfo := pool [(1, u "java/lang/Cloneable"), (0, .class_ 1), (0, u "java/lang/Object"), (0, .class_ 3)] 3

/-- java/lang/Cloneable -/
def k3 : Class := { plain "java/lang/Cloneable" (some 0) with
  accessFlags := 1537
  interfaces := #[]
  cf := some (fileOf pool3 2 #[] #[] 1537 4 #[] #[])
  fields := #[]
  methods := #[]
  instanceTypes := #[]
  staticTypes := #[]
  resolved := Array.replicate 8 none
  statics := none }

def pool4 : Array CpInfo := pool [(1, u "java/io/Serializable"), (0, .class_ 1), (0, u "java/lang/Object"), (0, .class_ 3)] 3

/-- java/io/Serializable -/
def k4 : Class := { plain "java/io/Serializable" (some 0) with
  accessFlags := 1537
  interfaces := #[]
  cf := some (fileOf pool4 2 #[] #[] 1537 4 #[] #[])
  fields := #[]
  methods := #[]
  instanceTypes := #[]
  staticTypes := #[]
  resolved := Array.replicate 8 none
  statics := none }

/-- the primitive byte -/
def k5 : Class := { plain "byte" none with kind := .primitive 'B', accessFlags := 0x411 }
/-- [B -/
def k6 : Class := { plain "[B" (some 0) with kind := .array 5 .byte, interfaces := #[3, 4], accessFlags := 1041 }

/-- the primitive int -/
def k7 : Class := { plain "int" none with kind := .primitive 'I', accessFlags := 0x411 }
/-- [I -/
def k8 : Class := { plain "[I" (some 0) with kind := .array 7 .int, interfaces := #[3, 4], accessFlags := 1041 }

def heap : Heap := #[]
def classes : Array Class := #[k0, k1, k2, k3, k4, k5, k6, k7, k8]
def interned : List (Array UInt16 × Addr) := []
def slotsUsed : Nat := 0
def theMethod : MethodId := ⟨1, 1⟩
def args0 : Array Value := #[.int 5, .int 6, .int 7, .int 8, .int 9]
def aboutOver (below : List Frame) : State where
  vm := { classes := classes, interned := interned.toArray }
  heap := heap
  slotsUsed := slotsUsed
  threads := #[{ frames := .invoking theMethod args0 :: below }]
def below0 : List Frame := [.native { method := ⟨0, 0⟩, args := #[] }]
def about1 : State := aboutOver below0
def p0 : Program := .bare "" "" ""
def e0 : Env := launch0.env 0 0 0
theorem w_frames : about1.frames = Frame.invoking theMethod args0 :: below0 := rfl
set_option maxRecDepth 65536 in
theorem w_args : argsFit about1.vm theMethod args0 = true := by decide +kernel
set_option maxRecDepth 65536 in
theorem w_heap : heapFits about1 = true := by decide +kernel
set_option maxRecDepth 65536 in
theorem w_runnable : about1.curStatus? = some .runnable := by decide +kernel
set_option maxRecDepth 65536 in
theorem w_alone : about1.alone = true := by decide +kernel
set_option maxRecDepth 65536 in
theorem w_named : about1.methodNamed? x = some theMethod := by decide +kernel
set_option maxRecDepth 65536 in
theorem w_hears : about1.hears theMethod below0 = true := by decide +kernel
set_option maxRecDepth 65536 in
theorem w_ripe : about1.ripe theMethod args0 below0 = true := by decide +kernel
theorem w_running : about1.status = .running := rfl
set_option maxRecDepth 65536 in
theorem w_room : about1.hasRoom e0.platform room_1 = true :=
  launch0.hasRoom_least _ room_1 (by decide +kernel) (by decide +kernel) (by decide +kernel) (by decide +kernel) (by decide +kernel) (by decide +kernel)
theorem allAtoms_all (ts : List Jvm.Cond) (a : Array Jvm.Value) (st : Jvm.State) : (allAtoms ts).before a st = ts.all (fun c => c.before a st) := by
  induction ts with
  | nil => rfl
  | cons c t ih =>
    show (Jvm.Cond.and c (allAtoms t)).before a st = _
    rw [Jvm.Cond.before_and, ih, List.all_cons]
def words1 : List Jvm.Cond := Jvm.Cond.code x code maxLocals ret :: tables_1
/-- a 'code' word, met by the world's own term for the bytes: nothing is compared byte by byte -/
theorem code_word {y : MethodName} {bytes : ByteArray} {mx : Nat} {rt : Option FieldType} {a : Array Value} {s : State} {m : MethodId} {meth : Method} {c : Code} (h1 : s.methodNamed? y = some m) (h2 : s.vm.method? m = some meth) (h3 : meth.code = some c) (h4 : c.code = bytes)
    (h5 : (c.maxLocals == mx && c.exceptionTable.isEmpty && decide (c.maxStack ≤ mostOperands) && decide (meth.sig.returnType = rt) && !meth.locks && decide (parseMethodDescriptor y.desc = some meth.sig)) = true) : (Jvm.Cond.code y bytes mx rt).before a s = true := by
  simp only [Bool.and_eq_true, beq_iff_eq, Bool.not_eq_true', decide_eq_true_eq] at h5
  obtain ⟨⟨⟨⟨⟨g1, g2⟩, g3⟩, g4⟩, g5⟩, g6⟩ := h5
  simp [Cond.before, Cond.holds, Cond.value, h1, h2, h3, h4, g1, g2, g3, g4, g5, g6]
def isCode : Jvm.Cond → Bool
  | .code _ _ _ _ => true
  | _ => false
theorem all_split {L : List Jvm.Cond} {P : Jvm.Cond → Bool} (h1 : L.all (fun c => isCode c || P c) = true) (h2 : ∀ c ∈ L.filter isCode, P c = true) : L.all P = true := by
  refine List.all_eq_true.mpr fun c hc => ?_
  have h := List.all_eq_true.mp h1 c hc
  rcases Bool.eq_false_or_eq_true (isCode c) with hi | hi
  · exact h2 c (List.mem_filter.mpr ⟨hc, hi⟩)
  · simpa [hi] using h
set_option maxRecDepth 65536 in
theorem w_c0 : (Jvm.Cond.code x code maxLocals ret).before args0 about1 = true := code_word (m := ⟨1, 1⟩) (meth := k1m1) (c := k1c1) (by decide +kernel) rfl rfl rfl (by decide +kernel)
set_option maxRecDepth 65536 in
theorem w_c1 : (Jvm.Cond.code ({ cls := "com/example/tasks_to_traces/taskstotraces/search/Ints", name := "<init>", desc := "()V" } : Jvm.MethodName) prog_84_method_1_code (1 : Nat) (Option.none : Option Jvm.ClassFile.FieldType)).before args0 about1 = true := code_word (m := ⟨2, 0⟩) (meth := k2m0) (c := k2c0) (by decide +kernel) rfl rfl rfl (by decide +kernel)
set_option maxRecDepth 65536 in
theorem w_c2 : (Jvm.Cond.code ({ cls := "java/lang/Object", name := "<init>", desc := "()V" } : Jvm.MethodName) object_method_1_code (1 : Nat) (Option.none : Option Jvm.ClassFile.FieldType)).before args0 about1 = true := code_word (m := ⟨0, 0⟩) (meth := k0m0) (c := k0c0) (by decide +kernel) rfl rfl rfl (by decide +kernel)
set_option maxRecDepth 65536 in
theorem w_c3 : (Jvm.Cond.code ({ cls := "com/example/tasks_to_traces/taskstotraces/search/Ints", name := "add", desc := "(I)V" } : Jvm.MethodName) prog_84_method_3_code (2 : Nat) (Option.none : Option Jvm.ClassFile.FieldType)).before args0 about1 = true := code_word (m := ⟨2, 1⟩) (meth := k2m1) (c := k2c1) (by decide +kernel) rfl rfl rfl (by decide +kernel)
set_option maxRecDepth 65536 in
theorem w_c4 : (Jvm.Cond.code ({ cls := "com/example/tasks_to_traces/taskstotraces/search/Ints", name := "removeLast", desc := "()I" } : Jvm.MethodName) prog_84_method_5_code (1 : Nat) (Option.some Jvm.ClassFile.FieldType.int)).before args0 about1 = true := code_word (m := ⟨2, 3⟩) (meth := k2m3) (c := k2c3) (by decide +kernel) rfl rfl rfl (by decide +kernel)
set_option maxRecDepth 65536 in
theorem w_c5 : (Jvm.Cond.code ({ cls := "com/example/tasks_to_traces/taskstotraces/search/Ints", name := "size", desc := "()I" } : Jvm.MethodName) prog_84_method_6_code (1 : Nat) (Option.some Jvm.ClassFile.FieldType.int)).before args0 about1 = true := code_word (m := ⟨2, 4⟩) (meth := k2m4) (c := k2c4) (by decide +kernel) rfl rfl rfl (by decide +kernel)
set_option maxRecDepth 65536 in
theorem w_c6 : (Jvm.Cond.code ({ cls := "com/example/tasks_to_traces/taskstotraces/search/Ints", name := "get", desc := "(I)I" } : Jvm.MethodName) prog_84_method_4_code (2 : Nat) (Option.some Jvm.ClassFile.FieldType.int)).before args0 about1 = true := code_word (m := ⟨2, 2⟩) (meth := k2m2) (c := k2c2) (by decide +kernel) rfl rfl rfl (by decide +kernel)
def codes1 : List Jvm.Cond := [Jvm.Cond.code x code maxLocals ret, Jvm.Cond.code ({ cls := "com/example/tasks_to_traces/taskstotraces/search/Ints", name := "<init>", desc := "()V" } : Jvm.MethodName) prog_84_method_1_code (1 : Nat) (Option.none : Option Jvm.ClassFile.FieldType), Jvm.Cond.code ({ cls := "java/lang/Object", name := "<init>", desc := "()V" } : Jvm.MethodName) object_method_1_code (1 : Nat) (Option.none : Option Jvm.ClassFile.FieldType), Jvm.Cond.code ({ cls := "com/example/tasks_to_traces/taskstotraces/search/Ints", name := "add", desc := "(I)V" } : Jvm.MethodName) prog_84_method_3_code (2 : Nat) (Option.none : Option Jvm.ClassFile.FieldType), Jvm.Cond.code ({ cls := "com/example/tasks_to_traces/taskstotraces/search/Ints", name := "removeLast", desc := "()I" } : Jvm.MethodName) prog_84_method_5_code (1 : Nat) (Option.some Jvm.ClassFile.FieldType.int), Jvm.Cond.code ({ cls := "com/example/tasks_to_traces/taskstotraces/search/Ints", name := "size", desc := "()I" } : Jvm.MethodName) prog_84_method_6_code (1 : Nat) (Option.some Jvm.ClassFile.FieldType.int), Jvm.Cond.code ({ cls := "com/example/tasks_to_traces/taskstotraces/search/Ints", name := "get", desc := "(I)I" } : Jvm.MethodName) prog_84_method_4_code (2 : Nat) (Option.some Jvm.ClassFile.FieldType.int)]
set_option maxRecDepth 65536 in
theorem codes_eq : words1.filter isCode = codes1 := rfl
theorem w_codes : ∀ c ∈ words1.filter isCode, c.before args0 about1 = true := by
  rw [codes_eq]
  intro c hc
  simp only [codes1, List.mem_cons, List.not_mem_nil, or_false] at hc
  rcases hc with rfl | rfl | rfl | rfl | rfl | rfl | rfl
  · exact w_c0
  · exact w_c1
  · exact w_c2
  · exact w_c3
  · exact w_c4
  · exact w_c5
  · exact w_c6
set_option maxRecDepth 65536 in
theorem w_t1 : (words1.take 24).all (fun c => isCode c || c.before args0 about1) = true := by decide +kernel
set_option maxRecDepth 65536 in
theorem w_t2 : (words1.drop 24).all (fun c => isCode c || c.before args0 about1) = true := by decide +kernel
theorem w_tables : (allAtoms (Jvm.Cond.code x code maxLocals ret :: tables_1)).before args0 about1 = true := by
  rw [allAtoms_all]
  show words1.all (fun c => c.before args0 about1) = true
  refine all_split ?_ w_codes
  rw [← List.take_append_drop 24 words1, List.all_append, w_t1, w_t2]
  rfl
set_option maxRecDepth 65536 in
theorem w_case : (Jvm.Cond.and given_1 narrow_1).before args0 about1 = true := by decide +kernel
theorem w_applies : (headSpec (Jvm.Cond.code x code maxLocals ret :: tables_1) room_1).applies x e0.platform about1 = true :=
  (Spec.applies_iff w_frames).mpr ⟨w_running, w_runnable, w_alone, w_named, w_hears, w_ripe, w_room, w_tables⟩
theorem atStart : AtStart classFile x code maxLocals ret World_1 tables_1 room_1 Calls_1 rest_1 Pre_1 launch0 p0 e0 about1 theMethod args0 below0 :=
  ⟨lists_1, trivial, launch0.admits_env _ _ _, launch0.least_env, fairChoices_fair.cas, fairChoices_fair.clock, w_frames, w_args, w_heap, w_applies, trivial, trivial, w_case⟩
end start1
theorem witness_1 : WitnessClaimed_1 := ⟨start1.p0, start1.e0, start1.about1, start1.theMethod, start1.args0, start1.below0, start1.atStart⟩
end Jvm.Pilot.@@N@@
