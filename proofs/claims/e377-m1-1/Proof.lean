import JvmDerived
import JvmDerived.Pilot.@@N@@Statement
import JvmDerived.Pilot.@@N@@Code
set_option linter.unusedVariables false
set_option linter.unusedSimpArgs false
@@BLOCK:NumsL.lean.txt@@
namespace Jvm.OwnGo
open Sem ClassFile Op Lib Jvm.Stand Jvm.Free Jvm.LawKit Jvm.RoadKit
/-- what the walk of a body is told once: exec, bytes, max_locals, its class, its name, its return kind, no lock, the tables -/
def Cx (p : Program) (s : State) (m : MethodId) (meth : Method) (c : Code) (Z : State) (own nm : String) (code : ByteArray) (ret : Option FieldType) (maxL : Nat) : Prop :=
  p.tables.exec = Jvm.exec ∧ c.code = code ∧ c.maxLocals = maxL ∧ s.vm.findClass own = some m.cls ∧ meth.name = nm ∧ meth.sig.returnType = ret ∧ meth.locks = false ∧ Z.Warmed39 s.vm
/-- from every state with heap h in which the body stands at frame g the body comes to its end, and Q holds of what it leaves -/
def Go (p : Program) (l : Launch) (e : Env) (R : Room) (s : State) (m : MethodId) (args : Array Value) (below : List Frame) (meth : Method) (c : Code) (n0 : Nat) (Q : Option Value → Heap → List Loc → Prop) (h : Heap) (cells slots : Nat) (g : JFrame) : Prop :=
  ∀ (T : State) (L : List Loc), Stand p l e R s m args below meth c T L cells slots → T.heap = h → Fr n0 L →
    ∃ (t : State) (o : Outcome), Steps p.tables e below (T.setTop g) t ∧ t.status = .running ∧ Ended t below o ∧ ∃ v L', o = .returned v ∧ Q v t.heap L' ∧ FrameEnd s o t L' R.cells R.slots
/-- the contract of a body, at given arguments and heap -/
def Con (l : Launch) (Z : State) (y : MethodName) (bytes : ByteArray) (maxL : Nat) (ret : Option FieldType) (rm : Room) (ws : List Jvm.Cond) (as' : Array Value) (h : Heap) (Q : Option Value → Heap → List Loc → Prop) : Prop :=
  MetFree l y (head1 (Jvm.Cond.code y bytes maxL ret :: ws) rm) (fun a U => a = as' ∧ Z.Warmed39 U.vm ∧ U.heap = h) (fun _ _ _ _ _ => True) (fun _ U o U' => ∃ v L, o = .returned v ∧ Q v U'.heap L ∧ FrameEnd U o U' L rm.cells rm.slots)
/-- an int is returned; the heap is as H says; nothing old is written -/
def Ret (n0 : Nat) (H : Heap → Prop) (r : Int32) (v : Option Value) (hh : Heap) (L : List Loc) : Prop := v = some (.int r) ∧ Fr n0 L ∧ H hh
theorem con_of {l : Launch} {Z : State} {y : MethodName} {bytes : ByteArray} {maxL : Nat} {ret : Option FieldType} {rm : Room} {ws : List Jvm.Cond} {as' : Array Value} {h : Heap} {Q : Option Value → Heap → List Loc → Prop} (n0 : Nat) {Ls0 : Array Slot} (hn : plainName y.cls = true) (hef : ∀ m, entryFrame m as' maxL = mkF m 0 Ls0 [])
    (body : ∀ (p : Program) (e : Env) (s : State) (m : MethodId) (below : List Frame) (meth : Method) (c : Code), Cx p s m meth c Z y.cls y.name bytes ret maxL → Go p l e rm s m as' below meth c n0 Q h 0 0 (mkF m 0 Ls0 [])) : Con l Z y bytes maxL ret rm ws as' h Q := by
  refine MetFree.of_bodySF (plainFor_of_name hn) hisR ?_
  intro p e s m args below meth c s₁ Bd hml0 hP hK
  obtain ⟨rfl, hZ, hh⟩ := hP
  rw [hef m]
  exact body p e s m below meth c ⟨Bd.exec, Bd.bytes, hml0, findClass_of_methodNamed Bd.named, (name_of_methodNamed Bd.named Bd.method).1, Bd.returns, Bd.notSynchronized, hZ⟩ s₁ [] (Stand.of_body Bd) (by rw [← hh, Bd.state]; rfl) (Fr.nil n0)
section Steps
variable {p : Program} {l : Launch} {e : Env} {R : Room} {s : State} {m : MethodId} {args : Array Value} {below : List Frame} {meth : Method} {c : Code} {n0 : Nat} {Q : Option Value → Heap → List Loc → Prop} {h : Heap} {cells slots : Nat} {Z : State} {own nm : String} {code : ByteArray} {ret : Option FieldType} {maxL : Nat} {pc pc' pc2 : Nat} {Ls Ls' : Array Slot} {st : List Value} {a0 : Array Value}
theorem Go.step {g g' : JFrame} (f : ∀ T, At T m c below → ∀ target, Steps p.tables e below (T.setTop g') target → Steps p.tables e below (T.setTop g) target) (q : Go p l e R s m args below meth c n0 Q h cells slots g') : Go p l e R s m args below meth c n0 Q h cells slots g := fun T L X eT N => by
  obtain ⟨t, o, k, r⟩ := q T L X eT N
  exact ⟨t, o, f T X.here t k, r⟩
theorem Go.at {g g' : JFrame} (q : Go p l e R s m args below meth c n0 Q h cells slots g') (hg : g = g') : Go p l e R s m args below meth c n0 Q h cells slots g := hg ▸ q
theorem g_iloadN (C : Cx p s m meth c Z own nm code ret maxL) {k : Fin 4} {v : Int32} (hd : decode code pc = .ok (.iload_n k, 1)) (hl : Ls[k.val]? = some (.val (.int v))) (hp : pc + 1 = pc') (q : Go p l e R s m args below meth c n0 Q h cells slots (mkF m pc' Ls (.int v :: st))) : Go p l e R s m args below meth c n0 Q h cells slots (mkF m pc Ls st) := by
  subst hp
  exact q.step fun T A t r => XS.iloadN A C.1 rfl (hb C.2.1 hd) hl r
theorem g_iload (C : Cx p s m meth c Z own nm code ret maxL) {k : Nat} {v : Int32} (hd : decode code pc = .ok (.iload k, 2)) (hl : Ls[k]? = some (.val (.int v))) (hp : pc + 2 = pc') (q : Go p l e R s m args below meth c n0 Q h cells slots (mkF m pc' Ls (.int v :: st))) : Go p l e R s m args below meth c n0 Q h cells slots (mkF m pc Ls st) := by
  subst hp
  exact q.step fun T A t r => XS.iload A C.1 rfl (hb C.2.1 hd) hl r
theorem g_aloadN (C : Cx p s m meth c Z own nm code ret maxL) {k : Fin 4} {v : Value} (hd : decode code pc = .ok (.aload_n k, 1)) (hl : Ls[k.val]? = some (.val v)) (hv : v.isRef = true) (hp : pc + 1 = pc') (q : Go p l e R s m args below meth c n0 Q h cells slots (mkF m pc' Ls (v :: st))) : Go p l e R s m args below meth c n0 Q h cells slots (mkF m pc Ls st) := by
  subst hp
  exact q.step fun T A t r => XS.aloadN A C.1 rfl (hb C.2.1 hd) hl hv r
theorem g_aload (C : Cx p s m meth c Z own nm code ret maxL) {k : Nat} {v : Value} (hd : decode code pc = .ok (.aload k, 2)) (hl : Ls[k]? = some (.val v)) (hv : v.isRef = true) (hp : pc + 2 = pc') (q : Go p l e R s m args below meth c n0 Q h cells slots (mkF m pc' Ls (v :: st))) : Go p l e R s m args below meth c n0 Q h cells slots (mkF m pc Ls st) := by
  subst hp
  exact q.step fun T A t r => XS.aload A C.1 rfl (hb C.2.1 hd) hl hv r
theorem g_iconst (C : Cx p s m meth c Z own nm code ret maxL) {i : Int} {v : Int32} (hd : decode code pc = .ok (.iconst i, 1)) (hv : Int32.ofInt i = v) (hp : pc + 1 = pc') (q : Go p l e R s m args below meth c n0 Q h cells slots (mkF m pc' Ls (.int v :: st))) : Go p l e R s m args below meth c n0 Q h cells slots (mkF m pc Ls st) := by
  subst hp hv
  exact q.step fun T A t r => XS.iconst A C.1 rfl (hb C.2.1 hd) r
theorem g_bipush (C : Cx p s m meth c Z own nm code ret maxL) {i : Int} {v : Int32} (hd : decode code pc = .ok (.bipush i, 2)) (hv : (Int8.ofInt i).toInt32 = v) (hp : pc + 2 = pc') (q : Go p l e R s m args below meth c n0 Q h cells slots (mkF m pc' Ls (.int v :: st))) : Go p l e R s m args below meth c n0 Q h cells slots (mkF m pc Ls st) := by
  subst hp hv
  exact q.step fun T A t r => XS.bipush A C.1 rfl (hb C.2.1 hd) r
theorem g_sipush (C : Cx p s m meth c Z own nm code ret maxL) {i : Int} {v : Int32} (hd : decode code pc = .ok (.sipush i, 3)) (hv : (Int16.ofInt i).toInt32 = v) (hp : pc + 3 = pc') (q : Go p l e R s m args below meth c n0 Q h cells slots (mkF m pc' Ls (.int v :: st))) : Go p l e R s m args below meth c n0 Q h cells slots (mkF m pc Ls st) := by
  subst hp hv
  exact q.step fun T A t r => XS.sipush A C.1 rfl (hb C.2.1 hd) r
theorem g_ldc (C : Cx p s m meth c Z own nm code ret maxL) {i : Nat} {v : Int32} (w : (Jvm.Cond.constant own i v).before a0 Z = true) (hd : decode code pc = .ok (.ldc i, 2)) (hp : pc + 2 = pc') (q : Go p l e R s m args below meth c n0 Q h cells slots (mkF m pc' Ls (.int v :: st))) : Go p l e R s m args below meth c n0 Q h cells slots (mkF m pc Ls st) := by
  subst hp
  intro T L X eT N
  obtain ⟨t, o, k, r⟩ := q T L X eT N
  exact ⟨t, o, X.ldcInt C.1 C.2.2.2.1 (mvT C.2.2.2.2.2.2.2 w) (g := mkF m pc Ls st) rfl (hb C.2.1 hd) t k, r⟩
theorem g_iadd (C : Cx p s m meth c Z own nm code ret maxL) {x y : Int32} (hd : decode code pc = .ok (.iadd, 1)) (hp : pc + 1 = pc') (q : Go p l e R s m args below meth c n0 Q h cells slots (mkF m pc' Ls (.int (x + y) :: st))) : Go p l e R s m args below meth c n0 Q h cells slots (mkF m pc Ls (.int y :: .int x :: st)) := by
  subst hp
  exact q.step fun T A t r => XS.iadd A C.1 rfl (hb C.2.1 hd) rfl r
theorem g_isub (C : Cx p s m meth c Z own nm code ret maxL) {x y : Int32} (hd : decode code pc = .ok (.isub, 1)) (hp : pc + 1 = pc') (q : Go p l e R s m args below meth c n0 Q h cells slots (mkF m pc' Ls (.int (x - y) :: st))) : Go p l e R s m args below meth c n0 Q h cells slots (mkF m pc Ls (.int y :: .int x :: st)) := by
  subst hp
  exact q.step fun T A t r => XS.isub A C.1 rfl (hb C.2.1 hd) rfl r
theorem g_imul (C : Cx p s m meth c Z own nm code ret maxL) {x y : Int32} (hd : decode code pc = .ok (.imul, 1)) (hp : pc + 1 = pc') (q : Go p l e R s m args below meth c n0 Q h cells slots (mkF m pc' Ls (.int (x * y) :: st))) : Go p l e R s m args below meth c n0 Q h cells slots (mkF m pc Ls (.int y :: .int x :: st)) := by
  subst hp
  exact q.step fun T A t r => XS.imul A C.1 rfl (hb C.2.1 hd) rfl r
theorem g_iand (C : Cx p s m meth c Z own nm code ret maxL) {x y : Int32} (hd : decode code pc = .ok (.iand, 1)) (hp : pc + 1 = pc') (q : Go p l e R s m args below meth c n0 Q h cells slots (mkF m pc' Ls (.int (x &&& y) :: st))) : Go p l e R s m args below meth c n0 Q h cells slots (mkF m pc Ls (.int y :: .int x :: st)) := by
  subst hp
  exact q.step fun T A t r => XS.iand A C.1 rfl (hb C.2.1 hd) rfl r
theorem g_ixor (C : Cx p s m meth c Z own nm code ret maxL) {x y : Int32} (hd : decode code pc = .ok (.ixor, 1)) (hp : pc + 1 = pc') (q : Go p l e R s m args below meth c n0 Q h cells slots (mkF m pc' Ls (.int (x ^^^ y) :: st))) : Go p l e R s m args below meth c n0 Q h cells slots (mkF m pc Ls (.int y :: .int x :: st)) := by
  subst hp
  exact q.step fun T A t r => XT.ixor A C.1 rfl (hb C.2.1 hd) rfl r
theorem g_irem (C : Cx p s m meth c Z own nm code ret maxL) {x y : Int32} (hd : decode code pc = .ok (.irem, 1)) (hy : y ≠ 0) (hp : pc + 1 = pc') (q : Go p l e R s m args below meth c n0 Q h cells slots (mkF m pc' Ls (.int (x % y) :: st))) : Go p l e R s m args below meth c n0 Q h cells slots (mkF m pc Ls (.int y :: .int x :: st)) := by
  subst hp
  intro T L X eT N
  obtain ⟨t, o, k, r⟩ := q T L X eT N
  exact ⟨t, o, iremM X C.1 (g := mkF m pc Ls (.int y :: .int x :: st)) rfl (hb C.2.1 hd) rfl hy k, r⟩
theorem g_dup (C : Cx p s m meth c Z own nm code ret maxL) {x : Value} (hd : decode code pc = .ok (.dup, 1)) (hx : x.category = 1) (hp : pc + 1 = pc') (q : Go p l e R s m args below meth c n0 Q h cells slots (mkF m pc' Ls (x :: x :: st))) : Go p l e R s m args below meth c n0 Q h cells slots (mkF m pc Ls (x :: st)) := by
  subst hp
  exact q.step fun T A t r => XS.dup A C.1 rfl (hb C.2.1 hd) rfl hx r
theorem g_istoreN (C : Cx p s m meth c Z own nm code ret maxL) {k : Fin 4} {x : Int32} (hd : decode code pc = .ok (.istore_n k, 1)) (hl : storeLocals Ls k.val (.int x) = some Ls') (hp : pc + 1 = pc') (q : Go p l e R s m args below meth c n0 Q h cells slots (mkF m pc' Ls' st)) : Go p l e R s m args below meth c n0 Q h cells slots (mkF m pc Ls (.int x :: st)) := by
  subst hp
  exact q.step fun T A t r => XS.istoreN A C.1 rfl (hb C.2.1 hd) rfl hl r
theorem g_istore (C : Cx p s m meth c Z own nm code ret maxL) {k : Nat} {x : Int32} (hd : decode code pc = .ok (.istore k, 2)) (hl : storeLocals Ls k (.int x) = some Ls') (hp : pc + 2 = pc') (q : Go p l e R s m args below meth c n0 Q h cells slots (mkF m pc' Ls' st)) : Go p l e R s m args below meth c n0 Q h cells slots (mkF m pc Ls (.int x :: st)) := by
  subst hp
  exact q.step fun T A t r => XS.istore A C.1 rfl (hb C.2.1 hd) rfl hl r
theorem g_astoreN (C : Cx p s m meth c Z own nm code ret maxL) {k : Fin 4} {x : Value} (hd : decode code pc = .ok (.astore_n k, 1)) (hv : x.isRef = true) (hl : storeLocals Ls k.val x = some Ls') (hp : pc + 1 = pc') (q : Go p l e R s m args below meth c n0 Q h cells slots (mkF m pc' Ls' st)) : Go p l e R s m args below meth c n0 Q h cells slots (mkF m pc Ls (x :: st)) := by
  subst hp
  exact q.step fun T A t r => XS.astoreN A C.1 rfl (hb C.2.1 hd) rfl hv hl r
theorem g_astore (C : Cx p s m meth c Z own nm code ret maxL) {k : Nat} {x : Value} (hd : decode code pc = .ok (.astore k, 2)) (hv : x.isRef = true) (hl : storeLocals Ls k x = some Ls') (hp : pc + 2 = pc') (q : Go p l e R s m args below meth c n0 Q h cells slots (mkF m pc' Ls' st)) : Go p l e R s m args below meth c n0 Q h cells slots (mkF m pc Ls (x :: st)) := by
  subst hp
  exact q.step fun T A t r => XS.astore A C.1 rfl (hb C.2.1 hd) rfl hv hl r
theorem g_goto (C : Cx p s m meth c Z own nm code ret maxL) {o : Int} (hd : decode code pc = .ok (.goto o, 3)) (ho : 0 ≤ (pc : Int) + o) (hp : ((pc : Int) + o).toNat = pc') (q : Go p l e R s m args below meth c n0 Q h cells slots (mkF m pc' Ls st)) : Go p l e R s m args below meth c n0 Q h cells slots (mkF m pc Ls st) := q.step fun T A t r => XS.goto A C.1 rfl (pc0 := pc) rfl (hb C.2.1 hd) ho hp r
/-- a comparison of two ints: both ways -/
theorem g_icmp (C : Cx p s m meth c Z own nm code ret maxL) {cd : ClassFile.Cond} {x y : Int32} {o : Int} {P : Prop} [Decidable P] (hd : decode code pc = .ok (.if_icmp cd o, 3)) (hc : if_icmp.holds cd x y = decide P) (ho : 0 ≤ (pc : Int) + o) (hp2 : ((pc : Int) + o).toNat = pc2) (hp : pc + 3 = pc')
    (q1 : P → Go p l e R s m args below meth c n0 Q h cells slots (mkF m pc2 Ls st)) (q2 : ¬ P → Go p l e R s m args below meth c n0 Q h cells slots (mkF m pc' Ls st)) : Go p l e R s m args below meth c n0 Q h cells slots (mkF m pc Ls (.int y :: .int x :: st)) := by
  subst hp
  by_cases hP : P
  · exact (q1 hP).step fun T A t r => XS.icmpYes A C.1 rfl (pc0 := pc) rfl (hb C.2.1 hd) rfl (hc.trans (decide_eq_true hP)) ho hp2 r
  · exact (q2 hP).step fun T A t r => XS.icmpNo A C.1 rfl (hb C.2.1 hd) rfl (hc.trans (decide_eq_false hP)) r
/-- a comparison of an int with 0: both ways -/
theorem g_if (C : Cx p s m meth c Z own nm code ret maxL) {cd : ClassFile.Cond} {x : Int32} {o : Int} {P : Prop} [Decidable P] (hd : decode code pc = .ok (.ifCond cd o, 3)) (hc : if_icmp.holds cd x 0 = decide P) (ho : 0 ≤ (pc : Int) + o) (hp2 : ((pc : Int) + o).toNat = pc2) (hp : pc + 3 = pc')
    (q1 : P → Go p l e R s m args below meth c n0 Q h cells slots (mkF m pc2 Ls st)) (q2 : ¬ P → Go p l e R s m args below meth c n0 Q h cells slots (mkF m pc' Ls st)) : Go p l e R s m args below meth c n0 Q h cells slots (mkF m pc Ls (.int x :: st)) := by
  subst hp
  by_cases hP : P
  · exact (q1 hP).step fun T A t r => XS.ifYes A C.1 rfl (pc0 := pc) rfl (hb C.2.1 hd) rfl ((if0 cd x).trans (hc.trans (decide_eq_true hP))) ho hp2 r
  · exact (q2 hP).step fun T A t r => XS.ifNo A C.1 rfl (hb C.2.1 hd) rfl ((if0 cd x).trans (hc.trans (decide_eq_false hP))) r
theorem c_lt (x y : Int32) : if_icmp.holds .lt x y = decide (x < y) := by
  by_cases q : x < y
  · exact (tlt q).1.trans (decide_eq_true q).symm
  · exact (flt q).1.trans (decide_eq_false q).symm
theorem c_ge (x y : Int32) : if_icmp.holds .ge x y = decide (¬ x < y) := by
  by_cases q : x < y
  · exact (tlt q).2.1.trans (decide_eq_false (not_not_intro q)).symm
  · exact (flt q).2.1.trans (decide_eq_true q).symm
theorem c_gt (x y : Int32) : if_icmp.holds .gt x y = decide (y < x) := by
  by_cases q : y < x
  · exact (tlt q).2.2.1.trans (decide_eq_true q).symm
  · exact (flt q).2.2.1.trans (decide_eq_false q).symm
theorem c_le (x y : Int32) : if_icmp.holds .le x y = decide (¬ y < x) := by
  by_cases q : y < x
  · exact (tlt q).2.2.2.trans (decide_eq_false (not_not_intro q)).symm
  · exact (flt q).2.2.2.trans (decide_eq_true q).symm
theorem c_eq (x y : Int32) : if_icmp.holds .eq x y = decide (x = y) := by
  by_cases q : x = y
  · exact (teq q).1.trans (decide_eq_true q).symm
  · exact (feq q).1.trans (decide_eq_false q).symm
theorem c_ne (x y : Int32) : if_icmp.holds .ne x y = decide (¬ x = y) := by
  by_cases q : x = y
  · exact (teq q).2.trans (decide_eq_false (not_not_intro q)).symm
  · exact (feq q).2.trans (decide_eq_true q).symm
/-- a fork of what is returned -/
theorem Go.pos {H : Heap → Prop} {P : Prop} [Decidable P] {a b : Int32} {g : JFrame} (q : Go p l e R s m args below meth c n0 (Ret n0 H a) h cells slots g) (hP : P) : Go p l e R s m args below meth c n0 (Ret n0 H (if P then a else b)) h cells slots g := by rw [if_pos hP]; exact q
theorem Go.neg {H : Heap → Prop} {P : Prop} [Decidable P] {a b : Int32} {g : JFrame} (q : Go p l e R s m args below meth c n0 (Ret n0 H b) h cells slots g) (hP : ¬ P) : Go p l e R s m args below meth c n0 (Ret n0 H (if P then a else b)) h cells slots g := by rw [if_neg hP]; exact q
theorem Go.cast {H : Heap → Prop} {a b : Int32} {g : JFrame} (q : Go p l e R s m args below meth c n0 (Ret n0 H a) h cells slots g) (hab : a = b) : Go p l e R s m args below meth c n0 (Ret n0 H b) h cells slots g := hab ▸ q
theorem g_retZ {H : Heap → Prop} (C : Cx p s m meth c Z own nm code (some .boolean) maxL) {z r : Int32} (hd : decode code pc = .ok (.ireturn, 1)) (hz : nar .boolean z = r) (hH : H h) (hc : cells ≤ R.cells) (hs : slots ≤ R.slots) : Go p l e R s m args below meth c n0 (Ret n0 H r) h cells slots (mkF m pc Ls (.int z :: st)) := fun T L X eT N => by
  obtain ⟨-, -, -, -, -, hret, hlk, -⟩ := id C
  obtain ⟨fs, hr, hrun, hended, hW, hsame⟩ := X.leave (v := some (.int (nar .boolean z))) (fun q => by rw [hret] at q; cases q) hlk
  exact ⟨_, _, retN X C.1 (t := .boolean) hret (by simp) (hb C.2.1 hd) hr, hrun, hended, _, L, rfl, ⟨by rw [hz], N, by show H T.heap; rw [eT]; exact hH⟩, ⟨_, rfl⟩, hW, hsame.mono hc hs⟩
theorem g_retI {H : Heap → Prop} (C : Cx p s m meth c Z own nm code (some .int) maxL) {z : Int32} (hd : decode code pc = .ok (.ireturn, 1)) (hH : H h) (hc : cells ≤ R.cells) (hs : slots ≤ R.slots) : Go p l e R s m args below meth c n0 (Ret n0 H z) h cells slots (mkF m pc Ls (.int z :: st)) := fun T L X eT N => by
  obtain ⟨-, -, -, -, -, hret, hlk, -⟩ := id C
  obtain ⟨fs, hr, hrun, hended, hW, hsame⟩ := X.leave (v := some (.int z)) (fun q => by rw [hret] at q; cases q) hlk
  exact ⟨_, _, retOut X C.1 hret rfl (Or.inl ⟨rfl, Or.inl rfl, z, rfl⟩) (hb C.2.1 hd) hr, hrun, hended, _, L, rfl, ⟨rfl, N, by show H T.heap; rw [eT]; exact hH⟩, ⟨_, rfl⟩, hW, hsame.mono hc hs⟩
/-- a static call, paid by the callee's contract; the callee makes at most rm.cells cells and rm.slots slots -/
theorem g_callS (C : Cx p s m meth c Z own nm code ret maxL) {i : Nat} {y : MethodName} {bytes : ByteArray} {ml : Nat} {rt : Option FieldType} {rm : Room} {as' : List Value} {Qc : Option Value → Heap → List Loc → Prop} (W : Nat) (w1 : (Jvm.Cond.methodLink own i y).before a0 Z = true) (w2 : (Jvm.Cond.static y).before a0 Z = true) (w3 : (Jvm.Cond.initialized y.cls).before a0 Z = true) (w4 : (Jvm.Cond.code y bytes ml rt).before a0 Z = true)
    (hy : y.cls ≠ "java/lang/invoke/MethodHandle" ∧ y.cls ≠ "java/lang/invoke/VarHandle") (hM : Con l Z y bytes ml rt rm [] as'.toArray h Qc) (hf : rm.frames + 1 ≤ R.frames) (hl : W + (ml + 11) + rm.locals ≤ R.locals) (hrc : cells + rm.cells ≤ R.cells) (hrs : slots + rm.slots ≤ R.slots) {ps : List FieldType} {rr : Option FieldType} (hpd : parseMethodDescriptor y.desc = some ⟨ps, rr⟩) (hlen : as'.length = ps.length)
    (hsz : Ls.size = maxL) {stk : List Value} (hst : stk = as'.reverse ++ st) (hW : (st.map fun v => v.category).sum ≤ W) (hd : decode code pc = .ok (.invokestatic i, 3)) (hp : pc + 3 = pc')
    (q : ∀ v h' L', Qc v h' L' → (Fr n0 L' ∧ Go p l e R s m args below meth c n0 Q h' (cells + rm.cells) (slots + rm.slots) (mkF m pc' Ls (v.toList ++ st)))) : Go p l e R s m args below meth c n0 Q h cells slots (mkF m pc Ls stk) := by
  intro T L X eT N
  subst hp
  obtain ⟨hx, hby, hml, hown, -, hret, hlk, hZ⟩ := id C
  obtain ⟨v, _, ⟨T1, L1, k1, n1⟩, -, X1, ⟨Lc, hQ, l1, y1, z1⟩, st1⟩ := Jvm.LawKit.callS X hx (y := y) hown (mvT hZ w1) (mvT hZ w2) (mvT hZ w3) (mvT hZ w4) hy (backOf (W := W) hM hZ w4 w3 hf hl) (g := mkF m pc Ls stk) rfl (hsz.trans hml.symm) (argsL := as') (rest := st) (lenOf hpd hlen) hst (by show 2 * 0 + _ ≤ _; omega) (hb hby hd) (fun _ _ => ⟨rfl, eT, hrc, hrs⟩)
  dsimp only [Pt.U, Pt.locs, Pt.cells, Pt.slots] at X1 l1 y1 z1 st1 hQ
  subst l1 y1 z1
  obtain ⟨hN, hG⟩ := q v _ Lc hQ
  obtain ⟨t, o, k, r⟩ := hG T1 _ X1 rfl (N.app hN)
  exact ⟨t, o, st1 t k, r⟩
/-- a static call of a method that computes an int and leaves the heap as it was -/
theorem g_callP (C : Cx p s m meth c Z own nm code ret maxL) {i : Nat} {y : MethodName} {bytes : ByteArray} {ml : Nat} {rt : Option FieldType} {rm : Room} {as' : List Value} {z : Int32} (W : Nat) (w1 : (Jvm.Cond.methodLink own i y).before a0 Z = true) (w2 : (Jvm.Cond.static y).before a0 Z = true) (w3 : (Jvm.Cond.initialized y.cls).before a0 Z = true) (w4 : (Jvm.Cond.code y bytes ml rt).before a0 Z = true)
    (hy : y.cls ≠ "java/lang/invoke/MethodHandle" ∧ y.cls ≠ "java/lang/invoke/VarHandle") (hM : Con l Z y bytes ml rt rm [] as'.toArray h (Ret n0 (· = h) z)) (hf : rm.frames + 1 ≤ R.frames) (hl : W + (ml + 11) + rm.locals ≤ R.locals) (hrc : rm.cells = 0) (hrs : rm.slots = 0) (hcl : cells ≤ R.cells) (hsl : slots ≤ R.slots) {ps : List FieldType} {rr : Option FieldType} (hpd : parseMethodDescriptor y.desc = some ⟨ps, rr⟩) (hlen : as'.length = ps.length)
    (hsz : Ls.size = maxL) {stk : List Value} (hst : stk = as'.reverse ++ st) (hW : (st.map fun v => v.category).sum ≤ W) (hd : decode code pc = .ok (.invokestatic i, 3)) (hp : pc + 3 = pc')
    (q : Go p l e R s m args below meth c n0 Q h cells slots (mkF m pc' Ls (.int z :: st))) : Go p l e R s m args below meth c n0 Q h cells slots (mkF m pc Ls stk) := by
  refine g_callS C W w1 w2 w3 w4 hy hM hf hl (by rw [hrc]; exact hcl) (by rw [hrs]; exact hsl) hpd hlen hsz hst hW hd hp ?_
  rintro v h' L' ⟨rfl, hN, rfl⟩
  refine ⟨hN, ?_⟩
  rw [hrc, hrs]
  exact q
end Steps
end Jvm.OwnGo
namespace Jvm.OwnGo
/-- c and b stand alike to every number of B -/
def Same (B : List Int32) (c b : Int32) : Prop := ∀ t ∈ B, (c < t ↔ b < t) ∧ (t < c ↔ t < b) ∧ (c = t ↔ b = t)
theorem own_max (c : Int32) : ∀ (L : List Int32) (b0 : Int32), b0.toInt ≤ c.toInt → ∃ b, (b = b0 ∨ b ∈ L) ∧ b.toInt ≤ c.toInt ∧ b0.toInt ≤ b.toInt ∧ ∀ s ∈ L, s.toInt ≤ c.toInt → s.toInt ≤ b.toInt
  | [], b0, h => ⟨b0, Or.inl rfl, h, Int.le_refl _, fun _ q => nomatch q⟩
  | a :: L, b0, h => by
    by_cases ha : a.toInt ≤ c.toInt ∧ b0.toInt ≤ a.toInt
    · obtain ⟨b, hb, h1, h2, h3⟩ := own_max c L a ha.1
      refine ⟨b, ?_, h1, by omega, ?_⟩
      · rcases hb with rfl | hb
        · exact Or.inr (List.mem_cons_self ..)
        · exact Or.inr (List.mem_cons_of_mem _ hb)
      · intro s hs hc
        rcases List.mem_cons.mp hs with rfl | hs
        · exact h2
        · exact h3 s hs hc
    · obtain ⟨b, hb, h1, h2, h3⟩ := own_max c L b0 h
      refine ⟨b, ?_, h1, h2, ?_⟩
      · rcases hb with rfl | hb
        · exact Or.inl rfl
        · exact Or.inr (List.mem_cons_of_mem _ hb)
      · intro s hs hc
        rcases List.mem_cons.mp hs with rfl | hs
        · omega
        · exact h3 s hs hc
/-- the numbers at which functions that ask only for the place among B are looked at -/
def samples (B : List Int32) : List Int32 := (-2147483648) :: (B ++ B.map (· + 1))
theorem same_some (B : List Int32) (hB : ∀ t ∈ B, (t + 1).toInt = t.toInt + 1) (c : Int32) : ∃ b ∈ samples B, Same B c b := by
  obtain ⟨b, hb, h1, h2, h3⟩ := own_max c (B ++ B.map (· + 1)) (-2147483648) (by have := Int32.le_toInt c; simpa using this)
  refine ⟨b, ?_, fun t ht => ?_⟩
  · rcases hb with rfl | hb
    · exact List.mem_cons_self ..
    · exact List.mem_cons_of_mem _ hb
  · have k1 := h3 t (List.mem_append_left _ ht)
    have k2 := h3 (t + 1) (List.mem_append_right _ (List.mem_map.mpr ⟨t, ht, rfl⟩))
    have k3 := hB t ht
    simp only [Int32.lt_iff_toInt_lt, ← Int32.toInt_inj]
    omega
end Jvm.OwnGo
namespace Jvm.OwnGo
open Sem ClassFile Op Lib Jvm.Stand Jvm.Free Jvm.LawKit Jvm.RoadKit
/-- an int array of n places, an int in each -/
def Ints (Z : State) (h : Heap) (a : Addr) (n : Nat) : Prop := ∃ cl : Cell, Arr Z h a cl .int ∧ cl.slots.size = n ∧ ∀ j, j < n → ∃ v : Int32, cl.slots[j]? = some (.int v)
/-- a place of an array of n places -/
abbrev Inb (j : Int32) (n : Nat) : Prop := ¬ (j < 0 ∨ n ≤ j.toNatClampNeg)
theorem inb_int {j : Int32} {n : Nat} (h1 : 0 ≤ j.toInt) (h2 : j.toInt < n) : Inb j n := by
  simp only [Inb, Int32.lt_iff_toInt_lt, Int32.toNatClampNeg, Int32.reduceToInt]
  omega
/-- (x & 0x7fffffff) % n lies below n -/
theorem inb_rem (x : Int32) {y : Int32} {n : Nat} (hn : 0 < n) (hy : y.toInt = n) : Inb ((x &&& 2147483647) % y) n := by
  have e1 : (x &&& 2147483647).toInt = x.toInt % 2 ^ 31 := Jvm.Kit.i32_mask x 2147483647 (k := 31) (by decide) (by decide)
  have e2 : 0 ≤ (x &&& 2147483647).toInt := by rw [e1]; exact Int.emod_nonneg _ (by decide)
  have e3 := Jvm.Kit.i32_rem_nonneg (x := x &&& 2147483647) (y := y) e2
  have e4 := Int.emod_nonneg (x &&& 2147483647).toInt (b := y.toInt) (by omega)
  have e5 := Int.emod_lt_of_pos (x &&& 2147483647).toInt (b := y.toInt) (by omega)
  exact inb_int (by omega) (by omega)
section Arrays
variable {p : Program} {l : Launch} {e : Env} {R : Room} {s : State} {m : MethodId} {args : Array Value} {below : List Frame} {meth : Method} {c : Code} {n0 : Nat} {Q : Option Value → Heap → List Loc → Prop} {h : Heap} {cells slots : Nat} {Z : State} {own nm : String} {code : ByteArray} {ret : Option FieldType} {maxL : Nat} {pc pc' pc2 : Nat} {Ls Ls' : Array Slot} {st : List Value} {a0 : Array Value}
theorem g_newI (C : Cx p s m meth c Z own nm code ret maxL) (w : (Jvm.Cond.arrayClass .int).before a0 Z = true) {n : Int32} {k : Nat} (hd : decode code pc = .ok (.newarray .int, 2)) (hn : ¬ n < 0) (hk : n.toNatClampNeg = k) (hk8 : k * 8 ≤ 536870912) (hc : cells + 1 ≤ R.cells) (hl : slots + k ≤ R.slots) (hn0 : n0 ≤ h.size) (hp : pc + 2 = pc')
    (q : ∀ h' a, n0 ≤ a → n0 ≤ h'.size → Ints Z h' a k → Go p l e R s m args below meth c n0 Q h' (cells + 1) (slots + k) (mkF m pc' Ls (.ref a :: st))) : Go p l e R s m args below meth c n0 Q h cells slots (mkF m pc Ls (.int n :: st)) := by
  intro T L X eT N
  subst hp
  obtain ⟨hx, hby, hml, hown, -, hret, hlk, hZ⟩ := id C
  obtain ⟨T1, h1, cA, X1, e1, E1, A1, st1⟩ := newP X hx hZ (aty := .int) w eT (g := mkF m pc Ls (.int n :: st)) rfl (hb hby hd) rfl hn (cap := k) (Nat.le_of_eq hk) hk8 hc hl
  obtain ⟨t, o, kk, r⟩ := q h1 h.size hn0 (Nat.le_trans hn0 E1.1) ⟨_, A1, (sz_new _ _ _).trans hk, fun j hj => ⟨0, by
    show (Array.replicate n.toNatClampNeg (defaultValue .int))[j]? = _
    rw [Array.getElem?_replicate, if_pos (by omega)]; rfl⟩⟩ T1 _ X1 e1 N
  exact ⟨t, o, st1 t kk, r⟩
theorem g_stI (C : Cx p s m meth c Z own nm code ret maxL) {a : Addr} {k : Nat} {j x : Int32} (I : Ints Z h a k) (hn0 : n0 ≤ a) (hj : Inb j k) (hd : decode code pc = .ok (.iastore, 1)) (hp : pc + 1 = pc')
    (q : ∀ h', Ints Z h' a k → Go p l e R s m args below meth c n0 Q h' cells slots (mkF m pc' Ls st)) : Go p l e R s m args below meth c n0 Q h cells slots (mkF m pc Ls (.int x :: .int j :: .ref a :: st)) := by
  intro T L X eT N
  subst hp
  obtain ⟨hx, hby, hml, hown, -, hret, hlk, hZ⟩ := id C
  obtain ⟨cl, A, S, V⟩ := I
  subst S
  obtain ⟨T1, h1, X1, e1, W1, st1⟩ := stI X hx hZ eT A (j := j) (x := x) hj (g := mkF m pc Ls (.int x :: .int j :: .ref a :: st)) rfl rfl (hb hby hd)
  obtain ⟨t, o, kk, r⟩ := q h1 ⟨_, A.same W1, sz_set _ _ _, fun i hi => by
    obtain ⟨v, hv⟩ := V i hi
    by_cases hij : j.toNatClampNeg = i
    · exact ⟨x, by subst hij; simp [Cell.setSlot, hi]⟩
    · exact ⟨v, by rw [← hv]; exact Array.getElem?_setIfInBounds_ne hij⟩⟩ T1 _ X1 e1 (Fr.snoc X1 N hn0)
  exact ⟨t, o, st1 t kk, r⟩
theorem g_ldI (C : Cx p s m meth c Z own nm code ret maxL) {a : Addr} {k : Nat} {j : Int32} (I : Ints Z h a k) (hj : Inb j k) (hd : decode code pc = .ok (.iaload, 1)) (hp : pc + 1 = pc')
    (q : ∀ v, Go p l e R s m args below meth c n0 Q h cells slots (mkF m pc' Ls (.int v :: st))) : Go p l e R s m args below meth c n0 Q h cells slots (mkF m pc Ls (.int j :: .ref a :: st)) := by
  intro T L X eT N
  subst hp
  obtain ⟨hx, hby, hml, hown, -, hret, hlk, hZ⟩ := id C
  obtain ⟨cl, A, S, V⟩ := I
  subst S
  obtain ⟨v, hv⟩ := V j.toNatClampNeg (Nat.lt_of_not_le fun y => hj (Or.inr y))
  obtain ⟨t, o, kk, r⟩ := q v T L X eT N
  exact ⟨t, o, X.iaload hx (j := j) (v := .int v) (by rw [eT]; exact A.1) (State.isArrayOf_alike hZ.alike A.2.1) A.2.2 hj hv (g := mkF m pc Ls (.int j :: .ref a :: st)) rfl rfl (hb hby hd) t kk, r⟩
theorem g_len (C : Cx p s m meth c Z own nm code ret maxL) {a : Addr} {k : Nat} (I : Ints Z h a k) (hd : decode code pc = .ok (.arraylength, 1)) (hp : pc + 1 = pc')
    (q : Go p l e R s m args below meth c n0 Q h cells slots (mkF m pc' Ls (.int k.toInt32 :: st))) : Go p l e R s m args below meth c n0 Q h cells slots (mkF m pc Ls (.ref a :: st)) := by
  intro T L X eT N
  subst hp
  obtain ⟨hx, hby, hml, hown, -, hret, hlk, hZ⟩ := id C
  obtain ⟨cl, A, S, V⟩ := I
  subst S
  obtain ⟨t, o, kk, r⟩ := q T L X eT N
  exact ⟨t, o, X.arraylength hx (by rw [eT]; exact A.1) (State.isArrayOf_alike hZ.alike A.2.1) (g := mkF m pc Ls (.ref a :: st)) rfl rfl (hb hby hd) t kk, r⟩
theorem g_iushr (C : Cx p s m meth c Z own nm code ret maxL) {x y : Int32} (hd : decode code pc = .ok (.iushr, 1)) (hp : pc + 1 = pc') (q : Go p l e R s m args below meth c n0 Q h cells slots (mkF m pc' Ls (.int (XT.ushr x y) :: st))) : Go p l e R s m args below meth c n0 Q h cells slots (mkF m pc Ls (.int y :: .int x :: st)) := by
  subst hp
  exact q.step fun T A t r => XT.iushr A C.1 rfl (hb C.2.1 hd) rfl r
end Arrays
end Jvm.OwnGo
namespace Jvm.Pilot.@@N@@
open Jvm Jvm.ClassFile Sem Op Lib Jvm.Free Jvm.Stand Jvm.LawKit Jvm.RoadKit Jvm.OwnGo Bundle Jvm.Pilot.@@N@@.Jvm.D
theorem d1_0 : decode prog_132_method_2_code 0 = .ok (.iload_n 0, 1) := by decide +kernel
theorem d1_1 : decode prog_132_method_2_code 1 = .ok (.bipush 97, 2) := by decide +kernel
theorem d1_3 : decode prog_132_method_2_code 3 = .ok (.if_icmp .lt 9, 3) := by decide +kernel
theorem d1_6 : decode prog_132_method_2_code 6 = .ok (.iload_n 0, 1) := by decide +kernel
theorem d1_7 : decode prog_132_method_2_code 7 = .ok (.bipush 122, 2) := by decide +kernel
theorem d1_9 : decode prog_132_method_2_code 9 = .ok (.if_icmp .le 182, 3) := by decide +kernel
theorem d1_12 : decode prog_132_method_2_code 12 = .ok (.iload_n 0, 1) := by decide +kernel
theorem d1_13 : decode prog_132_method_2_code 13 = .ok (.bipush 65, 2) := by decide +kernel
theorem d1_15 : decode prog_132_method_2_code 15 = .ok (.if_icmp .lt 9, 3) := by decide +kernel
theorem d1_18 : decode prog_132_method_2_code 18 = .ok (.iload_n 0, 1) := by decide +kernel
theorem d1_19 : decode prog_132_method_2_code 19 = .ok (.bipush 90, 2) := by decide +kernel
theorem d1_21 : decode prog_132_method_2_code 21 = .ok (.if_icmp .le 170, 3) := by decide +kernel
theorem d1_24 : decode prog_132_method_2_code 24 = .ok (.iload_n 0, 1) := by decide +kernel
theorem d1_25 : decode prog_132_method_2_code 25 = .ok (.bipush 95, 2) := by decide +kernel
theorem d1_27 : decode prog_132_method_2_code 27 = .ok (.if_icmp .eq 164, 3) := by decide +kernel
theorem d1_30 : decode prog_132_method_2_code 30 = .ok (.iload_n 0, 1) := by decide +kernel
theorem d1_31 : decode prog_132_method_2_code 31 = .ok (.sipush 192, 3) := by decide +kernel
theorem d1_34 : decode prog_132_method_2_code 34 = .ok (.if_icmp .lt 10, 3) := by decide +kernel
theorem d1_37 : decode prog_132_method_2_code 37 = .ok (.iload_n 0, 1) := by decide +kernel
theorem d1_38 : decode prog_132_method_2_code 38 = .ok (.sipush 214, 3) := by decide +kernel
theorem d1_41 : decode prog_132_method_2_code 41 = .ok (.if_icmp .le 150, 3) := by decide +kernel
theorem d1_44 : decode prog_132_method_2_code 44 = .ok (.iload_n 0, 1) := by decide +kernel
theorem d1_45 : decode prog_132_method_2_code 45 = .ok (.sipush 216, 3) := by decide +kernel
theorem d1_48 : decode prog_132_method_2_code 48 = .ok (.if_icmp .lt 10, 3) := by decide +kernel
theorem d1_51 : decode prog_132_method_2_code 51 = .ok (.iload_n 0, 1) := by decide +kernel
theorem d1_52 : decode prog_132_method_2_code 52 = .ok (.sipush 246, 3) := by decide +kernel
theorem d1_55 : decode prog_132_method_2_code 55 = .ok (.if_icmp .le 136, 3) := by decide +kernel
theorem d1_58 : decode prog_132_method_2_code 58 = .ok (.iload_n 0, 1) := by decide +kernel
theorem d1_59 : decode prog_132_method_2_code 59 = .ok (.sipush 248, 3) := by decide +kernel
theorem d1_62 : decode prog_132_method_2_code 62 = .ok (.if_icmp .lt 10, 3) := by decide +kernel
theorem d1_65 : decode prog_132_method_2_code 65 = .ok (.iload_n 0, 1) := by decide +kernel
theorem d1_66 : decode prog_132_method_2_code 66 = .ok (.sipush 767, 3) := by decide +kernel
theorem d1_69 : decode prog_132_method_2_code 69 = .ok (.if_icmp .le 122, 3) := by decide +kernel
theorem d1_72 : decode prog_132_method_2_code 72 = .ok (.iload_n 0, 1) := by decide +kernel
theorem d1_73 : decode prog_132_method_2_code 73 = .ok (.sipush 880, 3) := by decide +kernel
theorem d1_76 : decode prog_132_method_2_code 76 = .ok (.if_icmp .lt 10, 3) := by decide +kernel
theorem d1_79 : decode prog_132_method_2_code 79 = .ok (.iload_n 0, 1) := by decide +kernel
theorem d1_80 : decode prog_132_method_2_code 80 = .ok (.sipush 893, 3) := by decide +kernel
theorem d1_83 : decode prog_132_method_2_code 83 = .ok (.if_icmp .le 108, 3) := by decide +kernel
theorem d1_86 : decode prog_132_method_2_code 86 = .ok (.iload_n 0, 1) := by decide +kernel
theorem d1_87 : decode prog_132_method_2_code 87 = .ok (.sipush 895, 3) := by decide +kernel
theorem d1_90 : decode prog_132_method_2_code 90 = .ok (.if_icmp .lt 10, 3) := by decide +kernel
theorem d1_93 : decode prog_132_method_2_code 93 = .ok (.iload_n 0, 1) := by decide +kernel
theorem d1_94 : decode prog_132_method_2_code 94 = .ok (.sipush 8191, 3) := by decide +kernel
theorem d1_97 : decode prog_132_method_2_code 97 = .ok (.if_icmp .le 94, 3) := by decide +kernel
theorem d1_100 : decode prog_132_method_2_code 100 = .ok (.iload_n 0, 1) := by decide +kernel
theorem d1_101 : decode prog_132_method_2_code 101 = .ok (.sipush 8204, 3) := by decide +kernel
theorem d1_104 : decode prog_132_method_2_code 104 = .ok (.if_icmp .lt 10, 3) := by decide +kernel
theorem d1_107 : decode prog_132_method_2_code 107 = .ok (.iload_n 0, 1) := by decide +kernel
theorem d1_108 : decode prog_132_method_2_code 108 = .ok (.sipush 8205, 3) := by decide +kernel
theorem d1_111 : decode prog_132_method_2_code 111 = .ok (.if_icmp .le 80, 3) := by decide +kernel
theorem d1_114 : decode prog_132_method_2_code 114 = .ok (.iload_n 0, 1) := by decide +kernel
theorem d1_115 : decode prog_132_method_2_code 115 = .ok (.sipush 8304, 3) := by decide +kernel
theorem d1_118 : decode prog_132_method_2_code 118 = .ok (.if_icmp .lt 10, 3) := by decide +kernel
theorem d1_121 : decode prog_132_method_2_code 121 = .ok (.iload_n 0, 1) := by decide +kernel
theorem d1_122 : decode prog_132_method_2_code 122 = .ok (.sipush 8591, 3) := by decide +kernel
theorem d1_125 : decode prog_132_method_2_code 125 = .ok (.if_icmp .le 66, 3) := by decide +kernel
theorem d1_128 : decode prog_132_method_2_code 128 = .ok (.iload_n 0, 1) := by decide +kernel
theorem d1_129 : decode prog_132_method_2_code 129 = .ok (.sipush 11264, 3) := by decide +kernel
theorem d1_132 : decode prog_132_method_2_code 132 = .ok (.if_icmp .lt 10, 3) := by decide +kernel
theorem d1_135 : decode prog_132_method_2_code 135 = .ok (.iload_n 0, 1) := by decide +kernel
theorem d1_136 : decode prog_132_method_2_code 136 = .ok (.sipush 12271, 3) := by decide +kernel
theorem d1_139 : decode prog_132_method_2_code 139 = .ok (.if_icmp .le 52, 3) := by decide +kernel
theorem d1_142 : decode prog_132_method_2_code 142 = .ok (.iload_n 0, 1) := by decide +kernel
theorem d1_143 : decode prog_132_method_2_code 143 = .ok (.sipush 12289, 3) := by decide +kernel
theorem d1_146 : decode prog_132_method_2_code 146 = .ok (.if_icmp .lt 9, 3) := by decide +kernel
theorem d1_149 : decode prog_132_method_2_code 149 = .ok (.iload_n 0, 1) := by decide +kernel
theorem d1_150 : decode prog_132_method_2_code 150 = .ok (.ldc 7, 2) := by decide +kernel
theorem d1_152 : decode prog_132_method_2_code 152 = .ok (.if_icmp .le 39, 3) := by decide +kernel
theorem d1_155 : decode prog_132_method_2_code 155 = .ok (.iload_n 0, 1) := by decide +kernel
theorem d1_156 : decode prog_132_method_2_code 156 = .ok (.ldc 8, 2) := by decide +kernel
theorem d1_158 : decode prog_132_method_2_code 158 = .ok (.if_icmp .lt 9, 3) := by decide +kernel
theorem d1_161 : decode prog_132_method_2_code 161 = .ok (.iload_n 0, 1) := by decide +kernel
theorem d1_162 : decode prog_132_method_2_code 162 = .ok (.ldc 9, 2) := by decide +kernel
theorem d1_164 : decode prog_132_method_2_code 164 = .ok (.if_icmp .le 27, 3) := by decide +kernel
theorem d1_167 : decode prog_132_method_2_code 167 = .ok (.iload_n 0, 1) := by decide +kernel
theorem d1_168 : decode prog_132_method_2_code 168 = .ok (.ldc 10, 2) := by decide +kernel
theorem d1_170 : decode prog_132_method_2_code 170 = .ok (.if_icmp .lt 9, 3) := by decide +kernel
theorem d1_173 : decode prog_132_method_2_code 173 = .ok (.iload_n 0, 1) := by decide +kernel
theorem d1_174 : decode prog_132_method_2_code 174 = .ok (.ldc 11, 2) := by decide +kernel
theorem d1_176 : decode prog_132_method_2_code 176 = .ok (.if_icmp .le 15, 3) := by decide +kernel
theorem d1_179 : decode prog_132_method_2_code 179 = .ok (.iload_n 0, 1) := by decide +kernel
theorem d1_180 : decode prog_132_method_2_code 180 = .ok (.ldc 12, 2) := by decide +kernel
theorem d1_182 : decode prog_132_method_2_code 182 = .ok (.if_icmp .lt 13, 3) := by decide +kernel
theorem d1_185 : decode prog_132_method_2_code 185 = .ok (.iload_n 0, 1) := by decide +kernel
theorem d1_186 : decode prog_132_method_2_code 186 = .ok (.ldc 13, 2) := by decide +kernel
theorem d1_188 : decode prog_132_method_2_code 188 = .ok (.if_icmp .gt 7, 3) := by decide +kernel
theorem d1_191 : decode prog_132_method_2_code 191 = .ok (.iconst 1, 1) := by decide +kernel
theorem d1_192 : decode prog_132_method_2_code 192 = .ok (.goto 4, 3) := by decide +kernel
theorem d1_195 : decode prog_132_method_2_code 195 = .ok (.iconst 0, 1) := by decide +kernel
theorem d1_196 : decode prog_132_method_2_code 196 = .ok (.ireturn, 1) := by decide +kernel
def r1 : Room := { frames := 0, cells := 0, slots := 0, locals := 0 }
theorem pd1 : parseMethodDescriptor "(I)Z" = some ⟨[.int], some .boolean⟩ := by decide +kernel
theorem pn1 : plainName "com/example/violet/violet/model/XmlChars" = true := by first | (simp [plainName, overriddenIn]; done) | decide +kernel
theorem ef1 (m : MethodId) (x0 : Int32) : entryFrame m #[(.int x0)] 1 = mkF m 0 #[.val (.int x0)] [] := by first | (simp [entryFrame, mkF, argsToLocals, Value.category]; done) | rfl
def f1_191 : Int32 := (1 : Int32)
theorem j1_191 {p : Program} {l : Launch} {e : Env} {s : State} {m : MethodId} {args : Array Value} {below : List Frame} {meth : Method} {c : Code} {n0 : Nat} {H : Heap → Prop} {h : Heap} {Z : State} {a0 : Array Value} (hw : ∀ d ∈ tables_1, d.before a0 Z = true) (hH : H h) (C : Cx p s m meth c Z "com/example/violet/violet/model/XmlChars" "isNameStart" prog_132_method_2_code (some .boolean) 1) (x0 : Int32) : Go p l e r1 s m args below meth c n0 (Ret n0 H (f1_191)) h 0 0 (mkF m 191 #[.val (.int x0)] []) := by
  unfold f1_191
  refine g_iconst C d1_191 (v := (1 : Int32)) (by decide) (pc' := 192) rfl ?_
  refine g_goto C d1_192 (by decide) (pc' := 196) (by decide) ?_
  exact g_retZ C d1_196 (by decide) hH (by decide) (by decide)
def f1_195 : Int32 := (0 : Int32)
theorem j1_195 {p : Program} {l : Launch} {e : Env} {s : State} {m : MethodId} {args : Array Value} {below : List Frame} {meth : Method} {c : Code} {n0 : Nat} {H : Heap → Prop} {h : Heap} {Z : State} {a0 : Array Value} (hw : ∀ d ∈ tables_1, d.before a0 Z = true) (hH : H h) (C : Cx p s m meth c Z "com/example/violet/violet/model/XmlChars" "isNameStart" prog_132_method_2_code (some .boolean) 1) (x0 : Int32) : Go p l e r1 s m args below meth c n0 (Ret n0 H (f1_195)) h 0 0 (mkF m 195 #[.val (.int x0)] []) := by
  unfold f1_195
  refine g_iconst C d1_195 (v := (0 : Int32)) (by decide) (pc' := 196) rfl ?_
  exact g_retZ C d1_196 (by decide) hH (by decide) (by decide)
def f1_179 (x0 : Int32) : Int32 := (if x0 < (65536 : Int32) then f1_195 else (if (983039 : Int32) < x0 then f1_195 else f1_191))
theorem j1_179 {p : Program} {l : Launch} {e : Env} {s : State} {m : MethodId} {args : Array Value} {below : List Frame} {meth : Method} {c : Code} {n0 : Nat} {H : Heap → Prop} {h : Heap} {Z : State} {a0 : Array Value} (hw : ∀ d ∈ tables_1, d.before a0 Z = true) (hH : H h) (C : Cx p s m meth c Z "com/example/violet/violet/model/XmlChars" "isNameStart" prog_132_method_2_code (some .boolean) 1) (x0 : Int32) : Go p l e r1 s m args below meth c n0 (Ret n0 H (f1_179 x0)) h 0 0 (mkF m 179 #[.val (.int x0)] []) := by
  unfold f1_179
  refine g_iloadN C d1_179 rfl (pc' := 180) rfl ?_
  refine g_ldc C (v := (65536 : Int32)) (hw _ (List.mem_of_getElem? (i := 16) rfl)) d1_180 (pc' := 182) rfl ?_
  refine g_icmp C d1_182 (c_lt x0 (65536 : Int32)) (by decide) (pc2 := 195) (by decide) (pc' := 185) rfl (fun hP => Go.pos ?_ hP) (fun hP => Go.neg ?_ hP)
  · exact j1_195 hw hH C x0
  · refine g_iloadN C d1_185 rfl (pc' := 186) rfl ?_
    refine g_ldc C (v := (983039 : Int32)) (hw _ (List.mem_of_getElem? (i := 28) rfl)) d1_186 (pc' := 188) rfl ?_
    refine g_icmp C d1_188 (c_gt x0 (983039 : Int32)) (by decide) (pc2 := 195) (by decide) (pc' := 191) rfl (fun hP => Go.pos ?_ hP) (fun hP => Go.neg ?_ hP)
    · exact j1_195 hw hH C x0
    · exact j1_191 hw hH C x0
def f1_167 (x0 : Int32) : Int32 := (if x0 < (65008 : Int32) then f1_179 x0 else (if ¬ (65533 : Int32) < x0 then f1_191 else f1_179 x0))
theorem j1_167 {p : Program} {l : Launch} {e : Env} {s : State} {m : MethodId} {args : Array Value} {below : List Frame} {meth : Method} {c : Code} {n0 : Nat} {H : Heap → Prop} {h : Heap} {Z : State} {a0 : Array Value} (hw : ∀ d ∈ tables_1, d.before a0 Z = true) (hH : H h) (C : Cx p s m meth c Z "com/example/violet/violet/model/XmlChars" "isNameStart" prog_132_method_2_code (some .boolean) 1) (x0 : Int32) : Go p l e r1 s m args below meth c n0 (Ret n0 H (f1_167 x0)) h 0 0 (mkF m 167 #[.val (.int x0)] []) := by
  unfold f1_167
  refine g_iloadN C d1_167 rfl (pc' := 168) rfl ?_
  refine g_ldc C (v := (65008 : Int32)) (hw _ (List.mem_of_getElem? (i := 15) rfl)) d1_168 (pc' := 170) rfl ?_
  refine g_icmp C d1_170 (c_lt x0 (65008 : Int32)) (by decide) (pc2 := 179) (by decide) (pc' := 173) rfl (fun hP => Go.pos ?_ hP) (fun hP => Go.neg ?_ hP)
  · exact j1_179 hw hH C x0
  · refine g_iloadN C d1_173 rfl (pc' := 174) rfl ?_
    refine g_ldc C (v := (65533 : Int32)) (hw _ (List.mem_of_getElem? (i := 27) rfl)) d1_174 (pc' := 176) rfl ?_
    refine g_icmp C d1_176 (c_le x0 (65533 : Int32)) (by decide) (pc2 := 191) (by decide) (pc' := 179) rfl (fun hP => Go.pos ?_ hP) (fun hP => Go.neg ?_ hP)
    · exact j1_191 hw hH C x0
    · exact j1_179 hw hH C x0
def f1_155 (x0 : Int32) : Int32 := (if x0 < (63744 : Int32) then f1_167 x0 else (if ¬ (64975 : Int32) < x0 then f1_191 else f1_167 x0))
theorem j1_155 {p : Program} {l : Launch} {e : Env} {s : State} {m : MethodId} {args : Array Value} {below : List Frame} {meth : Method} {c : Code} {n0 : Nat} {H : Heap → Prop} {h : Heap} {Z : State} {a0 : Array Value} (hw : ∀ d ∈ tables_1, d.before a0 Z = true) (hH : H h) (C : Cx p s m meth c Z "com/example/violet/violet/model/XmlChars" "isNameStart" prog_132_method_2_code (some .boolean) 1) (x0 : Int32) : Go p l e r1 s m args below meth c n0 (Ret n0 H (f1_155 x0)) h 0 0 (mkF m 155 #[.val (.int x0)] []) := by
  unfold f1_155
  refine g_iloadN C d1_155 rfl (pc' := 156) rfl ?_
  refine g_ldc C (v := (63744 : Int32)) (hw _ (List.mem_of_getElem? (i := 14) rfl)) d1_156 (pc' := 158) rfl ?_
  refine g_icmp C d1_158 (c_lt x0 (63744 : Int32)) (by decide) (pc2 := 167) (by decide) (pc' := 161) rfl (fun hP => Go.pos ?_ hP) (fun hP => Go.neg ?_ hP)
  · exact j1_167 hw hH C x0
  · refine g_iloadN C d1_161 rfl (pc' := 162) rfl ?_
    refine g_ldc C (v := (64975 : Int32)) (hw _ (List.mem_of_getElem? (i := 26) rfl)) d1_162 (pc' := 164) rfl ?_
    refine g_icmp C d1_164 (c_le x0 (64975 : Int32)) (by decide) (pc2 := 191) (by decide) (pc' := 167) rfl (fun hP => Go.pos ?_ hP) (fun hP => Go.neg ?_ hP)
    · exact j1_191 hw hH C x0
    · exact j1_167 hw hH C x0
def f1_142 (x0 : Int32) : Int32 := (if x0 < (12289 : Int32) then f1_155 x0 else (if ¬ (55295 : Int32) < x0 then f1_191 else f1_155 x0))
theorem j1_142 {p : Program} {l : Launch} {e : Env} {s : State} {m : MethodId} {args : Array Value} {below : List Frame} {meth : Method} {c : Code} {n0 : Nat} {H : Heap → Prop} {h : Heap} {Z : State} {a0 : Array Value} (hw : ∀ d ∈ tables_1, d.before a0 Z = true) (hH : H h) (C : Cx p s m meth c Z "com/example/violet/violet/model/XmlChars" "isNameStart" prog_132_method_2_code (some .boolean) 1) (x0 : Int32) : Go p l e r1 s m args below meth c n0 (Ret n0 H (f1_142 x0)) h 0 0 (mkF m 142 #[.val (.int x0)] []) := by
  unfold f1_142
  refine g_iloadN C d1_142 rfl (pc' := 143) rfl ?_
  refine g_sipush C d1_143 (v := (12289 : Int32)) (by decide) (pc' := 146) rfl ?_
  refine g_icmp C d1_146 (c_lt x0 (12289 : Int32)) (by decide) (pc2 := 155) (by decide) (pc' := 149) rfl (fun hP => Go.pos ?_ hP) (fun hP => Go.neg ?_ hP)
  · exact j1_155 hw hH C x0
  · refine g_iloadN C d1_149 rfl (pc' := 150) rfl ?_
    refine g_ldc C (v := (55295 : Int32)) (hw _ (List.mem_of_getElem? (i := 25) rfl)) d1_150 (pc' := 152) rfl ?_
    refine g_icmp C d1_152 (c_le x0 (55295 : Int32)) (by decide) (pc2 := 191) (by decide) (pc' := 155) rfl (fun hP => Go.pos ?_ hP) (fun hP => Go.neg ?_ hP)
    · exact j1_191 hw hH C x0
    · exact j1_155 hw hH C x0
def f1_128 (x0 : Int32) : Int32 := (if x0 < (11264 : Int32) then f1_142 x0 else (if ¬ (12271 : Int32) < x0 then f1_191 else f1_142 x0))
theorem j1_128 {p : Program} {l : Launch} {e : Env} {s : State} {m : MethodId} {args : Array Value} {below : List Frame} {meth : Method} {c : Code} {n0 : Nat} {H : Heap → Prop} {h : Heap} {Z : State} {a0 : Array Value} (hw : ∀ d ∈ tables_1, d.before a0 Z = true) (hH : H h) (C : Cx p s m meth c Z "com/example/violet/violet/model/XmlChars" "isNameStart" prog_132_method_2_code (some .boolean) 1) (x0 : Int32) : Go p l e r1 s m args below meth c n0 (Ret n0 H (f1_128 x0)) h 0 0 (mkF m 128 #[.val (.int x0)] []) := by
  unfold f1_128
  refine g_iloadN C d1_128 rfl (pc' := 129) rfl ?_
  refine g_sipush C d1_129 (v := (11264 : Int32)) (by decide) (pc' := 132) rfl ?_
  refine g_icmp C d1_132 (c_lt x0 (11264 : Int32)) (by decide) (pc2 := 142) (by decide) (pc' := 135) rfl (fun hP => Go.pos ?_ hP) (fun hP => Go.neg ?_ hP)
  · exact j1_142 hw hH C x0
  · refine g_iloadN C d1_135 rfl (pc' := 136) rfl ?_
    refine g_sipush C d1_136 (v := (12271 : Int32)) (by decide) (pc' := 139) rfl ?_
    refine g_icmp C d1_139 (c_le x0 (12271 : Int32)) (by decide) (pc2 := 191) (by decide) (pc' := 142) rfl (fun hP => Go.pos ?_ hP) (fun hP => Go.neg ?_ hP)
    · exact j1_191 hw hH C x0
    · exact j1_142 hw hH C x0
def f1_114 (x0 : Int32) : Int32 := (if x0 < (8304 : Int32) then f1_128 x0 else (if ¬ (8591 : Int32) < x0 then f1_191 else f1_128 x0))
theorem j1_114 {p : Program} {l : Launch} {e : Env} {s : State} {m : MethodId} {args : Array Value} {below : List Frame} {meth : Method} {c : Code} {n0 : Nat} {H : Heap → Prop} {h : Heap} {Z : State} {a0 : Array Value} (hw : ∀ d ∈ tables_1, d.before a0 Z = true) (hH : H h) (C : Cx p s m meth c Z "com/example/violet/violet/model/XmlChars" "isNameStart" prog_132_method_2_code (some .boolean) 1) (x0 : Int32) : Go p l e r1 s m args below meth c n0 (Ret n0 H (f1_114 x0)) h 0 0 (mkF m 114 #[.val (.int x0)] []) := by
  unfold f1_114
  refine g_iloadN C d1_114 rfl (pc' := 115) rfl ?_
  refine g_sipush C d1_115 (v := (8304 : Int32)) (by decide) (pc' := 118) rfl ?_
  refine g_icmp C d1_118 (c_lt x0 (8304 : Int32)) (by decide) (pc2 := 128) (by decide) (pc' := 121) rfl (fun hP => Go.pos ?_ hP) (fun hP => Go.neg ?_ hP)
  · exact j1_128 hw hH C x0
  · refine g_iloadN C d1_121 rfl (pc' := 122) rfl ?_
    refine g_sipush C d1_122 (v := (8591 : Int32)) (by decide) (pc' := 125) rfl ?_
    refine g_icmp C d1_125 (c_le x0 (8591 : Int32)) (by decide) (pc2 := 191) (by decide) (pc' := 128) rfl (fun hP => Go.pos ?_ hP) (fun hP => Go.neg ?_ hP)
    · exact j1_191 hw hH C x0
    · exact j1_128 hw hH C x0
def f1_100 (x0 : Int32) : Int32 := (if x0 < (8204 : Int32) then f1_114 x0 else (if ¬ (8205 : Int32) < x0 then f1_191 else f1_114 x0))
theorem j1_100 {p : Program} {l : Launch} {e : Env} {s : State} {m : MethodId} {args : Array Value} {below : List Frame} {meth : Method} {c : Code} {n0 : Nat} {H : Heap → Prop} {h : Heap} {Z : State} {a0 : Array Value} (hw : ∀ d ∈ tables_1, d.before a0 Z = true) (hH : H h) (C : Cx p s m meth c Z "com/example/violet/violet/model/XmlChars" "isNameStart" prog_132_method_2_code (some .boolean) 1) (x0 : Int32) : Go p l e r1 s m args below meth c n0 (Ret n0 H (f1_100 x0)) h 0 0 (mkF m 100 #[.val (.int x0)] []) := by
  unfold f1_100
  refine g_iloadN C d1_100 rfl (pc' := 101) rfl ?_
  refine g_sipush C d1_101 (v := (8204 : Int32)) (by decide) (pc' := 104) rfl ?_
  refine g_icmp C d1_104 (c_lt x0 (8204 : Int32)) (by decide) (pc2 := 114) (by decide) (pc' := 107) rfl (fun hP => Go.pos ?_ hP) (fun hP => Go.neg ?_ hP)
  · exact j1_114 hw hH C x0
  · refine g_iloadN C d1_107 rfl (pc' := 108) rfl ?_
    refine g_sipush C d1_108 (v := (8205 : Int32)) (by decide) (pc' := 111) rfl ?_
    refine g_icmp C d1_111 (c_le x0 (8205 : Int32)) (by decide) (pc2 := 191) (by decide) (pc' := 114) rfl (fun hP => Go.pos ?_ hP) (fun hP => Go.neg ?_ hP)
    · exact j1_191 hw hH C x0
    · exact j1_114 hw hH C x0
def f1_86 (x0 : Int32) : Int32 := (if x0 < (895 : Int32) then f1_100 x0 else (if ¬ (8191 : Int32) < x0 then f1_191 else f1_100 x0))
theorem j1_86 {p : Program} {l : Launch} {e : Env} {s : State} {m : MethodId} {args : Array Value} {below : List Frame} {meth : Method} {c : Code} {n0 : Nat} {H : Heap → Prop} {h : Heap} {Z : State} {a0 : Array Value} (hw : ∀ d ∈ tables_1, d.before a0 Z = true) (hH : H h) (C : Cx p s m meth c Z "com/example/violet/violet/model/XmlChars" "isNameStart" prog_132_method_2_code (some .boolean) 1) (x0 : Int32) : Go p l e r1 s m args below meth c n0 (Ret n0 H (f1_86 x0)) h 0 0 (mkF m 86 #[.val (.int x0)] []) := by
  unfold f1_86
  refine g_iloadN C d1_86 rfl (pc' := 87) rfl ?_
  refine g_sipush C d1_87 (v := (895 : Int32)) (by decide) (pc' := 90) rfl ?_
  refine g_icmp C d1_90 (c_lt x0 (895 : Int32)) (by decide) (pc2 := 100) (by decide) (pc' := 93) rfl (fun hP => Go.pos ?_ hP) (fun hP => Go.neg ?_ hP)
  · exact j1_100 hw hH C x0
  · refine g_iloadN C d1_93 rfl (pc' := 94) rfl ?_
    refine g_sipush C d1_94 (v := (8191 : Int32)) (by decide) (pc' := 97) rfl ?_
    refine g_icmp C d1_97 (c_le x0 (8191 : Int32)) (by decide) (pc2 := 191) (by decide) (pc' := 100) rfl (fun hP => Go.pos ?_ hP) (fun hP => Go.neg ?_ hP)
    · exact j1_191 hw hH C x0
    · exact j1_100 hw hH C x0
def f1_72 (x0 : Int32) : Int32 := (if x0 < (880 : Int32) then f1_86 x0 else (if ¬ (893 : Int32) < x0 then f1_191 else f1_86 x0))
theorem j1_72 {p : Program} {l : Launch} {e : Env} {s : State} {m : MethodId} {args : Array Value} {below : List Frame} {meth : Method} {c : Code} {n0 : Nat} {H : Heap → Prop} {h : Heap} {Z : State} {a0 : Array Value} (hw : ∀ d ∈ tables_1, d.before a0 Z = true) (hH : H h) (C : Cx p s m meth c Z "com/example/violet/violet/model/XmlChars" "isNameStart" prog_132_method_2_code (some .boolean) 1) (x0 : Int32) : Go p l e r1 s m args below meth c n0 (Ret n0 H (f1_72 x0)) h 0 0 (mkF m 72 #[.val (.int x0)] []) := by
  unfold f1_72
  refine g_iloadN C d1_72 rfl (pc' := 73) rfl ?_
  refine g_sipush C d1_73 (v := (880 : Int32)) (by decide) (pc' := 76) rfl ?_
  refine g_icmp C d1_76 (c_lt x0 (880 : Int32)) (by decide) (pc2 := 86) (by decide) (pc' := 79) rfl (fun hP => Go.pos ?_ hP) (fun hP => Go.neg ?_ hP)
  · exact j1_86 hw hH C x0
  · refine g_iloadN C d1_79 rfl (pc' := 80) rfl ?_
    refine g_sipush C d1_80 (v := (893 : Int32)) (by decide) (pc' := 83) rfl ?_
    refine g_icmp C d1_83 (c_le x0 (893 : Int32)) (by decide) (pc2 := 191) (by decide) (pc' := 86) rfl (fun hP => Go.pos ?_ hP) (fun hP => Go.neg ?_ hP)
    · exact j1_191 hw hH C x0
    · exact j1_86 hw hH C x0
def f1_58 (x0 : Int32) : Int32 := (if x0 < (248 : Int32) then f1_72 x0 else (if ¬ (767 : Int32) < x0 then f1_191 else f1_72 x0))
theorem j1_58 {p : Program} {l : Launch} {e : Env} {s : State} {m : MethodId} {args : Array Value} {below : List Frame} {meth : Method} {c : Code} {n0 : Nat} {H : Heap → Prop} {h : Heap} {Z : State} {a0 : Array Value} (hw : ∀ d ∈ tables_1, d.before a0 Z = true) (hH : H h) (C : Cx p s m meth c Z "com/example/violet/violet/model/XmlChars" "isNameStart" prog_132_method_2_code (some .boolean) 1) (x0 : Int32) : Go p l e r1 s m args below meth c n0 (Ret n0 H (f1_58 x0)) h 0 0 (mkF m 58 #[.val (.int x0)] []) := by
  unfold f1_58
  refine g_iloadN C d1_58 rfl (pc' := 59) rfl ?_
  refine g_sipush C d1_59 (v := (248 : Int32)) (by decide) (pc' := 62) rfl ?_
  refine g_icmp C d1_62 (c_lt x0 (248 : Int32)) (by decide) (pc2 := 72) (by decide) (pc' := 65) rfl (fun hP => Go.pos ?_ hP) (fun hP => Go.neg ?_ hP)
  · exact j1_72 hw hH C x0
  · refine g_iloadN C d1_65 rfl (pc' := 66) rfl ?_
    refine g_sipush C d1_66 (v := (767 : Int32)) (by decide) (pc' := 69) rfl ?_
    refine g_icmp C d1_69 (c_le x0 (767 : Int32)) (by decide) (pc2 := 191) (by decide) (pc' := 72) rfl (fun hP => Go.pos ?_ hP) (fun hP => Go.neg ?_ hP)
    · exact j1_191 hw hH C x0
    · exact j1_72 hw hH C x0
def f1_44 (x0 : Int32) : Int32 := (if x0 < (216 : Int32) then f1_58 x0 else (if ¬ (246 : Int32) < x0 then f1_191 else f1_58 x0))
theorem j1_44 {p : Program} {l : Launch} {e : Env} {s : State} {m : MethodId} {args : Array Value} {below : List Frame} {meth : Method} {c : Code} {n0 : Nat} {H : Heap → Prop} {h : Heap} {Z : State} {a0 : Array Value} (hw : ∀ d ∈ tables_1, d.before a0 Z = true) (hH : H h) (C : Cx p s m meth c Z "com/example/violet/violet/model/XmlChars" "isNameStart" prog_132_method_2_code (some .boolean) 1) (x0 : Int32) : Go p l e r1 s m args below meth c n0 (Ret n0 H (f1_44 x0)) h 0 0 (mkF m 44 #[.val (.int x0)] []) := by
  unfold f1_44
  refine g_iloadN C d1_44 rfl (pc' := 45) rfl ?_
  refine g_sipush C d1_45 (v := (216 : Int32)) (by decide) (pc' := 48) rfl ?_
  refine g_icmp C d1_48 (c_lt x0 (216 : Int32)) (by decide) (pc2 := 58) (by decide) (pc' := 51) rfl (fun hP => Go.pos ?_ hP) (fun hP => Go.neg ?_ hP)
  · exact j1_58 hw hH C x0
  · refine g_iloadN C d1_51 rfl (pc' := 52) rfl ?_
    refine g_sipush C d1_52 (v := (246 : Int32)) (by decide) (pc' := 55) rfl ?_
    refine g_icmp C d1_55 (c_le x0 (246 : Int32)) (by decide) (pc2 := 191) (by decide) (pc' := 58) rfl (fun hP => Go.pos ?_ hP) (fun hP => Go.neg ?_ hP)
    · exact j1_191 hw hH C x0
    · exact j1_58 hw hH C x0
def f1_24 (x0 : Int32) : Int32 := (if x0 = (95 : Int32) then f1_191 else (if x0 < (192 : Int32) then f1_44 x0 else (if ¬ (214 : Int32) < x0 then f1_191 else f1_44 x0)))
theorem j1_24 {p : Program} {l : Launch} {e : Env} {s : State} {m : MethodId} {args : Array Value} {below : List Frame} {meth : Method} {c : Code} {n0 : Nat} {H : Heap → Prop} {h : Heap} {Z : State} {a0 : Array Value} (hw : ∀ d ∈ tables_1, d.before a0 Z = true) (hH : H h) (C : Cx p s m meth c Z "com/example/violet/violet/model/XmlChars" "isNameStart" prog_132_method_2_code (some .boolean) 1) (x0 : Int32) : Go p l e r1 s m args below meth c n0 (Ret n0 H (f1_24 x0)) h 0 0 (mkF m 24 #[.val (.int x0)] []) := by
  unfold f1_24
  refine g_iloadN C d1_24 rfl (pc' := 25) rfl ?_
  refine g_bipush C d1_25 (v := (95 : Int32)) (by decide) (pc' := 27) rfl ?_
  refine g_icmp C d1_27 (c_eq x0 (95 : Int32)) (by decide) (pc2 := 191) (by decide) (pc' := 30) rfl (fun hP => Go.pos ?_ hP) (fun hP => Go.neg ?_ hP)
  · exact j1_191 hw hH C x0
  · refine g_iloadN C d1_30 rfl (pc' := 31) rfl ?_
    refine g_sipush C d1_31 (v := (192 : Int32)) (by decide) (pc' := 34) rfl ?_
    refine g_icmp C d1_34 (c_lt x0 (192 : Int32)) (by decide) (pc2 := 44) (by decide) (pc' := 37) rfl (fun hP => Go.pos ?_ hP) (fun hP => Go.neg ?_ hP)
    · exact j1_44 hw hH C x0
    · refine g_iloadN C d1_37 rfl (pc' := 38) rfl ?_
      refine g_sipush C d1_38 (v := (214 : Int32)) (by decide) (pc' := 41) rfl ?_
      refine g_icmp C d1_41 (c_le x0 (214 : Int32)) (by decide) (pc2 := 191) (by decide) (pc' := 44) rfl (fun hP => Go.pos ?_ hP) (fun hP => Go.neg ?_ hP)
      · exact j1_191 hw hH C x0
      · exact j1_44 hw hH C x0
def f1_12 (x0 : Int32) : Int32 := (if x0 < (65 : Int32) then f1_24 x0 else (if ¬ (90 : Int32) < x0 then f1_191 else f1_24 x0))
theorem j1_12 {p : Program} {l : Launch} {e : Env} {s : State} {m : MethodId} {args : Array Value} {below : List Frame} {meth : Method} {c : Code} {n0 : Nat} {H : Heap → Prop} {h : Heap} {Z : State} {a0 : Array Value} (hw : ∀ d ∈ tables_1, d.before a0 Z = true) (hH : H h) (C : Cx p s m meth c Z "com/example/violet/violet/model/XmlChars" "isNameStart" prog_132_method_2_code (some .boolean) 1) (x0 : Int32) : Go p l e r1 s m args below meth c n0 (Ret n0 H (f1_12 x0)) h 0 0 (mkF m 12 #[.val (.int x0)] []) := by
  unfold f1_12
  refine g_iloadN C d1_12 rfl (pc' := 13) rfl ?_
  refine g_bipush C d1_13 (v := (65 : Int32)) (by decide) (pc' := 15) rfl ?_
  refine g_icmp C d1_15 (c_lt x0 (65 : Int32)) (by decide) (pc2 := 24) (by decide) (pc' := 18) rfl (fun hP => Go.pos ?_ hP) (fun hP => Go.neg ?_ hP)
  · exact j1_24 hw hH C x0
  · refine g_iloadN C d1_18 rfl (pc' := 19) rfl ?_
    refine g_bipush C d1_19 (v := (90 : Int32)) (by decide) (pc' := 21) rfl ?_
    refine g_icmp C d1_21 (c_le x0 (90 : Int32)) (by decide) (pc2 := 191) (by decide) (pc' := 24) rfl (fun hP => Go.pos ?_ hP) (fun hP => Go.neg ?_ hP)
    · exact j1_191 hw hH C x0
    · exact j1_24 hw hH C x0
def f1_0 (x0 : Int32) : Int32 := (if x0 < (97 : Int32) then f1_12 x0 else (if ¬ (122 : Int32) < x0 then f1_191 else f1_12 x0))
theorem j1_0 {p : Program} {l : Launch} {e : Env} {s : State} {m : MethodId} {args : Array Value} {below : List Frame} {meth : Method} {c : Code} {n0 : Nat} {H : Heap → Prop} {h : Heap} {Z : State} {a0 : Array Value} (hw : ∀ d ∈ tables_1, d.before a0 Z = true) (hH : H h) (C : Cx p s m meth c Z "com/example/violet/violet/model/XmlChars" "isNameStart" prog_132_method_2_code (some .boolean) 1) (x0 : Int32) : Go p l e r1 s m args below meth c n0 (Ret n0 H (f1_0 x0)) h 0 0 (mkF m 0 #[.val (.int x0)] []) := by
  unfold f1_0
  refine g_iloadN C d1_0 rfl (pc' := 1) rfl ?_
  refine g_bipush C d1_1 (v := (97 : Int32)) (by decide) (pc' := 3) rfl ?_
  refine g_icmp C d1_3 (c_lt x0 (97 : Int32)) (by decide) (pc2 := 12) (by decide) (pc' := 6) rfl (fun hP => Go.pos ?_ hP) (fun hP => Go.neg ?_ hP)
  · exact j1_12 hw hH C x0
  · refine g_iloadN C d1_6 rfl (pc' := 7) rfl ?_
    refine g_bipush C d1_7 (v := (122 : Int32)) (by decide) (pc' := 9) rfl ?_
    refine g_icmp C d1_9 (c_le x0 (122 : Int32)) (by decide) (pc2 := 191) (by decide) (pc' := 12) rfl (fun hP => Go.pos ?_ hP) (fun hP => Go.neg ?_ hP)
    · exact j1_191 hw hH C x0
    · exact j1_12 hw hH C x0
theorem rm1 (l : Launch) (Z : State) (a0 : Array Value) (hw : ∀ d ∈ tables_1, d.before a0 Z = true) (ws : List Jvm.Cond) (h : Heap) (n0 : Nat) (x0 : Int32) : Con l Z (⟨"com/example/violet/violet/model/XmlChars", "isNameStart", "(I)Z"⟩ : MethodName) prog_132_method_2_code 1 (some .boolean) r1 ws #[(.int x0)] h (Ret n0 (· = h) (f1_0 x0)) :=
  con_of n0 pn1 (fun m => ef1 m x0) fun p e s m below meth c C => j1_0 (H := (· = h)) hw rfl C x0
theorem d2_0 : decode method_3_code 0 = .ok (.iload_n 0, 1) := by decide +kernel
theorem d2_1 : decode method_3_code 1 = .ok (.bipush 65, 2) := by decide +kernel
theorem d2_3 : decode method_3_code 3 = .ok (.if_icmp .lt 9, 3) := by decide +kernel
theorem d2_6 : decode method_3_code 6 = .ok (.iload_n 0, 1) := by decide +kernel
theorem d2_7 : decode method_3_code 7 = .ok (.ldc 13, 2) := by decide +kernel
theorem d2_9 : decode method_3_code 9 = .ok (.if_icmp .le 5, 3) := by decide +kernel
theorem d2_12 : decode method_3_code 12 = .ok (.iconst 0, 1) := by decide +kernel
theorem d2_13 : decode method_3_code 13 = .ok (.ireturn, 1) := by decide +kernel
theorem d2_14 : decode method_3_code 14 = .ok (.iload_n 0, 1) := by decide +kernel
theorem d2_15 : decode method_3_code 15 = .ok (.bipush 91, 2) := by decide +kernel
theorem d2_17 : decode method_3_code 17 = .ok (.if_icmp .lt 11, 3) := by decide +kernel
theorem d2_20 : decode method_3_code 20 = .ok (.iload_n 0, 1) := by decide +kernel
theorem d2_21 : decode method_3_code 21 = .ok (.bipush 94, 2) := by decide +kernel
theorem d2_23 : decode method_3_code 23 = .ok (.if_icmp .gt 5, 3) := by decide +kernel
theorem d2_26 : decode method_3_code 26 = .ok (.iconst 0, 1) := by decide +kernel
theorem d2_27 : decode method_3_code 27 = .ok (.ireturn, 1) := by decide +kernel
theorem d2_28 : decode method_3_code 28 = .ok (.iload_n 0, 1) := by decide +kernel
theorem d2_29 : decode method_3_code 29 = .ok (.bipush 96, 2) := by decide +kernel
theorem d2_31 : decode method_3_code 31 = .ok (.if_icmp .ne 5, 3) := by decide +kernel
theorem d2_34 : decode method_3_code 34 = .ok (.iconst 0, 1) := by decide +kernel
theorem d2_35 : decode method_3_code 35 = .ok (.ireturn, 1) := by decide +kernel
theorem d2_36 : decode method_3_code 36 = .ok (.iload_n 0, 1) := by decide +kernel
theorem d2_37 : decode method_3_code 37 = .ok (.bipush 123, 2) := by decide +kernel
theorem d2_39 : decode method_3_code 39 = .ok (.if_icmp .lt 12, 3) := by decide +kernel
theorem d2_42 : decode method_3_code 42 = .ok (.iload_n 0, 1) := by decide +kernel
theorem d2_43 : decode method_3_code 43 = .ok (.sipush 191, 3) := by decide +kernel
theorem d2_46 : decode method_3_code 46 = .ok (.if_icmp .gt 5, 3) := by decide +kernel
theorem d2_49 : decode method_3_code 49 = .ok (.iconst 0, 1) := by decide +kernel
theorem d2_50 : decode method_3_code 50 = .ok (.ireturn, 1) := by decide +kernel
theorem d2_51 : decode method_3_code 51 = .ok (.iload_n 0, 1) := by decide +kernel
theorem d2_52 : decode method_3_code 52 = .ok (.sipush 215, 3) := by decide +kernel
theorem d2_55 : decode method_3_code 55 = .ok (.if_icmp .eq 10, 3) := by decide +kernel
theorem d2_58 : decode method_3_code 58 = .ok (.iload_n 0, 1) := by decide +kernel
theorem d2_59 : decode method_3_code 59 = .ok (.sipush 247, 3) := by decide +kernel
theorem d2_62 : decode method_3_code 62 = .ok (.if_icmp .ne 5, 3) := by decide +kernel
theorem d2_65 : decode method_3_code 65 = .ok (.iconst 0, 1) := by decide +kernel
theorem d2_66 : decode method_3_code 66 = .ok (.ireturn, 1) := by decide +kernel
theorem d2_67 : decode method_3_code 67 = .ok (.iload_n 0, 1) := by decide +kernel
theorem d2_68 : decode method_3_code 68 = .ok (.sipush 768, 3) := by decide +kernel
theorem d2_71 : decode method_3_code 71 = .ok (.if_icmp .lt 12, 3) := by decide +kernel
theorem d2_74 : decode method_3_code 74 = .ok (.iload_n 0, 1) := by decide +kernel
theorem d2_75 : decode method_3_code 75 = .ok (.sipush 879, 3) := by decide +kernel
theorem d2_78 : decode method_3_code 78 = .ok (.if_icmp .gt 5, 3) := by decide +kernel
theorem d2_81 : decode method_3_code 81 = .ok (.iconst 0, 1) := by decide +kernel
theorem d2_82 : decode method_3_code 82 = .ok (.ireturn, 1) := by decide +kernel
theorem d2_83 : decode method_3_code 83 = .ok (.iload_n 0, 1) := by decide +kernel
theorem d2_84 : decode method_3_code 84 = .ok (.sipush 894, 3) := by decide +kernel
theorem d2_87 : decode method_3_code 87 = .ok (.if_icmp .ne 5, 3) := by decide +kernel
theorem d2_90 : decode method_3_code 90 = .ok (.iconst 0, 1) := by decide +kernel
theorem d2_91 : decode method_3_code 91 = .ok (.ireturn, 1) := by decide +kernel
theorem d2_92 : decode method_3_code 92 = .ok (.iload_n 0, 1) := by decide +kernel
theorem d2_93 : decode method_3_code 93 = .ok (.sipush 8192, 3) := by decide +kernel
theorem d2_96 : decode method_3_code 96 = .ok (.if_icmp .lt 12, 3) := by decide +kernel
theorem d2_99 : decode method_3_code 99 = .ok (.iload_n 0, 1) := by decide +kernel
theorem d2_100 : decode method_3_code 100 = .ok (.sipush 8203, 3) := by decide +kernel
theorem d2_103 : decode method_3_code 103 = .ok (.if_icmp .gt 5, 3) := by decide +kernel
theorem d2_106 : decode method_3_code 106 = .ok (.iconst 0, 1) := by decide +kernel
theorem d2_107 : decode method_3_code 107 = .ok (.ireturn, 1) := by decide +kernel
theorem d2_108 : decode method_3_code 108 = .ok (.iload_n 0, 1) := by decide +kernel
theorem d2_109 : decode method_3_code 109 = .ok (.sipush 8206, 3) := by decide +kernel
theorem d2_112 : decode method_3_code 112 = .ok (.if_icmp .lt 12, 3) := by decide +kernel
theorem d2_115 : decode method_3_code 115 = .ok (.iload_n 0, 1) := by decide +kernel
theorem d2_116 : decode method_3_code 116 = .ok (.sipush 8303, 3) := by decide +kernel
theorem d2_119 : decode method_3_code 119 = .ok (.if_icmp .gt 5, 3) := by decide +kernel
theorem d2_122 : decode method_3_code 122 = .ok (.iconst 0, 1) := by decide +kernel
theorem d2_123 : decode method_3_code 123 = .ok (.ireturn, 1) := by decide +kernel
theorem d2_124 : decode method_3_code 124 = .ok (.iload_n 0, 1) := by decide +kernel
theorem d2_125 : decode method_3_code 125 = .ok (.sipush 8592, 3) := by decide +kernel
theorem d2_128 : decode method_3_code 128 = .ok (.if_icmp .lt 12, 3) := by decide +kernel
theorem d2_131 : decode method_3_code 131 = .ok (.iload_n 0, 1) := by decide +kernel
theorem d2_132 : decode method_3_code 132 = .ok (.sipush 11263, 3) := by decide +kernel
theorem d2_135 : decode method_3_code 135 = .ok (.if_icmp .gt 5, 3) := by decide +kernel
theorem d2_138 : decode method_3_code 138 = .ok (.iconst 0, 1) := by decide +kernel
theorem d2_139 : decode method_3_code 139 = .ok (.ireturn, 1) := by decide +kernel
theorem d2_140 : decode method_3_code 140 = .ok (.iload_n 0, 1) := by decide +kernel
theorem d2_141 : decode method_3_code 141 = .ok (.sipush 12272, 3) := by decide +kernel
theorem d2_144 : decode method_3_code 144 = .ok (.if_icmp .lt 12, 3) := by decide +kernel
theorem d2_147 : decode method_3_code 147 = .ok (.iload_n 0, 1) := by decide +kernel
theorem d2_148 : decode method_3_code 148 = .ok (.sipush 12288, 3) := by decide +kernel
theorem d2_151 : decode method_3_code 151 = .ok (.if_icmp .gt 5, 3) := by decide +kernel
theorem d2_154 : decode method_3_code 154 = .ok (.iconst 0, 1) := by decide +kernel
theorem d2_155 : decode method_3_code 155 = .ok (.ireturn, 1) := by decide +kernel
theorem d2_156 : decode method_3_code 156 = .ok (.iload_n 0, 1) := by decide +kernel
theorem d2_157 : decode method_3_code 157 = .ok (.ldc 27, 2) := by decide +kernel
theorem d2_159 : decode method_3_code 159 = .ok (.if_icmp .lt 11, 3) := by decide +kernel
theorem d2_162 : decode method_3_code 162 = .ok (.iload_n 0, 1) := by decide +kernel
theorem d2_163 : decode method_3_code 163 = .ok (.ldc 28, 2) := by decide +kernel
theorem d2_165 : decode method_3_code 165 = .ok (.if_icmp .gt 5, 3) := by decide +kernel
theorem d2_168 : decode method_3_code 168 = .ok (.iconst 0, 1) := by decide +kernel
theorem d2_169 : decode method_3_code 169 = .ok (.ireturn, 1) := by decide +kernel
theorem d2_170 : decode method_3_code 170 = .ok (.iload_n 0, 1) := by decide +kernel
theorem d2_171 : decode method_3_code 171 = .ok (.ldc 29, 2) := by decide +kernel
theorem d2_173 : decode method_3_code 173 = .ok (.if_icmp .lt 11, 3) := by decide +kernel
theorem d2_176 : decode method_3_code 176 = .ok (.iload_n 0, 1) := by decide +kernel
theorem d2_177 : decode method_3_code 177 = .ok (.ldc 30, 2) := by decide +kernel
theorem d2_179 : decode method_3_code 179 = .ok (.if_icmp .gt 5, 3) := by decide +kernel
theorem d2_182 : decode method_3_code 182 = .ok (.iconst 0, 1) := by decide +kernel
theorem d2_183 : decode method_3_code 183 = .ok (.ireturn, 1) := by decide +kernel
theorem d2_184 : decode method_3_code 184 = .ok (.iload_n 0, 1) := by decide +kernel
theorem d2_185 : decode method_3_code 185 = .ok (.ldc 31, 2) := by decide +kernel
theorem d2_187 : decode method_3_code 187 = .ok (.if_icmp .eq 9, 3) := by decide +kernel
theorem d2_190 : decode method_3_code 190 = .ok (.iload_n 0, 1) := by decide +kernel
theorem d2_191 : decode method_3_code 191 = .ok (.ldc 32, 2) := by decide +kernel
theorem d2_193 : decode method_3_code 193 = .ok (.if_icmp .ne 5, 3) := by decide +kernel
theorem d2_196 : decode method_3_code 196 = .ok (.iconst 0, 1) := by decide +kernel
theorem d2_197 : decode method_3_code 197 = .ok (.ireturn, 1) := by decide +kernel
theorem d2_198 : decode method_3_code 198 = .ok (.iconst 1, 1) := by decide +kernel
theorem d2_199 : decode method_3_code 199 = .ok (.ireturn, 1) := by decide +kernel
def r2 : Room := { frames := 0, cells := 0, slots := 0, locals := 0 }
theorem pd2 : parseMethodDescriptor "(I)Z" = some ⟨[.int], some .boolean⟩ := by decide +kernel
theorem pn2 : plainName "com/example/violet/violet/model/XmlCharsIsNameStartPinLaw" = true := by first | (simp [plainName, overriddenIn]; done) | decide +kernel
theorem ef2 (m : MethodId) (x0 : Int32) : entryFrame m #[(.int x0)] 1 = mkF m 0 #[.val (.int x0)] [] := by first | (simp [entryFrame, mkF, argsToLocals, Value.category]; done) | rfl
def f2_12 : Int32 := (0 : Int32)
theorem j2_12 {p : Program} {l : Launch} {e : Env} {s : State} {m : MethodId} {args : Array Value} {below : List Frame} {meth : Method} {c : Code} {n0 : Nat} {H : Heap → Prop} {h : Heap} {Z : State} {a0 : Array Value} (hw : ∀ d ∈ tables_1, d.before a0 Z = true) (hH : H h) (C : Cx p s m meth c Z "com/example/violet/violet/model/XmlCharsIsNameStartPinLaw" "ref" method_3_code (some .boolean) 1) (x0 : Int32) : Go p l e r2 s m args below meth c n0 (Ret n0 H (f2_12)) h 0 0 (mkF m 12 #[.val (.int x0)] []) := by
  unfold f2_12
  refine g_iconst C d2_12 (v := (0 : Int32)) (by decide) (pc' := 13) rfl ?_
  exact g_retZ C d2_13 (by decide) hH (by decide) (by decide)
def f2_65 : Int32 := (0 : Int32)
theorem j2_65 {p : Program} {l : Launch} {e : Env} {s : State} {m : MethodId} {args : Array Value} {below : List Frame} {meth : Method} {c : Code} {n0 : Nat} {H : Heap → Prop} {h : Heap} {Z : State} {a0 : Array Value} (hw : ∀ d ∈ tables_1, d.before a0 Z = true) (hH : H h) (C : Cx p s m meth c Z "com/example/violet/violet/model/XmlCharsIsNameStartPinLaw" "ref" method_3_code (some .boolean) 1) (x0 : Int32) : Go p l e r2 s m args below meth c n0 (Ret n0 H (f2_65)) h 0 0 (mkF m 65 #[.val (.int x0)] []) := by
  unfold f2_65
  refine g_iconst C d2_65 (v := (0 : Int32)) (by decide) (pc' := 66) rfl ?_
  exact g_retZ C d2_66 (by decide) hH (by decide) (by decide)
def f2_196 : Int32 := (0 : Int32)
theorem j2_196 {p : Program} {l : Launch} {e : Env} {s : State} {m : MethodId} {args : Array Value} {below : List Frame} {meth : Method} {c : Code} {n0 : Nat} {H : Heap → Prop} {h : Heap} {Z : State} {a0 : Array Value} (hw : ∀ d ∈ tables_1, d.before a0 Z = true) (hH : H h) (C : Cx p s m meth c Z "com/example/violet/violet/model/XmlCharsIsNameStartPinLaw" "ref" method_3_code (some .boolean) 1) (x0 : Int32) : Go p l e r2 s m args below meth c n0 (Ret n0 H (f2_196)) h 0 0 (mkF m 196 #[.val (.int x0)] []) := by
  unfold f2_196
  refine g_iconst C d2_196 (v := (0 : Int32)) (by decide) (pc' := 197) rfl ?_
  exact g_retZ C d2_197 (by decide) hH (by decide) (by decide)
def f2_184 (x0 : Int32) : Int32 := (if x0 = (65534 : Int32) then f2_196 else (if ¬ x0 = (65535 : Int32) then (1 : Int32) else f2_196))
theorem j2_184 {p : Program} {l : Launch} {e : Env} {s : State} {m : MethodId} {args : Array Value} {below : List Frame} {meth : Method} {c : Code} {n0 : Nat} {H : Heap → Prop} {h : Heap} {Z : State} {a0 : Array Value} (hw : ∀ d ∈ tables_1, d.before a0 Z = true) (hH : H h) (C : Cx p s m meth c Z "com/example/violet/violet/model/XmlCharsIsNameStartPinLaw" "ref" method_3_code (some .boolean) 1) (x0 : Int32) : Go p l e r2 s m args below meth c n0 (Ret n0 H (f2_184 x0)) h 0 0 (mkF m 184 #[.val (.int x0)] []) := by
  unfold f2_184
  refine g_iloadN C d2_184 rfl (pc' := 185) rfl ?_
  refine g_ldc C (v := (65534 : Int32)) (hw _ (List.mem_of_getElem? (i := 23) rfl)) d2_185 (pc' := 187) rfl ?_
  refine g_icmp C d2_187 (c_eq x0 (65534 : Int32)) (by decide) (pc2 := 196) (by decide) (pc' := 190) rfl (fun hP => Go.pos ?_ hP) (fun hP => Go.neg ?_ hP)
  · exact j2_196 hw hH C x0
  · refine g_iloadN C d2_190 rfl (pc' := 191) rfl ?_
    refine g_ldc C (v := (65535 : Int32)) (hw _ (List.mem_of_getElem? (i := 24) rfl)) d2_191 (pc' := 193) rfl ?_
    refine g_icmp C d2_193 (c_ne x0 (65535 : Int32)) (by decide) (pc2 := 198) (by decide) (pc' := 196) rfl (fun hP => Go.pos ?_ hP) (fun hP => Go.neg ?_ hP)
    · refine g_iconst C d2_198 (v := (1 : Int32)) (by decide) (pc' := 199) rfl ?_
      exact g_retZ C d2_199 (by decide) hH (by decide) (by decide)
    · exact j2_196 hw hH C x0
def f2_170 (x0 : Int32) : Int32 := (if x0 < (64976 : Int32) then f2_184 x0 else (if (65007 : Int32) < x0 then f2_184 x0 else (0 : Int32)))
theorem j2_170 {p : Program} {l : Launch} {e : Env} {s : State} {m : MethodId} {args : Array Value} {below : List Frame} {meth : Method} {c : Code} {n0 : Nat} {H : Heap → Prop} {h : Heap} {Z : State} {a0 : Array Value} (hw : ∀ d ∈ tables_1, d.before a0 Z = true) (hH : H h) (C : Cx p s m meth c Z "com/example/violet/violet/model/XmlCharsIsNameStartPinLaw" "ref" method_3_code (some .boolean) 1) (x0 : Int32) : Go p l e r2 s m args below meth c n0 (Ret n0 H (f2_170 x0)) h 0 0 (mkF m 170 #[.val (.int x0)] []) := by
  unfold f2_170
  refine g_iloadN C d2_170 rfl (pc' := 171) rfl ?_
  refine g_ldc C (v := (64976 : Int32)) (hw _ (List.mem_of_getElem? (i := 22) rfl)) d2_171 (pc' := 173) rfl ?_
  refine g_icmp C d2_173 (c_lt x0 (64976 : Int32)) (by decide) (pc2 := 184) (by decide) (pc' := 176) rfl (fun hP => Go.pos ?_ hP) (fun hP => Go.neg ?_ hP)
  · exact j2_184 hw hH C x0
  · refine g_iloadN C d2_176 rfl (pc' := 177) rfl ?_
    refine g_ldc C (v := (65007 : Int32)) (hw _ (List.mem_of_getElem? (i := 30) rfl)) d2_177 (pc' := 179) rfl ?_
    refine g_icmp C d2_179 (c_gt x0 (65007 : Int32)) (by decide) (pc2 := 184) (by decide) (pc' := 182) rfl (fun hP => Go.pos ?_ hP) (fun hP => Go.neg ?_ hP)
    · exact j2_184 hw hH C x0
    · refine g_iconst C d2_182 (v := (0 : Int32)) (by decide) (pc' := 183) rfl ?_
      exact g_retZ C d2_183 (by decide) hH (by decide) (by decide)
def f2_156 (x0 : Int32) : Int32 := (if x0 < (55296 : Int32) then f2_170 x0 else (if (63743 : Int32) < x0 then f2_170 x0 else (0 : Int32)))
theorem j2_156 {p : Program} {l : Launch} {e : Env} {s : State} {m : MethodId} {args : Array Value} {below : List Frame} {meth : Method} {c : Code} {n0 : Nat} {H : Heap → Prop} {h : Heap} {Z : State} {a0 : Array Value} (hw : ∀ d ∈ tables_1, d.before a0 Z = true) (hH : H h) (C : Cx p s m meth c Z "com/example/violet/violet/model/XmlCharsIsNameStartPinLaw" "ref" method_3_code (some .boolean) 1) (x0 : Int32) : Go p l e r2 s m args below meth c n0 (Ret n0 H (f2_156 x0)) h 0 0 (mkF m 156 #[.val (.int x0)] []) := by
  unfold f2_156
  refine g_iloadN C d2_156 rfl (pc' := 157) rfl ?_
  refine g_ldc C (v := (55296 : Int32)) (hw _ (List.mem_of_getElem? (i := 21) rfl)) d2_157 (pc' := 159) rfl ?_
  refine g_icmp C d2_159 (c_lt x0 (55296 : Int32)) (by decide) (pc2 := 170) (by decide) (pc' := 162) rfl (fun hP => Go.pos ?_ hP) (fun hP => Go.neg ?_ hP)
  · exact j2_170 hw hH C x0
  · refine g_iloadN C d2_162 rfl (pc' := 163) rfl ?_
    refine g_ldc C (v := (63743 : Int32)) (hw _ (List.mem_of_getElem? (i := 29) rfl)) d2_163 (pc' := 165) rfl ?_
    refine g_icmp C d2_165 (c_gt x0 (63743 : Int32)) (by decide) (pc2 := 170) (by decide) (pc' := 168) rfl (fun hP => Go.pos ?_ hP) (fun hP => Go.neg ?_ hP)
    · exact j2_170 hw hH C x0
    · refine g_iconst C d2_168 (v := (0 : Int32)) (by decide) (pc' := 169) rfl ?_
      exact g_retZ C d2_169 (by decide) hH (by decide) (by decide)
def f2_140 (x0 : Int32) : Int32 := (if x0 < (12272 : Int32) then f2_156 x0 else (if (12288 : Int32) < x0 then f2_156 x0 else (0 : Int32)))
theorem j2_140 {p : Program} {l : Launch} {e : Env} {s : State} {m : MethodId} {args : Array Value} {below : List Frame} {meth : Method} {c : Code} {n0 : Nat} {H : Heap → Prop} {h : Heap} {Z : State} {a0 : Array Value} (hw : ∀ d ∈ tables_1, d.before a0 Z = true) (hH : H h) (C : Cx p s m meth c Z "com/example/violet/violet/model/XmlCharsIsNameStartPinLaw" "ref" method_3_code (some .boolean) 1) (x0 : Int32) : Go p l e r2 s m args below meth c n0 (Ret n0 H (f2_140 x0)) h 0 0 (mkF m 140 #[.val (.int x0)] []) := by
  unfold f2_140
  refine g_iloadN C d2_140 rfl (pc' := 141) rfl ?_
  refine g_sipush C d2_141 (v := (12272 : Int32)) (by decide) (pc' := 144) rfl ?_
  refine g_icmp C d2_144 (c_lt x0 (12272 : Int32)) (by decide) (pc2 := 156) (by decide) (pc' := 147) rfl (fun hP => Go.pos ?_ hP) (fun hP => Go.neg ?_ hP)
  · exact j2_156 hw hH C x0
  · refine g_iloadN C d2_147 rfl (pc' := 148) rfl ?_
    refine g_sipush C d2_148 (v := (12288 : Int32)) (by decide) (pc' := 151) rfl ?_
    refine g_icmp C d2_151 (c_gt x0 (12288 : Int32)) (by decide) (pc2 := 156) (by decide) (pc' := 154) rfl (fun hP => Go.pos ?_ hP) (fun hP => Go.neg ?_ hP)
    · exact j2_156 hw hH C x0
    · refine g_iconst C d2_154 (v := (0 : Int32)) (by decide) (pc' := 155) rfl ?_
      exact g_retZ C d2_155 (by decide) hH (by decide) (by decide)
def f2_124 (x0 : Int32) : Int32 := (if x0 < (8592 : Int32) then f2_140 x0 else (if (11263 : Int32) < x0 then f2_140 x0 else (0 : Int32)))
theorem j2_124 {p : Program} {l : Launch} {e : Env} {s : State} {m : MethodId} {args : Array Value} {below : List Frame} {meth : Method} {c : Code} {n0 : Nat} {H : Heap → Prop} {h : Heap} {Z : State} {a0 : Array Value} (hw : ∀ d ∈ tables_1, d.before a0 Z = true) (hH : H h) (C : Cx p s m meth c Z "com/example/violet/violet/model/XmlCharsIsNameStartPinLaw" "ref" method_3_code (some .boolean) 1) (x0 : Int32) : Go p l e r2 s m args below meth c n0 (Ret n0 H (f2_124 x0)) h 0 0 (mkF m 124 #[.val (.int x0)] []) := by
  unfold f2_124
  refine g_iloadN C d2_124 rfl (pc' := 125) rfl ?_
  refine g_sipush C d2_125 (v := (8592 : Int32)) (by decide) (pc' := 128) rfl ?_
  refine g_icmp C d2_128 (c_lt x0 (8592 : Int32)) (by decide) (pc2 := 140) (by decide) (pc' := 131) rfl (fun hP => Go.pos ?_ hP) (fun hP => Go.neg ?_ hP)
  · exact j2_140 hw hH C x0
  · refine g_iloadN C d2_131 rfl (pc' := 132) rfl ?_
    refine g_sipush C d2_132 (v := (11263 : Int32)) (by decide) (pc' := 135) rfl ?_
    refine g_icmp C d2_135 (c_gt x0 (11263 : Int32)) (by decide) (pc2 := 140) (by decide) (pc' := 138) rfl (fun hP => Go.pos ?_ hP) (fun hP => Go.neg ?_ hP)
    · exact j2_140 hw hH C x0
    · refine g_iconst C d2_138 (v := (0 : Int32)) (by decide) (pc' := 139) rfl ?_
      exact g_retZ C d2_139 (by decide) hH (by decide) (by decide)
def f2_108 (x0 : Int32) : Int32 := (if x0 < (8206 : Int32) then f2_124 x0 else (if (8303 : Int32) < x0 then f2_124 x0 else (0 : Int32)))
theorem j2_108 {p : Program} {l : Launch} {e : Env} {s : State} {m : MethodId} {args : Array Value} {below : List Frame} {meth : Method} {c : Code} {n0 : Nat} {H : Heap → Prop} {h : Heap} {Z : State} {a0 : Array Value} (hw : ∀ d ∈ tables_1, d.before a0 Z = true) (hH : H h) (C : Cx p s m meth c Z "com/example/violet/violet/model/XmlCharsIsNameStartPinLaw" "ref" method_3_code (some .boolean) 1) (x0 : Int32) : Go p l e r2 s m args below meth c n0 (Ret n0 H (f2_108 x0)) h 0 0 (mkF m 108 #[.val (.int x0)] []) := by
  unfold f2_108
  refine g_iloadN C d2_108 rfl (pc' := 109) rfl ?_
  refine g_sipush C d2_109 (v := (8206 : Int32)) (by decide) (pc' := 112) rfl ?_
  refine g_icmp C d2_112 (c_lt x0 (8206 : Int32)) (by decide) (pc2 := 124) (by decide) (pc' := 115) rfl (fun hP => Go.pos ?_ hP) (fun hP => Go.neg ?_ hP)
  · exact j2_124 hw hH C x0
  · refine g_iloadN C d2_115 rfl (pc' := 116) rfl ?_
    refine g_sipush C d2_116 (v := (8303 : Int32)) (by decide) (pc' := 119) rfl ?_
    refine g_icmp C d2_119 (c_gt x0 (8303 : Int32)) (by decide) (pc2 := 124) (by decide) (pc' := 122) rfl (fun hP => Go.pos ?_ hP) (fun hP => Go.neg ?_ hP)
    · exact j2_124 hw hH C x0
    · refine g_iconst C d2_122 (v := (0 : Int32)) (by decide) (pc' := 123) rfl ?_
      exact g_retZ C d2_123 (by decide) hH (by decide) (by decide)
def f2_83 (x0 : Int32) : Int32 := (if ¬ x0 = (894 : Int32) then (if x0 < (8192 : Int32) then f2_108 x0 else (if (8203 : Int32) < x0 then f2_108 x0 else (0 : Int32))) else (0 : Int32))
theorem j2_83 {p : Program} {l : Launch} {e : Env} {s : State} {m : MethodId} {args : Array Value} {below : List Frame} {meth : Method} {c : Code} {n0 : Nat} {H : Heap → Prop} {h : Heap} {Z : State} {a0 : Array Value} (hw : ∀ d ∈ tables_1, d.before a0 Z = true) (hH : H h) (C : Cx p s m meth c Z "com/example/violet/violet/model/XmlCharsIsNameStartPinLaw" "ref" method_3_code (some .boolean) 1) (x0 : Int32) : Go p l e r2 s m args below meth c n0 (Ret n0 H (f2_83 x0)) h 0 0 (mkF m 83 #[.val (.int x0)] []) := by
  unfold f2_83
  refine g_iloadN C d2_83 rfl (pc' := 84) rfl ?_
  refine g_sipush C d2_84 (v := (894 : Int32)) (by decide) (pc' := 87) rfl ?_
  refine g_icmp C d2_87 (c_ne x0 (894 : Int32)) (by decide) (pc2 := 92) (by decide) (pc' := 90) rfl (fun hP => Go.pos ?_ hP) (fun hP => Go.neg ?_ hP)
  · refine g_iloadN C d2_92 rfl (pc' := 93) rfl ?_
    refine g_sipush C d2_93 (v := (8192 : Int32)) (by decide) (pc' := 96) rfl ?_
    refine g_icmp C d2_96 (c_lt x0 (8192 : Int32)) (by decide) (pc2 := 108) (by decide) (pc' := 99) rfl (fun hP => Go.pos ?_ hP) (fun hP => Go.neg ?_ hP)
    · exact j2_108 hw hH C x0
    · refine g_iloadN C d2_99 rfl (pc' := 100) rfl ?_
      refine g_sipush C d2_100 (v := (8203 : Int32)) (by decide) (pc' := 103) rfl ?_
      refine g_icmp C d2_103 (c_gt x0 (8203 : Int32)) (by decide) (pc2 := 108) (by decide) (pc' := 106) rfl (fun hP => Go.pos ?_ hP) (fun hP => Go.neg ?_ hP)
      · exact j2_108 hw hH C x0
      · refine g_iconst C d2_106 (v := (0 : Int32)) (by decide) (pc' := 107) rfl ?_
        exact g_retZ C d2_107 (by decide) hH (by decide) (by decide)
  · refine g_iconst C d2_90 (v := (0 : Int32)) (by decide) (pc' := 91) rfl ?_
    exact g_retZ C d2_91 (by decide) hH (by decide) (by decide)
def f2_51 (x0 : Int32) : Int32 := (if x0 = (215 : Int32) then f2_65 else (if ¬ x0 = (247 : Int32) then (if x0 < (768 : Int32) then f2_83 x0 else (if (879 : Int32) < x0 then f2_83 x0 else (0 : Int32))) else f2_65))
theorem j2_51 {p : Program} {l : Launch} {e : Env} {s : State} {m : MethodId} {args : Array Value} {below : List Frame} {meth : Method} {c : Code} {n0 : Nat} {H : Heap → Prop} {h : Heap} {Z : State} {a0 : Array Value} (hw : ∀ d ∈ tables_1, d.before a0 Z = true) (hH : H h) (C : Cx p s m meth c Z "com/example/violet/violet/model/XmlCharsIsNameStartPinLaw" "ref" method_3_code (some .boolean) 1) (x0 : Int32) : Go p l e r2 s m args below meth c n0 (Ret n0 H (f2_51 x0)) h 0 0 (mkF m 51 #[.val (.int x0)] []) := by
  unfold f2_51
  refine g_iloadN C d2_51 rfl (pc' := 52) rfl ?_
  refine g_sipush C d2_52 (v := (215 : Int32)) (by decide) (pc' := 55) rfl ?_
  refine g_icmp C d2_55 (c_eq x0 (215 : Int32)) (by decide) (pc2 := 65) (by decide) (pc' := 58) rfl (fun hP => Go.pos ?_ hP) (fun hP => Go.neg ?_ hP)
  · exact j2_65 hw hH C x0
  · refine g_iloadN C d2_58 rfl (pc' := 59) rfl ?_
    refine g_sipush C d2_59 (v := (247 : Int32)) (by decide) (pc' := 62) rfl ?_
    refine g_icmp C d2_62 (c_ne x0 (247 : Int32)) (by decide) (pc2 := 67) (by decide) (pc' := 65) rfl (fun hP => Go.pos ?_ hP) (fun hP => Go.neg ?_ hP)
    · refine g_iloadN C d2_67 rfl (pc' := 68) rfl ?_
      refine g_sipush C d2_68 (v := (768 : Int32)) (by decide) (pc' := 71) rfl ?_
      refine g_icmp C d2_71 (c_lt x0 (768 : Int32)) (by decide) (pc2 := 83) (by decide) (pc' := 74) rfl (fun hP => Go.pos ?_ hP) (fun hP => Go.neg ?_ hP)
      · exact j2_83 hw hH C x0
      · refine g_iloadN C d2_74 rfl (pc' := 75) rfl ?_
        refine g_sipush C d2_75 (v := (879 : Int32)) (by decide) (pc' := 78) rfl ?_
        refine g_icmp C d2_78 (c_gt x0 (879 : Int32)) (by decide) (pc2 := 83) (by decide) (pc' := 81) rfl (fun hP => Go.pos ?_ hP) (fun hP => Go.neg ?_ hP)
        · exact j2_83 hw hH C x0
        · refine g_iconst C d2_81 (v := (0 : Int32)) (by decide) (pc' := 82) rfl ?_
          exact g_retZ C d2_82 (by decide) hH (by decide) (by decide)
    · exact j2_65 hw hH C x0
def f2_28 (x0 : Int32) : Int32 := (if ¬ x0 = (96 : Int32) then (if x0 < (123 : Int32) then f2_51 x0 else (if (191 : Int32) < x0 then f2_51 x0 else (0 : Int32))) else (0 : Int32))
theorem j2_28 {p : Program} {l : Launch} {e : Env} {s : State} {m : MethodId} {args : Array Value} {below : List Frame} {meth : Method} {c : Code} {n0 : Nat} {H : Heap → Prop} {h : Heap} {Z : State} {a0 : Array Value} (hw : ∀ d ∈ tables_1, d.before a0 Z = true) (hH : H h) (C : Cx p s m meth c Z "com/example/violet/violet/model/XmlCharsIsNameStartPinLaw" "ref" method_3_code (some .boolean) 1) (x0 : Int32) : Go p l e r2 s m args below meth c n0 (Ret n0 H (f2_28 x0)) h 0 0 (mkF m 28 #[.val (.int x0)] []) := by
  unfold f2_28
  refine g_iloadN C d2_28 rfl (pc' := 29) rfl ?_
  refine g_bipush C d2_29 (v := (96 : Int32)) (by decide) (pc' := 31) rfl ?_
  refine g_icmp C d2_31 (c_ne x0 (96 : Int32)) (by decide) (pc2 := 36) (by decide) (pc' := 34) rfl (fun hP => Go.pos ?_ hP) (fun hP => Go.neg ?_ hP)
  · refine g_iloadN C d2_36 rfl (pc' := 37) rfl ?_
    refine g_bipush C d2_37 (v := (123 : Int32)) (by decide) (pc' := 39) rfl ?_
    refine g_icmp C d2_39 (c_lt x0 (123 : Int32)) (by decide) (pc2 := 51) (by decide) (pc' := 42) rfl (fun hP => Go.pos ?_ hP) (fun hP => Go.neg ?_ hP)
    · exact j2_51 hw hH C x0
    · refine g_iloadN C d2_42 rfl (pc' := 43) rfl ?_
      refine g_sipush C d2_43 (v := (191 : Int32)) (by decide) (pc' := 46) rfl ?_
      refine g_icmp C d2_46 (c_gt x0 (191 : Int32)) (by decide) (pc2 := 51) (by decide) (pc' := 49) rfl (fun hP => Go.pos ?_ hP) (fun hP => Go.neg ?_ hP)
      · exact j2_51 hw hH C x0
      · refine g_iconst C d2_49 (v := (0 : Int32)) (by decide) (pc' := 50) rfl ?_
        exact g_retZ C d2_50 (by decide) hH (by decide) (by decide)
  · refine g_iconst C d2_34 (v := (0 : Int32)) (by decide) (pc' := 35) rfl ?_
    exact g_retZ C d2_35 (by decide) hH (by decide) (by decide)
def f2_0 (x0 : Int32) : Int32 := (if x0 < (65 : Int32) then f2_12 else (if ¬ (983039 : Int32) < x0 then (if x0 < (91 : Int32) then f2_28 x0 else (if (94 : Int32) < x0 then f2_28 x0 else (0 : Int32))) else f2_12))
theorem j2_0 {p : Program} {l : Launch} {e : Env} {s : State} {m : MethodId} {args : Array Value} {below : List Frame} {meth : Method} {c : Code} {n0 : Nat} {H : Heap → Prop} {h : Heap} {Z : State} {a0 : Array Value} (hw : ∀ d ∈ tables_1, d.before a0 Z = true) (hH : H h) (C : Cx p s m meth c Z "com/example/violet/violet/model/XmlCharsIsNameStartPinLaw" "ref" method_3_code (some .boolean) 1) (x0 : Int32) : Go p l e r2 s m args below meth c n0 (Ret n0 H (f2_0 x0)) h 0 0 (mkF m 0 #[.val (.int x0)] []) := by
  unfold f2_0
  refine g_iloadN C d2_0 rfl (pc' := 1) rfl ?_
  refine g_bipush C d2_1 (v := (65 : Int32)) (by decide) (pc' := 3) rfl ?_
  refine g_icmp C d2_3 (c_lt x0 (65 : Int32)) (by decide) (pc2 := 12) (by decide) (pc' := 6) rfl (fun hP => Go.pos ?_ hP) (fun hP => Go.neg ?_ hP)
  · exact j2_12 hw hH C x0
  · refine g_iloadN C d2_6 rfl (pc' := 7) rfl ?_
    refine g_ldc C (v := (983039 : Int32)) (hw _ (List.mem_of_getElem? (i := 7) rfl)) d2_7 (pc' := 9) rfl ?_
    refine g_icmp C d2_9 (c_le x0 (983039 : Int32)) (by decide) (pc2 := 14) (by decide) (pc' := 12) rfl (fun hP => Go.pos ?_ hP) (fun hP => Go.neg ?_ hP)
    · refine g_iloadN C d2_14 rfl (pc' := 15) rfl ?_
      refine g_bipush C d2_15 (v := (91 : Int32)) (by decide) (pc' := 17) rfl ?_
      refine g_icmp C d2_17 (c_lt x0 (91 : Int32)) (by decide) (pc2 := 28) (by decide) (pc' := 20) rfl (fun hP => Go.pos ?_ hP) (fun hP => Go.neg ?_ hP)
      · exact j2_28 hw hH C x0
      · refine g_iloadN C d2_20 rfl (pc' := 21) rfl ?_
        refine g_bipush C d2_21 (v := (94 : Int32)) (by decide) (pc' := 23) rfl ?_
        refine g_icmp C d2_23 (c_gt x0 (94 : Int32)) (by decide) (pc2 := 28) (by decide) (pc' := 26) rfl (fun hP => Go.pos ?_ hP) (fun hP => Go.neg ?_ hP)
        · exact j2_28 hw hH C x0
        · refine g_iconst C d2_26 (v := (0 : Int32)) (by decide) (pc' := 27) rfl ?_
          exact g_retZ C d2_27 (by decide) hH (by decide) (by decide)
    · exact j2_12 hw hH C x0
theorem rm2 (l : Launch) (Z : State) (a0 : Array Value) (hw : ∀ d ∈ tables_1, d.before a0 Z = true) (ws : List Jvm.Cond) (h : Heap) (n0 : Nat) (x0 : Int32) : Con l Z (⟨"com/example/violet/violet/model/XmlCharsIsNameStartPinLaw", "ref", "(I)Z"⟩ : MethodName) method_3_code 1 (some .boolean) r2 ws #[(.int x0)] h (Ret n0 (· = h) (f2_0 x0)) :=
  con_of n0 pn2 (fun m => ef2 m x0) fun p e s m below meth c C => j2_0 (H := (· = h)) hw rfl C x0
def own_B : List Int32 := [0, 1, 65, 90, 91, 94, 95, 96, 97, 122, 123, 191, 192, 214, 215, 216, 246, 247, 248, 767, 768, 879, 880, 893, 894, 895, 8191, 8192, 8203, 8204, 8205, 8206, 8303, 8304, 8591, 8592, 11263, 11264, 12271, 12272, 12288, 12289, 55295, 55296, 63743, 63744, 64975, 64976, 65007, 65008, 65533, 65534, 65535, 65536, 983039]
theorem own_B1 : ∀ t ∈ own_B, (t + 1).toInt = t.toInt + 1 := by decide +kernel
theorem fc1_179 {c b : Int32} (S : Same own_B c b) : f1_179 c = f1_179 b := by
  have t53 := S _ (List.mem_of_getElem? (i := 53) rfl)
  have t54 := S _ (List.mem_of_getElem? (i := 54) rfl)
  simp only [f1_179, t53.1, t53.2.1, t53.2.2, t54.1, t54.2.1, t54.2.2]
theorem fc1_167 {c b : Int32} (S : Same own_B c b) : f1_167 c = f1_167 b := by
  have t49 := S _ (List.mem_of_getElem? (i := 49) rfl)
  have t50 := S _ (List.mem_of_getElem? (i := 50) rfl)
  simp only [f1_167, t49.1, t49.2.1, t49.2.2, t50.1, t50.2.1, t50.2.2, fc1_179 S]
theorem fc1_155 {c b : Int32} (S : Same own_B c b) : f1_155 c = f1_155 b := by
  have t45 := S _ (List.mem_of_getElem? (i := 45) rfl)
  have t46 := S _ (List.mem_of_getElem? (i := 46) rfl)
  simp only [f1_155, t45.1, t45.2.1, t45.2.2, t46.1, t46.2.1, t46.2.2, fc1_167 S]
theorem fc1_142 {c b : Int32} (S : Same own_B c b) : f1_142 c = f1_142 b := by
  have t41 := S _ (List.mem_of_getElem? (i := 41) rfl)
  have t42 := S _ (List.mem_of_getElem? (i := 42) rfl)
  simp only [f1_142, t41.1, t41.2.1, t41.2.2, t42.1, t42.2.1, t42.2.2, fc1_155 S]
theorem fc1_128 {c b : Int32} (S : Same own_B c b) : f1_128 c = f1_128 b := by
  have t37 := S _ (List.mem_of_getElem? (i := 37) rfl)
  have t38 := S _ (List.mem_of_getElem? (i := 38) rfl)
  simp only [f1_128, t37.1, t37.2.1, t37.2.2, t38.1, t38.2.1, t38.2.2, fc1_142 S]
theorem fc1_114 {c b : Int32} (S : Same own_B c b) : f1_114 c = f1_114 b := by
  have t33 := S _ (List.mem_of_getElem? (i := 33) rfl)
  have t34 := S _ (List.mem_of_getElem? (i := 34) rfl)
  simp only [f1_114, t33.1, t33.2.1, t33.2.2, t34.1, t34.2.1, t34.2.2, fc1_128 S]
theorem fc1_100 {c b : Int32} (S : Same own_B c b) : f1_100 c = f1_100 b := by
  have t29 := S _ (List.mem_of_getElem? (i := 29) rfl)
  have t30 := S _ (List.mem_of_getElem? (i := 30) rfl)
  simp only [f1_100, t29.1, t29.2.1, t29.2.2, t30.1, t30.2.1, t30.2.2, fc1_114 S]
theorem fc1_86 {c b : Int32} (S : Same own_B c b) : f1_86 c = f1_86 b := by
  have t25 := S _ (List.mem_of_getElem? (i := 25) rfl)
  have t26 := S _ (List.mem_of_getElem? (i := 26) rfl)
  simp only [f1_86, t25.1, t25.2.1, t25.2.2, t26.1, t26.2.1, t26.2.2, fc1_100 S]
theorem fc1_72 {c b : Int32} (S : Same own_B c b) : f1_72 c = f1_72 b := by
  have t22 := S _ (List.mem_of_getElem? (i := 22) rfl)
  have t23 := S _ (List.mem_of_getElem? (i := 23) rfl)
  simp only [f1_72, t22.1, t22.2.1, t22.2.2, t23.1, t23.2.1, t23.2.2, fc1_86 S]
theorem fc1_58 {c b : Int32} (S : Same own_B c b) : f1_58 c = f1_58 b := by
  have t18 := S _ (List.mem_of_getElem? (i := 18) rfl)
  have t19 := S _ (List.mem_of_getElem? (i := 19) rfl)
  simp only [f1_58, t18.1, t18.2.1, t18.2.2, t19.1, t19.2.1, t19.2.2, fc1_72 S]
theorem fc1_44 {c b : Int32} (S : Same own_B c b) : f1_44 c = f1_44 b := by
  have t15 := S _ (List.mem_of_getElem? (i := 15) rfl)
  have t16 := S _ (List.mem_of_getElem? (i := 16) rfl)
  simp only [f1_44, t15.1, t15.2.1, t15.2.2, t16.1, t16.2.1, t16.2.2, fc1_58 S]
theorem fc1_24 {c b : Int32} (S : Same own_B c b) : f1_24 c = f1_24 b := by
  have t6 := S _ (List.mem_of_getElem? (i := 6) rfl)
  have t12 := S _ (List.mem_of_getElem? (i := 12) rfl)
  have t13 := S _ (List.mem_of_getElem? (i := 13) rfl)
  simp only [f1_24, t6.1, t6.2.1, t6.2.2, t12.1, t12.2.1, t12.2.2, t13.1, t13.2.1, t13.2.2, fc1_44 S]
theorem fc1_12 {c b : Int32} (S : Same own_B c b) : f1_12 c = f1_12 b := by
  have t2 := S _ (List.mem_of_getElem? (i := 2) rfl)
  have t3 := S _ (List.mem_of_getElem? (i := 3) rfl)
  simp only [f1_12, t2.1, t2.2.1, t2.2.2, t3.1, t3.2.1, t3.2.2, fc1_24 S]
theorem fc1_0 {c b : Int32} (S : Same own_B c b) : f1_0 c = f1_0 b := by
  have t8 := S _ (List.mem_of_getElem? (i := 8) rfl)
  have t9 := S _ (List.mem_of_getElem? (i := 9) rfl)
  simp only [f1_0, t8.1, t8.2.1, t8.2.2, t9.1, t9.2.1, t9.2.2, fc1_12 S]
theorem fc2_184 {c b : Int32} (S : Same own_B c b) : f2_184 c = f2_184 b := by
  have t1 := S _ (List.mem_of_getElem? (i := 1) rfl)
  have t51 := S _ (List.mem_of_getElem? (i := 51) rfl)
  have t52 := S _ (List.mem_of_getElem? (i := 52) rfl)
  simp only [f2_184, t1.1, t1.2.1, t1.2.2, t51.1, t51.2.1, t51.2.2, t52.1, t52.2.1, t52.2.2]
theorem fc2_170 {c b : Int32} (S : Same own_B c b) : f2_170 c = f2_170 b := by
  have t0 := S _ (List.mem_of_getElem? (i := 0) rfl)
  have t47 := S _ (List.mem_of_getElem? (i := 47) rfl)
  have t48 := S _ (List.mem_of_getElem? (i := 48) rfl)
  simp only [f2_170, t0.1, t0.2.1, t0.2.2, t47.1, t47.2.1, t47.2.2, t48.1, t48.2.1, t48.2.2, fc2_184 S]
theorem fc2_156 {c b : Int32} (S : Same own_B c b) : f2_156 c = f2_156 b := by
  have t0 := S _ (List.mem_of_getElem? (i := 0) rfl)
  have t43 := S _ (List.mem_of_getElem? (i := 43) rfl)
  have t44 := S _ (List.mem_of_getElem? (i := 44) rfl)
  simp only [f2_156, t0.1, t0.2.1, t0.2.2, t43.1, t43.2.1, t43.2.2, t44.1, t44.2.1, t44.2.2, fc2_170 S]
theorem fc2_140 {c b : Int32} (S : Same own_B c b) : f2_140 c = f2_140 b := by
  have t0 := S _ (List.mem_of_getElem? (i := 0) rfl)
  have t39 := S _ (List.mem_of_getElem? (i := 39) rfl)
  have t40 := S _ (List.mem_of_getElem? (i := 40) rfl)
  simp only [f2_140, t0.1, t0.2.1, t0.2.2, t39.1, t39.2.1, t39.2.2, t40.1, t40.2.1, t40.2.2, fc2_156 S]
theorem fc2_124 {c b : Int32} (S : Same own_B c b) : f2_124 c = f2_124 b := by
  have t0 := S _ (List.mem_of_getElem? (i := 0) rfl)
  have t35 := S _ (List.mem_of_getElem? (i := 35) rfl)
  have t36 := S _ (List.mem_of_getElem? (i := 36) rfl)
  simp only [f2_124, t0.1, t0.2.1, t0.2.2, t35.1, t35.2.1, t35.2.2, t36.1, t36.2.1, t36.2.2, fc2_140 S]
theorem fc2_108 {c b : Int32} (S : Same own_B c b) : f2_108 c = f2_108 b := by
  have t0 := S _ (List.mem_of_getElem? (i := 0) rfl)
  have t31 := S _ (List.mem_of_getElem? (i := 31) rfl)
  have t32 := S _ (List.mem_of_getElem? (i := 32) rfl)
  simp only [f2_108, t0.1, t0.2.1, t0.2.2, t31.1, t31.2.1, t31.2.2, t32.1, t32.2.1, t32.2.2, fc2_124 S]
theorem fc2_83 {c b : Int32} (S : Same own_B c b) : f2_83 c = f2_83 b := by
  have t0 := S _ (List.mem_of_getElem? (i := 0) rfl)
  have t24 := S _ (List.mem_of_getElem? (i := 24) rfl)
  have t27 := S _ (List.mem_of_getElem? (i := 27) rfl)
  have t28 := S _ (List.mem_of_getElem? (i := 28) rfl)
  simp only [f2_83, t0.1, t0.2.1, t0.2.2, t24.1, t24.2.1, t24.2.2, t27.1, t27.2.1, t27.2.2, t28.1, t28.2.1, t28.2.2, fc2_108 S]
theorem fc2_51 {c b : Int32} (S : Same own_B c b) : f2_51 c = f2_51 b := by
  have t0 := S _ (List.mem_of_getElem? (i := 0) rfl)
  have t14 := S _ (List.mem_of_getElem? (i := 14) rfl)
  have t17 := S _ (List.mem_of_getElem? (i := 17) rfl)
  have t20 := S _ (List.mem_of_getElem? (i := 20) rfl)
  have t21 := S _ (List.mem_of_getElem? (i := 21) rfl)
  simp only [f2_51, t0.1, t0.2.1, t0.2.2, t14.1, t14.2.1, t14.2.2, t17.1, t17.2.1, t17.2.2, t20.1, t20.2.1, t20.2.2, t21.1, t21.2.1, t21.2.2, fc2_83 S]
theorem fc2_28 {c b : Int32} (S : Same own_B c b) : f2_28 c = f2_28 b := by
  have t0 := S _ (List.mem_of_getElem? (i := 0) rfl)
  have t7 := S _ (List.mem_of_getElem? (i := 7) rfl)
  have t10 := S _ (List.mem_of_getElem? (i := 10) rfl)
  have t11 := S _ (List.mem_of_getElem? (i := 11) rfl)
  simp only [f2_28, t0.1, t0.2.1, t0.2.2, t7.1, t7.2.1, t7.2.2, t10.1, t10.2.1, t10.2.2, t11.1, t11.2.1, t11.2.2, fc2_51 S]
theorem fc2_0 {c b : Int32} (S : Same own_B c b) : f2_0 c = f2_0 b := by
  have t0 := S _ (List.mem_of_getElem? (i := 0) rfl)
  have t2 := S _ (List.mem_of_getElem? (i := 2) rfl)
  have t4 := S _ (List.mem_of_getElem? (i := 4) rfl)
  have t5 := S _ (List.mem_of_getElem? (i := 5) rfl)
  have t54 := S _ (List.mem_of_getElem? (i := 54) rfl)
  simp only [f2_0, t0.1, t0.2.1, t0.2.2, t2.1, t2.2.1, t2.2.2, t4.1, t4.2.1, t4.2.2, t5.1, t5.2.1, t5.2.2, t54.1, t54.2.1, t54.2.2, fc2_28 S]
set_option maxRecDepth 65536 in
theorem own_chk : ∀ c ∈ samples own_B, f1_0 c = f2_0 c := by decide +kernel
theorem own_law (c : Int32) : f1_0 c = f2_0 c := by
  obtain ⟨b, hb, S⟩ := same_some own_B own_B1 c
  rw [fc1_0 S, fc2_0 S]
  exact own_chk b hb
theorem pn0 : plainName "com/example/violet/violet/model/XmlCharsIsNameStartPinLaw" = true := by first | (simp [plainName, overriddenIn]; done) | decide +kernel
theorem ef0 (m : MethodId) (x0 x1 x2 x3 : Int32) : entryFrame m #[(.int x0), (.int x1), (.int x2), (.int x3)] maxLocals = mkF m 0 #[.val (.int x0), .val (.int x1), .val (.int x2), .val (.int x3), .unset, .unset, .unset] [] := by first | (simp [entryFrame, mkF, argsToLocals, Value.category, maxLocals]; done) | rfl
def f0_263 : Int32 := (0 : Int32)
theorem j0_263 {p : Program} {l : Launch} {e : Env} {s : State} {m : MethodId} {args : Array Value} {below : List Frame} {meth : Method} {c : Code} {n0 : Nat} {H : Heap → Prop} {h : Heap} {Z : State} {a0 : Array Value} (hw : ∀ d ∈ tables_1, d.before a0 Z = true) (hH : H h) (C : Cx p s m meth c Z "com/example/violet/violet/model/XmlCharsIsNameStartPinLaw" "law" code (some .boolean) 7) (x0 : Int32) (x1 : Int32) (x2 : Int32) (x3 : Int32) (a4 : Addr) (x5 : Int32) (x6 : Int32) : Go p l e room_1 s m args below meth c n0 (Ret n0 H (f0_263)) h 1 30 (mkF m 263 #[.val (.int x0), .val (.int x1), .val (.int x2), .val (.int x3), .val (.ref a4), .val (.int x5), .val (.int x6)] []) := by
  unfold f0_263
  refine g_iconst C at_263 (v := (0 : Int32)) (by decide) (pc' := 264) rfl ?_
  exact g_retZ C at_264 (by decide) hH (by decide) (by decide)
def f0_207 (x0 x1 x2 x3 y0 : Int32) : Int32 := (if ¬ (f1_0 x0) = (f2_0 x0) then f0_263 else (if ¬ (f1_0 (y0 + ((x2 &&& (7 : Int32)) - (4 : Int32)))) = (f2_0 (y0 + ((x2 &&& (7 : Int32)) - (4 : Int32)))) then f0_263 else (if ¬ (f1_0 (x3 &&& (1048575 : Int32))) = (f2_0 (x3 &&& (1048575 : Int32))) then f0_263 else (1 : Int32))))
theorem j0_207 {p : Program} {l : Launch} {e : Env} {s : State} {m : MethodId} {args : Array Value} {below : List Frame} {meth : Method} {c : Code} {n0 : Nat} {H : Heap → Prop} {h : Heap} {Z : State} {a0 : Array Value} (hw : ∀ d ∈ tables_1, d.before a0 Z = true) (hH : H h) (C : Cx p s m meth c Z "com/example/violet/violet/model/XmlCharsIsNameStartPinLaw" "law" code (some .boolean) 7) (x0 : Int32) (x1 : Int32) (x2 : Int32) (x3 : Int32) (a4 : Addr) (y0 : Int32) : Go p l e room_1 s m args below meth c n0 (Ret n0 H (f0_207 x0 x1 x2 x3 y0)) h 1 30 (mkF m 207 #[.val (.int x0), .val (.int x1), .val (.int x2), .val (.int x3), .val (.ref a4), .unset, .unset] [(.int y0)]) := by
  unfold f0_207
  refine g_iloadN C at_207 rfl (pc' := 208) rfl ?_
  refine g_bipush C at_208 (v := (7 : Int32)) (by decide) (pc' := 210) rfl ?_
  refine g_iand C at_210 (pc' := 211) rfl ?_
  refine g_iconst C at_211 (v := (4 : Int32)) (by decide) (pc' := 212) rfl ?_
  refine g_isub C at_212 (pc' := 213) rfl ?_
  refine g_iadd C at_213 (pc' := 214) rfl ?_
  refine g_istore C at_214 (Ls' := #[.val (.int x0), .val (.int x1), .val (.int x2), .val (.int x3), .val (.ref a4), .val (.int (y0 + ((x2 &&& (7 : Int32)) - (4 : Int32)))), .unset]) rfl (pc' := 216) rfl ?_
  refine g_iloadN C at_216 rfl (pc' := 217) rfl ?_
  refine g_ldc C (v := (1048575 : Int32)) (hw _ (List.mem_of_getElem? (i := 9) rfl)) at_217 (pc' := 219) rfl ?_
  refine g_iand C at_219 (pc' := 220) rfl ?_
  refine g_istore C at_220 (Ls' := #[.val (.int x0), .val (.int x1), .val (.int x2), .val (.int x3), .val (.ref a4), .val (.int (y0 + ((x2 &&& (7 : Int32)) - (4 : Int32)))), .val (.int (x3 &&& (1048575 : Int32)))]) rfl (pc' := 222) rfl ?_
  refine g_iloadN C at_222 rfl (pc' := 223) rfl ?_
  refine g_callP C 0 (hw _ (List.mem_of_getElem? (i := 10) rfl)) (hw _ (List.mem_of_getElem? (i := 11) rfl)) (hw _ (List.mem_of_getElem? (i := 12) rfl)) (hw _ (List.mem_of_getElem? (i := 13) rfl)) (by decide) (rm1 l Z a0 hw [] h n0 x0) (by decide) (by decide) rfl rfl (by decide) (by decide) pd1 rfl rfl (st := []) rfl (Nat.le_of_eq rfl) at_223 (pc' := 226) rfl ?_
  refine g_iloadN C at_226 rfl (pc' := 227) rfl ?_
  refine g_callP C 1 (hw _ (List.mem_of_getElem? (i := 17) rfl)) (hw _ (List.mem_of_getElem? (i := 18) rfl)) (hw _ (List.mem_of_getElem? (i := 19) rfl)) (hw _ (List.mem_of_getElem? (i := 20) rfl)) (by decide) (rm2 l Z a0 hw [] h n0 x0) (by decide) (by decide) rfl rfl (by decide) (by decide) pd2 rfl rfl (st := [(.int (f1_0 x0))]) rfl (Nat.le_of_eq rfl) at_227 (pc' := 230) rfl ?_
  refine g_icmp C at_230 (c_ne (f1_0 x0) (f2_0 x0)) (by decide) (pc2 := 263) (by decide) (pc' := 233) rfl (fun hP => Go.pos ?_ hP) (fun hP => Go.neg ?_ hP)
  · exact j0_263 hw hH C x0 x1 x2 x3 a4 (y0 + ((x2 &&& (7 : Int32)) - (4 : Int32))) (x3 &&& (1048575 : Int32))
  · refine g_iload C at_233 rfl (pc' := 235) rfl ?_
    refine g_callP C 0 (hw _ (List.mem_of_getElem? (i := 10) rfl)) (hw _ (List.mem_of_getElem? (i := 11) rfl)) (hw _ (List.mem_of_getElem? (i := 12) rfl)) (hw _ (List.mem_of_getElem? (i := 13) rfl)) (by decide) (rm1 l Z a0 hw [] h n0 (y0 + ((x2 &&& (7 : Int32)) - (4 : Int32)))) (by decide) (by decide) rfl rfl (by decide) (by decide) pd1 rfl rfl (st := []) rfl (Nat.le_of_eq rfl) at_235 (pc' := 238) rfl ?_
    refine g_iload C at_238 rfl (pc' := 240) rfl ?_
    refine g_callP C 1 (hw _ (List.mem_of_getElem? (i := 17) rfl)) (hw _ (List.mem_of_getElem? (i := 18) rfl)) (hw _ (List.mem_of_getElem? (i := 19) rfl)) (hw _ (List.mem_of_getElem? (i := 20) rfl)) (by decide) (rm2 l Z a0 hw [] h n0 (y0 + ((x2 &&& (7 : Int32)) - (4 : Int32)))) (by decide) (by decide) rfl rfl (by decide) (by decide) pd2 rfl rfl (st := [(.int (f1_0 (y0 + ((x2 &&& (7 : Int32)) - (4 : Int32)))))]) rfl (Nat.le_of_eq rfl) at_240 (pc' := 243) rfl ?_
    refine g_icmp C at_243 (c_ne (f1_0 (y0 + ((x2 &&& (7 : Int32)) - (4 : Int32)))) (f2_0 (y0 + ((x2 &&& (7 : Int32)) - (4 : Int32))))) (by decide) (pc2 := 263) (by decide) (pc' := 246) rfl (fun hP => Go.pos ?_ hP) (fun hP => Go.neg ?_ hP)
    · exact j0_263 hw hH C x0 x1 x2 x3 a4 (y0 + ((x2 &&& (7 : Int32)) - (4 : Int32))) (x3 &&& (1048575 : Int32))
    · refine g_iload C at_246 rfl (pc' := 248) rfl ?_
      refine g_callP C 0 (hw _ (List.mem_of_getElem? (i := 10) rfl)) (hw _ (List.mem_of_getElem? (i := 11) rfl)) (hw _ (List.mem_of_getElem? (i := 12) rfl)) (hw _ (List.mem_of_getElem? (i := 13) rfl)) (by decide) (rm1 l Z a0 hw [] h n0 (x3 &&& (1048575 : Int32))) (by decide) (by decide) rfl rfl (by decide) (by decide) pd1 rfl rfl (st := []) rfl (Nat.le_of_eq rfl) at_248 (pc' := 251) rfl ?_
      refine g_iload C at_251 rfl (pc' := 253) rfl ?_
      refine g_callP C 1 (hw _ (List.mem_of_getElem? (i := 17) rfl)) (hw _ (List.mem_of_getElem? (i := 18) rfl)) (hw _ (List.mem_of_getElem? (i := 19) rfl)) (hw _ (List.mem_of_getElem? (i := 20) rfl)) (by decide) (rm2 l Z a0 hw [] h n0 (x3 &&& (1048575 : Int32))) (by decide) (by decide) rfl rfl (by decide) (by decide) pd2 rfl rfl (st := [(.int (f1_0 (x3 &&& (1048575 : Int32))))]) rfl (Nat.le_of_eq rfl) at_253 (pc' := 256) rfl ?_
      refine g_icmp C at_256 (c_ne (f1_0 (x3 &&& (1048575 : Int32))) (f2_0 (x3 &&& (1048575 : Int32)))) (by decide) (pc2 := 263) (by decide) (pc' := 259) rfl (fun hP => Go.pos ?_ hP) (fun hP => Go.neg ?_ hP)
      · exact j0_263 hw hH C x0 x1 x2 x3 a4 (y0 + ((x2 &&& (7 : Int32)) - (4 : Int32))) (x3 &&& (1048575 : Int32))
      · refine g_iconst C at_259 (v := (1 : Int32)) (by decide) (pc' := 260) rfl ?_
        refine g_goto C at_260 (by decide) (pc' := 264) (by decide) ?_
        exact g_retZ C at_264 (by decide) hH (by decide) (by decide)
theorem own_one (x0 x1 x2 x3 y0 : Int32) : f0_207 x0 x1 x2 x3 y0 = 1 := by
  simp [f0_263, f0_207, own_law]
theorem j0_A {p : Program} {l : Launch} {e : Env} {s : State} {m : MethodId} {args : Array Value} {below : List Frame} {meth : Method} {c : Code} {n0 : Nat} {h : Heap} {Z : State} {a0 : Array Value} (hw : ∀ d ∈ tables_1, d.before a0 Z = true) (hn0 : n0 ≤ h.size) (C : Cx p s m meth c Z "com/example/violet/violet/model/XmlCharsIsNameStartPinLaw" "law" code (some .boolean) 7) (x0 x1 x2 x3 : Int32) : Go p l e room_1 s m args below meth c n0 (Ret n0 (fun _ => True) 1) h 0 0 (mkF m 0 #[.val (.int x0), .val (.int x1), .val (.int x2), .val (.int x3), .unset, .unset, .unset] []) := by
  refine g_bipush C at_0 (v := (30 : Int32)) (by decide) (pc' := 2) rfl ?_
  refine g_newI C (hw _ (List.mem_of_getElem? (i := 0) rfl)) (k := 30) at_2 (by decide) (by decide) (by decide) (by decide) (by decide) hn0 (pc' := 4) rfl fun h1 a g1 _ I1 => ?_
  refine g_dup C at_4 rfl (pc' := 5) rfl ?_
  refine g_iconst C at_5 (v := (0 : Int32)) (by decide) (pc' := 6) rfl ?_
  refine g_bipush C at_6 (v := (97 : Int32)) (by decide) (pc' := 8) rfl ?_
  refine g_stI C I1 g1 (by decide) at_8 (pc' := 9) rfl fun h2 I2 => ?_
  refine g_dup C at_9 rfl (pc' := 10) rfl ?_
  refine g_iconst C at_10 (v := (1 : Int32)) (by decide) (pc' := 11) rfl ?_
  refine g_bipush C at_11 (v := (122 : Int32)) (by decide) (pc' := 13) rfl ?_
  refine g_stI C I2 g1 (by decide) at_13 (pc' := 14) rfl fun h3 I3 => ?_
  refine g_dup C at_14 rfl (pc' := 15) rfl ?_
  refine g_iconst C at_15 (v := (2 : Int32)) (by decide) (pc' := 16) rfl ?_
  refine g_bipush C at_16 (v := (65 : Int32)) (by decide) (pc' := 18) rfl ?_
  refine g_stI C I3 g1 (by decide) at_18 (pc' := 19) rfl fun h4 I4 => ?_
  refine g_dup C at_19 rfl (pc' := 20) rfl ?_
  refine g_iconst C at_20 (v := (3 : Int32)) (by decide) (pc' := 21) rfl ?_
  refine g_bipush C at_21 (v := (90 : Int32)) (by decide) (pc' := 23) rfl ?_
  refine g_stI C I4 g1 (by decide) at_23 (pc' := 24) rfl fun h5 I5 => ?_
  refine g_dup C at_24 rfl (pc' := 25) rfl ?_
  refine g_iconst C at_25 (v := (4 : Int32)) (by decide) (pc' := 26) rfl ?_
  refine g_bipush C at_26 (v := (95 : Int32)) (by decide) (pc' := 28) rfl ?_
  refine g_stI C I5 g1 (by decide) at_28 (pc' := 29) rfl fun h6 I6 => ?_
  refine g_dup C at_29 rfl (pc' := 30) rfl ?_
  refine g_iconst C at_30 (v := (5 : Int32)) (by decide) (pc' := 31) rfl ?_
  refine g_bipush C at_31 (v := (58 : Int32)) (by decide) (pc' := 33) rfl ?_
  refine g_stI C I6 g1 (by decide) at_33 (pc' := 34) rfl fun h7 I7 => ?_
  refine g_dup C at_34 rfl (pc' := 35) rfl ?_
  refine g_bipush C at_35 (v := (6 : Int32)) (by decide) (pc' := 37) rfl ?_
  refine g_sipush C at_37 (v := (192 : Int32)) (by decide) (pc' := 40) rfl ?_
  refine g_stI C I7 g1 (by decide) at_40 (pc' := 41) rfl fun h8 I8 => ?_
  refine g_dup C at_41 rfl (pc' := 42) rfl ?_
  refine g_bipush C at_42 (v := (7 : Int32)) (by decide) (pc' := 44) rfl ?_
  refine g_sipush C at_44 (v := (214 : Int32)) (by decide) (pc' := 47) rfl ?_
  refine g_stI C I8 g1 (by decide) at_47 (pc' := 48) rfl fun h9 I9 => ?_
  refine g_dup C at_48 rfl (pc' := 49) rfl ?_
  refine g_bipush C at_49 (v := (8 : Int32)) (by decide) (pc' := 51) rfl ?_
  refine g_sipush C at_51 (v := (216 : Int32)) (by decide) (pc' := 54) rfl ?_
  refine g_stI C I9 g1 (by decide) at_54 (pc' := 55) rfl fun h10 I10 => ?_
  refine g_dup C at_55 rfl (pc' := 56) rfl ?_
  refine g_bipush C at_56 (v := (9 : Int32)) (by decide) (pc' := 58) rfl ?_
  refine g_sipush C at_58 (v := (246 : Int32)) (by decide) (pc' := 61) rfl ?_
  refine g_stI C I10 g1 (by decide) at_61 (pc' := 62) rfl fun h11 I11 => ?_
  refine g_dup C at_62 rfl (pc' := 63) rfl ?_
  refine g_bipush C at_63 (v := (10 : Int32)) (by decide) (pc' := 65) rfl ?_
  refine g_sipush C at_65 (v := (248 : Int32)) (by decide) (pc' := 68) rfl ?_
  refine g_stI C I11 g1 (by decide) at_68 (pc' := 69) rfl fun h12 I12 => ?_
  refine g_dup C at_69 rfl (pc' := 70) rfl ?_
  refine g_bipush C at_70 (v := (11 : Int32)) (by decide) (pc' := 72) rfl ?_
  refine g_sipush C at_72 (v := (767 : Int32)) (by decide) (pc' := 75) rfl ?_
  refine g_stI C I12 g1 (by decide) at_75 (pc' := 76) rfl fun h13 I13 => ?_
  refine g_dup C at_76 rfl (pc' := 77) rfl ?_
  refine g_bipush C at_77 (v := (12 : Int32)) (by decide) (pc' := 79) rfl ?_
  refine g_sipush C at_79 (v := (880 : Int32)) (by decide) (pc' := 82) rfl ?_
  refine g_stI C I13 g1 (by decide) at_82 (pc' := 83) rfl fun h14 I14 => ?_
  refine g_dup C at_83 rfl (pc' := 84) rfl ?_
  refine g_bipush C at_84 (v := (13 : Int32)) (by decide) (pc' := 86) rfl ?_
  refine g_sipush C at_86 (v := (893 : Int32)) (by decide) (pc' := 89) rfl ?_
  refine g_stI C I14 g1 (by decide) at_89 (pc' := 90) rfl fun h15 I15 => ?_
  refine g_dup C at_90 rfl (pc' := 91) rfl ?_
  refine g_bipush C at_91 (v := (14 : Int32)) (by decide) (pc' := 93) rfl ?_
  refine g_sipush C at_93 (v := (895 : Int32)) (by decide) (pc' := 96) rfl ?_
  refine g_stI C I15 g1 (by decide) at_96 (pc' := 97) rfl fun h16 I16 => ?_
  refine g_dup C at_97 rfl (pc' := 98) rfl ?_
  refine g_bipush C at_98 (v := (15 : Int32)) (by decide) (pc' := 100) rfl ?_
  refine g_sipush C at_100 (v := (8191 : Int32)) (by decide) (pc' := 103) rfl ?_
  refine g_stI C I16 g1 (by decide) at_103 (pc' := 104) rfl fun h17 I17 => ?_
  refine g_dup C at_104 rfl (pc' := 105) rfl ?_
  refine g_bipush C at_105 (v := (16 : Int32)) (by decide) (pc' := 107) rfl ?_
  refine g_sipush C at_107 (v := (8204 : Int32)) (by decide) (pc' := 110) rfl ?_
  refine g_stI C I17 g1 (by decide) at_110 (pc' := 111) rfl fun h18 I18 => ?_
  refine g_dup C at_111 rfl (pc' := 112) rfl ?_
  refine g_bipush C at_112 (v := (17 : Int32)) (by decide) (pc' := 114) rfl ?_
  refine g_sipush C at_114 (v := (8205 : Int32)) (by decide) (pc' := 117) rfl ?_
  refine g_stI C I18 g1 (by decide) at_117 (pc' := 118) rfl fun h19 I19 => ?_
  refine g_dup C at_118 rfl (pc' := 119) rfl ?_
  refine g_bipush C at_119 (v := (18 : Int32)) (by decide) (pc' := 121) rfl ?_
  refine g_sipush C at_121 (v := (8304 : Int32)) (by decide) (pc' := 124) rfl ?_
  refine g_stI C I19 g1 (by decide) at_124 (pc' := 125) rfl fun h20 I20 => ?_
  refine g_dup C at_125 rfl (pc' := 126) rfl ?_
  refine g_bipush C at_126 (v := (19 : Int32)) (by decide) (pc' := 128) rfl ?_
  refine g_sipush C at_128 (v := (8591 : Int32)) (by decide) (pc' := 131) rfl ?_
  refine g_stI C I20 g1 (by decide) at_131 (pc' := 132) rfl fun h21 I21 => ?_
  refine g_dup C at_132 rfl (pc' := 133) rfl ?_
  refine g_bipush C at_133 (v := (20 : Int32)) (by decide) (pc' := 135) rfl ?_
  refine g_sipush C at_135 (v := (11264 : Int32)) (by decide) (pc' := 138) rfl ?_
  refine g_stI C I21 g1 (by decide) at_138 (pc' := 139) rfl fun h22 I22 => ?_
  refine g_dup C at_139 rfl (pc' := 140) rfl ?_
  refine g_bipush C at_140 (v := (21 : Int32)) (by decide) (pc' := 142) rfl ?_
  refine g_sipush C at_142 (v := (12271 : Int32)) (by decide) (pc' := 145) rfl ?_
  refine g_stI C I22 g1 (by decide) at_145 (pc' := 146) rfl fun h23 I23 => ?_
  refine g_dup C at_146 rfl (pc' := 147) rfl ?_
  refine g_bipush C at_147 (v := (22 : Int32)) (by decide) (pc' := 149) rfl ?_
  refine g_sipush C at_149 (v := (12289 : Int32)) (by decide) (pc' := 152) rfl ?_
  refine g_stI C I23 g1 (by decide) at_152 (pc' := 153) rfl fun h24 I24 => ?_
  refine g_dup C at_153 rfl (pc' := 154) rfl ?_
  refine g_bipush C at_154 (v := (23 : Int32)) (by decide) (pc' := 156) rfl ?_
  refine g_ldc C (v := (55295 : Int32)) (hw _ (List.mem_of_getElem? (i := 1) rfl)) at_156 (pc' := 158) rfl ?_
  refine g_stI C I24 g1 (by decide) at_158 (pc' := 159) rfl fun h25 I25 => ?_
  refine g_dup C at_159 rfl (pc' := 160) rfl ?_
  refine g_bipush C at_160 (v := (24 : Int32)) (by decide) (pc' := 162) rfl ?_
  refine g_ldc C (v := (63744 : Int32)) (hw _ (List.mem_of_getElem? (i := 2) rfl)) at_162 (pc' := 164) rfl ?_
  refine g_stI C I25 g1 (by decide) at_164 (pc' := 165) rfl fun h26 I26 => ?_
  refine g_dup C at_165 rfl (pc' := 166) rfl ?_
  refine g_bipush C at_166 (v := (25 : Int32)) (by decide) (pc' := 168) rfl ?_
  refine g_ldc C (v := (64975 : Int32)) (hw _ (List.mem_of_getElem? (i := 3) rfl)) at_168 (pc' := 170) rfl ?_
  refine g_stI C I26 g1 (by decide) at_170 (pc' := 171) rfl fun h27 I27 => ?_
  refine g_dup C at_171 rfl (pc' := 172) rfl ?_
  refine g_bipush C at_172 (v := (26 : Int32)) (by decide) (pc' := 174) rfl ?_
  refine g_ldc C (v := (65008 : Int32)) (hw _ (List.mem_of_getElem? (i := 4) rfl)) at_174 (pc' := 176) rfl ?_
  refine g_stI C I27 g1 (by decide) at_176 (pc' := 177) rfl fun h28 I28 => ?_
  refine g_dup C at_177 rfl (pc' := 178) rfl ?_
  refine g_bipush C at_178 (v := (27 : Int32)) (by decide) (pc' := 180) rfl ?_
  refine g_ldc C (v := (65533 : Int32)) (hw _ (List.mem_of_getElem? (i := 5) rfl)) at_180 (pc' := 182) rfl ?_
  refine g_stI C I28 g1 (by decide) at_182 (pc' := 183) rfl fun h29 I29 => ?_
  refine g_dup C at_183 rfl (pc' := 184) rfl ?_
  refine g_bipush C at_184 (v := (28 : Int32)) (by decide) (pc' := 186) rfl ?_
  refine g_ldc C (v := (65536 : Int32)) (hw _ (List.mem_of_getElem? (i := 6) rfl)) at_186 (pc' := 188) rfl ?_
  refine g_stI C I29 g1 (by decide) at_188 (pc' := 189) rfl fun h30 I30 => ?_
  refine g_dup C at_189 rfl (pc' := 190) rfl ?_
  refine g_bipush C at_190 (v := (29 : Int32)) (by decide) (pc' := 192) rfl ?_
  refine g_ldc C (v := (983039 : Int32)) (hw _ (List.mem_of_getElem? (i := 7) rfl)) at_192 (pc' := 194) rfl ?_
  refine g_stI C I30 g1 (by decide) at_194 (pc' := 195) rfl fun h31 I31 => ?_
  refine g_astore C at_195 rfl (Ls' := #[.val (.int x0), .val (.int x1), .val (.int x2), .val (.int x3), .val (.ref a), .unset, .unset]) rfl (pc' := 197) rfl ?_
  refine g_aload C at_197 rfl rfl (pc' := 199) rfl ?_
  refine g_iloadN C at_199 rfl (pc' := 200) rfl ?_
  refine g_ldc C (v := (2147483647 : Int32)) (hw _ (List.mem_of_getElem? (i := 8) rfl)) at_200 (pc' := 202) rfl ?_
  refine g_iand C at_202 (pc' := 203) rfl ?_
  refine g_bipush C at_203 (v := (30 : Int32)) (by decide) (pc' := 205) rfl ?_
  refine g_irem C at_205 (by decide) (pc' := 206) rfl ?_
  refine g_ldI C I31 (inb_rem x1 (by decide) (by decide)) at_206 (pc' := 207) rfl fun v => ?_
  exact Go.cast (j0_207 hw trivial C x0 x1 x2 x3 a v) (own_one _ _ _ _ _)
theorem rm_law (l : Launch) (Z : State) (a0 : Array Value) (hw : ∀ d ∈ tables_1, d.before a0 Z = true) (ws : List Jvm.Cond) (h : Heap) (n0 : Nat) (hn0 : n0 ≤ h.size) (x0 x1 x2 x3 : Int32) : Con l Z x code maxLocals ret room_1 ws #[(.int x0), (.int x1), (.int x2), (.int x3)] h (Ret n0 (fun _ => True) 1) :=
  con_of n0 pn0 (fun m => ef0 m x0 x1 x2 x3) fun p e s m below meth c C => j0_A hw hn0 C x0 x1 x2 x3
set_option maxRecDepth 65536 in
set_option maxHeartbeats 4000000 in
theorem comes_1 {Post : Tables → Env → Array Value → State → Outcome → State → Prop} (hpost : ∀ tb e args s v u, (limb_1_1.after args s (.returned v) u = true ∧ limb_1_2.after args s (.returned v) u = true ∧ True) → FrameEnd s (.returned v) u (Jvm.fieldLocs frame_1_writes args s ++ Jvm.arrayLocs frame_1_arrays args s ++ Jvm.staticLocs frame_1_statics s) 16 128 → Post tb e args s (.returned v) u) :
    ArmFor flags0 classFile x code maxLocals ret World_1 tables_1 room_1 Calls_1 rest_1 Pre_1 Post := by
  intro l hfl _ _ p e ha hc hk s m args below hf hA hF happ hP
  obtain ⟨hcalls, hrest, hpre⟩ := hP
  obtain ⟨-, -, -, hnamed, -, -, -, hat⟩ := (Spec.applies_iff hf).mp happ
  obtain ⟨hg, hn⟩ := and_e (Cond.before_iff.mp (show (Jvm.Cond.and given_1 narrow_1).before args s = true from hpre))
  obtain ⟨hcount, g0⟩ := and_e hg
  obtain ⟨k0, g1⟩ := and_e g0
  obtain ⟨k1, g2⟩ := and_e g1
  obtain ⟨k2, g3⟩ := and_e g2
  obtain ⟨w0, w1, w2, w3, rfl⟩ : ∃ w0 w1 w2 w3 : Value, args = #[w0, w1, w2, w3] := by
    have hs : args.size = 4 := by simpa [Cond.value, given_1] using hcount
    obtain ⟨L⟩ := args
    match L, hs with
    | [w0, w1, w2, w3], _ => exact ⟨w0, w1, w2, w3, rfl⟩
  have hw := fun d (hd : d ∈ tables_1) => atoms_spec (ws := Jvm.Cond.code x code maxLocals ret :: tables_1) hat d (List.mem_cons_of_mem _ hd)
  obtain ⟨i0, e0⟩ := is_v k0
  obtain rfl : w0 = (.int i0) := Option.some.inj e0
  obtain ⟨i1, e1⟩ := is_v k1
  obtain rfl : w1 = (.int i1) := Option.some.inj e1
  obtain ⟨i2, e2⟩ := is_v k2
  obtain rfl : w2 = (.int i2) := Option.some.inj e2
  obtain ⟨i3, e3⟩ := is_v g3
  obtain rfl : w3 = (.int i3) := Option.some.inj e3
  obtain ⟨n, o, h1, h2, h3, _, L, rfl, ⟨rfl, N, -⟩, hq⟩ := rm_law l s _ hw tables_1 s.heap s.heap.size (Nat.le_refl _) i0 i1 i2 i3 p e ha hc hk s m _ below hf ((Spec.applies_iff_loose hf).mp happ).1 ⟨rfl, State.Warmed39.refl s, rfl⟩ trivial
  refine ⟨n, _, h1, h2, h3, hpost _ _ _ _ _ _ ⟨Cond.after_iff.mpr rfl, Cond.after_iff.mpr (eq_i res_at (Term.int_eval (1)) rfl), trivial⟩ ⟨hq.1, hq.2.1, (hq.2.2.sift fun y hy => Or.inr (N y hy)).mono (by decide) (by decide)⟩⟩
theorem main_1_1 : Claimed_1_1 := comes_1 fun _ _ _ _ _ _ h hF => ⟨h.1, hF⟩
theorem main_1_2 : Claimed_1_2 := comes_1 fun _ _ _ _ _ _ h hF => ⟨h.2.1, hF⟩
end Jvm.Pilot.@@N@@
namespace Jvm.Pilot.@@N@@
open Jvm Jvm.ClassFile Sem Op Lib Jvm.Free Jvm.Stand Jvm.Pilot.@@N@@.Jvm.D
/-! MADE BY PROGRAM (witnessworld.py) out of the Statement's table words and the real class files: 9 classes; the members and pool entries that the words name. The judged class is class 1, her method 1. -/
namespace start1
open Jvm.ClassFile
def u (s : String) : CpInfo := .utf8 (stringToUtf16 s)
/-- a pool by its gaps: so many unusable entries, then the entry; so many at the end -/
def gap : Nat → List CpInfo → List CpInfo
  | 0, r => r
  | n + 1, r => .unusable :: gap n r
def poolList (es : List (Nat × CpInfo)) (last : Nat) : List CpInfo := es.foldr (fun e r => gap e.1 (e.2 :: r)) (gap last [])
def pool (es : List (Nat × CpInfo)) (last : Nat) : Array CpInfo := ⟨poolList es last⟩
def fileOf (pool : Array CpInfo) (this : Nat) (attrs : Array Attribute := #[]) (ms : Array MethodInfo := #[]) (fl : Nat := 33) (sup : Nat := 0) (ifs : Array Nat := #[]) (fds : Array FieldInfo := #[]) : ClassFile where
  minorVersion := 0
  majorVersion := 65
  constantPool := pool
  accessFlags := fl
  thisClass := this
  superClass := sup
  interfaces := ifs
  fields := fds
  methods := ms
  attributes := attrs
def plain (name : String) (sup : Option ClassId) : Class where
  name := name
  kind := .ordinary
  loader := none
  accessFlags := 33
  super := sup
  interfaces := #[]
  cf := none
  fields := #[]
  methods := #[]
  instanceTypes := #[]
  staticTypes := #[]
  resolved := #[]
  callSites := []
  init := .initialized
  statics := none
  mirror := none

def pool0 : Array CpInfo := pool [(5, u "<init>"), (0, u "()V"), (1, .class_ 10), (1, u "java/lang/Object")] 113

def k0m0 : Method := { name := "<init>", desc := "()V", sig := { parameters := [], returnType := none }, accessFlags := 1, code := none }
/-- java/lang/Object -/
def k0 : Class := { plain "java/lang/Object" none with
  accessFlags := 33
  interfaces := #[]
  cf := some (fileOf pool0 8 #[] #[{ accessFlags := 1, nameIndex := 5, descriptorIndex := 6, attributes := #[] }] 33 0 #[] #[])
  fields := #[]
  methods := #[k0m0]
  instanceTypes := #[]
  staticTypes := #[]
  resolved := Array.replicate 124 none
  statics := none }

def pool1 : Array CpInfo := pool [(2, .class_ 4), (1, u "java/lang/Object"), (0, u "<init>"), (0, u "()V"), (0, .integer 55295), (0, .integer 63744), (0, .integer 64975), (0, .integer 65008), (0, .integer 65533), (0, .integer 65536), (0, .integer 983039), (0, .integer 2147483647), (0, .integer 1048575), (0, .methodref 17 18), (0, .class_ 19), (0, .nameAndType 20 21), (0, u "com/example/violet/violet/model/XmlChars"), (0, u "isNameStart"), (0, u "(I)Z"), (0, .methodref 23 24), (0, .class_ 25), (0, .nameAndType 26 21), (0, u "com/example/violet/violet/model/XmlCharsIsNameStartPinLaw"), (0, u "ref"), (0, .integer 55296), (0, .integer 63743), (0, .integer 64976), (0, .integer 65007), (0, .integer 65534), (0, .integer 65535), (2, u "law"), (0, u "(IIII)Z")] 5

def k1m0 : Method := { name := "<init>", desc := "()V", sig := { parameters := [], returnType := none }, accessFlags := 2, code := none }
def k1c1 : Code := { maxStack := 4, maxLocals := 7, code := code, exceptionTable := #[], attributes := #[] }
def k1m1 : Method := { name := "law", desc := "(IIII)Z", sig := { parameters := [.int, .int, .int, .int], returnType := some .boolean }, accessFlags := 9, code := some k1c1 }
def k1c2 : Code := { maxStack := 2, maxLocals := 1, code := method_3_code, exceptionTable := #[], attributes := #[] }
def k1m2 : Method := { name := "ref", desc := "(I)Z", sig := { parameters := [.int], returnType := some .boolean }, accessFlags := 10, code := some k1c2 }
/-- com/example/violet/violet/model/XmlCharsIsNameStartPinLaw -/
def k1 : Class := { plain "com/example/violet/violet/model/XmlCharsIsNameStartPinLaw" (some 0) with
  accessFlags := 49
  interfaces := #[]
  cf := some (fileOf pool1 23 #[] #[{ accessFlags := 2, nameIndex := 5, descriptorIndex := 6, attributes := #[] }, { accessFlags := 9, nameIndex := 35, descriptorIndex := 36, attributes := #[] }, { accessFlags := 10, nameIndex := 26, descriptorIndex := 21, attributes := #[] }] 49 2 #[] #[])
  fields := #[]
  methods := #[k1m0, k1m1, k1m2]
  instanceTypes := #[]
  staticTypes := #[]
  resolved := Array.replicate 42 none
  statics := none }

def pool2 : Array CpInfo := pool [(2, .class_ 4), (1, u "java/lang/Object"), (0, u "<init>"), (0, u "()V"), (0, .integer 55295), (0, .integer 63744), (0, .integer 64975), (0, .integer 65008), (0, .integer 65533), (0, .integer 65536), (0, .integer 983039), (1, .class_ 17), (1, u "com/example/violet/violet/model/XmlChars"), (0, u "isNameStart"), (0, u "(I)Z"), (94, u "SPACES"), (0, u "Ljava/util/regex/Pattern;")] 55

def k2m0 : Method := { name := "<init>", desc := "()V", sig := { parameters := [], returnType := none }, accessFlags := 2, code := none }
def k2c1 : Code := { maxStack := 2, maxLocals := 1, code := prog_132_method_2_code, exceptionTable := #[], attributes := #[] }
def k2m1 : Method := { name := "isNameStart", desc := "(I)Z", sig := { parameters := [.int], returnType := some .boolean }, accessFlags := 9, code := some k2c1 }
/-- com/example/violet/violet/model/XmlChars -/
def k2 : Class := { plain "com/example/violet/violet/model/XmlChars" (some 0) with
  accessFlags := 49
  interfaces := #[]
  cf := some (fileOf pool2 15 #[] #[{ accessFlags := 2, nameIndex := 5, descriptorIndex := 6, attributes := #[] }, { accessFlags := 9, nameIndex := 18, descriptorIndex := 19, attributes := #[] }] 49 2 #[] #[{ accessFlags := 26, nameIndex := 114, descriptorIndex := 115, attributes := #[] }])
  fields := #[{ name := "SPACES", type := (.object "java/util/regex/Pattern"), accessFlags := 26, slot := 0, constantValue := 0 }]
  methods := #[k2m0, k2m1]
  instanceTypes := #[]
  staticTypes := #[(.object "java/util/regex/Pattern")]
  resolved := Array.replicate 171 none
  statics := none }

def pool3 : Array CpInfo := pool [(1, u "java/lang/Cloneable"), (0, .class_ 1), (0, u "java/lang/Object"), (0, .class_ 3)] 3

/-- java/lang/Cloneable -/
def k3 : Class := { plain "java/lang/Cloneable" (some 0) with
  accessFlags := 1537
  interfaces := #[]
  cf := some (fileOf pool3 2 #[] #[] 1537 4 #[] #[])
  fields := #[]
  methods := #[]
  instanceTypes := #[]
  staticTypes := #[]
  resolved := Array.replicate 8 none
  statics := none }

def pool4 : Array CpInfo := pool [(1, u "java/io/Serializable"), (0, .class_ 1), (0, u "java/lang/Object"), (0, .class_ 3)] 3

/-- java/io/Serializable -/
def k4 : Class := { plain "java/io/Serializable" (some 0) with
  accessFlags := 1537
  interfaces := #[]
  cf := some (fileOf pool4 2 #[] #[] 1537 4 #[] #[])
  fields := #[]
  methods := #[]
  instanceTypes := #[]
  staticTypes := #[]
  resolved := Array.replicate 8 none
  statics := none }

/-- the primitive byte -/
def k5 : Class := { plain "byte" none with kind := .primitive 'B', accessFlags := 0x411 }
/-- [B -/
def k6 : Class := { plain "[B" (some 0) with kind := .array 5 .byte, interfaces := #[3, 4], accessFlags := 1041 }

/-- the primitive int -/
def k7 : Class := { plain "int" none with kind := .primitive 'I', accessFlags := 0x411 }
/-- [I -/
def k8 : Class := { plain "[I" (some 0) with kind := .array 7 .int, interfaces := #[3, 4], accessFlags := 1041 }

def heap : Heap := #[]
def classes : Array Class := #[k0, k1, k2, k3, k4, k5, k6, k7, k8]
def interned : List (Array UInt16 × Addr) := []
def slotsUsed : Nat := 0
def theMethod : MethodId := ⟨1, 1⟩
def args0 : Array Value := #[.int 5, .int 6, .int 7, .int 8]
def aboutOver (below : List Frame) : State where
  vm := { classes := classes, interned := interned.toArray }
  heap := heap
  slotsUsed := slotsUsed
  threads := #[{ frames := .invoking theMethod args0 :: below }]
def below0 : List Frame := [.native { method := ⟨0, 0⟩, args := #[] }]
def about1 : State := aboutOver below0
def p0 : Program := .bare "" "" ""
def e0 : Env := launch0.env 0 0 0
theorem w_frames : about1.frames = Frame.invoking theMethod args0 :: below0 := rfl
set_option maxRecDepth 65536 in
theorem w_args : argsFit about1.vm theMethod args0 = true := by decide +kernel
set_option maxRecDepth 65536 in
theorem w_heap : heapFits about1 = true := by decide +kernel
set_option maxRecDepth 65536 in
theorem w_runnable : about1.curStatus? = some .runnable := by decide +kernel
set_option maxRecDepth 65536 in
theorem w_alone : about1.alone = true := by decide +kernel
set_option maxRecDepth 65536 in
theorem w_named : about1.methodNamed? x = some theMethod := by decide +kernel
set_option maxRecDepth 65536 in
theorem w_hears : about1.hears theMethod below0 = true := by decide +kernel
set_option maxRecDepth 65536 in
theorem w_ripe : about1.ripe theMethod args0 below0 = true := by decide +kernel
theorem w_running : about1.status = .running := rfl
set_option maxRecDepth 65536 in
theorem w_room : about1.hasRoom e0.platform room_1 = true :=
  launch0.hasRoom_least _ room_1 (by decide +kernel) (by decide +kernel) (by decide +kernel) (by decide +kernel) (by decide +kernel) (by decide +kernel)
theorem allAtoms_all (ts : List Jvm.Cond) (a : Array Jvm.Value) (st : Jvm.State) : (allAtoms ts).before a st = ts.all (fun c => c.before a st) := by
  induction ts with
  | nil => rfl
  | cons c t ih =>
    show (Jvm.Cond.and c (allAtoms t)).before a st = _
    rw [Jvm.Cond.before_and, ih, List.all_cons]
def words1 : List Jvm.Cond := Jvm.Cond.code x code maxLocals ret :: tables_1
/-- a 'code' word, met by the world's own term for the bytes: nothing is compared byte by byte -/
theorem code_word {y : MethodName} {bytes : ByteArray} {mx : Nat} {rt : Option FieldType} {a : Array Value} {s : State} {m : MethodId} {meth : Method} {c : Code} (h1 : s.methodNamed? y = some m) (h2 : s.vm.method? m = some meth) (h3 : meth.code = some c) (h4 : c.code = bytes)
    (h5 : (c.maxLocals == mx && c.exceptionTable.isEmpty && decide (c.maxStack ≤ mostOperands) && decide (meth.sig.returnType = rt) && !meth.locks && decide (parseMethodDescriptor y.desc = some meth.sig)) = true) : (Jvm.Cond.code y bytes mx rt).before a s = true := by
  simp only [Bool.and_eq_true, beq_iff_eq, Bool.not_eq_true', decide_eq_true_eq] at h5
  obtain ⟨⟨⟨⟨⟨g1, g2⟩, g3⟩, g4⟩, g5⟩, g6⟩ := h5
  simp [Cond.before, Cond.holds, Cond.value, h1, h2, h3, h4, g1, g2, g3, g4, g5, g6]
def isCode : Jvm.Cond → Bool
  | .code _ _ _ _ => true
  | _ => false
theorem all_split {L : List Jvm.Cond} {P : Jvm.Cond → Bool} (h1 : L.all (fun c => isCode c || P c) = true) (h2 : ∀ c ∈ L.filter isCode, P c = true) : L.all P = true := by
  refine List.all_eq_true.mpr fun c hc => ?_
  have h := List.all_eq_true.mp h1 c hc
  rcases Bool.eq_false_or_eq_true (isCode c) with hi | hi
  · exact h2 c (List.mem_filter.mpr ⟨hc, hi⟩)
  · simpa [hi] using h
set_option maxRecDepth 65536 in
theorem w_c0 : (Jvm.Cond.code x code maxLocals ret).before args0 about1 = true := code_word (m := ⟨1, 1⟩) (meth := k1m1) (c := k1c1) (by decide +kernel) rfl rfl rfl (by decide +kernel)
set_option maxRecDepth 65536 in
theorem w_c1 : (Jvm.Cond.code ({ cls := "com/example/violet/violet/model/XmlChars", name := "isNameStart", desc := "(I)Z" } : Jvm.MethodName) prog_132_method_2_code (1 : Nat) (Option.some Jvm.ClassFile.FieldType.boolean)).before args0 about1 = true := code_word (m := ⟨2, 1⟩) (meth := k2m1) (c := k2c1) (by decide +kernel) rfl rfl rfl (by decide +kernel)
set_option maxRecDepth 65536 in
theorem w_c2 : (Jvm.Cond.code ({ cls := "com/example/violet/violet/model/XmlCharsIsNameStartPinLaw", name := "ref", desc := "(I)Z" } : Jvm.MethodName) method_3_code (1 : Nat) (Option.some Jvm.ClassFile.FieldType.boolean)).before args0 about1 = true := code_word (m := ⟨1, 2⟩) (meth := k1m2) (c := k1c2) (by decide +kernel) rfl rfl rfl (by decide +kernel)
def codes1 : List Jvm.Cond := [Jvm.Cond.code x code maxLocals ret, Jvm.Cond.code ({ cls := "com/example/violet/violet/model/XmlChars", name := "isNameStart", desc := "(I)Z" } : Jvm.MethodName) prog_132_method_2_code (1 : Nat) (Option.some Jvm.ClassFile.FieldType.boolean), Jvm.Cond.code ({ cls := "com/example/violet/violet/model/XmlCharsIsNameStartPinLaw", name := "ref", desc := "(I)Z" } : Jvm.MethodName) method_3_code (1 : Nat) (Option.some Jvm.ClassFile.FieldType.boolean)]
set_option maxRecDepth 65536 in
theorem codes_eq : words1.filter isCode = codes1 := rfl
theorem w_codes : ∀ c ∈ words1.filter isCode, c.before args0 about1 = true := by
  rw [codes_eq]
  intro c hc
  simp only [codes1, List.mem_cons, List.not_mem_nil, or_false] at hc
  rcases hc with rfl | rfl | rfl
  · exact w_c0
  · exact w_c1
  · exact w_c2
set_option maxRecDepth 65536 in
theorem w_t1 : (words1.take 24).all (fun c => isCode c || c.before args0 about1) = true := by decide +kernel
set_option maxRecDepth 65536 in
theorem w_t2 : (words1.drop 24).all (fun c => isCode c || c.before args0 about1) = true := by decide +kernel
theorem w_tables : (allAtoms (Jvm.Cond.code x code maxLocals ret :: tables_1)).before args0 about1 = true := by
  rw [allAtoms_all]
  show words1.all (fun c => c.before args0 about1) = true
  refine all_split ?_ w_codes
  rw [← List.take_append_drop 24 words1, List.all_append, w_t1, w_t2]
  rfl
set_option maxRecDepth 65536 in
theorem w_case : (Jvm.Cond.and given_1 narrow_1).before args0 about1 = true := by decide +kernel
theorem w_applies : (headSpec (Jvm.Cond.code x code maxLocals ret :: tables_1) room_1).applies x e0.platform about1 = true :=
  (Spec.applies_iff w_frames).mpr ⟨w_running, w_runnable, w_alone, w_named, w_hears, w_ripe, w_room, w_tables⟩
theorem atStart : AtStart classFile x code maxLocals ret World_1 tables_1 room_1 Calls_1 rest_1 Pre_1 launch0 p0 e0 about1 theMethod args0 below0 :=
  ⟨lists_1, trivial, launch0.admits_env _ _ _, launch0.least_env, fairChoices_fair.cas, fairChoices_fair.clock, w_frames, w_args, w_heap, w_applies, trivial, trivial, w_case⟩
end start1
theorem witness_1 : WitnessClaimed_1 := ⟨start1.p0, start1.e0, start1.about1, start1.theMethod, start1.args0, start1.below0, start1.atStart⟩
end Jvm.Pilot.@@N@@
