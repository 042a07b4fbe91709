import JvmDerived
import JvmDerived.Pilot.@@N@@Statement
import JvmDerived.Pilot.@@N@@Code
set_option linter.unusedVariables false
set_option linter.unusedSimpArgs false
@@BLOCK:NumsL.lean.txt@@
namespace Jvm.OwnGo
open Sem ClassFile Op Lib Jvm.Stand Jvm.Free Jvm.LawKit Jvm.RoadKit
/-- what the walk of a body is told once: exec, bytes, max_locals, its class, its name, its return kind, no lock, the tables -/
def Cx (p : Program) (s : State) (m : MethodId) (meth : Method) (c : Code) (Z : State) (own nm : String) (code : ByteArray) (ret : Option FieldType) (maxL : Nat) : Prop :=
  p.tables.exec = Jvm.exec ∧ c.code = code ∧ c.maxLocals = maxL ∧ s.vm.findClass own = some m.cls ∧ meth.name = nm ∧ meth.sig.returnType = ret ∧ meth.locks = false ∧ Z.Warmed39 s.vm
/-- from every state with heap h in which the body stands at frame g the body comes to its end, and Q holds of what it leaves -/
def Go (p : Program) (l : Launch) (e : Env) (R : Room) (s : State) (m : MethodId) (args : Array Value) (below : List Frame) (meth : Method) (c : Code) (n0 : Nat) (Q : Option Value → Heap → List Loc → Prop) (h : Heap) (cells slots : Nat) (g : JFrame) : Prop :=
  ∀ (T : State) (L : List Loc), Stand p l e R s m args below meth c T L cells slots → T.heap = h → Fr n0 L →
    ∃ (t : State) (o : Outcome), Steps p.tables e below (T.setTop g) t ∧ t.status = .running ∧ Ended t below o ∧ ∃ v L', o = .returned v ∧ Q v t.heap L' ∧ FrameEnd s o t L' R.cells R.slots
/-- the contract of a body, at given arguments and heap -/
def Con (l : Launch) (Z : State) (y : MethodName) (bytes : ByteArray) (maxL : Nat) (ret : Option FieldType) (rm : Room) (ws : List Jvm.Cond) (as' : Array Value) (h : Heap) (Q : Option Value → Heap → List Loc → Prop) : Prop :=
  MetFree l y (head1 (Jvm.Cond.code y bytes maxL ret :: ws) rm) (fun a U => a = as' ∧ Z.Warmed39 U.vm ∧ U.heap = h) (fun _ _ _ _ _ => True) (fun _ U o U' => ∃ v L, o = .returned v ∧ Q v U'.heap L ∧ FrameEnd U o U' L rm.cells rm.slots)
/-- an int is returned; the heap is as H says; nothing old is written -/
def Ret (n0 : Nat) (H : Heap → Prop) (r : Int32) (v : Option Value) (hh : Heap) (L : List Loc) : Prop := v = some (.int r) ∧ Fr n0 L ∧ H hh
theorem con_of {l : Launch} {Z : State} {y : MethodName} {bytes : ByteArray} {maxL : Nat} {ret : Option FieldType} {rm : Room} {ws : List Jvm.Cond} {as' : Array Value} {h : Heap} {Q : Option Value → Heap → List Loc → Prop} (n0 : Nat) {Ls0 : Array Slot} (hn : plainName y.cls = true) (hef : ∀ m, entryFrame m as' maxL = mkF m 0 Ls0 [])
    (body : ∀ (p : Program) (e : Env) (s : State) (m : MethodId) (below : List Frame) (meth : Method) (c : Code), Cx p s m meth c Z y.cls y.name bytes ret maxL → Go p l e rm s m as' below meth c n0 Q h 0 0 (mkF m 0 Ls0 [])) : Con l Z y bytes maxL ret rm ws as' h Q := by
  refine MetFree.of_bodySF (plainFor_of_name hn) hisR ?_
  intro p e s m args below meth c s₁ Bd hml0 hP hK
  obtain ⟨rfl, hZ, hh⟩ := hP
  rw [hef m]
  exact body p e s m below meth c ⟨Bd.exec, Bd.bytes, hml0, findClass_of_methodNamed Bd.named, (name_of_methodNamed Bd.named Bd.method).1, Bd.returns, Bd.notSynchronized, hZ⟩ s₁ [] (Stand.of_body Bd) (by rw [← hh, Bd.state]; rfl) (Fr.nil n0)
section Steps
variable {p : Program} {l : Launch} {e : Env} {R : Room} {s : State} {m : MethodId} {args : Array Value} {below : List Frame} {meth : Method} {c : Code} {n0 : Nat} {Q : Option Value → Heap → List Loc → Prop} {h : Heap} {cells slots : Nat} {Z : State} {own nm : String} {code : ByteArray} {ret : Option FieldType} {maxL : Nat} {pc pc' pc2 : Nat} {Ls Ls' : Array Slot} {st : List Value} {a0 : Array Value}
theorem Go.step {g g' : JFrame} (f : ∀ T, At T m c below → ∀ target, Steps p.tables e below (T.setTop g') target → Steps p.tables e below (T.setTop g) target) (q : Go p l e R s m args below meth c n0 Q h cells slots g') : Go p l e R s m args below meth c n0 Q h cells slots g := fun T L X eT N => by
  obtain ⟨t, o, k, r⟩ := q T L X eT N
  exact ⟨t, o, f T X.here t k, r⟩
theorem Go.at {g g' : JFrame} (q : Go p l e R s m args below meth c n0 Q h cells slots g') (hg : g = g') : Go p l e R s m args below meth c n0 Q h cells slots g := hg ▸ q
theorem g_iloadN (C : Cx p s m meth c Z own nm code ret maxL) {k : Fin 4} {v : Int32} (hd : decode code pc = .ok (.iload_n k, 1)) (hl : Ls[k.val]? = some (.val (.int v))) (hp : pc + 1 = pc') (q : Go p l e R s m args below meth c n0 Q h cells slots (mkF m pc' Ls (.int v :: st))) : Go p l e R s m args below meth c n0 Q h cells slots (mkF m pc Ls st) := by
  subst hp
  exact q.step fun T A t r => XS.iloadN A C.1 rfl (hb C.2.1 hd) hl r
theorem g_iload (C : Cx p s m meth c Z own nm code ret maxL) {k : Nat} {v : Int32} (hd : decode code pc = .ok (.iload k, 2)) (hl : Ls[k]? = some (.val (.int v))) (hp : pc + 2 = pc') (q : Go p l e R s m args below meth c n0 Q h cells slots (mkF m pc' Ls (.int v :: st))) : Go p l e R s m args below meth c n0 Q h cells slots (mkF m pc Ls st) := by
  subst hp
  exact q.step fun T A t r => XS.iload A C.1 rfl (hb C.2.1 hd) hl r
theorem g_aloadN (C : Cx p s m meth c Z own nm code ret maxL) {k : Fin 4} {v : Value} (hd : decode code pc = .ok (.aload_n k, 1)) (hl : Ls[k.val]? = some (.val v)) (hv : v.isRef = true) (hp : pc + 1 = pc') (q : Go p l e R s m args below meth c n0 Q h cells slots (mkF m pc' Ls (v :: st))) : Go p l e R s m args below meth c n0 Q h cells slots (mkF m pc Ls st) := by
  subst hp
  exact q.step fun T A t r => XS.aloadN A C.1 rfl (hb C.2.1 hd) hl hv r
theorem g_aload (C : Cx p s m meth c Z own nm code ret maxL) {k : Nat} {v : Value} (hd : decode code pc = .ok (.aload k, 2)) (hl : Ls[k]? = some (.val v)) (hv : v.isRef = true) (hp : pc + 2 = pc') (q : Go p l e R s m args below meth c n0 Q h cells slots (mkF m pc' Ls (v :: st))) : Go p l e R s m args below meth c n0 Q h cells slots (mkF m pc Ls st) := by
  subst hp
  exact q.step fun T A t r => XS.aload A C.1 rfl (hb C.2.1 hd) hl hv r
theorem g_iconst (C : Cx p s m meth c Z own nm code ret maxL) {i : Int} {v : Int32} (hd : decode code pc = .ok (.iconst i, 1)) (hv : Int32.ofInt i = v) (hp : pc + 1 = pc') (q : Go p l e R s m args below meth c n0 Q h cells slots (mkF m pc' Ls (.int v :: st))) : Go p l e R s m args below meth c n0 Q h cells slots (mkF m pc Ls st) := by
  subst hp hv
  exact q.step fun T A t r => XS.iconst A C.1 rfl (hb C.2.1 hd) r
theorem g_bipush (C : Cx p s m meth c Z own nm code ret maxL) {i : Int} {v : Int32} (hd : decode code pc = .ok (.bipush i, 2)) (hv : (Int8.ofInt i).toInt32 = v) (hp : pc + 2 = pc') (q : Go p l e R s m args below meth c n0 Q h cells slots (mkF m pc' Ls (.int v :: st))) : Go p l e R s m args below meth c n0 Q h cells slots (mkF m pc Ls st) := by
  subst hp hv
  exact q.step fun T A t r => XS.bipush A C.1 rfl (hb C.2.1 hd) r
theorem g_sipush (C : Cx p s m meth c Z own nm code ret maxL) {i : Int} {v : Int32} (hd : decode code pc = .ok (.sipush i, 3)) (hv : (Int16.ofInt i).toInt32 = v) (hp : pc + 3 = pc') (q : Go p l e R s m args below meth c n0 Q h cells slots (mkF m pc' Ls (.int v :: st))) : Go p l e R s m args below meth c n0 Q h cells slots (mkF m pc Ls st) := by
  subst hp hv
  exact q.step fun T A t r => XS.sipush A C.1 rfl (hb C.2.1 hd) r
theorem g_ldc (C : Cx p s m meth c Z own nm code ret maxL) {i : Nat} {v : Int32} (w : (Jvm.Cond.constant own i v).before a0 Z = true) (hd : decode code pc = .ok (.ldc i, 2)) (hp : pc + 2 = pc') (q : Go p l e R s m args below meth c n0 Q h cells slots (mkF m pc' Ls (.int v :: st))) : Go p l e R s m args below meth c n0 Q h cells slots (mkF m pc Ls st) := by
  subst hp
  intro T L X eT N
  obtain ⟨t, o, k, r⟩ := q T L X eT N
  exact ⟨t, o, X.ldcInt C.1 C.2.2.2.1 (mvT C.2.2.2.2.2.2.2 w) (g := mkF m pc Ls st) rfl (hb C.2.1 hd) t k, r⟩
theorem g_iadd (C : Cx p s m meth c Z own nm code ret maxL) {x y : Int32} (hd : decode code pc = .ok (.iadd, 1)) (hp : pc + 1 = pc') (q : Go p l e R s m args below meth c n0 Q h cells slots (mkF m pc' Ls (.int (x + y) :: st))) : Go p l e R s m args below meth c n0 Q h cells slots (mkF m pc Ls (.int y :: .int x :: st)) := by
  subst hp
  exact q.step fun T A t r => XS.iadd A C.1 rfl (hb C.2.1 hd) rfl r
theorem g_isub (C : Cx p s m meth c Z own nm code ret maxL) {x y : Int32} (hd : decode code pc = .ok (.isub, 1)) (hp : pc + 1 = pc') (q : Go p l e R s m args below meth c n0 Q h cells slots (mkF m pc' Ls (.int (x - y) :: st))) : Go p l e R s m args below meth c n0 Q h cells slots (mkF m pc Ls (.int y :: .int x :: st)) := by
  subst hp
  exact q.step fun T A t r => XS.isub A C.1 rfl (hb C.2.1 hd) rfl r
theorem g_imul (C : Cx p s m meth c Z own nm code ret maxL) {x y : Int32} (hd : decode code pc = .ok (.imul, 1)) (hp : pc + 1 = pc') (q : Go p l e R s m args below meth c n0 Q h cells slots (mkF m pc' Ls (.int (x * y) :: st))) : Go p l e R s m args below meth c n0 Q h cells slots (mkF m pc Ls (.int y :: .int x :: st)) := by
  subst hp
  exact q.step fun T A t r => XS.imul A C.1 rfl (hb C.2.1 hd) rfl r
theorem g_iand (C : Cx p s m meth c Z own nm code ret maxL) {x y : Int32} (hd : decode code pc = .ok (.iand, 1)) (hp : pc + 1 = pc') (q : Go p l e R s m args below meth c n0 Q h cells slots (mkF m pc' Ls (.int (x &&& y) :: st))) : Go p l e R s m args below meth c n0 Q h cells slots (mkF m pc Ls (.int y :: .int x :: st)) := by
  subst hp
  exact q.step fun T A t r => XS.iand A C.1 rfl (hb C.2.1 hd) rfl r
theorem g_ixor (C : Cx p s m meth c Z own nm code ret maxL) {x y : Int32} (hd : decode code pc = .ok (.ixor, 1)) (hp : pc + 1 = pc') (q : Go p l e R s m args below meth c n0 Q h cells slots (mkF m pc' Ls (.int (x ^^^ y) :: st))) : Go p l e R s m args below meth c n0 Q h cells slots (mkF m pc Ls (.int y :: .int x :: st)) := by
  subst hp
  exact q.step fun T A t r => XT.ixor A C.1 rfl (hb C.2.1 hd) rfl r
theorem g_irem (C : Cx p s m meth c Z own nm code ret maxL) {x y : Int32} (hd : decode code pc = .ok (.irem, 1)) (hy : y ≠ 0) (hp : pc + 1 = pc') (q : Go p l e R s m args below meth c n0 Q h cells slots (mkF m pc' Ls (.int (x % y) :: st))) : Go p l e R s m args below meth c n0 Q h cells slots (mkF m pc Ls (.int y :: .int x :: st)) := by
  subst hp
  intro T L X eT N
  obtain ⟨t, o, k, r⟩ := q T L X eT N
  exact ⟨t, o, iremM X C.1 (g := mkF m pc Ls (.int y :: .int x :: st)) rfl (hb C.2.1 hd) rfl hy k, r⟩
theorem g_dup (C : Cx p s m meth c Z own nm code ret maxL) {x : Value} (hd : decode code pc = .ok (.dup, 1)) (hx : x.category = 1) (hp : pc + 1 = pc') (q : Go p l e R s m args below meth c n0 Q h cells slots (mkF m pc' Ls (x :: x :: st))) : Go p l e R s m args below meth c n0 Q h cells slots (mkF m pc Ls (x :: st)) := by
  subst hp
  exact q.step fun T A t r => XS.dup A C.1 rfl (hb C.2.1 hd) rfl hx r
theorem g_istoreN (C : Cx p s m meth c Z own nm code ret maxL) {k : Fin 4} {x : Int32} (hd : decode code pc = .ok (.istore_n k, 1)) (hl : storeLocals Ls k.val (.int x) = some Ls') (hp : pc + 1 = pc') (q : Go p l e R s m args below meth c n0 Q h cells slots (mkF m pc' Ls' st)) : Go p l e R s m args below meth c n0 Q h cells slots (mkF m pc Ls (.int x :: st)) := by
  subst hp
  exact q.step fun T A t r => XS.istoreN A C.1 rfl (hb C.2.1 hd) rfl hl r
theorem g_istore (C : Cx p s m meth c Z own nm code ret maxL) {k : Nat} {x : Int32} (hd : decode code pc = .ok (.istore k, 2)) (hl : storeLocals Ls k (.int x) = some Ls') (hp : pc + 2 = pc') (q : Go p l e R s m args below meth c n0 Q h cells slots (mkF m pc' Ls' st)) : Go p l e R s m args below meth c n0 Q h cells slots (mkF m pc Ls (.int x :: st)) := by
  subst hp
  exact q.step fun T A t r => XS.istore A C.1 rfl (hb C.2.1 hd) rfl hl r
theorem g_astoreN (C : Cx p s m meth c Z own nm code ret maxL) {k : Fin 4} {x : Value} (hd : decode code pc = .ok (.astore_n k, 1)) (hv : x.isRef = true) (hl : storeLocals Ls k.val x = some Ls') (hp : pc + 1 = pc') (q : Go p l e R s m args below meth c n0 Q h cells slots (mkF m pc' Ls' st)) : Go p l e R s m args below meth c n0 Q h cells slots (mkF m pc Ls (x :: st)) := by
  subst hp
  exact q.step fun T A t r => XS.astoreN A C.1 rfl (hb C.2.1 hd) rfl hv hl r
theorem g_astore (C : Cx p s m meth c Z own nm code ret maxL) {k : Nat} {x : Value} (hd : decode code pc = .ok (.astore k, 2)) (hv : x.isRef = true) (hl : storeLocals Ls k x = some Ls') (hp : pc + 2 = pc') (q : Go p l e R s m args below meth c n0 Q h cells slots (mkF m pc' Ls' st)) : Go p l e R s m args below meth c n0 Q h cells slots (mkF m pc Ls (x :: st)) := by
  subst hp
  exact q.step fun T A t r => XS.astore A C.1 rfl (hb C.2.1 hd) rfl hv hl r
theorem g_goto (C : Cx p s m meth c Z own nm code ret maxL) {o : Int} (hd : decode code pc = .ok (.goto o, 3)) (ho : 0 ≤ (pc : Int) + o) (hp : ((pc : Int) + o).toNat = pc') (q : Go p l e R s m args below meth c n0 Q h cells slots (mkF m pc' Ls st)) : Go p l e R s m args below meth c n0 Q h cells slots (mkF m pc Ls st) := q.step fun T A t r => XS.goto A C.1 rfl (pc0 := pc) rfl (hb C.2.1 hd) ho hp r
/-- a comparison of two ints: both ways -/
theorem g_icmp (C : Cx p s m meth c Z own nm code ret maxL) {cd : ClassFile.Cond} {x y : Int32} {o : Int} {P : Prop} [Decidable P] (hd : decode code pc = .ok (.if_icmp cd o, 3)) (hc : if_icmp.holds cd x y = decide P) (ho : 0 ≤ (pc : Int) + o) (hp2 : ((pc : Int) + o).toNat = pc2) (hp : pc + 3 = pc')
    (q1 : P → Go p l e R s m args below meth c n0 Q h cells slots (mkF m pc2 Ls st)) (q2 : ¬ P → Go p l e R s m args below meth c n0 Q h cells slots (mkF m pc' Ls st)) : Go p l e R s m args below meth c n0 Q h cells slots (mkF m pc Ls (.int y :: .int x :: st)) := by
  subst hp
  by_cases hP : P
  · exact (q1 hP).step fun T A t r => XS.icmpYes A C.1 rfl (pc0 := pc) rfl (hb C.2.1 hd) rfl (hc.trans (decide_eq_true hP)) ho hp2 r
  · exact (q2 hP).step fun T A t r => XS.icmpNo A C.1 rfl (hb C.2.1 hd) rfl (hc.trans (decide_eq_false hP)) r
/-- a comparison of an int with 0: both ways -/
theorem g_if (C : Cx p s m meth c Z own nm code ret maxL) {cd : ClassFile.Cond} {x : Int32} {o : Int} {P : Prop} [Decidable P] (hd : decode code pc = .ok (.ifCond cd o, 3)) (hc : if_icmp.holds cd x 0 = decide P) (ho : 0 ≤ (pc : Int) + o) (hp2 : ((pc : Int) + o).toNat = pc2) (hp : pc + 3 = pc')
    (q1 : P → Go p l e R s m args below meth c n0 Q h cells slots (mkF m pc2 Ls st)) (q2 : ¬ P → Go p l e R s m args below meth c n0 Q h cells slots (mkF m pc' Ls st)) : Go p l e R s m args below meth c n0 Q h cells slots (mkF m pc Ls (.int x :: st)) := by
  subst hp
  by_cases hP : P
  · exact (q1 hP).step fun T A t r => XS.ifYes A C.1 rfl (pc0 := pc) rfl (hb C.2.1 hd) rfl ((if0 cd x).trans (hc.trans (decide_eq_true hP))) ho hp2 r
  · exact (q2 hP).step fun T A t r => XS.ifNo A C.1 rfl (hb C.2.1 hd) rfl ((if0 cd x).trans (hc.trans (decide_eq_false hP))) r
theorem c_lt (x y : Int32) : if_icmp.holds .lt x y = decide (x < y) := by
  by_cases q : x < y
  · exact (tlt q).1.trans (decide_eq_true q).symm
  · exact (flt q).1.trans (decide_eq_false q).symm
theorem c_ge (x y : Int32) : if_icmp.holds .ge x y = decide (¬ x < y) := by
  by_cases q : x < y
  · exact (tlt q).2.1.trans (decide_eq_false (not_not_intro q)).symm
  · exact (flt q).2.1.trans (decide_eq_true q).symm
theorem c_gt (x y : Int32) : if_icmp.holds .gt x y = decide (y < x) := by
  by_cases q : y < x
  · exact (tlt q).2.2.1.trans (decide_eq_true q).symm
  · exact (flt q).2.2.1.trans (decide_eq_false q).symm
theorem c_le (x y : Int32) : if_icmp.holds .le x y = decide (¬ y < x) := by
  by_cases q : y < x
  · exact (tlt q).2.2.2.trans (decide_eq_false (not_not_intro q)).symm
  · exact (flt q).2.2.2.trans (decide_eq_true q).symm
theorem c_eq (x y : Int32) : if_icmp.holds .eq x y = decide (x = y) := by
  by_cases q : x = y
  · exact (teq q).1.trans (decide_eq_true q).symm
  · exact (feq q).1.trans (decide_eq_false q).symm
theorem c_ne (x y : Int32) : if_icmp.holds .ne x y = decide (¬ x = y) := by
  by_cases q : x = y
  · exact (teq q).2.trans (decide_eq_false (not_not_intro q)).symm
  · exact (feq q).2.trans (decide_eq_true q).symm
/-- a fork of what is returned -/
theorem Go.pos {H : Heap → Prop} {P : Prop} [Decidable P] {a b : Int32} {g : JFrame} (q : Go p l e R s m args below meth c n0 (Ret n0 H a) h cells slots g) (hP : P) : Go p l e R s m args below meth c n0 (Ret n0 H (if P then a else b)) h cells slots g := by rw [if_pos hP]; exact q
theorem Go.neg {H : Heap → Prop} {P : Prop} [Decidable P] {a b : Int32} {g : JFrame} (q : Go p l e R s m args below meth c n0 (Ret n0 H b) h cells slots g) (hP : ¬ P) : Go p l e R s m args below meth c n0 (Ret n0 H (if P then a else b)) h cells slots g := by rw [if_neg hP]; exact q
theorem Go.cast {H : Heap → Prop} {a b : Int32} {g : JFrame} (q : Go p l e R s m args below meth c n0 (Ret n0 H a) h cells slots g) (hab : a = b) : Go p l e R s m args below meth c n0 (Ret n0 H b) h cells slots g := hab ▸ q
theorem g_retZ {H : Heap → Prop} (C : Cx p s m meth c Z own nm code (some .boolean) maxL) {z r : Int32} (hd : decode code pc = .ok (.ireturn, 1)) (hz : nar .boolean z = r) (hH : H h) (hc : cells ≤ R.cells) (hs : slots ≤ R.slots) : Go p l e R s m args below meth c n0 (Ret n0 H r) h cells slots (mkF m pc Ls (.int z :: st)) := fun T L X eT N => by
  obtain ⟨-, -, -, -, -, hret, hlk, -⟩ := id C
  obtain ⟨fs, hr, hrun, hended, hW, hsame⟩ := X.leave (v := some (.int (nar .boolean z))) (fun q => by rw [hret] at q; cases q) hlk
  exact ⟨_, _, retN X C.1 (t := .boolean) hret (by simp) (hb C.2.1 hd) hr, hrun, hended, _, L, rfl, ⟨by rw [hz], N, by show H T.heap; rw [eT]; exact hH⟩, ⟨_, rfl⟩, hW, hsame.mono hc hs⟩
theorem g_retI {H : Heap → Prop} (C : Cx p s m meth c Z own nm code (some .int) maxL) {z : Int32} (hd : decode code pc = .ok (.ireturn, 1)) (hH : H h) (hc : cells ≤ R.cells) (hs : slots ≤ R.slots) : Go p l e R s m args below meth c n0 (Ret n0 H z) h cells slots (mkF m pc Ls (.int z :: st)) := fun T L X eT N => by
  obtain ⟨-, -, -, -, -, hret, hlk, -⟩ := id C
  obtain ⟨fs, hr, hrun, hended, hW, hsame⟩ := X.leave (v := some (.int z)) (fun q => by rw [hret] at q; cases q) hlk
  exact ⟨_, _, retOut X C.1 hret rfl (Or.inl ⟨rfl, Or.inl rfl, z, rfl⟩) (hb C.2.1 hd) hr, hrun, hended, _, L, rfl, ⟨rfl, N, by show H T.heap; rw [eT]; exact hH⟩, ⟨_, rfl⟩, hW, hsame.mono hc hs⟩
/-- a static call, paid by the callee's contract; the callee makes at most rm.cells cells and rm.slots slots -/
theorem g_callS (C : Cx p s m meth c Z own nm code ret maxL) {i : Nat} {y : MethodName} {bytes : ByteArray} {ml : Nat} {rt : Option FieldType} {rm : Room} {as' : List Value} {Qc : Option Value → Heap → List Loc → Prop} (W : Nat) (w1 : (Jvm.Cond.methodLink own i y).before a0 Z = true) (w2 : (Jvm.Cond.static y).before a0 Z = true) (w3 : (Jvm.Cond.initialized y.cls).before a0 Z = true) (w4 : (Jvm.Cond.code y bytes ml rt).before a0 Z = true)
    (hy : y.cls ≠ "java/lang/invoke/MethodHandle" ∧ y.cls ≠ "java/lang/invoke/VarHandle") (hM : Con l Z y bytes ml rt rm [] as'.toArray h Qc) (hf : rm.frames + 1 ≤ R.frames) (hl : W + (ml + 11) + rm.locals ≤ R.locals) (hrc : cells + rm.cells ≤ R.cells) (hrs : slots + rm.slots ≤ R.slots) {ps : List FieldType} {rr : Option FieldType} (hpd : parseMethodDescriptor y.desc = some ⟨ps, rr⟩) (hlen : as'.length = ps.length)
    (hsz : Ls.size = maxL) {stk : List Value} (hst : stk = as'.reverse ++ st) (hW : (st.map fun v => v.category).sum ≤ W) (hd : decode code pc = .ok (.invokestatic i, 3)) (hp : pc + 3 = pc')
    (q : ∀ v h' L', Qc v h' L' → (Fr n0 L' ∧ Go p l e R s m args below meth c n0 Q h' (cells + rm.cells) (slots + rm.slots) (mkF m pc' Ls (v.toList ++ st)))) : Go p l e R s m args below meth c n0 Q h cells slots (mkF m pc Ls stk) := by
  intro T L X eT N
  subst hp
  obtain ⟨hx, hby, hml, hown, -, hret, hlk, hZ⟩ := id C
  obtain ⟨v, _, ⟨T1, L1, k1, n1⟩, -, X1, ⟨Lc, hQ, l1, y1, z1⟩, st1⟩ := Jvm.LawKit.callS X hx (y := y) hown (mvT hZ w1) (mvT hZ w2) (mvT hZ w3) (mvT hZ w4) hy (backOf (W := W) hM hZ w4 w3 hf hl) (g := mkF m pc Ls stk) rfl (hsz.trans hml.symm) (argsL := as') (rest := st) (lenOf hpd hlen) hst (by show 2 * 0 + _ ≤ _; omega) (hb hby hd) (fun _ _ => ⟨rfl, eT, hrc, hrs⟩)
  dsimp only [Pt.U, Pt.locs, Pt.cells, Pt.slots] at X1 l1 y1 z1 st1 hQ
  subst l1 y1 z1
  obtain ⟨hN, hG⟩ := q v _ Lc hQ
  obtain ⟨t, o, k, r⟩ := hG T1 _ X1 rfl (N.app hN)
  exact ⟨t, o, st1 t k, r⟩
/-- a static call of a method that computes an int and leaves the heap as it was -/
theorem g_callP (C : Cx p s m meth c Z own nm code ret maxL) {i : Nat} {y : MethodName} {bytes : ByteArray} {ml : Nat} {rt : Option FieldType} {rm : Room} {as' : List Value} {z : Int32} (W : Nat) (w1 : (Jvm.Cond.methodLink own i y).before a0 Z = true) (w2 : (Jvm.Cond.static y).before a0 Z = true) (w3 : (Jvm.Cond.initialized y.cls).before a0 Z = true) (w4 : (Jvm.Cond.code y bytes ml rt).before a0 Z = true)
    (hy : y.cls ≠ "java/lang/invoke/MethodHandle" ∧ y.cls ≠ "java/lang/invoke/VarHandle") (hM : Con l Z y bytes ml rt rm [] as'.toArray h (Ret n0 (· = h) z)) (hf : rm.frames + 1 ≤ R.frames) (hl : W + (ml + 11) + rm.locals ≤ R.locals) (hrc : rm.cells = 0) (hrs : rm.slots = 0) (hcl : cells ≤ R.cells) (hsl : slots ≤ R.slots) {ps : List FieldType} {rr : Option FieldType} (hpd : parseMethodDescriptor y.desc = some ⟨ps, rr⟩) (hlen : as'.length = ps.length)
    (hsz : Ls.size = maxL) {stk : List Value} (hst : stk = as'.reverse ++ st) (hW : (st.map fun v => v.category).sum ≤ W) (hd : decode code pc = .ok (.invokestatic i, 3)) (hp : pc + 3 = pc')
    (q : Go p l e R s m args below meth c n0 Q h cells slots (mkF m pc' Ls (.int z :: st))) : Go p l e R s m args below meth c n0 Q h cells slots (mkF m pc Ls stk) := by
  refine g_callS C W w1 w2 w3 w4 hy hM hf hl (by rw [hrc]; exact hcl) (by rw [hrs]; exact hsl) hpd hlen hsz hst hW hd hp ?_
  rintro v h' L' ⟨rfl, hN, rfl⟩
  refine ⟨hN, ?_⟩
  rw [hrc, hrs]
  exact q
end Steps
end Jvm.OwnGo
namespace Jvm.OwnGo
/-- c and b stand alike to every number of B -/
def Same (B : List Int32) (c b : Int32) : Prop := ∀ t ∈ B, (c < t ↔ b < t) ∧ (t < c ↔ t < b) ∧ (c = t ↔ b = t)
theorem own_max (c : Int32) : ∀ (L : List Int32) (b0 : Int32), b0.toInt ≤ c.toInt → ∃ b, (b = b0 ∨ b ∈ L) ∧ b.toInt ≤ c.toInt ∧ b0.toInt ≤ b.toInt ∧ ∀ s ∈ L, s.toInt ≤ c.toInt → s.toInt ≤ b.toInt
  | [], b0, h => ⟨b0, Or.inl rfl, h, Int.le_refl _, fun _ q => nomatch q⟩
  | a :: L, b0, h => by
    by_cases ha : a.toInt ≤ c.toInt ∧ b0.toInt ≤ a.toInt
    · obtain ⟨b, hb, h1, h2, h3⟩ := own_max c L a ha.1
      refine ⟨b, ?_, h1, by omega, ?_⟩
      · rcases hb with rfl | hb
        · exact Or.inr (List.mem_cons_self ..)
        · exact Or.inr (List.mem_cons_of_mem _ hb)
      · intro s hs hc
        rcases List.mem_cons.mp hs with rfl | hs
        · exact h2
        · exact h3 s hs hc
    · obtain ⟨b, hb, h1, h2, h3⟩ := own_max c L b0 h
      refine ⟨b, ?_, h1, h2, ?_⟩
      · rcases hb with rfl | hb
        · exact Or.inl rfl
        · exact Or.inr (List.mem_cons_of_mem _ hb)
      · intro s hs hc
        rcases List.mem_cons.mp hs with rfl | hs
        · omega
        · exact h3 s hs hc
/-- the numbers at which functions that ask only for the place among B are looked at -/
def samples (B : List Int32) : List Int32 := (-2147483648) :: (B ++ B.map (· + 1))
theorem same_some (B : List Int32) (hB : ∀ t ∈ B, (t + 1).toInt = t.toInt + 1) (c : Int32) : ∃ b ∈ samples B, Same B c b := by
  obtain ⟨b, hb, h1, h2, h3⟩ := own_max c (B ++ B.map (· + 1)) (-2147483648) (by have := Int32.le_toInt c; simpa using this)
  refine ⟨b, ?_, fun t ht => ?_⟩
  · rcases hb with rfl | hb
    · exact List.mem_cons_self ..
    · exact List.mem_cons_of_mem _ hb
  · have k1 := h3 t (List.mem_append_left _ ht)
    have k2 := h3 (t + 1) (List.mem_append_right _ (List.mem_map.mpr ⟨t, ht, rfl⟩))
    have k3 := hB t ht
    simp only [Int32.lt_iff_toInt_lt, ← Int32.toInt_inj]
    omega
end Jvm.OwnGo
namespace Jvm.OwnGo
open Sem ClassFile Op Lib Jvm.Stand Jvm.Free Jvm.LawKit Jvm.RoadKit
/-- an int array of n places, an int in each -/
def Ints (Z : State) (h : Heap) (a : Addr) (n : Nat) : Prop := ∃ cl : Cell, Arr Z h a cl .int ∧ cl.slots.size = n ∧ ∀ j, j < n → ∃ v : Int32, cl.slots[j]? = some (.int v)
/-- a place of an array of n places -/
abbrev Inb (j : Int32) (n : Nat) : Prop := ¬ (j < 0 ∨ n ≤ j.toNatClampNeg)
theorem inb_int {j : Int32} {n : Nat} (h1 : 0 ≤ j.toInt) (h2 : j.toInt < n) : Inb j n := by
  simp only [Inb, Int32.lt_iff_toInt_lt, Int32.toNatClampNeg, Int32.reduceToInt]
  omega
/-- (x & 0x7fffffff) % n lies below n -/
theorem inb_rem (x : Int32) {y : Int32} {n : Nat} (hn : 0 < n) (hy : y.toInt = n) : Inb ((x &&& 2147483647) % y) n := by
  have e1 : (x &&& 2147483647).toInt = x.toInt % 2 ^ 31 := Jvm.Kit.i32_mask x 2147483647 (k := 31) (by decide) (by decide)
  have e2 : 0 ≤ (x &&& 2147483647).toInt := by rw [e1]; exact Int.emod_nonneg _ (by decide)
  have e3 := Jvm.Kit.i32_rem_nonneg (x := x &&& 2147483647) (y := y) e2
  have e4 := Int.emod_nonneg (x &&& 2147483647).toInt (b := y.toInt) (by omega)
  have e5 := Int.emod_lt_of_pos (x &&& 2147483647).toInt (b := y.toInt) (by omega)
  exact inb_int (by omega) (by omega)
section Arrays
variable {p : Program} {l : Launch} {e : Env} {R : Room} {s : State} {m : MethodId} {args : Array Value} {below : List Frame} {meth : Method} {c : Code} {n0 : Nat} {Q : Option Value → Heap → List Loc → Prop} {h : Heap} {cells slots : Nat} {Z : State} {own nm : String} {code : ByteArray} {ret : Option FieldType} {maxL : Nat} {pc pc' pc2 : Nat} {Ls Ls' : Array Slot} {st : List Value} {a0 : Array Value}
theorem g_newI (C : Cx p s m meth c Z own nm code ret maxL) (w : (Jvm.Cond.arrayClass .int).before a0 Z = true) {n : Int32} {k : Nat} (hd : decode code pc = .ok (.newarray .int, 2)) (hn : ¬ n < 0) (hk : n.toNatClampNeg = k) (hk8 : k * 8 ≤ 536870912) (hc : cells + 1 ≤ R.cells) (hl : slots + k ≤ R.slots) (hn0 : n0 ≤ h.size) (hp : pc + 2 = pc')
    (q : ∀ h' a, n0 ≤ a → n0 ≤ h'.size → Ints Z h' a k → Go p l e R s m args below meth c n0 Q h' (cells + 1) (slots + k) (mkF m pc' Ls (.ref a :: st))) : Go p l e R s m args below meth c n0 Q h cells slots (mkF m pc Ls (.int n :: st)) := by
  intro T L X eT N
  subst hp
  obtain ⟨hx, hby, hml, hown, -, hret, hlk, hZ⟩ := id C
  obtain ⟨T1, h1, cA, X1, e1, E1, A1, st1⟩ := newP X hx hZ (aty := .int) w eT (g := mkF m pc Ls (.int n :: st)) rfl (hb hby hd) rfl hn (cap := k) (Nat.le_of_eq hk) hk8 hc hl
  obtain ⟨t, o, kk, r⟩ := q h1 h.size hn0 (Nat.le_trans hn0 E1.1) ⟨_, A1, (sz_new _ _ _).trans hk, fun j hj => ⟨0, by
    show (Array.replicate n.toNatClampNeg (defaultValue .int))[j]? = _
    rw [Array.getElem?_replicate, if_pos (by omega)]; rfl⟩⟩ T1 _ X1 e1 N
  exact ⟨t, o, st1 t kk, r⟩
theorem g_stI (C : Cx p s m meth c Z own nm code ret maxL) {a : Addr} {k : Nat} {j x : Int32} (I : Ints Z h a k) (hn0 : n0 ≤ a) (hj : Inb j k) (hd : decode code pc = .ok (.iastore, 1)) (hp : pc + 1 = pc')
    (q : ∀ h', Ints Z h' a k → Go p l e R s m args below meth c n0 Q h' cells slots (mkF m pc' Ls st)) : Go p l e R s m args below meth c n0 Q h cells slots (mkF m pc Ls (.int x :: .int j :: .ref a :: st)) := by
  intro T L X eT N
  subst hp
  obtain ⟨hx, hby, hml, hown, -, hret, hlk, hZ⟩ := id C
  obtain ⟨cl, A, S, V⟩ := I
  subst S
  obtain ⟨T1, h1, X1, e1, W1, st1⟩ := stI X hx hZ eT A (j := j) (x := x) hj (g := mkF m pc Ls (.int x :: .int j :: .ref a :: st)) rfl rfl (hb hby hd)
  obtain ⟨t, o, kk, r⟩ := q h1 ⟨_, A.same W1, sz_set _ _ _, fun i hi => by
    obtain ⟨v, hv⟩ := V i hi
    by_cases hij : j.toNatClampNeg = i
    · exact ⟨x, by subst hij; simp [Cell.setSlot, hi]⟩
    · exact ⟨v, by rw [← hv]; exact Array.getElem?_setIfInBounds_ne hij⟩⟩ T1 _ X1 e1 (Fr.snoc X1 N hn0)
  exact ⟨t, o, st1 t kk, r⟩
theorem g_ldI (C : Cx p s m meth c Z own nm code ret maxL) {a : Addr} {k : Nat} {j : Int32} (I : Ints Z h a k) (hj : Inb j k) (hd : decode code pc = .ok (.iaload, 1)) (hp : pc + 1 = pc')
    (q : ∀ v, Go p l e R s m args below meth c n0 Q h cells slots (mkF m pc' Ls (.int v :: st))) : Go p l e R s m args below meth c n0 Q h cells slots (mkF m pc Ls (.int j :: .ref a :: st)) := by
  intro T L X eT N
  subst hp
  obtain ⟨hx, hby, hml, hown, -, hret, hlk, hZ⟩ := id C
  obtain ⟨cl, A, S, V⟩ := I
  subst S
  obtain ⟨v, hv⟩ := V j.toNatClampNeg (Nat.lt_of_not_le fun y => hj (Or.inr y))
  obtain ⟨t, o, kk, r⟩ := q v T L X eT N
  exact ⟨t, o, X.iaload hx (j := j) (v := .int v) (by rw [eT]; exact A.1) (State.isArrayOf_alike hZ.alike A.2.1) A.2.2 hj hv (g := mkF m pc Ls (.int j :: .ref a :: st)) rfl rfl (hb hby hd) t kk, r⟩
theorem g_len (C : Cx p s m meth c Z own nm code ret maxL) {a : Addr} {k : Nat} (I : Ints Z h a k) (hd : decode code pc = .ok (.arraylength, 1)) (hp : pc + 1 = pc')
    (q : Go p l e R s m args below meth c n0 Q h cells slots (mkF m pc' Ls (.int k.toInt32 :: st))) : Go p l e R s m args below meth c n0 Q h cells slots (mkF m pc Ls (.ref a :: st)) := by
  intro T L X eT N
  subst hp
  obtain ⟨hx, hby, hml, hown, -, hret, hlk, hZ⟩ := id C
  obtain ⟨cl, A, S, V⟩ := I
  subst S
  obtain ⟨t, o, kk, r⟩ := q T L X eT N
  exact ⟨t, o, X.arraylength hx (by rw [eT]; exact A.1) (State.isArrayOf_alike hZ.alike A.2.1) (g := mkF m pc Ls (.ref a :: st)) rfl rfl (hb hby hd) t kk, r⟩
theorem g_iushr (C : Cx p s m meth c Z own nm code ret maxL) {x y : Int32} (hd : decode code pc = .ok (.iushr, 1)) (hp : pc + 1 = pc') (q : Go p l e R s m args below meth c n0 Q h cells slots (mkF m pc' Ls (.int (XT.ushr x y) :: st))) : Go p l e R s m args below meth c n0 Q h cells slots (mkF m pc Ls (.int y :: .int x :: st)) := by
  subst hp
  exact q.step fun T A t r => XT.iushr A C.1 rfl (hb C.2.1 hd) rfl r
end Arrays
end Jvm.OwnGo
namespace Jvm.Pilot.@@N@@
open Jvm Jvm.ClassFile Sem Op Lib Jvm.Free Jvm.Stand Jvm.LawKit Jvm.RoadKit Jvm.OwnGo Bundle Jvm.Pilot.@@N@@.Jvm.D
theorem d1_0 : decode prog_132_method_7_code 0 = .ok (.iload_n 0, 1) := by decide +kernel
theorem d1_1 : decode prog_132_method_7_code 1 = .ok (.bipush 9, 2) := by decide +kernel
theorem d1_3 : decode prog_132_method_7_code 3 = .ok (.if_icmp .eq 51, 3) := by decide +kernel
theorem d1_6 : decode prog_132_method_7_code 6 = .ok (.iload_n 0, 1) := by decide +kernel
theorem d1_7 : decode prog_132_method_7_code 7 = .ok (.bipush 10, 2) := by decide +kernel
theorem d1_9 : decode prog_132_method_7_code 9 = .ok (.if_icmp .eq 45, 3) := by decide +kernel
theorem d1_12 : decode prog_132_method_7_code 12 = .ok (.iload_n 0, 1) := by decide +kernel
theorem d1_13 : decode prog_132_method_7_code 13 = .ok (.bipush 13, 2) := by decide +kernel
theorem d1_15 : decode prog_132_method_7_code 15 = .ok (.if_icmp .eq 39, 3) := by decide +kernel
theorem d1_18 : decode prog_132_method_7_code 18 = .ok (.iload_n 0, 1) := by decide +kernel
theorem d1_19 : decode prog_132_method_7_code 19 = .ok (.bipush 32, 2) := by decide +kernel
theorem d1_21 : decode prog_132_method_7_code 21 = .ok (.if_icmp .lt 9, 3) := by decide +kernel
theorem d1_24 : decode prog_132_method_7_code 24 = .ok (.iload_n 0, 1) := by decide +kernel
theorem d1_25 : decode prog_132_method_7_code 25 = .ok (.ldc 7, 2) := by decide +kernel
theorem d1_27 : decode prog_132_method_7_code 27 = .ok (.if_icmp .le 27, 3) := by decide +kernel
theorem d1_30 : decode prog_132_method_7_code 30 = .ok (.iload_n 0, 1) := by decide +kernel
theorem d1_31 : decode prog_132_method_7_code 31 = .ok (.ldc 50, 2) := by decide +kernel
theorem d1_33 : decode prog_132_method_7_code 33 = .ok (.if_icmp .lt 9, 3) := by decide +kernel
theorem d1_36 : decode prog_132_method_7_code 36 = .ok (.iload_n 0, 1) := by decide +kernel
theorem d1_37 : decode prog_132_method_7_code 37 = .ok (.ldc 11, 2) := by decide +kernel
theorem d1_39 : decode prog_132_method_7_code 39 = .ok (.if_icmp .le 15, 3) := by decide +kernel
theorem d1_42 : decode prog_132_method_7_code 42 = .ok (.iload_n 0, 1) := by decide +kernel
theorem d1_43 : decode prog_132_method_7_code 43 = .ok (.ldc 12, 2) := by decide +kernel
theorem d1_45 : decode prog_132_method_7_code 45 = .ok (.if_icmp .lt 13, 3) := by decide +kernel
theorem d1_48 : decode prog_132_method_7_code 48 = .ok (.iload_n 0, 1) := by decide +kernel
theorem d1_49 : decode prog_132_method_7_code 49 = .ok (.ldc 51, 2) := by decide +kernel
theorem d1_51 : decode prog_132_method_7_code 51 = .ok (.if_icmp .gt 7, 3) := by decide +kernel
theorem d1_54 : decode prog_132_method_7_code 54 = .ok (.iconst 1, 1) := by decide +kernel
theorem d1_55 : decode prog_132_method_7_code 55 = .ok (.goto 4, 3) := by decide +kernel
theorem d1_58 : decode prog_132_method_7_code 58 = .ok (.iconst 0, 1) := by decide +kernel
theorem d1_59 : decode prog_132_method_7_code 59 = .ok (.ireturn, 1) := by decide +kernel
def r1 : Room := { frames := 0, cells := 0, slots := 0, locals := 0 }
theorem pd1 : parseMethodDescriptor "(I)Z" = some ⟨[.int], some .boolean⟩ := by decide +kernel
theorem pn1 : plainName "com/example/violet/violet/model/XmlChars" = true := by first | (simp [plainName, overriddenIn]; done) | decide +kernel
theorem ef1 (m : MethodId) (x0 : Int32) : entryFrame m #[(.int x0)] 1 = mkF m 0 #[.val (.int x0)] [] := by first | (simp [entryFrame, mkF, argsToLocals, Value.category]; done) | rfl
def f1_54 : Int32 := (1 : Int32)
theorem j1_54 {p : Program} {l : Launch} {e : Env} {s : State} {m : MethodId} {args : Array Value} {below : List Frame} {meth : Method} {c : Code} {n0 : Nat} {H : Heap → Prop} {h : Heap} {Z : State} {a0 : Array Value} (hw : ∀ d ∈ tables_1, d.before a0 Z = true) (hH : H h) (C : Cx p s m meth c Z "com/example/violet/violet/model/XmlChars" "isChar" prog_132_method_7_code (some .boolean) 1) (x0 : Int32) : Go p l e r1 s m args below meth c n0 (Ret n0 H (f1_54)) h 0 0 (mkF m 54 #[.val (.int x0)] []) := by
  unfold f1_54
  refine g_iconst C d1_54 (v := (1 : Int32)) (by decide) (pc' := 55) rfl ?_
  refine g_goto C d1_55 (by decide) (pc' := 59) (by decide) ?_
  exact g_retZ C d1_59 (by decide) hH (by decide) (by decide)
def f1_58 : Int32 := (0 : Int32)
theorem j1_58 {p : Program} {l : Launch} {e : Env} {s : State} {m : MethodId} {args : Array Value} {below : List Frame} {meth : Method} {c : Code} {n0 : Nat} {H : Heap → Prop} {h : Heap} {Z : State} {a0 : Array Value} (hw : ∀ d ∈ tables_1, d.before a0 Z = true) (hH : H h) (C : Cx p s m meth c Z "com/example/violet/violet/model/XmlChars" "isChar" prog_132_method_7_code (some .boolean) 1) (x0 : Int32) : Go p l e r1 s m args below meth c n0 (Ret n0 H (f1_58)) h 0 0 (mkF m 58 #[.val (.int x0)] []) := by
  unfold f1_58
  refine g_iconst C d1_58 (v := (0 : Int32)) (by decide) (pc' := 59) rfl ?_
  exact g_retZ C d1_59 (by decide) hH (by decide) (by decide)
def f1_42 (x0 : Int32) : Int32 := (if x0 < (65536 : Int32) then f1_58 else (if (1114111 : Int32) < x0 then f1_58 else f1_54))
theorem j1_42 {p : Program} {l : Launch} {e : Env} {s : State} {m : MethodId} {args : Array Value} {below : List Frame} {meth : Method} {c : Code} {n0 : Nat} {H : Heap → Prop} {h : Heap} {Z : State} {a0 : Array Value} (hw : ∀ d ∈ tables_1, d.before a0 Z = true) (hH : H h) (C : Cx p s m meth c Z "com/example/violet/violet/model/XmlChars" "isChar" prog_132_method_7_code (some .boolean) 1) (x0 : Int32) : Go p l e r1 s m args below meth c n0 (Ret n0 H (f1_42 x0)) h 0 0 (mkF m 42 #[.val (.int x0)] []) := by
  unfold f1_42
  refine g_iloadN C d1_42 rfl (pc' := 43) rfl ?_
  refine g_ldc C (v := (65536 : Int32)) (hw _ (List.mem_of_getElem? (i := 13) rfl)) d1_43 (pc' := 45) rfl ?_
  refine g_icmp C d1_45 (c_lt x0 (65536 : Int32)) (by decide) (pc2 := 58) (by decide) (pc' := 48) rfl (fun hP => Go.pos ?_ hP) (fun hP => Go.neg ?_ hP)
  · exact j1_58 hw hH C x0
  · refine g_iloadN C d1_48 rfl (pc' := 49) rfl ?_
    refine g_ldc C (v := (1114111 : Int32)) (hw _ (List.mem_of_getElem? (i := 24) rfl)) d1_49 (pc' := 51) rfl ?_
    refine g_icmp C d1_51 (c_gt x0 (1114111 : Int32)) (by decide) (pc2 := 58) (by decide) (pc' := 54) rfl (fun hP => Go.pos ?_ hP) (fun hP => Go.neg ?_ hP)
    · exact j1_58 hw hH C x0
    · exact j1_54 hw hH C x0
def f1_30 (x0 : Int32) : Int32 := (if x0 < (57344 : Int32) then f1_42 x0 else (if ¬ (65533 : Int32) < x0 then f1_54 else f1_42 x0))
theorem j1_30 {p : Program} {l : Launch} {e : Env} {s : State} {m : MethodId} {args : Array Value} {below : List Frame} {meth : Method} {c : Code} {n0 : Nat} {H : Heap → Prop} {h : Heap} {Z : State} {a0 : Array Value} (hw : ∀ d ∈ tables_1, d.before a0 Z = true) (hH : H h) (C : Cx p s m meth c Z "com/example/violet/violet/model/XmlChars" "isChar" prog_132_method_7_code (some .boolean) 1) (x0 : Int32) : Go p l e r1 s m args below meth c n0 (Ret n0 H (f1_30 x0)) h 0 0 (mkF m 30 #[.val (.int x0)] []) := by
  unfold f1_30
  refine g_iloadN C d1_30 rfl (pc' := 31) rfl ?_
  refine g_ldc C (v := (57344 : Int32)) (hw _ (List.mem_of_getElem? (i := 12) rfl)) d1_31 (pc' := 33) rfl ?_
  refine g_icmp C d1_33 (c_lt x0 (57344 : Int32)) (by decide) (pc2 := 42) (by decide) (pc' := 36) rfl (fun hP => Go.pos ?_ hP) (fun hP => Go.neg ?_ hP)
  · exact j1_42 hw hH C x0
  · refine g_iloadN C d1_36 rfl (pc' := 37) rfl ?_
    refine g_ldc C (v := (65533 : Int32)) (hw _ (List.mem_of_getElem? (i := 19) rfl)) d1_37 (pc' := 39) rfl ?_
    refine g_icmp C d1_39 (c_le x0 (65533 : Int32)) (by decide) (pc2 := 54) (by decide) (pc' := 42) rfl (fun hP => Go.pos ?_ hP) (fun hP => Go.neg ?_ hP)
    · exact j1_54 hw hH C x0
    · exact j1_42 hw hH C x0
def f1_0 (x0 : Int32) : Int32 := (if x0 = (9 : Int32) then f1_54 else (if x0 = (10 : Int32) then f1_54 else (if x0 = (13 : Int32) then f1_54 else (if x0 < (32 : Int32) then f1_30 x0 else (if ¬ (55295 : Int32) < x0 then f1_54 else f1_30 x0)))))
theorem j1_0 {p : Program} {l : Launch} {e : Env} {s : State} {m : MethodId} {args : Array Value} {below : List Frame} {meth : Method} {c : Code} {n0 : Nat} {H : Heap → Prop} {h : Heap} {Z : State} {a0 : Array Value} (hw : ∀ d ∈ tables_1, d.before a0 Z = true) (hH : H h) (C : Cx p s m meth c Z "com/example/violet/violet/model/XmlChars" "isChar" prog_132_method_7_code (some .boolean) 1) (x0 : Int32) : Go p l e r1 s m args below meth c n0 (Ret n0 H (f1_0 x0)) h 0 0 (mkF m 0 #[.val (.int x0)] []) := by
  unfold f1_0
  refine g_iloadN C d1_0 rfl (pc' := 1) rfl ?_
  refine g_bipush C d1_1 (v := (9 : Int32)) (by decide) (pc' := 3) rfl ?_
  refine g_icmp C d1_3 (c_eq x0 (9 : Int32)) (by decide) (pc2 := 54) (by decide) (pc' := 6) rfl (fun hP => Go.pos ?_ hP) (fun hP => Go.neg ?_ hP)
  · exact j1_54 hw hH C x0
  · refine g_iloadN C d1_6 rfl (pc' := 7) rfl ?_
    refine g_bipush C d1_7 (v := (10 : Int32)) (by decide) (pc' := 9) rfl ?_
    refine g_icmp C d1_9 (c_eq x0 (10 : Int32)) (by decide) (pc2 := 54) (by decide) (pc' := 12) rfl (fun hP => Go.pos ?_ hP) (fun hP => Go.neg ?_ hP)
    · exact j1_54 hw hH C x0
    · refine g_iloadN C d1_12 rfl (pc' := 13) rfl ?_
      refine g_bipush C d1_13 (v := (13 : Int32)) (by decide) (pc' := 15) rfl ?_
      refine g_icmp C d1_15 (c_eq x0 (13 : Int32)) (by decide) (pc2 := 54) (by decide) (pc' := 18) rfl (fun hP => Go.pos ?_ hP) (fun hP => Go.neg ?_ hP)
      · exact j1_54 hw hH C x0
      · refine g_iloadN C d1_18 rfl (pc' := 19) rfl ?_
        refine g_bipush C d1_19 (v := (32 : Int32)) (by decide) (pc' := 21) rfl ?_
        refine g_icmp C d1_21 (c_lt x0 (32 : Int32)) (by decide) (pc2 := 30) (by decide) (pc' := 24) rfl (fun hP => Go.pos ?_ hP) (fun hP => Go.neg ?_ hP)
        · exact j1_30 hw hH C x0
        · refine g_iloadN C d1_24 rfl (pc' := 25) rfl ?_
          refine g_ldc C (v := (55295 : Int32)) (hw _ (List.mem_of_getElem? (i := 18) rfl)) d1_25 (pc' := 27) rfl ?_
          refine g_icmp C d1_27 (c_le x0 (55295 : Int32)) (by decide) (pc2 := 54) (by decide) (pc' := 30) rfl (fun hP => Go.pos ?_ hP) (fun hP => Go.neg ?_ hP)
          · exact j1_54 hw hH C x0
          · exact j1_30 hw hH C x0
theorem rm1 (l : Launch) (Z : State) (a0 : Array Value) (hw : ∀ d ∈ tables_1, d.before a0 Z = true) (ws : List Jvm.Cond) (h : Heap) (n0 : Nat) (x0 : Int32) : Con l Z (⟨"com/example/violet/violet/model/XmlChars", "isChar", "(I)Z"⟩ : MethodName) prog_132_method_7_code 1 (some .boolean) r1 ws #[(.int x0)] h (Ret n0 (· = h) (f1_0 x0)) :=
  con_of n0 pn1 (fun m => ef1 m x0) fun p e s m below meth c C => j1_0 (H := (· = h)) hw rfl C x0
theorem d2_0 : decode method_2_code 0 = .ok (.iload_n 0, 1) := by decide +kernel
theorem d2_1 : decode method_2_code 1 = .ok (.ifCond .ge 5, 3) := by decide +kernel
theorem d2_4 : decode method_2_code 4 = .ok (.iconst 1, 1) := by decide +kernel
theorem d2_5 : decode method_2_code 5 = .ok (.ireturn, 1) := by decide +kernel
theorem d2_6 : decode method_2_code 6 = .ok (.iload_n 0, 1) := by decide +kernel
theorem d2_7 : decode method_2_code 7 = .ok (.bipush 8, 2) := by decide +kernel
theorem d2_9 : decode method_2_code 9 = .ok (.if_icmp .gt 5, 3) := by decide +kernel
theorem d2_12 : decode method_2_code 12 = .ok (.iconst 1, 1) := by decide +kernel
theorem d2_13 : decode method_2_code 13 = .ok (.ireturn, 1) := by decide +kernel
theorem d2_14 : decode method_2_code 14 = .ok (.iload_n 0, 1) := by decide +kernel
theorem d2_15 : decode method_2_code 15 = .ok (.bipush 11, 2) := by decide +kernel
theorem d2_17 : decode method_2_code 17 = .ok (.if_icmp .eq 9, 3) := by decide +kernel
theorem d2_20 : decode method_2_code 20 = .ok (.iload_n 0, 1) := by decide +kernel
theorem d2_21 : decode method_2_code 21 = .ok (.bipush 12, 2) := by decide +kernel
theorem d2_23 : decode method_2_code 23 = .ok (.if_icmp .ne 5, 3) := by decide +kernel
theorem d2_26 : decode method_2_code 26 = .ok (.iconst 1, 1) := by decide +kernel
theorem d2_27 : decode method_2_code 27 = .ok (.ireturn, 1) := by decide +kernel
theorem d2_28 : decode method_2_code 28 = .ok (.iload_n 0, 1) := by decide +kernel
theorem d2_29 : decode method_2_code 29 = .ok (.bipush 14, 2) := by decide +kernel
theorem d2_31 : decode method_2_code 31 = .ok (.if_icmp .lt 11, 3) := by decide +kernel
theorem d2_34 : decode method_2_code 34 = .ok (.iload_n 0, 1) := by decide +kernel
theorem d2_35 : decode method_2_code 35 = .ok (.bipush 31, 2) := by decide +kernel
theorem d2_37 : decode method_2_code 37 = .ok (.if_icmp .gt 5, 3) := by decide +kernel
theorem d2_40 : decode method_2_code 40 = .ok (.iconst 1, 1) := by decide +kernel
theorem d2_41 : decode method_2_code 41 = .ok (.ireturn, 1) := by decide +kernel
theorem d2_42 : decode method_2_code 42 = .ok (.iload_n 0, 1) := by decide +kernel
theorem d2_43 : decode method_2_code 43 = .ok (.ldc 7, 2) := by decide +kernel
theorem d2_45 : decode method_2_code 45 = .ok (.if_icmp .lt 11, 3) := by decide +kernel
theorem d2_48 : decode method_2_code 48 = .ok (.iload_n 0, 1) := by decide +kernel
theorem d2_49 : decode method_2_code 49 = .ok (.ldc 8, 2) := by decide +kernel
theorem d2_51 : decode method_2_code 51 = .ok (.if_icmp .gt 5, 3) := by decide +kernel
theorem d2_54 : decode method_2_code 54 = .ok (.iconst 1, 1) := by decide +kernel
theorem d2_55 : decode method_2_code 55 = .ok (.ireturn, 1) := by decide +kernel
theorem d2_56 : decode method_2_code 56 = .ok (.iload_n 0, 1) := by decide +kernel
theorem d2_57 : decode method_2_code 57 = .ok (.ldc 9, 2) := by decide +kernel
theorem d2_59 : decode method_2_code 59 = .ok (.if_icmp .eq 9, 3) := by decide +kernel
theorem d2_62 : decode method_2_code 62 = .ok (.iload_n 0, 1) := by decide +kernel
theorem d2_63 : decode method_2_code 63 = .ok (.ldc 10, 2) := by decide +kernel
theorem d2_65 : decode method_2_code 65 = .ok (.if_icmp .ne 5, 3) := by decide +kernel
theorem d2_68 : decode method_2_code 68 = .ok (.iconst 1, 1) := by decide +kernel
theorem d2_69 : decode method_2_code 69 = .ok (.ireturn, 1) := by decide +kernel
theorem d2_70 : decode method_2_code 70 = .ok (.iload_n 0, 1) := by decide +kernel
theorem d2_71 : decode method_2_code 71 = .ok (.ldc 11, 2) := by decide +kernel
theorem d2_73 : decode method_2_code 73 = .ok (.if_icmp .le 7, 3) := by decide +kernel
theorem d2_76 : decode method_2_code 76 = .ok (.iconst 1, 1) := by decide +kernel
theorem d2_77 : decode method_2_code 77 = .ok (.goto 4, 3) := by decide +kernel
theorem d2_80 : decode method_2_code 80 = .ok (.iconst 0, 1) := by decide +kernel
theorem d2_81 : decode method_2_code 81 = .ok (.ireturn, 1) := by decide +kernel
def r2 : Room := { frames := 0, cells := 0, slots := 0, locals := 0 }
theorem pd2 : parseMethodDescriptor "(I)Z" = some ⟨[.int], some .boolean⟩ := by decide +kernel
theorem pn2 : plainName "com/example/violet/violet/model/XmlCharsIsCharPinLaw" = true := by first | (simp [plainName, overriddenIn]; done) | decide +kernel
theorem ef2 (m : MethodId) (x0 : Int32) : entryFrame m #[(.int x0)] 1 = mkF m 0 #[.val (.int x0)] [] := by first | (simp [entryFrame, mkF, argsToLocals, Value.category]; done) | rfl
def f2_26 : Int32 := (1 : Int32)
theorem j2_26 {p : Program} {l : Launch} {e : Env} {s : State} {m : MethodId} {args : Array Value} {below : List Frame} {meth : Method} {c : Code} {n0 : Nat} {H : Heap → Prop} {h : Heap} {Z : State} {a0 : Array Value} (hw : ∀ d ∈ tables_1, d.before a0 Z = true) (hH : H h) (C : Cx p s m meth c Z "com/example/violet/violet/model/XmlCharsIsCharPinLaw" "notXmlChar" method_2_code (some .boolean) 1) (x0 : Int32) : Go p l e r2 s m args below meth c n0 (Ret n0 H (f2_26)) h 0 0 (mkF m 26 #[.val (.int x0)] []) := by
  unfold f2_26
  refine g_iconst C d2_26 (v := (1 : Int32)) (by decide) (pc' := 27) rfl ?_
  exact g_retZ C d2_27 (by decide) hH (by decide) (by decide)
def f2_68 : Int32 := (1 : Int32)
theorem j2_68 {p : Program} {l : Launch} {e : Env} {s : State} {m : MethodId} {args : Array Value} {below : List Frame} {meth : Method} {c : Code} {n0 : Nat} {H : Heap → Prop} {h : Heap} {Z : State} {a0 : Array Value} (hw : ∀ d ∈ tables_1, d.before a0 Z = true) (hH : H h) (C : Cx p s m meth c Z "com/example/violet/violet/model/XmlCharsIsCharPinLaw" "notXmlChar" method_2_code (some .boolean) 1) (x0 : Int32) : Go p l e r2 s m args below meth c n0 (Ret n0 H (f2_68)) h 0 0 (mkF m 68 #[.val (.int x0)] []) := by
  unfold f2_68
  refine g_iconst C d2_68 (v := (1 : Int32)) (by decide) (pc' := 69) rfl ?_
  exact g_retZ C d2_69 (by decide) hH (by decide) (by decide)
def f2_56 (x0 : Int32) : Int32 := (if x0 = (65534 : Int32) then f2_68 else (if ¬ x0 = (65535 : Int32) then (if ¬ (1114111 : Int32) < x0 then (0 : Int32) else (1 : Int32)) else f2_68))
theorem j2_56 {p : Program} {l : Launch} {e : Env} {s : State} {m : MethodId} {args : Array Value} {below : List Frame} {meth : Method} {c : Code} {n0 : Nat} {H : Heap → Prop} {h : Heap} {Z : State} {a0 : Array Value} (hw : ∀ d ∈ tables_1, d.before a0 Z = true) (hH : H h) (C : Cx p s m meth c Z "com/example/violet/violet/model/XmlCharsIsCharPinLaw" "notXmlChar" method_2_code (some .boolean) 1) (x0 : Int32) : Go p l e r2 s m args below meth c n0 (Ret n0 H (f2_56 x0)) h 0 0 (mkF m 56 #[.val (.int x0)] []) := by
  unfold f2_56
  refine g_iloadN C d2_56 rfl (pc' := 57) rfl ?_
  refine g_ldc C (v := (65534 : Int32)) (hw _ (List.mem_of_getElem? (i := 22) rfl)) d2_57 (pc' := 59) rfl ?_
  refine g_icmp C d2_59 (c_eq x0 (65534 : Int32)) (by decide) (pc2 := 68) (by decide) (pc' := 62) rfl (fun hP => Go.pos ?_ hP) (fun hP => Go.neg ?_ hP)
  · exact j2_68 hw hH C x0
  · refine g_iloadN C d2_62 rfl (pc' := 63) rfl ?_
    refine g_ldc C (v := (65535 : Int32)) (hw _ (List.mem_of_getElem? (i := 23) rfl)) d2_63 (pc' := 65) rfl ?_
    refine g_icmp C d2_65 (c_ne x0 (65535 : Int32)) (by decide) (pc2 := 70) (by decide) (pc' := 68) rfl (fun hP => Go.pos ?_ hP) (fun hP => Go.neg ?_ hP)
    · refine g_iloadN C d2_70 rfl (pc' := 71) rfl ?_
      refine g_ldc C (v := (1114111 : Int32)) (hw _ (List.mem_of_getElem? (i := 5) rfl)) d2_71 (pc' := 73) rfl ?_
      refine g_icmp C d2_73 (c_le x0 (1114111 : Int32)) (by decide) (pc2 := 80) (by decide) (pc' := 76) rfl (fun hP => Go.pos ?_ hP) (fun hP => Go.neg ?_ hP)
      · refine g_iconst C d2_80 (v := (0 : Int32)) (by decide) (pc' := 81) rfl ?_
        exact g_retZ C d2_81 (by decide) hH (by decide) (by decide)
      · refine g_iconst C d2_76 (v := (1 : Int32)) (by decide) (pc' := 77) rfl ?_
        refine g_goto C d2_77 (by decide) (pc' := 81) (by decide) ?_
        exact g_retZ C d2_81 (by decide) hH (by decide) (by decide)
    · exact j2_68 hw hH C x0
def f2_42 (x0 : Int32) : Int32 := (if x0 < (55296 : Int32) then f2_56 x0 else (if (57343 : Int32) < x0 then f2_56 x0 else (1 : Int32)))
theorem j2_42 {p : Program} {l : Launch} {e : Env} {s : State} {m : MethodId} {args : Array Value} {below : List Frame} {meth : Method} {c : Code} {n0 : Nat} {H : Heap → Prop} {h : Heap} {Z : State} {a0 : Array Value} (hw : ∀ d ∈ tables_1, d.before a0 Z = true) (hH : H h) (C : Cx p s m meth c Z "com/example/violet/violet/model/XmlCharsIsCharPinLaw" "notXmlChar" method_2_code (some .boolean) 1) (x0 : Int32) : Go p l e r2 s m args below meth c n0 (Ret n0 H (f2_42 x0)) h 0 0 (mkF m 42 #[.val (.int x0)] []) := by
  unfold f2_42
  refine g_iloadN C d2_42 rfl (pc' := 43) rfl ?_
  refine g_ldc C (v := (55296 : Int32)) (hw _ (List.mem_of_getElem? (i := 20) rfl)) d2_43 (pc' := 45) rfl ?_
  refine g_icmp C d2_45 (c_lt x0 (55296 : Int32)) (by decide) (pc2 := 56) (by decide) (pc' := 48) rfl (fun hP => Go.pos ?_ hP) (fun hP => Go.neg ?_ hP)
  · exact j2_56 hw hH C x0
  · refine g_iloadN C d2_48 rfl (pc' := 49) rfl ?_
    refine g_ldc C (v := (57343 : Int32)) (hw _ (List.mem_of_getElem? (i := 21) rfl)) d2_49 (pc' := 51) rfl ?_
    refine g_icmp C d2_51 (c_gt x0 (57343 : Int32)) (by decide) (pc2 := 56) (by decide) (pc' := 54) rfl (fun hP => Go.pos ?_ hP) (fun hP => Go.neg ?_ hP)
    · exact j2_56 hw hH C x0
    · refine g_iconst C d2_54 (v := (1 : Int32)) (by decide) (pc' := 55) rfl ?_
      exact g_retZ C d2_55 (by decide) hH (by decide) (by decide)
def f2_0 (x0 : Int32) : Int32 := (if ¬ x0 < (0 : Int32) then (if (8 : Int32) < x0 then (if x0 = (11 : Int32) then f2_26 else (if ¬ x0 = (12 : Int32) then (if x0 < (14 : Int32) then f2_42 x0 else (if (31 : Int32) < x0 then f2_42 x0 else (1 : Int32))) else f2_26)) else (1 : Int32)) else (1 : Int32))
theorem j2_0 {p : Program} {l : Launch} {e : Env} {s : State} {m : MethodId} {args : Array Value} {below : List Frame} {meth : Method} {c : Code} {n0 : Nat} {H : Heap → Prop} {h : Heap} {Z : State} {a0 : Array Value} (hw : ∀ d ∈ tables_1, d.before a0 Z = true) (hH : H h) (C : Cx p s m meth c Z "com/example/violet/violet/model/XmlCharsIsCharPinLaw" "notXmlChar" method_2_code (some .boolean) 1) (x0 : Int32) : Go p l e r2 s m args below meth c n0 (Ret n0 H (f2_0 x0)) h 0 0 (mkF m 0 #[.val (.int x0)] []) := by
  unfold f2_0
  refine g_iloadN C d2_0 rfl (pc' := 1) rfl ?_
  refine g_if C d2_1 (c_ge x0 (0 : Int32)) (by decide) (pc2 := 6) (by decide) (pc' := 4) rfl (fun hP => Go.pos ?_ hP) (fun hP => Go.neg ?_ hP)
  · refine g_iloadN C d2_6 rfl (pc' := 7) rfl ?_
    refine g_bipush C d2_7 (v := (8 : Int32)) (by decide) (pc' := 9) rfl ?_
    refine g_icmp C d2_9 (c_gt x0 (8 : Int32)) (by decide) (pc2 := 14) (by decide) (pc' := 12) rfl (fun hP => Go.pos ?_ hP) (fun hP => Go.neg ?_ hP)
    · refine g_iloadN C d2_14 rfl (pc' := 15) rfl ?_
      refine g_bipush C d2_15 (v := (11 : Int32)) (by decide) (pc' := 17) rfl ?_
      refine g_icmp C d2_17 (c_eq x0 (11 : Int32)) (by decide) (pc2 := 26) (by decide) (pc' := 20) rfl (fun hP => Go.pos ?_ hP) (fun hP => Go.neg ?_ hP)
      · exact j2_26 hw hH C x0
      · refine g_iloadN C d2_20 rfl (pc' := 21) rfl ?_
        refine g_bipush C d2_21 (v := (12 : Int32)) (by decide) (pc' := 23) rfl ?_
        refine g_icmp C d2_23 (c_ne x0 (12 : Int32)) (by decide) (pc2 := 28) (by decide) (pc' := 26) rfl (fun hP => Go.pos ?_ hP) (fun hP => Go.neg ?_ hP)
        · refine g_iloadN C d2_28 rfl (pc' := 29) rfl ?_
          refine g_bipush C d2_29 (v := (14 : Int32)) (by decide) (pc' := 31) rfl ?_
          refine g_icmp C d2_31 (c_lt x0 (14 : Int32)) (by decide) (pc2 := 42) (by decide) (pc' := 34) rfl (fun hP => Go.pos ?_ hP) (fun hP => Go.neg ?_ hP)
          · exact j2_42 hw hH C x0
          · refine g_iloadN C d2_34 rfl (pc' := 35) rfl ?_
            refine g_bipush C d2_35 (v := (31 : Int32)) (by decide) (pc' := 37) rfl ?_
            refine g_icmp C d2_37 (c_gt x0 (31 : Int32)) (by decide) (pc2 := 42) (by decide) (pc' := 40) rfl (fun hP => Go.pos ?_ hP) (fun hP => Go.neg ?_ hP)
            · exact j2_42 hw hH C x0
            · refine g_iconst C d2_40 (v := (1 : Int32)) (by decide) (pc' := 41) rfl ?_
              exact g_retZ C d2_41 (by decide) hH (by decide) (by decide)
        · exact j2_26 hw hH C x0
    · refine g_iconst C d2_12 (v := (1 : Int32)) (by decide) (pc' := 13) rfl ?_
      exact g_retZ C d2_13 (by decide) hH (by decide) (by decide)
  · refine g_iconst C d2_4 (v := (1 : Int32)) (by decide) (pc' := 5) rfl ?_
    exact g_retZ C d2_5 (by decide) hH (by decide) (by decide)
theorem rm2 (l : Launch) (Z : State) (a0 : Array Value) (hw : ∀ d ∈ tables_1, d.before a0 Z = true) (ws : List Jvm.Cond) (h : Heap) (n0 : Nat) (x0 : Int32) : Con l Z (⟨"com/example/violet/violet/model/XmlCharsIsCharPinLaw", "notXmlChar", "(I)Z"⟩ : MethodName) method_2_code 1 (some .boolean) r2 ws #[(.int x0)] h (Ret n0 (· = h) (f2_0 x0)) :=
  con_of n0 pn2 (fun m => ef2 m x0) fun p e s m below meth c C => j2_0 (H := (· = h)) hw rfl C x0
def own_B : List Int32 := [0, 1, 8, 9, 10, 11, 12, 13, 14, 31, 32, 55295, 55296, 57343, 57344, 65533, 65534, 65535, 65536, 1114111]
theorem own_B1 : ∀ t ∈ own_B, (t + 1).toInt = t.toInt + 1 := by decide +kernel
theorem fc1_42 {c b : Int32} (S : Same own_B c b) : f1_42 c = f1_42 b := by
  have t18 := S _ (List.mem_of_getElem? (i := 18) rfl)
  have t19 := S _ (List.mem_of_getElem? (i := 19) rfl)
  simp only [f1_42, t18.1, t18.2.1, t18.2.2, t19.1, t19.2.1, t19.2.2]
theorem fc1_30 {c b : Int32} (S : Same own_B c b) : f1_30 c = f1_30 b := by
  have t14 := S _ (List.mem_of_getElem? (i := 14) rfl)
  have t15 := S _ (List.mem_of_getElem? (i := 15) rfl)
  simp only [f1_30, t14.1, t14.2.1, t14.2.2, t15.1, t15.2.1, t15.2.2, fc1_42 S]
theorem fc1_0 {c b : Int32} (S : Same own_B c b) : f1_0 c = f1_0 b := by
  have t3 := S _ (List.mem_of_getElem? (i := 3) rfl)
  have t4 := S _ (List.mem_of_getElem? (i := 4) rfl)
  have t7 := S _ (List.mem_of_getElem? (i := 7) rfl)
  have t10 := S _ (List.mem_of_getElem? (i := 10) rfl)
  have t11 := S _ (List.mem_of_getElem? (i := 11) rfl)
  simp only [f1_0, t3.1, t3.2.1, t3.2.2, t4.1, t4.2.1, t4.2.2, t7.1, t7.2.1, t7.2.2, t10.1, t10.2.1, t10.2.2, t11.1, t11.2.1, t11.2.2, fc1_30 S]
theorem fc2_56 {c b : Int32} (S : Same own_B c b) : f2_56 c = f2_56 b := by
  have t0 := S _ (List.mem_of_getElem? (i := 0) rfl)
  have t1 := S _ (List.mem_of_getElem? (i := 1) rfl)
  have t16 := S _ (List.mem_of_getElem? (i := 16) rfl)
  have t17 := S _ (List.mem_of_getElem? (i := 17) rfl)
  have t19 := S _ (List.mem_of_getElem? (i := 19) rfl)
  simp only [f2_56, t0.1, t0.2.1, t0.2.2, t1.1, t1.2.1, t1.2.2, t16.1, t16.2.1, t16.2.2, t17.1, t17.2.1, t17.2.2, t19.1, t19.2.1, t19.2.2]
theorem fc2_42 {c b : Int32} (S : Same own_B c b) : f2_42 c = f2_42 b := by
  have t1 := S _ (List.mem_of_getElem? (i := 1) rfl)
  have t12 := S _ (List.mem_of_getElem? (i := 12) rfl)
  have t13 := S _ (List.mem_of_getElem? (i := 13) rfl)
  simp only [f2_42, t1.1, t1.2.1, t1.2.2, t12.1, t12.2.1, t12.2.2, t13.1, t13.2.1, t13.2.2, fc2_56 S]
theorem fc2_0 {c b : Int32} (S : Same own_B c b) : f2_0 c = f2_0 b := by
  have t0 := S _ (List.mem_of_getElem? (i := 0) rfl)
  have t1 := S _ (List.mem_of_getElem? (i := 1) rfl)
  have t2 := S _ (List.mem_of_getElem? (i := 2) rfl)
  have t5 := S _ (List.mem_of_getElem? (i := 5) rfl)
  have t6 := S _ (List.mem_of_getElem? (i := 6) rfl)
  have t8 := S _ (List.mem_of_getElem? (i := 8) rfl)
  have t9 := S _ (List.mem_of_getElem? (i := 9) rfl)
  simp only [f2_0, t0.1, t0.2.1, t0.2.2, t1.1, t1.2.1, t1.2.2, t2.1, t2.2.1, t2.2.2, t5.1, t5.2.1, t5.2.2, t6.1, t6.2.1, t6.2.2, t8.1, t8.2.1, t8.2.2, t9.1, t9.2.1, t9.2.2, fc2_42 S]
set_option maxRecDepth 65536 in
theorem own_chk : ∀ c ∈ samples own_B, f1_0 c = (if f2_0 c = 0 then 1 else 0) := by decide +kernel
theorem own_law (c : Int32) : f1_0 c = (if f2_0 c = 0 then 1 else 0) := by
  obtain ⟨b, hb, S⟩ := same_some own_B own_B1 c
  rw [fc1_0 S, fc2_0 S]
  exact own_chk b hb
theorem pn0 : plainName "com/example/violet/violet/model/XmlCharsIsCharPinLaw" = true := by first | (simp [plainName, overriddenIn]; done) | decide +kernel
theorem ef0 (m : MethodId) (x0 x1 : Int32) : entryFrame m #[(.int x0), (.int x1)] maxLocals = mkF m 0 #[.val (.int x0), .val (.int x1), .unset, .unset, .unset, .unset] [] := by first | (simp [entryFrame, mkF, argsToLocals, Value.category, maxLocals]; done) | rfl
def f0_124 (y0 y1 : Int32) : Int32 := (if ¬ y1 = y0 then (0 : Int32) else (1 : Int32))
theorem j0_124 {p : Program} {l : Launch} {e : Env} {s : State} {m : MethodId} {args : Array Value} {below : List Frame} {meth : Method} {c : Code} {n0 : Nat} {H : Heap → Prop} {h : Heap} {Z : State} {a0 : Array Value} (hw : ∀ d ∈ tables_1, d.before a0 Z = true) (hH : H h) (C : Cx p s m meth c Z "com/example/violet/violet/model/XmlCharsIsCharPinLaw" "law" code (some .boolean) 6) (x0 : Int32) (x1 : Int32) (a2 : Addr) (x3 : Int32) (s4 : Slot) (s5 : Slot) (y0 : Int32) (y1 : Int32) : Go p l e room_1 s m args below meth c n0 (Ret n0 H (f0_124 y0 y1)) h 1 12 (mkF m 124 #[.val (.int x0), .val (.int x1), .val (.ref a2), .val (.int x3), s4, s5] [(.int y0), (.int y1)]) := by
  unfold f0_124
  refine g_icmp C at_124 (c_ne y1 y0) (by decide) (pc2 := 131) (by decide) (pc' := 127) rfl (fun hP => Go.pos ?_ hP) (fun hP => Go.neg ?_ hP)
  · refine g_iconst C at_131 (v := (0 : Int32)) (by decide) (pc' := 132) rfl ?_
    exact g_retZ C at_132 (by decide) hH (by decide) (by decide)
  · refine g_iconst C at_127 (v := (1 : Int32)) (by decide) (pc' := 128) rfl ?_
    refine g_goto C at_128 (by decide) (pc' := 132) (by decide) ?_
    exact g_retZ C at_132 (by decide) hH (by decide) (by decide)
def f0_108 (x0 x1 x3 : Int32) : Int32 := (if ¬ (f2_0 x3) = (0 : Int32) then f0_124 (0 : Int32) (f1_0 x3) else f0_124 (1 : Int32) (f1_0 x3))
theorem j0_108 {p : Program} {l : Launch} {e : Env} {s : State} {m : MethodId} {args : Array Value} {below : List Frame} {meth : Method} {c : Code} {n0 : Nat} {H : Heap → Prop} {h : Heap} {Z : State} {a0 : Array Value} (hw : ∀ d ∈ tables_1, d.before a0 Z = true) (hH : H h) (C : Cx p s m meth c Z "com/example/violet/violet/model/XmlCharsIsCharPinLaw" "law" code (some .boolean) 6) (x0 : Int32) (x1 : Int32) (a2 : Addr) (x3 : Int32) (s4 : Slot) (s5 : Slot) : Go p l e room_1 s m args below meth c n0 (Ret n0 H (f0_108 x0 x1 x3)) h 1 12 (mkF m 108 #[.val (.int x0), .val (.int x1), .val (.ref a2), .val (.int x3), s4, s5] []) := by
  unfold f0_108
  refine g_iloadN C at_108 rfl (pc' := 109) rfl ?_
  refine g_callP C 0 (hw _ (List.mem_of_getElem? (i := 8) rfl)) (hw _ (List.mem_of_getElem? (i := 9) rfl)) (hw _ (List.mem_of_getElem? (i := 10) rfl)) (hw _ (List.mem_of_getElem? (i := 11) rfl)) (by decide) (rm1 l Z a0 hw [] h n0 x3) (by decide) (by decide) rfl rfl (by decide) (by decide) pd1 rfl rfl (st := []) rfl (Nat.le_of_eq rfl) at_109 (pc' := 112) rfl ?_
  refine g_iloadN C at_112 rfl (pc' := 113) rfl ?_
  refine g_callP C 1 (hw _ (List.mem_of_getElem? (i := 14) rfl)) (hw _ (List.mem_of_getElem? (i := 15) rfl)) (hw _ (List.mem_of_getElem? (i := 16) rfl)) (hw _ (List.mem_of_getElem? (i := 17) rfl)) (by decide) (rm2 l Z a0 hw [] h n0 x3) (by decide) (by decide) rfl rfl (by decide) (by decide) pd2 rfl rfl (st := [(.int (f1_0 x3))]) rfl (Nat.le_of_eq rfl) at_113 (pc' := 116) rfl ?_
  refine g_if C at_116 (c_ne (f2_0 x3) (0 : Int32)) (by decide) (pc2 := 123) (by decide) (pc' := 119) rfl (fun hP => Go.pos ?_ hP) (fun hP => Go.neg ?_ hP)
  · refine g_iconst C at_123 (v := (0 : Int32)) (by decide) (pc' := 124) rfl ?_
    exact j0_124 hw hH C x0 x1 a2 x3 (s4) (s5) (0 : Int32) (f1_0 x3)
  · refine g_iconst C at_119 (v := (1 : Int32)) (by decide) (pc' := 120) rfl ?_
    refine g_goto C at_120 (by decide) (pc' := 124) (by decide) ?_
    exact j0_124 hw hH C x0 x1 a2 x3 (s4) (s5) (1 : Int32) (f1_0 x3)
theorem own_one (x0 x1 x3 : Int32) : f0_108 x0 x1 x3 = 1 := by
  simp only [f0_124, f0_108, own_law]
  by_cases q1 : f2_0 x3 = 0 <;> simp [q1]
theorem j0_A {p : Program} {l : Launch} {e : Env} {s : State} {m : MethodId} {args : Array Value} {below : List Frame} {meth : Method} {c : Code} {n0 : Nat} {h : Heap} {Z : State} {a0 : Array Value} (hw : ∀ d ∈ tables_1, d.before a0 Z = true) (hn0 : n0 ≤ h.size) (C : Cx p s m meth c Z "com/example/violet/violet/model/XmlCharsIsCharPinLaw" "law" code (some .boolean) 6) (x0 x1 : Int32) : Go p l e room_1 s m args below meth c n0 (Ret n0 (fun _ => True) 1) h 0 0 (mkF m 0 #[.val (.int x0), .val (.int x1), .unset, .unset, .unset, .unset] []) := by
  refine g_bipush C at_0 (v := (12 : Int32)) (by decide) (pc' := 2) rfl ?_
  refine g_newI C (hw _ (List.mem_of_getElem? (i := 0) rfl)) (k := 12) at_2 (by decide) (by decide) (by decide) (by decide) (by decide) hn0 (pc' := 4) rfl fun h1 a g1 _ I1 => ?_
  refine g_dup C at_4 rfl (pc' := 5) rfl ?_
  refine g_iconst C at_5 (v := (0 : Int32)) (by decide) (pc' := 6) rfl ?_
  refine g_bipush C at_6 (v := (9 : Int32)) (by decide) (pc' := 8) rfl ?_
  refine g_stI C I1 g1 (by decide) at_8 (pc' := 9) rfl fun h2 I2 => ?_
  refine g_dup C at_9 rfl (pc' := 10) rfl ?_
  refine g_iconst C at_10 (v := (1 : Int32)) (by decide) (pc' := 11) rfl ?_
  refine g_bipush C at_11 (v := (10 : Int32)) (by decide) (pc' := 13) rfl ?_
  refine g_stI C I2 g1 (by decide) at_13 (pc' := 14) rfl fun h3 I3 => ?_
  refine g_dup C at_14 rfl (pc' := 15) rfl ?_
  refine g_iconst C at_15 (v := (2 : Int32)) (by decide) (pc' := 16) rfl ?_
  refine g_bipush C at_16 (v := (13 : Int32)) (by decide) (pc' := 18) rfl ?_
  refine g_stI C I3 g1 (by decide) at_18 (pc' := 19) rfl fun h4 I4 => ?_
  refine g_dup C at_19 rfl (pc' := 20) rfl ?_
  refine g_iconst C at_20 (v := (3 : Int32)) (by decide) (pc' := 21) rfl ?_
  refine g_bipush C at_21 (v := (32 : Int32)) (by decide) (pc' := 23) rfl ?_
  refine g_stI C I4 g1 (by decide) at_23 (pc' := 24) rfl fun h5 I5 => ?_
  refine g_dup C at_24 rfl (pc' := 25) rfl ?_
  refine g_iconst C at_25 (v := (4 : Int32)) (by decide) (pc' := 26) rfl ?_
  refine g_ldc C (v := (55295 : Int32)) (hw _ (List.mem_of_getElem? (i := 1) rfl)) at_26 (pc' := 28) rfl ?_
  refine g_stI C I5 g1 (by decide) at_28 (pc' := 29) rfl fun h6 I6 => ?_
  refine g_dup C at_29 rfl (pc' := 30) rfl ?_
  refine g_iconst C at_30 (v := (5 : Int32)) (by decide) (pc' := 31) rfl ?_
  refine g_ldc C (v := (57344 : Int32)) (hw _ (List.mem_of_getElem? (i := 2) rfl)) at_31 (pc' := 33) rfl ?_
  refine g_stI C I6 g1 (by decide) at_33 (pc' := 34) rfl fun h7 I7 => ?_
  refine g_dup C at_34 rfl (pc' := 35) rfl ?_
  refine g_bipush C at_35 (v := (6 : Int32)) (by decide) (pc' := 37) rfl ?_
  refine g_ldc C (v := (65533 : Int32)) (hw _ (List.mem_of_getElem? (i := 3) rfl)) at_37 (pc' := 39) rfl ?_
  refine g_stI C I7 g1 (by decide) at_39 (pc' := 40) rfl fun h8 I8 => ?_
  refine g_dup C at_40 rfl (pc' := 41) rfl ?_
  refine g_bipush C at_41 (v := (7 : Int32)) (by decide) (pc' := 43) rfl ?_
  refine g_ldc C (v := (65536 : Int32)) (hw _ (List.mem_of_getElem? (i := 4) rfl)) at_43 (pc' := 45) rfl ?_
  refine g_stI C I8 g1 (by decide) at_45 (pc' := 46) rfl fun h9 I9 => ?_
  refine g_dup C at_46 rfl (pc' := 47) rfl ?_
  refine g_bipush C at_47 (v := (8 : Int32)) (by decide) (pc' := 49) rfl ?_
  refine g_ldc C (v := (1114111 : Int32)) (hw _ (List.mem_of_getElem? (i := 5) rfl)) at_49 (pc' := 51) rfl ?_
  refine g_stI C I9 g1 (by decide) at_51 (pc' := 52) rfl fun h10 I10 => ?_
  refine g_dup C at_52 rfl (pc' := 53) rfl ?_
  refine g_bipush C at_53 (v := (9 : Int32)) (by decide) (pc' := 55) rfl ?_
  refine g_iconst C at_55 (v := (0 : Int32)) (by decide) (pc' := 56) rfl ?_
  refine g_stI C I10 g1 (by decide) at_56 (pc' := 57) rfl fun h11 I11 => ?_
  refine g_dup C at_57 rfl (pc' := 58) rfl ?_
  refine g_bipush C at_58 (v := (10 : Int32)) (by decide) (pc' := 60) rfl ?_
  refine g_ldc C (v := ((-2147483648) : Int32)) (hw _ (List.mem_of_getElem? (i := 6) rfl)) at_60 (pc' := 62) rfl ?_
  refine g_stI C I11 g1 (by decide) at_62 (pc' := 63) rfl fun h12 I12 => ?_
  refine g_dup C at_63 rfl (pc' := 64) rfl ?_
  refine g_bipush C at_64 (v := (11 : Int32)) (by decide) (pc' := 66) rfl ?_
  refine g_ldc C (v := (2147483647 : Int32)) (hw _ (List.mem_of_getElem? (i := 7) rfl)) at_66 (pc' := 68) rfl ?_
  refine g_stI C I12 g1 (by decide) at_68 (pc' := 69) rfl fun h13 I13 => ?_
  refine g_astoreN C at_69 rfl (Ls' := #[.val (.int x0), .val (.int x1), .val (.ref a), .unset, .unset, .unset]) rfl (pc' := 70) rfl ?_
  refine g_iloadN C at_70 rfl (pc' := 71) rfl ?_
  refine g_iconst C at_71 (v := (1 : Int32)) (by decide) (pc' := 72) rfl ?_
  refine g_iand C at_72 (pc' := 73) rfl ?_
  refine g_if C at_73 (c_ne (x1 &&& (1 : Int32)) (0 : Int32)) (by decide) (pc2 := 81) (by decide) (pc' := 76) rfl (fun hP => ?_) (fun hP => ?_)
  · refine g_iloadN C at_81 rfl (pc' := 82) rfl ?_
    refine g_iconst C at_82 (v := (1 : Int32)) (by decide) (pc' := 83) rfl ?_
    refine g_iushr C at_83 (pc' := 84) rfl ?_
    refine g_ldc C (v := (2147483647 : Int32)) (hw _ (List.mem_of_getElem? (i := 7) rfl)) at_84 (pc' := 86) rfl ?_
    refine g_iand C at_86 (pc' := 87) rfl ?_
    refine g_aloadN C at_87 rfl rfl (pc' := 88) rfl ?_
    refine g_len C I13 at_88 (pc' := 89) rfl ?_
    refine g_irem C at_89 (by decide) (pc' := 90) rfl ?_
    refine g_istore C at_90 (Ls' := #[.val (.int x0), .val (.int x1), .val (.ref a), .unset, .val (.int (((XT.ushr x1 (1 : Int32)) &&& (2147483647 : Int32)) % (12 : Int32))), .unset]) rfl (pc' := 92) rfl ?_
    refine g_iloadN C at_92 rfl (pc' := 93) rfl ?_
    refine g_bipush C at_93 (v := (7 : Int32)) (by decide) (pc' := 95) rfl ?_
    refine g_iand C at_95 (pc' := 96) rfl ?_
    refine g_iconst C at_96 (v := (3 : Int32)) (by decide) (pc' := 97) rfl ?_
    refine g_isub C at_97 (pc' := 98) rfl ?_
    refine g_istore C at_98 (Ls' := #[.val (.int x0), .val (.int x1), .val (.ref a), .unset, .val (.int (((XT.ushr x1 (1 : Int32)) &&& (2147483647 : Int32)) % (12 : Int32))), .val (.int ((x0 &&& (7 : Int32)) - (3 : Int32)))]) rfl (pc' := 100) rfl ?_
    refine g_aloadN C at_100 rfl rfl (pc' := 101) rfl ?_
    refine g_iload C at_101 rfl (pc' := 103) rfl ?_
    refine g_ldI C I13 (inb_rem (XT.ushr x1 (1 : Int32)) (by decide) (by decide)) at_103 (pc' := 104) rfl fun v => ?_
    refine g_iload C at_104 rfl (pc' := 106) rfl ?_
    refine g_iadd C at_106 (pc' := 107) rfl ?_
    refine g_istoreN C at_107 (Ls' := #[.val (.int x0), .val (.int x1), .val (.ref a), .val (.int (v + ((x0 &&& (7 : Int32)) - (3 : Int32)))), .val (.int (((XT.ushr x1 (1 : Int32)) &&& (2147483647 : Int32)) % (12 : Int32))), .val (.int ((x0 &&& (7 : Int32)) - (3 : Int32)))]) rfl (pc' := 108) rfl ?_
    exact Go.cast (j0_108 hw trivial C x0 x1 a (v + ((x0 &&& (7 : Int32)) - (3 : Int32))) (.val (.int (((XT.ushr x1 (1 : Int32)) &&& (2147483647 : Int32)) % (12 : Int32)))) (.val (.int ((x0 &&& (7 : Int32)) - (3 : Int32))))) (own_one _ _ _)
  · refine g_iloadN C at_76 rfl (pc' := 77) rfl ?_
    refine g_istoreN C at_77 (Ls' := #[.val (.int x0), .val (.int x1), .val (.ref a), .val (.int x0), .unset, .unset]) rfl (pc' := 78) rfl ?_
    refine g_goto C at_78 (by decide) (pc' := 108) (by decide) ?_
    exact Go.cast (j0_108 hw trivial C x0 x1 a x0 (.unset) (.unset)) (own_one _ _ _)
theorem rm_law (l : Launch) (Z : State) (a0 : Array Value) (hw : ∀ d ∈ tables_1, d.before a0 Z = true) (ws : List Jvm.Cond) (h : Heap) (n0 : Nat) (hn0 : n0 ≤ h.size) (x0 x1 : Int32) : Con l Z x code maxLocals ret room_1 ws #[(.int x0), (.int x1)] h (Ret n0 (fun _ => True) 1) :=
  con_of n0 pn0 (fun m => ef0 m x0 x1) fun p e s m below meth c C => j0_A hw hn0 C x0 x1
set_option maxRecDepth 65536 in
set_option maxHeartbeats 4000000 in
theorem comes_1 {Post : Tables → Env → Array Value → State → Outcome → State → Prop} (hpost : ∀ tb e args s v u, (limb_1_1.after args s (.returned v) u = true ∧ limb_1_2.after args s (.returned v) u = true ∧ True) → FrameEnd s (.returned v) u (Jvm.fieldLocs frame_1_writes args s ++ Jvm.arrayLocs frame_1_arrays args s ++ Jvm.staticLocs frame_1_statics s) 16 128 → Post tb e args s (.returned v) u) :
    ArmFor flags0 classFile x code maxLocals ret World_1 tables_1 room_1 Calls_1 rest_1 Pre_1 Post := by
  intro l hfl _ _ p e ha hc hk s m args below hf hA hF happ hP
  obtain ⟨hcalls, hrest, hpre⟩ := hP
  obtain ⟨-, -, -, hnamed, -, -, -, hat⟩ := (Spec.applies_iff hf).mp happ
  obtain ⟨hg, hn⟩ := and_e (Cond.before_iff.mp (show (Jvm.Cond.and given_1 narrow_1).before args s = true from hpre))
  obtain ⟨hcount, g0⟩ := and_e hg
  obtain ⟨k0, g1⟩ := and_e g0
  obtain ⟨w0, w1, rfl⟩ : ∃ w0 w1 : Value, args = #[w0, w1] := by
    have hs : args.size = 2 := by simpa [Cond.value, given_1] using hcount
    obtain ⟨L⟩ := args
    match L, hs with
    | [w0, w1], _ => exact ⟨w0, w1, rfl⟩
  have hw := fun d (hd : d ∈ tables_1) => atoms_spec (ws := Jvm.Cond.code x code maxLocals ret :: tables_1) hat d (List.mem_cons_of_mem _ hd)
  obtain ⟨i0, e0⟩ := is_v k0
  obtain rfl : w0 = (.int i0) := Option.some.inj e0
  obtain ⟨i1, e1⟩ := is_v g1
  obtain rfl : w1 = (.int i1) := Option.some.inj e1
  obtain ⟨n, o, h1, h2, h3, _, L, rfl, ⟨rfl, N, -⟩, hq⟩ := rm_law l s _ hw tables_1 s.heap s.heap.size (Nat.le_refl _) i0 i1 p e ha hc hk s m _ below hf ((Spec.applies_iff_loose hf).mp happ).1 ⟨rfl, State.Warmed39.refl s, rfl⟩ trivial
  refine ⟨n, _, h1, h2, h3, hpost _ _ _ _ _ _ ⟨Cond.after_iff.mpr rfl, Cond.after_iff.mpr (eq_i res_at (Term.int_eval (1)) rfl), trivial⟩ ⟨hq.1, hq.2.1, (hq.2.2.sift fun y hy => Or.inr (N y hy)).mono (by decide) (by decide)⟩⟩
theorem main_1_1 : Claimed_1_1 := comes_1 fun _ _ _ _ _ _ h hF => ⟨h.1, hF⟩
theorem main_1_2 : Claimed_1_2 := comes_1 fun _ _ _ _ _ _ h hF => ⟨h.2.1, hF⟩
end Jvm.Pilot.@@N@@
namespace Jvm.Pilot.@@N@@
open Jvm Jvm.ClassFile Sem Op Lib Jvm.Free Jvm.Stand Jvm.Pilot.@@N@@.Jvm.D
/-! MADE BY PROGRAM (witnessworld.py) out of the Statement's table words and the real class files: 9 classes; the members and pool entries that the words name. The judged class is class 1, her method 2. -/
namespace start1
open Jvm.ClassFile
def u (s : String) : CpInfo := .utf8 (stringToUtf16 s)
/-- a pool by its gaps: so many unusable entries, then the entry; so many at the end -/
def gap : Nat → List CpInfo → List CpInfo
  | 0, r => r
  | n + 1, r => .unusable :: gap n r
def poolList (es : List (Nat × CpInfo)) (last : Nat) : List CpInfo := es.foldr (fun e r => gap e.1 (e.2 :: r)) (gap last [])
def pool (es : List (Nat × CpInfo)) (last : Nat) : Array CpInfo := ⟨poolList es last⟩
def fileOf (pool : Array CpInfo) (this : Nat) (attrs : Array Attribute := #[]) (ms : Array MethodInfo := #[]) (fl : Nat := 33) (sup : Nat := 0) (ifs : Array Nat := #[]) (fds : Array FieldInfo := #[]) : ClassFile where
  minorVersion := 0
  majorVersion := 65
  constantPool := pool
  accessFlags := fl
  thisClass := this
  superClass := sup
  interfaces := ifs
  fields := fds
  methods := ms
  attributes := attrs
def plain (name : String) (sup : Option ClassId) : Class where
  name := name
  kind := .ordinary
  loader := none
  accessFlags := 33
  super := sup
  interfaces := #[]
  cf := none
  fields := #[]
  methods := #[]
  instanceTypes := #[]
  staticTypes := #[]
  resolved := #[]
  callSites := []
  init := .initialized
  statics := none
  mirror := none

def pool0 : Array CpInfo := pool [(5, u "<init>"), (0, u "()V"), (1, .class_ 10), (1, u "java/lang/Object")] 113

def k0m0 : Method := { name := "<init>", desc := "()V", sig := { parameters := [], returnType := none }, accessFlags := 1, code := none }
/-- java/lang/Object -/
def k0 : Class := { plain "java/lang/Object" none with
  accessFlags := 33
  interfaces := #[]
  cf := some (fileOf pool0 8 #[] #[{ accessFlags := 1, nameIndex := 5, descriptorIndex := 6, attributes := #[] }] 33 0 #[] #[])
  fields := #[]
  methods := #[k0m0]
  instanceTypes := #[]
  staticTypes := #[]
  resolved := Array.replicate 124 none
  statics := none }

def pool1 : Array CpInfo := pool [(2, .class_ 4), (1, u "java/lang/Object"), (0, u "<init>"), (0, u "()V"), (0, .integer 55296), (0, .integer 57343), (0, .integer 65534), (0, .integer 65535), (0, .integer 1114111), (0, .integer 55295), (0, .integer 57344), (0, .integer 65533), (0, .integer 65536), (2, .integer 2147483648), (0, .integer 2147483647), (0, .methodref 21 22), (0, .class_ 23), (0, .nameAndType 24 25), (0, u "com/example/violet/violet/model/XmlChars"), (0, u "isChar"), (0, u "(I)Z"), (0, .methodref 27 28), (0, .class_ 29), (0, .nameAndType 30 25), (0, u "com/example/violet/violet/model/XmlCharsIsCharPinLaw"), (0, u "notXmlChar"), (3, u "law"), (0, u "(II)Z")] 4

def k1m0 : Method := { name := "<init>", desc := "()V", sig := { parameters := [], returnType := none }, accessFlags := 2, code := none }
def k1c1 : Code := { maxStack := 2, maxLocals := 1, code := method_2_code, exceptionTable := #[], attributes := #[] }
def k1m1 : Method := { name := "notXmlChar", desc := "(I)Z", sig := { parameters := [.int], returnType := some .boolean }, accessFlags := 10, code := some k1c1 }
def k1c2 : Code := { maxStack := 4, maxLocals := 6, code := code, exceptionTable := #[], attributes := #[] }
def k1m2 : Method := { name := "law", desc := "(II)Z", sig := { parameters := [.int, .int], returnType := some .boolean }, accessFlags := 9, code := some k1c2 }
/-- com/example/violet/violet/model/XmlCharsIsCharPinLaw -/
def k1 : Class := { plain "com/example/violet/violet/model/XmlCharsIsCharPinLaw" (some 0) with
  accessFlags := 49
  interfaces := #[]
  cf := some (fileOf pool1 27 #[] #[{ accessFlags := 2, nameIndex := 5, descriptorIndex := 6, attributes := #[] }, { accessFlags := 10, nameIndex := 30, descriptorIndex := 25, attributes := #[] }, { accessFlags := 9, nameIndex := 34, descriptorIndex := 35, attributes := #[] }] 49 2 #[] #[])
  fields := #[]
  methods := #[k1m0, k1m1, k1m2]
  instanceTypes := #[]
  staticTypes := #[]
  resolved := Array.replicate 40 none
  statics := none }

def pool2 : Array CpInfo := pool [(2, .class_ 4), (1, u "java/lang/Object"), (0, u "<init>"), (0, u "()V"), (0, .integer 55295), (3, .integer 65533), (0, .integer 65536), (2, .class_ 17), (1, u "com/example/violet/violet/model/XmlChars"), (1, u "(I)Z"), (30, .integer 57344), (0, .integer 1114111), (8, u "isChar"), (53, u "SPACES"), (0, u "Ljava/util/regex/Pattern;")] 55

def k2m0 : Method := { name := "<init>", desc := "()V", sig := { parameters := [], returnType := none }, accessFlags := 2, code := none }
def k2c1 : Code := { maxStack := 2, maxLocals := 1, code := prog_132_method_7_code, exceptionTable := #[], attributes := #[] }
def k2m1 : Method := { name := "isChar", desc := "(I)Z", sig := { parameters := [.int], returnType := some .boolean }, accessFlags := 9, code := some k2c1 }
/-- com/example/violet/violet/model/XmlChars -/
def k2 : Class := { plain "com/example/violet/violet/model/XmlChars" (some 0) with
  accessFlags := 49
  interfaces := #[]
  cf := some (fileOf pool2 15 #[] #[{ accessFlags := 2, nameIndex := 5, descriptorIndex := 6, attributes := #[] }, { accessFlags := 9, nameIndex := 60, descriptorIndex := 19, attributes := #[] }] 49 2 #[] #[{ accessFlags := 26, nameIndex := 114, descriptorIndex := 115, attributes := #[] }])
  fields := #[{ name := "SPACES", type := (.object "java/util/regex/Pattern"), accessFlags := 26, slot := 0, constantValue := 0 }]
  methods := #[k2m0, k2m1]
  instanceTypes := #[]
  staticTypes := #[(.object "java/util/regex/Pattern")]
  resolved := Array.replicate 171 none
  statics := none }

def pool3 : Array CpInfo := pool [(1, u "java/lang/Cloneable"), (0, .class_ 1), (0, u "java/lang/Object"), (0, .class_ 3)] 3

/-- java/lang/Cloneable -/
def k3 : Class := { plain "java/lang/Cloneable" (some 0) with
  accessFlags := 1537
  interfaces := #[]
  cf := some (fileOf pool3 2 #[] #[] 1537 4 #[] #[])
  fields := #[]
  methods := #[]
  instanceTypes := #[]
  staticTypes := #[]
  resolved := Array.replicate 8 none
  statics := none }

def pool4 : Array CpInfo := pool [(1, u "java/io/Serializable"), (0, .class_ 1), (0, u "java/lang/Object"), (0, .class_ 3)] 3

/-- java/io/Serializable -/
def k4 : Class := { plain "java/io/Serializable" (some 0) with
  accessFlags := 1537
  interfaces := #[]
  cf := some (fileOf pool4 2 #[] #[] 1537 4 #[] #[])
  fields := #[]
  methods := #[]
  instanceTypes := #[]
  staticTypes := #[]
  resolved := Array.replicate 8 none
  statics := none }

/-- the primitive byte -/
def k5 : Class := { plain "byte" none with kind := .primitive 'B', accessFlags := 0x411 }
/-- [B -/
def k6 : Class := { plain "[B" (some 0) with kind := .array 5 .byte, interfaces := #[3, 4], accessFlags := 1041 }

/-- the primitive int -/
def k7 : Class := { plain "int" none with kind := .primitive 'I', accessFlags := 0x411 }
/-- [I -/
def k8 : Class := { plain "[I" (some 0) with kind := .array 7 .int, interfaces := #[3, 4], accessFlags := 1041 }

def heap : Heap := #[]
def classes : Array Class := #[k0, k1, k2, k3, k4, k5, k6, k7, k8]
def interned : List (Array UInt16 × Addr) := []
def slotsUsed : Nat := 0
def theMethod : MethodId := ⟨1, 2⟩
def args0 : Array Value := #[.int 5, .int 6]
def aboutOver (below : List Frame) : State where
  vm := { classes := classes, interned := interned.toArray }
  heap := heap
  slotsUsed := slotsUsed
  threads := #[{ frames := .invoking theMethod args0 :: below }]
def below0 : List Frame := [.native { method := ⟨0, 0⟩, args := #[] }]
def about1 : State := aboutOver below0
def p0 : Program := .bare "" "" ""
def e0 : Env := launch0.env 0 0 0
theorem w_frames : about1.frames = Frame.invoking theMethod args0 :: below0 := rfl
set_option maxRecDepth 65536 in
theorem w_args : argsFit about1.vm theMethod args0 = true := by decide +kernel
set_option maxRecDepth 65536 in
theorem w_heap : heapFits about1 = true := by decide +kernel
set_option maxRecDepth 65536 in
theorem w_runnable : about1.curStatus? = some .runnable := by decide +kernel
set_option maxRecDepth 65536 in
theorem w_alone : about1.alone = true := by decide +kernel
set_option maxRecDepth 65536 in
theorem w_named : about1.methodNamed? x = some theMethod := by decide +kernel
set_option maxRecDepth 65536 in
theorem w_hears : about1.hears theMethod below0 = true := by decide +kernel
set_option maxRecDepth 65536 in
theorem w_ripe : about1.ripe theMethod args0 below0 = true := by decide +kernel
theorem w_running : about1.status = .running := rfl
set_option maxRecDepth 65536 in
theorem w_room : about1.hasRoom e0.platform room_1 = true :=
  launch0.hasRoom_least _ room_1 (by decide +kernel) (by decide +kernel) (by decide +kernel) (by decide +kernel) (by decide +kernel) (by decide +kernel)
theorem allAtoms_all (ts : List Jvm.Cond) (a : Array Jvm.Value) (st : Jvm.State) : (allAtoms ts).before a st = ts.all (fun c => c.before a st) := by
  induction ts with
  | nil => rfl
  | cons c t ih =>
    show (Jvm.Cond.and c (allAtoms t)).before a st = _
    rw [Jvm.Cond.before_and, ih, List.all_cons]
def words1 : List Jvm.Cond := Jvm.Cond.code x code maxLocals ret :: tables_1
/-- a 'code' word, met by the world's own term for the bytes: nothing is compared byte by byte -/
theorem code_word {y : MethodName} {bytes : ByteArray} {mx : Nat} {rt : Option FieldType} {a : Array Value} {s : State} {m : MethodId} {meth : Method} {c : Code} (h1 : s.methodNamed? y = some m) (h2 : s.vm.method? m = some meth) (h3 : meth.code = some c) (h4 : c.code = bytes)
    (h5 : (c.maxLocals == mx && c.exceptionTable.isEmpty && decide (c.maxStack ≤ mostOperands) && decide (meth.sig.returnType = rt) && !meth.locks && decide (parseMethodDescriptor y.desc = some meth.sig)) = true) : (Jvm.Cond.code y bytes mx rt).before a s = true := by
  simp only [Bool.and_eq_true, beq_iff_eq, Bool.not_eq_true', decide_eq_true_eq] at h5
  obtain ⟨⟨⟨⟨⟨g1, g2⟩, g3⟩, g4⟩, g5⟩, g6⟩ := h5
  simp [Cond.before, Cond.holds, Cond.value, h1, h2, h3, h4, g1, g2, g3, g4, g5, g6]
def isCode : Jvm.Cond → Bool
  | .code _ _ _ _ => true
  | _ => false
theorem all_split {L : List Jvm.Cond} {P : Jvm.Cond → Bool} (h1 : L.all (fun c => isCode c || P c) = true) (h2 : ∀ c ∈ L.filter isCode, P c = true) : L.all P = true := by
  refine List.all_eq_true.mpr fun c hc => ?_
  have h := List.all_eq_true.mp h1 c hc
  rcases Bool.eq_false_or_eq_true (isCode c) with hi | hi
  · exact h2 c (List.mem_filter.mpr ⟨hc, hi⟩)
  · simpa [hi] using h
set_option maxRecDepth 65536 in
theorem w_c0 : (Jvm.Cond.code x code maxLocals ret).before args0 about1 = true := code_word (m := ⟨1, 2⟩) (meth := k1m2) (c := k1c2) (by decide +kernel) rfl rfl rfl (by decide +kernel)
set_option maxRecDepth 65536 in
theorem w_c1 : (Jvm.Cond.code ({ cls := "com/example/violet/violet/model/XmlChars", name := "isChar", desc := "(I)Z" } : Jvm.MethodName) prog_132_method_7_code (1 : Nat) (Option.some Jvm.ClassFile.FieldType.boolean)).before args0 about1 = true := code_word (m := ⟨2, 1⟩) (meth := k2m1) (c := k2c1) (by decide +kernel) rfl rfl rfl (by decide +kernel)
set_option maxRecDepth 65536 in
theorem w_c2 : (Jvm.Cond.code ({ cls := "com/example/violet/violet/model/XmlCharsIsCharPinLaw", name := "notXmlChar", desc := "(I)Z" } : Jvm.MethodName) method_2_code (1 : Nat) (Option.some Jvm.ClassFile.FieldType.boolean)).before args0 about1 = true := code_word (m := ⟨1, 1⟩) (meth := k1m1) (c := k1c1) (by decide +kernel) rfl rfl rfl (by decide +kernel)
def codes1 : List Jvm.Cond := [Jvm.Cond.code x code maxLocals ret, Jvm.Cond.code ({ cls := "com/example/violet/violet/model/XmlChars", name := "isChar", desc := "(I)Z" } : Jvm.MethodName) prog_132_method_7_code (1 : Nat) (Option.some Jvm.ClassFile.FieldType.boolean), Jvm.Cond.code ({ cls := "com/example/violet/violet/model/XmlCharsIsCharPinLaw", name := "notXmlChar", desc := "(I)Z" } : Jvm.MethodName) method_2_code (1 : Nat) (Option.some Jvm.ClassFile.FieldType.boolean)]
set_option maxRecDepth 65536 in
theorem codes_eq : words1.filter isCode = codes1 := rfl
theorem w_codes : ∀ c ∈ words1.filter isCode, c.before args0 about1 = true := by
  rw [codes_eq]
  intro c hc
  simp only [codes1, List.mem_cons, List.not_mem_nil, or_false] at hc
  rcases hc with rfl | rfl | rfl
  · exact w_c0
  · exact w_c1
  · exact w_c2
set_option maxRecDepth 65536 in
theorem w_t1 : (words1.take 24).all (fun c => isCode c || c.before args0 about1) = true := by decide +kernel
set_option maxRecDepth 65536 in
theorem w_t2 : (words1.drop 24).all (fun c => isCode c || c.before args0 about1) = true := by decide +kernel
theorem w_tables : (allAtoms (Jvm.Cond.code x code maxLocals ret :: tables_1)).before args0 about1 = true := by
  rw [allAtoms_all]
  show words1.all (fun c => c.before args0 about1) = true
  refine all_split ?_ w_codes
  rw [← List.take_append_drop 24 words1, List.all_append, w_t1, w_t2]
  rfl
set_option maxRecDepth 65536 in
theorem w_case : (Jvm.Cond.and given_1 narrow_1).before args0 about1 = true := by decide +kernel
theorem w_applies : (headSpec (Jvm.Cond.code x code maxLocals ret :: tables_1) room_1).applies x e0.platform about1 = true :=
  (Spec.applies_iff w_frames).mpr ⟨w_running, w_runnable, w_alone, w_named, w_hears, w_ripe, w_room, w_tables⟩
theorem atStart : AtStart classFile x code maxLocals ret World_1 tables_1 room_1 Calls_1 rest_1 Pre_1 launch0 p0 e0 about1 theMethod args0 below0 :=
  ⟨lists_1, trivial, launch0.admits_env _ _ _, launch0.least_env, fairChoices_fair.cas, fairChoices_fair.clock, w_frames, w_args, w_heap, w_applies, trivial, trivial, w_case⟩
end start1
theorem witness_1 : WitnessClaimed_1 := ⟨start1.p0, start1.e0, start1.about1, start1.theMethod, start1.args0, start1.below0, start1.atStart⟩
end Jvm.Pilot.@@N@@
