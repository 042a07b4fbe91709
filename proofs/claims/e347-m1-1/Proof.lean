import JvmDerived
import JvmDerived.Pilot.@@N@@Statement
import JvmDerived.Pilot.@@N@@Code
set_option linter.unusedVariables false
set_option linter.unusedSimpArgs false
namespace Jvm.OwnGo
open Sem ClassFile Op Lib Jvm.Stand Jvm.Free Jvm.LawKit Jvm.RoadKit
/-- what the walk of a body is told once: exec, bytes, max_locals, its class, its name, its return kind, no lock, the tables -/
def Cx (p : Program) (s : State) (m : MethodId) (meth : Method) (c : Code) (Z : State) (own nm : String) (code : ByteArray) (ret : Option FieldType) (maxL : Nat) : Prop :=
  p.tables.exec = Jvm.exec ∧ c.code = code ∧ c.maxLocals = maxL ∧ s.vm.findClass own = some m.cls ∧ meth.name = nm ∧ meth.sig.returnType = ret ∧ meth.locks = false ∧ Z.Warmed39 s.vm
/-- from every state with heap h in which the body stands at frame g the body comes to its end, and Q holds of what it leaves -/
def Go (p : Program) (l : Launch) (e : Env) (R : Room) (s : State) (m : MethodId) (args : Array Value) (below : List Frame) (meth : Method) (c : Code) (n0 : Nat) (Q : Option Value → Heap → List Loc → Prop) (h : Heap) (cells slots : Nat) (g : JFrame) : Prop :=
  ∀ (T : State) (L : List Loc), Stand p l e R s m args below meth c T L cells slots → T.heap = h → Fr n0 L →
    ∃ (t : State) (o : Outcome), Steps p.tables e below (T.setTop g) t ∧ t.status = .running ∧ Ended t below o ∧ ∃ v L', o = .returned v ∧ Q v t.heap L' ∧ FrameEnd s o t L' R.cells R.slots
/-- the contract of a body, at given arguments and heap -/
def Con (l : Launch) (Z : State) (y : MethodName) (bytes : ByteArray) (maxL : Nat) (ret : Option FieldType) (rm : Room) (ws : List Jvm.Cond) (as' : Array Value) (h : Heap) (Q : Option Value → Heap → List Loc → Prop) : Prop :=
  MetFree l y (head1 (Jvm.Cond.code y bytes maxL ret :: ws) rm) (fun a U => a = as' ∧ Z.Warmed39 U.vm ∧ U.heap = h) (fun _ _ _ _ _ => True) (fun _ U o U' => ∃ v L, o = .returned v ∧ Q v U'.heap L ∧ FrameEnd U o U' L rm.cells rm.slots)
/-- an int is returned; the heap is as H says; nothing old is written -/
def Ret (n0 : Nat) (H : Heap → Prop) (r : Int32) (v : Option Value) (hh : Heap) (L : List Loc) : Prop := v = some (.int r) ∧ Fr n0 L ∧ H hh
theorem con_of {l : Launch} {Z : State} {y : MethodName} {bytes : ByteArray} {maxL : Nat} {ret : Option FieldType} {rm : Room} {ws : List Jvm.Cond} {as' : Array Value} {h : Heap} {Q : Option Value → Heap → List Loc → Prop} (n0 : Nat) {Ls0 : Array Slot} (hn : plainName y.cls = true) (hef : ∀ m, entryFrame m as' maxL = mkF m 0 Ls0 [])
    (body : ∀ (p : Program) (e : Env) (s : State) (m : MethodId) (below : List Frame) (meth : Method) (c : Code), Cx p s m meth c Z y.cls y.name bytes ret maxL → Go p l e rm s m as' below meth c n0 Q h 0 0 (mkF m 0 Ls0 [])) : Con l Z y bytes maxL ret rm ws as' h Q := by
  refine MetFree.of_bodySF (plainFor_of_name hn) hisR ?_
  intro p e s m args below meth c s₁ Bd hml0 hP hK
  obtain ⟨rfl, hZ, hh⟩ := hP
  rw [hef m]
  exact body p e s m below meth c ⟨Bd.exec, Bd.bytes, hml0, findClass_of_methodNamed Bd.named, (name_of_methodNamed Bd.named Bd.method).1, Bd.returns, Bd.notSynchronized, hZ⟩ s₁ [] (Stand.of_body Bd) (by rw [← hh, Bd.state]; rfl) (Fr.nil n0)
section Steps
variable {p : Program} {l : Launch} {e : Env} {R : Room} {s : State} {m : MethodId} {args : Array Value} {below : List Frame} {meth : Method} {c : Code} {n0 : Nat} {Q : Option Value → Heap → List Loc → Prop} {h : Heap} {cells slots : Nat} {Z : State} {own nm : String} {code : ByteArray} {ret : Option FieldType} {maxL : Nat} {pc pc' pc2 : Nat} {Ls Ls' : Array Slot} {st : List Value} {a0 : Array Value}
theorem Go.step {g g' : JFrame} (f : ∀ T, At T m c below → ∀ target, Steps p.tables e below (T.setTop g') target → Steps p.tables e below (T.setTop g) target) (q : Go p l e R s m args below meth c n0 Q h cells slots g') : Go p l e R s m args below meth c n0 Q h cells slots g := fun T L X eT N => by
  obtain ⟨t, o, k, r⟩ := q T L X eT N
  exact ⟨t, o, f T X.here t k, r⟩
theorem Go.at {g g' : JFrame} (q : Go p l e R s m args below meth c n0 Q h cells slots g') (hg : g = g') : Go p l e R s m args below meth c n0 Q h cells slots g := hg ▸ q
theorem g_iloadN (C : Cx p s m meth c Z own nm code ret maxL) {k : Fin 4} {v : Int32} (hd : decode code pc = .ok (.iload_n k, 1)) (hl : Ls[k.val]? = some (.val (.int v))) (hp : pc + 1 = pc') (q : Go p l e R s m args below meth c n0 Q h cells slots (mkF m pc' Ls (.int v :: st))) : Go p l e R s m args below meth c n0 Q h cells slots (mkF m pc Ls st) := by
  subst hp
  exact q.step fun T A t r => XS.iloadN A C.1 rfl (hb C.2.1 hd) hl r
theorem g_iload (C : Cx p s m meth c Z own nm code ret maxL) {k : Nat} {v : Int32} (hd : decode code pc = .ok (.iload k, 2)) (hl : Ls[k]? = some (.val (.int v))) (hp : pc + 2 = pc') (q : Go p l e R s m args below meth c n0 Q h cells slots (mkF m pc' Ls (.int v :: st))) : Go p l e R s m args below meth c n0 Q h cells slots (mkF m pc Ls st) := by
  subst hp
  exact q.step fun T A t r => XS.iload A C.1 rfl (hb C.2.1 hd) hl r
theorem g_aloadN (C : Cx p s m meth c Z own nm code ret maxL) {k : Fin 4} {v : Value} (hd : decode code pc = .ok (.aload_n k, 1)) (hl : Ls[k.val]? = some (.val v)) (hv : v.isRef = true) (hp : pc + 1 = pc') (q : Go p l e R s m args below meth c n0 Q h cells slots (mkF m pc' Ls (v :: st))) : Go p l e R s m args below meth c n0 Q h cells slots (mkF m pc Ls st) := by
  subst hp
  exact q.step fun T A t r => XS.aloadN A C.1 rfl (hb C.2.1 hd) hl hv r
theorem g_aload (C : Cx p s m meth c Z own nm code ret maxL) {k : Nat} {v : Value} (hd : decode code pc = .ok (.aload k, 2)) (hl : Ls[k]? = some (.val v)) (hv : v.isRef = true) (hp : pc + 2 = pc') (q : Go p l e R s m args below meth c n0 Q h cells slots (mkF m pc' Ls (v :: st))) : Go p l e R s m args below meth c n0 Q h cells slots (mkF m pc Ls st) := by
  subst hp
  exact q.step fun T A t r => XS.aload A C.1 rfl (hb C.2.1 hd) hl hv r
theorem g_iconst (C : Cx p s m meth c Z own nm code ret maxL) {i : Int} {v : Int32} (hd : decode code pc = .ok (.iconst i, 1)) (hv : Int32.ofInt i = v) (hp : pc + 1 = pc') (q : Go p l e R s m args below meth c n0 Q h cells slots (mkF m pc' Ls (.int v :: st))) : Go p l e R s m args below meth c n0 Q h cells slots (mkF m pc Ls st) := by
  subst hp hv
  exact q.step fun T A t r => XS.iconst A C.1 rfl (hb C.2.1 hd) r
theorem g_bipush (C : Cx p s m meth c Z own nm code ret maxL) {i : Int} {v : Int32} (hd : decode code pc = .ok (.bipush i, 2)) (hv : (Int8.ofInt i).toInt32 = v) (hp : pc + 2 = pc') (q : Go p l e R s m args below meth c n0 Q h cells slots (mkF m pc' Ls (.int v :: st))) : Go p l e R s m args below meth c n0 Q h cells slots (mkF m pc Ls st) := by
  subst hp hv
  exact q.step fun T A t r => XS.bipush A C.1 rfl (hb C.2.1 hd) r
theorem g_sipush (C : Cx p s m meth c Z own nm code ret maxL) {i : Int} {v : Int32} (hd : decode code pc = .ok (.sipush i, 3)) (hv : (Int16.ofInt i).toInt32 = v) (hp : pc + 3 = pc') (q : Go p l e R s m args below meth c n0 Q h cells slots (mkF m pc' Ls (.int v :: st))) : Go p l e R s m args below meth c n0 Q h cells slots (mkF m pc Ls st) := by
  subst hp hv
  exact q.step fun T A t r => XS.sipush A C.1 rfl (hb C.2.1 hd) r
theorem g_ldc (C : Cx p s m meth c Z own nm code ret maxL) {i : Nat} {v : Int32} (w : (Jvm.Cond.constant own i v).before a0 Z = true) (hd : decode code pc = .ok (.ldc i, 2)) (hp : pc + 2 = pc') (q : Go p l e R s m args below meth c n0 Q h cells slots (mkF m pc' Ls (.int v :: st))) : Go p l e R s m args below meth c n0 Q h cells slots (mkF m pc Ls st) := by
  subst hp
  intro T L X eT N
  obtain ⟨t, o, k, r⟩ := q T L X eT N
  exact ⟨t, o, X.ldcInt C.1 C.2.2.2.1 (mvT C.2.2.2.2.2.2.2 w) (g := mkF m pc Ls st) rfl (hb C.2.1 hd) t k, r⟩
theorem g_iadd (C : Cx p s m meth c Z own nm code ret maxL) {x y : Int32} (hd : decode code pc = .ok (.iadd, 1)) (hp : pc + 1 = pc') (q : Go p l e R s m args below meth c n0 Q h cells slots (mkF m pc' Ls (.int (x + y) :: st))) : Go p l e R s m args below meth c n0 Q h cells slots (mkF m pc Ls (.int y :: .int x :: st)) := by
  subst hp
  exact q.step fun T A t r => XS.iadd A C.1 rfl (hb C.2.1 hd) rfl r
theorem g_isub (C : Cx p s m meth c Z own nm code ret maxL) {x y : Int32} (hd : decode code pc = .ok (.isub, 1)) (hp : pc + 1 = pc') (q : Go p l e R s m args below meth c n0 Q h cells slots (mkF m pc' Ls (.int (x - y) :: st))) : Go p l e R s m args below meth c n0 Q h cells slots (mkF m pc Ls (.int y :: .int x :: st)) := by
  subst hp
  exact q.step fun T A t r => XS.isub A C.1 rfl (hb C.2.1 hd) rfl r
theorem g_imul (C : Cx p s m meth c Z own nm code ret maxL) {x y : Int32} (hd : decode code pc = .ok (.imul, 1)) (hp : pc + 1 = pc') (q : Go p l e R s m args below meth c n0 Q h cells slots (mkF m pc' Ls (.int (x * y) :: st))) : Go p l e R s m args below meth c n0 Q h cells slots (mkF m pc Ls (.int y :: .int x :: st)) := by
  subst hp
  exact q.step fun T A t r => XS.imul A C.1 rfl (hb C.2.1 hd) rfl r
theorem g_iand (C : Cx p s m meth c Z own nm code ret maxL) {x y : Int32} (hd : decode code pc = .ok (.iand, 1)) (hp : pc + 1 = pc') (q : Go p l e R s m args below meth c n0 Q h cells slots (mkF m pc' Ls (.int (x &&& y) :: st))) : Go p l e R s m args below meth c n0 Q h cells slots (mkF m pc Ls (.int y :: .int x :: st)) := by
  subst hp
  exact q.step fun T A t r => XS.iand A C.1 rfl (hb C.2.1 hd) rfl r
theorem g_ixor (C : Cx p s m meth c Z own nm code ret maxL) {x y : Int32} (hd : decode code pc = .ok (.ixor, 1)) (hp : pc + 1 = pc') (q : Go p l e R s m args below meth c n0 Q h cells slots (mkF m pc' Ls (.int (x ^^^ y) :: st))) : Go p l e R s m args below meth c n0 Q h cells slots (mkF m pc Ls (.int y :: .int x :: st)) := by
  subst hp
  exact q.step fun T A t r => XT.ixor A C.1 rfl (hb C.2.1 hd) rfl r
theorem g_irem (C : Cx p s m meth c Z own nm code ret maxL) {x y : Int32} (hd : decode code pc = .ok (.irem, 1)) (hy : y ≠ 0) (hp : pc + 1 = pc') (q : Go p l e R s m args below meth c n0 Q h cells slots (mkF m pc' Ls (.int (x % y) :: st))) : Go p l e R s m args below meth c n0 Q h cells slots (mkF m pc Ls (.int y :: .int x :: st)) := by
  subst hp
  intro T L X eT N
  obtain ⟨t, o, k, r⟩ := q T L X eT N
  exact ⟨t, o, iremM X C.1 (g := mkF m pc Ls (.int y :: .int x :: st)) rfl (hb C.2.1 hd) rfl hy k, r⟩
theorem g_dup (C : Cx p s m meth c Z own nm code ret maxL) {x : Value} (hd : decode code pc = .ok (.dup, 1)) (hx : x.category = 1) (hp : pc + 1 = pc') (q : Go p l e R s m args below meth c n0 Q h cells slots (mkF m pc' Ls (x :: x :: st))) : Go p l e R s m args below meth c n0 Q h cells slots (mkF m pc Ls (x :: st)) := by
  subst hp
  exact q.step fun T A t r => XS.dup A C.1 rfl (hb C.2.1 hd) rfl hx r
theorem g_istoreN (C : Cx p s m meth c Z own nm code ret maxL) {k : Fin 4} {x : Int32} (hd : decode code pc = .ok (.istore_n k, 1)) (hl : storeLocals Ls k.val (.int x) = some Ls') (hp : pc + 1 = pc') (q : Go p l e R s m args below meth c n0 Q h cells slots (mkF m pc' Ls' st)) : Go p l e R s m args below meth c n0 Q h cells slots (mkF m pc Ls (.int x :: st)) := by
  subst hp
  exact q.step fun T A t r => XS.istoreN A C.1 rfl (hb C.2.1 hd) rfl hl r
theorem g_istore (C : Cx p s m meth c Z own nm code ret maxL) {k : Nat} {x : Int32} (hd : decode code pc = .ok (.istore k, 2)) (hl : storeLocals Ls k (.int x) = some Ls') (hp : pc + 2 = pc') (q : Go p l e R s m args below meth c n0 Q h cells slots (mkF m pc' Ls' st)) : Go p l e R s m args below meth c n0 Q h cells slots (mkF m pc Ls (.int x :: st)) := by
  subst hp
  exact q.step fun T A t r => XS.istore A C.1 rfl (hb C.2.1 hd) rfl hl r
theorem g_astoreN (C : Cx p s m meth c Z own nm code ret maxL) {k : Fin 4} {x : Value} (hd : decode code pc = .ok (.astore_n k, 1)) (hv : x.isRef = true) (hl : storeLocals Ls k.val x = some Ls') (hp : pc + 1 = pc') (q : Go p l e R s m args below meth c n0 Q h cells slots (mkF m pc' Ls' st)) : Go p l e R s m args below meth c n0 Q h cells slots (mkF m pc Ls (x :: st)) := by
  subst hp
  exact q.step fun T A t r => XS.astoreN A C.1 rfl (hb C.2.1 hd) rfl hv hl r
theorem g_astore (C : Cx p s m meth c Z own nm code ret maxL) {k : Nat} {x : Value} (hd : decode code pc = .ok (.astore k, 2)) (hv : x.isRef = true) (hl : storeLocals Ls k x = some Ls') (hp : pc + 2 = pc') (q : Go p l e R s m args below meth c n0 Q h cells slots (mkF m pc' Ls' st)) : Go p l e R s m args below meth c n0 Q h cells slots (mkF m pc Ls (x :: st)) := by
  subst hp
  exact q.step fun T A t r => XS.astore A C.1 rfl (hb C.2.1 hd) rfl hv hl r
theorem g_goto (C : Cx p s m meth c Z own nm code ret maxL) {o : Int} (hd : decode code pc = .ok (.goto o, 3)) (ho : 0 ≤ (pc : Int) + o) (hp : ((pc : Int) + o).toNat = pc') (q : Go p l e R s m args below meth c n0 Q h cells slots (mkF m pc' Ls st)) : Go p l e R s m args below meth c n0 Q h cells slots (mkF m pc Ls st) := q.step fun T A t r => XS.goto A C.1 rfl (pc0 := pc) rfl (hb C.2.1 hd) ho hp r
/-- a comparison of two ints: both ways -/
theorem g_icmp (C : Cx p s m meth c Z own nm code ret maxL) {cd : ClassFile.Cond} {x y : Int32} {o : Int} {P : Prop} [Decidable P] (hd : decode code pc = .ok (.if_icmp cd o, 3)) (hc : if_icmp.holds cd x y = decide P) (ho : 0 ≤ (pc : Int) + o) (hp2 : ((pc : Int) + o).toNat = pc2) (hp : pc + 3 = pc')
    (q1 : P → Go p l e R s m args below meth c n0 Q h cells slots (mkF m pc2 Ls st)) (q2 : ¬ P → Go p l e R s m args below meth c n0 Q h cells slots (mkF m pc' Ls st)) : Go p l e R s m args below meth c n0 Q h cells slots (mkF m pc Ls (.int y :: .int x :: st)) := by
  subst hp
  by_cases hP : P
  · exact (q1 hP).step fun T A t r => XS.icmpYes A C.1 rfl (pc0 := pc) rfl (hb C.2.1 hd) rfl (hc.trans (decide_eq_true hP)) ho hp2 r
  · exact (q2 hP).step fun T A t r => XS.icmpNo A C.1 rfl (hb C.2.1 hd) rfl (hc.trans (decide_eq_false hP)) r
/-- a comparison of an int with 0: both ways -/
theorem g_if (C : Cx p s m meth c Z own nm code ret maxL) {cd : ClassFile.Cond} {x : Int32} {o : Int} {P : Prop} [Decidable P] (hd : decode code pc = .ok (.ifCond cd o, 3)) (hc : if_icmp.holds cd x 0 = decide P) (ho : 0 ≤ (pc : Int) + o) (hp2 : ((pc : Int) + o).toNat = pc2) (hp : pc + 3 = pc')
    (q1 : P → Go p l e R s m args below meth c n0 Q h cells slots (mkF m pc2 Ls st)) (q2 : ¬ P → Go p l e R s m args below meth c n0 Q h cells slots (mkF m pc' Ls st)) : Go p l e R s m args below meth c n0 Q h cells slots (mkF m pc Ls (.int x :: st)) := by
  subst hp
  by_cases hP : P
  · exact (q1 hP).step fun T A t r => XS.ifYes A C.1 rfl (pc0 := pc) rfl (hb C.2.1 hd) rfl ((if0 cd x).trans (hc.trans (decide_eq_true hP))) ho hp2 r
  · exact (q2 hP).step fun T A t r => XS.ifNo A C.1 rfl (hb C.2.1 hd) rfl ((if0 cd x).trans (hc.trans (decide_eq_false hP))) r
theorem c_lt (x y : Int32) : if_icmp.holds .lt x y = decide (x < y) := by
  by_cases q : x < y
  · exact (tlt q).1.trans (decide_eq_true q).symm
  · exact (flt q).1.trans (decide_eq_false q).symm
theorem c_ge (x y : Int32) : if_icmp.holds .ge x y = decide (¬ x < y) := by
  by_cases q : x < y
  · exact (tlt q).2.1.trans (decide_eq_false (not_not_intro q)).symm
  · exact (flt q).2.1.trans (decide_eq_true q).symm
theorem c_gt (x y : Int32) : if_icmp.holds .gt x y = decide (y < x) := by
  by_cases q : y < x
  · exact (tlt q).2.2.1.trans (decide_eq_true q).symm
  · exact (flt q).2.2.1.trans (decide_eq_false q).symm
theorem c_le (x y : Int32) : if_icmp.holds .le x y = decide (¬ y < x) := by
  by_cases q : y < x
  · exact (tlt q).2.2.2.trans (decide_eq_false (not_not_intro q)).symm
  · exact (flt q).2.2.2.trans (decide_eq_true q).symm
theorem c_eq (x y : Int32) : if_icmp.holds .eq x y = decide (x = y) := by
  by_cases q : x = y
  · exact (teq q).1.trans (decide_eq_true q).symm
  · exact (feq q).1.trans (decide_eq_false q).symm
theorem c_ne (x y : Int32) : if_icmp.holds .ne x y = decide (¬ x = y) := by
  by_cases q : x = y
  · exact (teq q).2.trans (decide_eq_false (not_not_intro q)).symm
  · exact (feq q).2.trans (decide_eq_true q).symm
/-- a fork of what is returned -/
theorem Go.pos {H : Heap → Prop} {P : Prop} [Decidable P] {a b : Int32} {g : JFrame} (q : Go p l e R s m args below meth c n0 (Ret n0 H a) h cells slots g) (hP : P) : Go p l e R s m args below meth c n0 (Ret n0 H (if P then a else b)) h cells slots g := by rw [if_pos hP]; exact q
theorem Go.neg {H : Heap → Prop} {P : Prop} [Decidable P] {a b : Int32} {g : JFrame} (q : Go p l e R s m args below meth c n0 (Ret n0 H b) h cells slots g) (hP : ¬ P) : Go p l e R s m args below meth c n0 (Ret n0 H (if P then a else b)) h cells slots g := by rw [if_neg hP]; exact q
theorem Go.cast {H : Heap → Prop} {a b : Int32} {g : JFrame} (q : Go p l e R s m args below meth c n0 (Ret n0 H a) h cells slots g) (hab : a = b) : Go p l e R s m args below meth c n0 (Ret n0 H b) h cells slots g := hab ▸ q
theorem g_retZ {H : Heap → Prop} (C : Cx p s m meth c Z own nm code (some .boolean) maxL) {z r : Int32} (hd : decode code pc = .ok (.ireturn, 1)) (hz : nar .boolean z = r) (hH : H h) (hc : cells ≤ R.cells) (hs : slots ≤ R.slots) : Go p l e R s m args below meth c n0 (Ret n0 H r) h cells slots (mkF m pc Ls (.int z :: st)) := fun T L X eT N => by
  obtain ⟨-, -, -, -, -, hret, hlk, -⟩ := id C
  obtain ⟨fs, hr, hrun, hended, hW, hsame⟩ := X.leave (v := some (.int (nar .boolean z))) (fun q => by rw [hret] at q; cases q) hlk
  exact ⟨_, _, retN X C.1 (t := .boolean) hret (by simp) (hb C.2.1 hd) hr, hrun, hended, _, L, rfl, ⟨by rw [hz], N, by show H T.heap; rw [eT]; exact hH⟩, ⟨_, rfl⟩, hW, hsame.mono hc hs⟩
theorem g_retI {H : Heap → Prop} (C : Cx p s m meth c Z own nm code (some .int) maxL) {z : Int32} (hd : decode code pc = .ok (.ireturn, 1)) (hH : H h) (hc : cells ≤ R.cells) (hs : slots ≤ R.slots) : Go p l e R s m args below meth c n0 (Ret n0 H z) h cells slots (mkF m pc Ls (.int z :: st)) := fun T L X eT N => by
  obtain ⟨-, -, -, -, -, hret, hlk, -⟩ := id C
  obtain ⟨fs, hr, hrun, hended, hW, hsame⟩ := X.leave (v := some (.int z)) (fun q => by rw [hret] at q; cases q) hlk
  exact ⟨_, _, retOut X C.1 hret rfl (Or.inl ⟨rfl, Or.inl rfl, z, rfl⟩) (hb C.2.1 hd) hr, hrun, hended, _, L, rfl, ⟨rfl, N, by show H T.heap; rw [eT]; exact hH⟩, ⟨_, rfl⟩, hW, hsame.mono hc hs⟩
/-- a static call, paid by the callee's contract; the callee makes at most rm.cells cells and rm.slots slots -/
theorem g_callS (C : Cx p s m meth c Z own nm code ret maxL) {i : Nat} {y : MethodName} {bytes : ByteArray} {ml : Nat} {rt : Option FieldType} {rm : Room} {as' : List Value} {Qc : Option Value → Heap → List Loc → Prop} (W : Nat) (w1 : (Jvm.Cond.methodLink own i y).before a0 Z = true) (w2 : (Jvm.Cond.static y).before a0 Z = true) (w3 : (Jvm.Cond.initialized y.cls).before a0 Z = true) (w4 : (Jvm.Cond.code y bytes ml rt).before a0 Z = true)
    (hy : y.cls ≠ "java/lang/invoke/MethodHandle" ∧ y.cls ≠ "java/lang/invoke/VarHandle") (hM : Con l Z y bytes ml rt rm [] as'.toArray h Qc) (hf : rm.frames + 1 ≤ R.frames) (hl : W + (ml + 11) + rm.locals ≤ R.locals) (hrc : cells + rm.cells ≤ R.cells) (hrs : slots + rm.slots ≤ R.slots) {ps : List FieldType} {rr : Option FieldType} (hpd : parseMethodDescriptor y.desc = some ⟨ps, rr⟩) (hlen : as'.length = ps.length)
    (hsz : Ls.size = maxL) {stk : List Value} (hst : stk = as'.reverse ++ st) (hW : (st.map fun v => v.category).sum ≤ W) (hd : decode code pc = .ok (.invokestatic i, 3)) (hp : pc + 3 = pc')
    (q : ∀ v h' L', Qc v h' L' → (Fr n0 L' ∧ Go p l e R s m args below meth c n0 Q h' (cells + rm.cells) (slots + rm.slots) (mkF m pc' Ls (v.toList ++ st)))) : Go p l e R s m args below meth c n0 Q h cells slots (mkF m pc Ls stk) := by
  intro T L X eT N
  subst hp
  obtain ⟨hx, hby, hml, hown, -, hret, hlk, hZ⟩ := id C
  obtain ⟨v, _, ⟨T1, L1, k1, n1⟩, -, X1, ⟨Lc, hQ, l1, y1, z1⟩, st1⟩ := Jvm.LawKit.callS X hx (y := y) hown (mvT hZ w1) (mvT hZ w2) (mvT hZ w3) (mvT hZ w4) hy (backOf (W := W) hM hZ w4 w3 hf hl) (g := mkF m pc Ls stk) rfl (hsz.trans hml.symm) (argsL := as') (rest := st) (lenOf hpd hlen) hst (by show 2 * 0 + _ ≤ _; omega) (hb hby hd) (fun _ _ => ⟨rfl, eT, hrc, hrs⟩)
  dsimp only [Pt.U, Pt.locs, Pt.cells, Pt.slots] at X1 l1 y1 z1 st1 hQ
  subst l1 y1 z1
  obtain ⟨hN, hG⟩ := q v _ Lc hQ
  obtain ⟨t, o, k, r⟩ := hG T1 _ X1 rfl (N.app hN)
  exact ⟨t, o, st1 t k, r⟩
/-- a static call of a method that computes an int and leaves the heap as it was -/
theorem g_callP (C : Cx p s m meth c Z own nm code ret maxL) {i : Nat} {y : MethodName} {bytes : ByteArray} {ml : Nat} {rt : Option FieldType} {rm : Room} {as' : List Value} {z : Int32} (W : Nat) (w1 : (Jvm.Cond.methodLink own i y).before a0 Z = true) (w2 : (Jvm.Cond.static y).before a0 Z = true) (w3 : (Jvm.Cond.initialized y.cls).before a0 Z = true) (w4 : (Jvm.Cond.code y bytes ml rt).before a0 Z = true)
    (hy : y.cls ≠ "java/lang/invoke/MethodHandle" ∧ y.cls ≠ "java/lang/invoke/VarHandle") (hM : Con l Z y bytes ml rt rm [] as'.toArray h (Ret n0 (· = h) z)) (hf : rm.frames + 1 ≤ R.frames) (hl : W + (ml + 11) + rm.locals ≤ R.locals) (hrc : rm.cells = 0) (hrs : rm.slots = 0) (hcl : cells ≤ R.cells) (hsl : slots ≤ R.slots) {ps : List FieldType} {rr : Option FieldType} (hpd : parseMethodDescriptor y.desc = some ⟨ps, rr⟩) (hlen : as'.length = ps.length)
    (hsz : Ls.size = maxL) {stk : List Value} (hst : stk = as'.reverse ++ st) (hW : (st.map fun v => v.category).sum ≤ W) (hd : decode code pc = .ok (.invokestatic i, 3)) (hp : pc + 3 = pc')
    (q : Go p l e R s m args below meth c n0 Q h cells slots (mkF m pc' Ls (.int z :: st))) : Go p l e R s m args below meth c n0 Q h cells slots (mkF m pc Ls stk) := by
  refine g_callS C W w1 w2 w3 w4 hy hM hf hl (by rw [hrc]; exact hcl) (by rw [hrs]; exact hsl) hpd hlen hsz hst hW hd hp ?_
  rintro v h' L' ⟨rfl, hN, rfl⟩
  refine ⟨hN, ?_⟩
  rw [hrc, hrs]
  exact q
end Steps
end Jvm.OwnGo
namespace Jvm.OwnGo
/-- c and b stand alike to every number of B -/
def Same (B : List Int32) (c b : Int32) : Prop := ∀ t ∈ B, (c < t ↔ b < t) ∧ (t < c ↔ t < b) ∧ (c = t ↔ b = t)
theorem own_max (c : Int32) : ∀ (L : List Int32) (b0 : Int32), b0.toInt ≤ c.toInt → ∃ b, (b = b0 ∨ b ∈ L) ∧ b.toInt ≤ c.toInt ∧ b0.toInt ≤ b.toInt ∧ ∀ s ∈ L, s.toInt ≤ c.toInt → s.toInt ≤ b.toInt
  | [], b0, h => ⟨b0, Or.inl rfl, h, Int.le_refl _, fun _ q => nomatch q⟩
  | a :: L, b0, h => by
    by_cases ha : a.toInt ≤ c.toInt ∧ b0.toInt ≤ a.toInt
    · obtain ⟨b, hb, h1, h2, h3⟩ := own_max c L a ha.1
      refine ⟨b, ?_, h1, by omega, ?_⟩
      · rcases hb with rfl | hb
        · exact Or.inr (List.mem_cons_self ..)
        · exact Or.inr (List.mem_cons_of_mem _ hb)
      · intro s hs hc
        rcases List.mem_cons.mp hs with rfl | hs
        · exact h2
        · exact h3 s hs hc
    · obtain ⟨b, hb, h1, h2, h3⟩ := own_max c L b0 h
      refine ⟨b, ?_, h1, h2, ?_⟩
      · rcases hb with rfl | hb
        · exact Or.inl rfl
        · exact Or.inr (List.mem_cons_of_mem _ hb)
      · intro s hs hc
        rcases List.mem_cons.mp hs with rfl | hs
        · omega
        · exact h3 s hs hc
/-- the numbers at which functions that ask only for the place among B are looked at -/
def samples (B : List Int32) : List Int32 := (-2147483648) :: (B ++ B.map (· + 1))
theorem same_some (B : List Int32) (hB : ∀ t ∈ B, (t + 1).toInt = t.toInt + 1) (c : Int32) : ∃ b ∈ samples B, Same B c b := by
  obtain ⟨b, hb, h1, h2, h3⟩ := own_max c (B ++ B.map (· + 1)) (-2147483648) (by have := Int32.le_toInt c; simpa using this)
  refine ⟨b, ?_, fun t ht => ?_⟩
  · rcases hb with rfl | hb
    · exact List.mem_cons_self ..
    · exact List.mem_cons_of_mem _ hb
  · have k1 := h3 t (List.mem_append_left _ ht)
    have k2 := h3 (t + 1) (List.mem_append_right _ (List.mem_map.mpr ⟨t, ht, rfl⟩))
    have k3 := hB t ht
    simp only [Int32.lt_iff_toInt_lt, ← Int32.toInt_inj]
    omega
end Jvm.OwnGo
namespace Jvm.Pilot.@@N@@
open Jvm Jvm.ClassFile Sem Op Lib Jvm.Free Jvm.Stand Jvm.LawKit Jvm.RoadKit Jvm.OwnGo Bundle Jvm.Pilot.@@N@@.Jvm.D
theorem d1_0 : decode prog_152_method_4_code 0 = .ok (.iload_n 0, 1) := by decide +kernel
theorem d1_1 : decode prog_152_method_4_code 1 = .ok (.bipush 97, 2) := by decide +kernel
theorem d1_3 : decode prog_152_method_4_code 3 = .ok (.if_icmp .lt 9, 3) := by decide +kernel
theorem d1_6 : decode prog_152_method_4_code 6 = .ok (.iload_n 0, 1) := by decide +kernel
theorem d1_7 : decode prog_152_method_4_code 7 = .ok (.bipush 122, 2) := by decide +kernel
theorem d1_9 : decode prog_152_method_4_code 9 = .ok (.if_icmp .le 182, 3) := by decide +kernel
theorem d1_12 : decode prog_152_method_4_code 12 = .ok (.iload_n 0, 1) := by decide +kernel
theorem d1_13 : decode prog_152_method_4_code 13 = .ok (.bipush 65, 2) := by decide +kernel
theorem d1_15 : decode prog_152_method_4_code 15 = .ok (.if_icmp .lt 9, 3) := by decide +kernel
theorem d1_18 : decode prog_152_method_4_code 18 = .ok (.iload_n 0, 1) := by decide +kernel
theorem d1_19 : decode prog_152_method_4_code 19 = .ok (.bipush 90, 2) := by decide +kernel
theorem d1_21 : decode prog_152_method_4_code 21 = .ok (.if_icmp .le 170, 3) := by decide +kernel
theorem d1_24 : decode prog_152_method_4_code 24 = .ok (.iload_n 0, 1) := by decide +kernel
theorem d1_25 : decode prog_152_method_4_code 25 = .ok (.bipush 95, 2) := by decide +kernel
theorem d1_27 : decode prog_152_method_4_code 27 = .ok (.if_icmp .eq 164, 3) := by decide +kernel
theorem d1_30 : decode prog_152_method_4_code 30 = .ok (.iload_n 0, 1) := by decide +kernel
theorem d1_31 : decode prog_152_method_4_code 31 = .ok (.sipush 192, 3) := by decide +kernel
theorem d1_34 : decode prog_152_method_4_code 34 = .ok (.if_icmp .lt 10, 3) := by decide +kernel
theorem d1_37 : decode prog_152_method_4_code 37 = .ok (.iload_n 0, 1) := by decide +kernel
theorem d1_38 : decode prog_152_method_4_code 38 = .ok (.sipush 214, 3) := by decide +kernel
theorem d1_41 : decode prog_152_method_4_code 41 = .ok (.if_icmp .le 150, 3) := by decide +kernel
theorem d1_44 : decode prog_152_method_4_code 44 = .ok (.iload_n 0, 1) := by decide +kernel
theorem d1_45 : decode prog_152_method_4_code 45 = .ok (.sipush 216, 3) := by decide +kernel
theorem d1_48 : decode prog_152_method_4_code 48 = .ok (.if_icmp .lt 10, 3) := by decide +kernel
theorem d1_51 : decode prog_152_method_4_code 51 = .ok (.iload_n 0, 1) := by decide +kernel
theorem d1_52 : decode prog_152_method_4_code 52 = .ok (.sipush 246, 3) := by decide +kernel
theorem d1_55 : decode prog_152_method_4_code 55 = .ok (.if_icmp .le 136, 3) := by decide +kernel
theorem d1_58 : decode prog_152_method_4_code 58 = .ok (.iload_n 0, 1) := by decide +kernel
theorem d1_59 : decode prog_152_method_4_code 59 = .ok (.sipush 248, 3) := by decide +kernel
theorem d1_62 : decode prog_152_method_4_code 62 = .ok (.if_icmp .lt 10, 3) := by decide +kernel
theorem d1_65 : decode prog_152_method_4_code 65 = .ok (.iload_n 0, 1) := by decide +kernel
theorem d1_66 : decode prog_152_method_4_code 66 = .ok (.sipush 767, 3) := by decide +kernel
theorem d1_69 : decode prog_152_method_4_code 69 = .ok (.if_icmp .le 122, 3) := by decide +kernel
theorem d1_72 : decode prog_152_method_4_code 72 = .ok (.iload_n 0, 1) := by decide +kernel
theorem d1_73 : decode prog_152_method_4_code 73 = .ok (.sipush 880, 3) := by decide +kernel
theorem d1_76 : decode prog_152_method_4_code 76 = .ok (.if_icmp .lt 10, 3) := by decide +kernel
theorem d1_79 : decode prog_152_method_4_code 79 = .ok (.iload_n 0, 1) := by decide +kernel
theorem d1_80 : decode prog_152_method_4_code 80 = .ok (.sipush 893, 3) := by decide +kernel
theorem d1_83 : decode prog_152_method_4_code 83 = .ok (.if_icmp .le 108, 3) := by decide +kernel
theorem d1_86 : decode prog_152_method_4_code 86 = .ok (.iload_n 0, 1) := by decide +kernel
theorem d1_87 : decode prog_152_method_4_code 87 = .ok (.sipush 895, 3) := by decide +kernel
theorem d1_90 : decode prog_152_method_4_code 90 = .ok (.if_icmp .lt 10, 3) := by decide +kernel
theorem d1_93 : decode prog_152_method_4_code 93 = .ok (.iload_n 0, 1) := by decide +kernel
theorem d1_94 : decode prog_152_method_4_code 94 = .ok (.sipush 8191, 3) := by decide +kernel
theorem d1_97 : decode prog_152_method_4_code 97 = .ok (.if_icmp .le 94, 3) := by decide +kernel
theorem d1_100 : decode prog_152_method_4_code 100 = .ok (.iload_n 0, 1) := by decide +kernel
theorem d1_101 : decode prog_152_method_4_code 101 = .ok (.sipush 8204, 3) := by decide +kernel
theorem d1_104 : decode prog_152_method_4_code 104 = .ok (.if_icmp .eq 87, 3) := by decide +kernel
theorem d1_107 : decode prog_152_method_4_code 107 = .ok (.iload_n 0, 1) := by decide +kernel
theorem d1_108 : decode prog_152_method_4_code 108 = .ok (.sipush 8205, 3) := by decide +kernel
theorem d1_111 : decode prog_152_method_4_code 111 = .ok (.if_icmp .eq 80, 3) := by decide +kernel
theorem d1_114 : decode prog_152_method_4_code 114 = .ok (.iload_n 0, 1) := by decide +kernel
theorem d1_115 : decode prog_152_method_4_code 115 = .ok (.sipush 8304, 3) := by decide +kernel
theorem d1_118 : decode prog_152_method_4_code 118 = .ok (.if_icmp .lt 10, 3) := by decide +kernel
theorem d1_121 : decode prog_152_method_4_code 121 = .ok (.iload_n 0, 1) := by decide +kernel
theorem d1_122 : decode prog_152_method_4_code 122 = .ok (.sipush 8591, 3) := by decide +kernel
theorem d1_125 : decode prog_152_method_4_code 125 = .ok (.if_icmp .le 66, 3) := by decide +kernel
theorem d1_128 : decode prog_152_method_4_code 128 = .ok (.iload_n 0, 1) := by decide +kernel
theorem d1_129 : decode prog_152_method_4_code 129 = .ok (.sipush 11264, 3) := by decide +kernel
theorem d1_132 : decode prog_152_method_4_code 132 = .ok (.if_icmp .lt 10, 3) := by decide +kernel
theorem d1_135 : decode prog_152_method_4_code 135 = .ok (.iload_n 0, 1) := by decide +kernel
theorem d1_136 : decode prog_152_method_4_code 136 = .ok (.sipush 12271, 3) := by decide +kernel
theorem d1_139 : decode prog_152_method_4_code 139 = .ok (.if_icmp .le 52, 3) := by decide +kernel
theorem d1_142 : decode prog_152_method_4_code 142 = .ok (.iload_n 0, 1) := by decide +kernel
theorem d1_143 : decode prog_152_method_4_code 143 = .ok (.sipush 12289, 3) := by decide +kernel
theorem d1_146 : decode prog_152_method_4_code 146 = .ok (.if_icmp .lt 9, 3) := by decide +kernel
theorem d1_149 : decode prog_152_method_4_code 149 = .ok (.iload_n 0, 1) := by decide +kernel
theorem d1_150 : decode prog_152_method_4_code 150 = .ok (.ldc 41, 2) := by decide +kernel
theorem d1_152 : decode prog_152_method_4_code 152 = .ok (.if_icmp .le 39, 3) := by decide +kernel
theorem d1_155 : decode prog_152_method_4_code 155 = .ok (.iload_n 0, 1) := by decide +kernel
theorem d1_156 : decode prog_152_method_4_code 156 = .ok (.ldc 42, 2) := by decide +kernel
theorem d1_158 : decode prog_152_method_4_code 158 = .ok (.if_icmp .lt 9, 3) := by decide +kernel
theorem d1_161 : decode prog_152_method_4_code 161 = .ok (.iload_n 0, 1) := by decide +kernel
theorem d1_162 : decode prog_152_method_4_code 162 = .ok (.ldc 43, 2) := by decide +kernel
theorem d1_164 : decode prog_152_method_4_code 164 = .ok (.if_icmp .le 27, 3) := by decide +kernel
theorem d1_167 : decode prog_152_method_4_code 167 = .ok (.iload_n 0, 1) := by decide +kernel
theorem d1_168 : decode prog_152_method_4_code 168 = .ok (.ldc 44, 2) := by decide +kernel
theorem d1_170 : decode prog_152_method_4_code 170 = .ok (.if_icmp .lt 9, 3) := by decide +kernel
theorem d1_173 : decode prog_152_method_4_code 173 = .ok (.iload_n 0, 1) := by decide +kernel
theorem d1_174 : decode prog_152_method_4_code 174 = .ok (.ldc 45, 2) := by decide +kernel
theorem d1_176 : decode prog_152_method_4_code 176 = .ok (.if_icmp .le 15, 3) := by decide +kernel
theorem d1_179 : decode prog_152_method_4_code 179 = .ok (.iload_n 0, 1) := by decide +kernel
theorem d1_180 : decode prog_152_method_4_code 180 = .ok (.ldc 46, 2) := by decide +kernel
theorem d1_182 : decode prog_152_method_4_code 182 = .ok (.if_icmp .lt 13, 3) := by decide +kernel
theorem d1_185 : decode prog_152_method_4_code 185 = .ok (.iload_n 0, 1) := by decide +kernel
theorem d1_186 : decode prog_152_method_4_code 186 = .ok (.ldc 47, 2) := by decide +kernel
theorem d1_188 : decode prog_152_method_4_code 188 = .ok (.if_icmp .gt 7, 3) := by decide +kernel
theorem d1_191 : decode prog_152_method_4_code 191 = .ok (.iconst 1, 1) := by decide +kernel
theorem d1_192 : decode prog_152_method_4_code 192 = .ok (.goto 4, 3) := by decide +kernel
theorem d1_195 : decode prog_152_method_4_code 195 = .ok (.iconst 0, 1) := by decide +kernel
theorem d1_196 : decode prog_152_method_4_code 196 = .ok (.ireturn, 1) := by decide +kernel
def r1 : Room := { frames := 0, cells := 0, slots := 0, locals := 0 }
theorem pd1 : parseMethodDescriptor "(I)Z" = some ⟨[.int], some .boolean⟩ := by decide +kernel
theorem pn1 : plainName "com/example/tall_tree/talltree/model/XmlNames" = true := by first | (simp [plainName, overriddenIn]; done) | decide +kernel
theorem ef1 (m : MethodId) (x0 : Int32) : entryFrame m #[(.int x0)] 1 = mkF m 0 #[.val (.int x0)] [] := by first | (simp [entryFrame, mkF, argsToLocals, Value.category]; done) | rfl
def f1_191 : Int32 := (1 : Int32)
theorem j1_191 {p : Program} {l : Launch} {e : Env} {s : State} {m : MethodId} {args : Array Value} {below : List Frame} {meth : Method} {c : Code} {n0 : Nat} {H : Heap → Prop} {h : Heap} {Z : State} {a0 : Array Value} (hw : ∀ d ∈ tables_1, d.before a0 Z = true) (hH : H h) (C : Cx p s m meth c Z "com/example/tall_tree/talltree/model/XmlNames" "isNameStart" prog_152_method_4_code (some .boolean) 1) (x0 : Int32) : Go p l e r1 s m args below meth c n0 (Ret n0 H (f1_191)) h 0 0 (mkF m 191 #[.val (.int x0)] []) := by
  unfold f1_191
  refine g_iconst C d1_191 (v := (1 : Int32)) (by decide) (pc' := 192) rfl ?_
  refine g_goto C d1_192 (by decide) (pc' := 196) (by decide) ?_
  exact g_retZ C d1_196 (by decide) hH (by decide) (by decide)
def f1_195 : Int32 := (0 : Int32)
theorem j1_195 {p : Program} {l : Launch} {e : Env} {s : State} {m : MethodId} {args : Array Value} {below : List Frame} {meth : Method} {c : Code} {n0 : Nat} {H : Heap → Prop} {h : Heap} {Z : State} {a0 : Array Value} (hw : ∀ d ∈ tables_1, d.before a0 Z = true) (hH : H h) (C : Cx p s m meth c Z "com/example/tall_tree/talltree/model/XmlNames" "isNameStart" prog_152_method_4_code (some .boolean) 1) (x0 : Int32) : Go p l e r1 s m args below meth c n0 (Ret n0 H (f1_195)) h 0 0 (mkF m 195 #[.val (.int x0)] []) := by
  unfold f1_195
  refine g_iconst C d1_195 (v := (0 : Int32)) (by decide) (pc' := 196) rfl ?_
  exact g_retZ C d1_196 (by decide) hH (by decide) (by decide)
def f1_179 (x0 : Int32) : Int32 := (if x0 < (65536 : Int32) then f1_195 else (if (983039 : Int32) < x0 then f1_195 else f1_191))
theorem j1_179 {p : Program} {l : Launch} {e : Env} {s : State} {m : MethodId} {args : Array Value} {below : List Frame} {meth : Method} {c : Code} {n0 : Nat} {H : Heap → Prop} {h : Heap} {Z : State} {a0 : Array Value} (hw : ∀ d ∈ tables_1, d.before a0 Z = true) (hH : H h) (C : Cx p s m meth c Z "com/example/tall_tree/talltree/model/XmlNames" "isNameStart" prog_152_method_4_code (some .boolean) 1) (x0 : Int32) : Go p l e r1 s m args below meth c n0 (Ret n0 H (f1_179 x0)) h 0 0 (mkF m 179 #[.val (.int x0)] []) := by
  unfold f1_179
  refine g_iloadN C d1_179 rfl (pc' := 180) rfl ?_
  refine g_ldc C (v := (65536 : Int32)) (hw _ (List.mem_of_getElem? (i := 7) rfl)) d1_180 (pc' := 182) rfl ?_
  refine g_icmp C d1_182 (c_lt x0 (65536 : Int32)) (by decide) (pc2 := 195) (by decide) (pc' := 185) rfl (fun hP => Go.pos ?_ hP) (fun hP => Go.neg ?_ hP)
  · exact j1_195 hw hH C x0
  · refine g_iloadN C d1_185 rfl (pc' := 186) rfl ?_
    refine g_ldc C (v := (983039 : Int32)) (hw _ (List.mem_of_getElem? (i := 28) rfl)) d1_186 (pc' := 188) rfl ?_
    refine g_icmp C d1_188 (c_gt x0 (983039 : Int32)) (by decide) (pc2 := 195) (by decide) (pc' := 191) rfl (fun hP => Go.pos ?_ hP) (fun hP => Go.neg ?_ hP)
    · exact j1_195 hw hH C x0
    · exact j1_191 hw hH C x0
def f1_167 (x0 : Int32) : Int32 := (if x0 < (65008 : Int32) then f1_179 x0 else (if ¬ (65533 : Int32) < x0 then f1_191 else f1_179 x0))
theorem j1_167 {p : Program} {l : Launch} {e : Env} {s : State} {m : MethodId} {args : Array Value} {below : List Frame} {meth : Method} {c : Code} {n0 : Nat} {H : Heap → Prop} {h : Heap} {Z : State} {a0 : Array Value} (hw : ∀ d ∈ tables_1, d.before a0 Z = true) (hH : H h) (C : Cx p s m meth c Z "com/example/tall_tree/talltree/model/XmlNames" "isNameStart" prog_152_method_4_code (some .boolean) 1) (x0 : Int32) : Go p l e r1 s m args below meth c n0 (Ret n0 H (f1_167 x0)) h 0 0 (mkF m 167 #[.val (.int x0)] []) := by
  unfold f1_167
  refine g_iloadN C d1_167 rfl (pc' := 168) rfl ?_
  refine g_ldc C (v := (65008 : Int32)) (hw _ (List.mem_of_getElem? (i := 6) rfl)) d1_168 (pc' := 170) rfl ?_
  refine g_icmp C d1_170 (c_lt x0 (65008 : Int32)) (by decide) (pc2 := 179) (by decide) (pc' := 173) rfl (fun hP => Go.pos ?_ hP) (fun hP => Go.neg ?_ hP)
  · exact j1_179 hw hH C x0
  · refine g_iloadN C d1_173 rfl (pc' := 174) rfl ?_
    refine g_ldc C (v := (65533 : Int32)) (hw _ (List.mem_of_getElem? (i := 27) rfl)) d1_174 (pc' := 176) rfl ?_
    refine g_icmp C d1_176 (c_le x0 (65533 : Int32)) (by decide) (pc2 := 191) (by decide) (pc' := 179) rfl (fun hP => Go.pos ?_ hP) (fun hP => Go.neg ?_ hP)
    · exact j1_191 hw hH C x0
    · exact j1_179 hw hH C x0
def f1_155 (x0 : Int32) : Int32 := (if x0 < (63744 : Int32) then f1_167 x0 else (if ¬ (64975 : Int32) < x0 then f1_191 else f1_167 x0))
theorem j1_155 {p : Program} {l : Launch} {e : Env} {s : State} {m : MethodId} {args : Array Value} {below : List Frame} {meth : Method} {c : Code} {n0 : Nat} {H : Heap → Prop} {h : Heap} {Z : State} {a0 : Array Value} (hw : ∀ d ∈ tables_1, d.before a0 Z = true) (hH : H h) (C : Cx p s m meth c Z "com/example/tall_tree/talltree/model/XmlNames" "isNameStart" prog_152_method_4_code (some .boolean) 1) (x0 : Int32) : Go p l e r1 s m args below meth c n0 (Ret n0 H (f1_155 x0)) h 0 0 (mkF m 155 #[.val (.int x0)] []) := by
  unfold f1_155
  refine g_iloadN C d1_155 rfl (pc' := 156) rfl ?_
  refine g_ldc C (v := (63744 : Int32)) (hw _ (List.mem_of_getElem? (i := 5) rfl)) d1_156 (pc' := 158) rfl ?_
  refine g_icmp C d1_158 (c_lt x0 (63744 : Int32)) (by decide) (pc2 := 167) (by decide) (pc' := 161) rfl (fun hP => Go.pos ?_ hP) (fun hP => Go.neg ?_ hP)
  · exact j1_167 hw hH C x0
  · refine g_iloadN C d1_161 rfl (pc' := 162) rfl ?_
    refine g_ldc C (v := (64975 : Int32)) (hw _ (List.mem_of_getElem? (i := 26) rfl)) d1_162 (pc' := 164) rfl ?_
    refine g_icmp C d1_164 (c_le x0 (64975 : Int32)) (by decide) (pc2 := 191) (by decide) (pc' := 167) rfl (fun hP => Go.pos ?_ hP) (fun hP => Go.neg ?_ hP)
    · exact j1_191 hw hH C x0
    · exact j1_167 hw hH C x0
def f1_142 (x0 : Int32) : Int32 := (if x0 < (12289 : Int32) then f1_155 x0 else (if ¬ (55295 : Int32) < x0 then f1_191 else f1_155 x0))
theorem j1_142 {p : Program} {l : Launch} {e : Env} {s : State} {m : MethodId} {args : Array Value} {below : List Frame} {meth : Method} {c : Code} {n0 : Nat} {H : Heap → Prop} {h : Heap} {Z : State} {a0 : Array Value} (hw : ∀ d ∈ tables_1, d.before a0 Z = true) (hH : H h) (C : Cx p s m meth c Z "com/example/tall_tree/talltree/model/XmlNames" "isNameStart" prog_152_method_4_code (some .boolean) 1) (x0 : Int32) : Go p l e r1 s m args below meth c n0 (Ret n0 H (f1_142 x0)) h 0 0 (mkF m 142 #[.val (.int x0)] []) := by
  unfold f1_142
  refine g_iloadN C d1_142 rfl (pc' := 143) rfl ?_
  refine g_sipush C d1_143 (v := (12289 : Int32)) (by decide) (pc' := 146) rfl ?_
  refine g_icmp C d1_146 (c_lt x0 (12289 : Int32)) (by decide) (pc2 := 155) (by decide) (pc' := 149) rfl (fun hP => Go.pos ?_ hP) (fun hP => Go.neg ?_ hP)
  · exact j1_155 hw hH C x0
  · refine g_iloadN C d1_149 rfl (pc' := 150) rfl ?_
    refine g_ldc C (v := (55295 : Int32)) (hw _ (List.mem_of_getElem? (i := 25) rfl)) d1_150 (pc' := 152) rfl ?_
    refine g_icmp C d1_152 (c_le x0 (55295 : Int32)) (by decide) (pc2 := 191) (by decide) (pc' := 155) rfl (fun hP => Go.pos ?_ hP) (fun hP => Go.neg ?_ hP)
    · exact j1_191 hw hH C x0
    · exact j1_155 hw hH C x0
def f1_128 (x0 : Int32) : Int32 := (if x0 < (11264 : Int32) then f1_142 x0 else (if ¬ (12271 : Int32) < x0 then f1_191 else f1_142 x0))
theorem j1_128 {p : Program} {l : Launch} {e : Env} {s : State} {m : MethodId} {args : Array Value} {below : List Frame} {meth : Method} {c : Code} {n0 : Nat} {H : Heap → Prop} {h : Heap} {Z : State} {a0 : Array Value} (hw : ∀ d ∈ tables_1, d.before a0 Z = true) (hH : H h) (C : Cx p s m meth c Z "com/example/tall_tree/talltree/model/XmlNames" "isNameStart" prog_152_method_4_code (some .boolean) 1) (x0 : Int32) : Go p l e r1 s m args below meth c n0 (Ret n0 H (f1_128 x0)) h 0 0 (mkF m 128 #[.val (.int x0)] []) := by
  unfold f1_128
  refine g_iloadN C d1_128 rfl (pc' := 129) rfl ?_
  refine g_sipush C d1_129 (v := (11264 : Int32)) (by decide) (pc' := 132) rfl ?_
  refine g_icmp C d1_132 (c_lt x0 (11264 : Int32)) (by decide) (pc2 := 142) (by decide) (pc' := 135) rfl (fun hP => Go.pos ?_ hP) (fun hP => Go.neg ?_ hP)
  · exact j1_142 hw hH C x0
  · refine g_iloadN C d1_135 rfl (pc' := 136) rfl ?_
    refine g_sipush C d1_136 (v := (12271 : Int32)) (by decide) (pc' := 139) rfl ?_
    refine g_icmp C d1_139 (c_le x0 (12271 : Int32)) (by decide) (pc2 := 191) (by decide) (pc' := 142) rfl (fun hP => Go.pos ?_ hP) (fun hP => Go.neg ?_ hP)
    · exact j1_191 hw hH C x0
    · exact j1_142 hw hH C x0
def f1_100 (x0 : Int32) : Int32 := (if x0 = (8204 : Int32) then f1_191 else (if x0 = (8205 : Int32) then f1_191 else (if x0 < (8304 : Int32) then f1_128 x0 else (if ¬ (8591 : Int32) < x0 then f1_191 else f1_128 x0))))
theorem j1_100 {p : Program} {l : Launch} {e : Env} {s : State} {m : MethodId} {args : Array Value} {below : List Frame} {meth : Method} {c : Code} {n0 : Nat} {H : Heap → Prop} {h : Heap} {Z : State} {a0 : Array Value} (hw : ∀ d ∈ tables_1, d.before a0 Z = true) (hH : H h) (C : Cx p s m meth c Z "com/example/tall_tree/talltree/model/XmlNames" "isNameStart" prog_152_method_4_code (some .boolean) 1) (x0 : Int32) : Go p l e r1 s m args below meth c n0 (Ret n0 H (f1_100 x0)) h 0 0 (mkF m 100 #[.val (.int x0)] []) := by
  unfold f1_100
  refine g_iloadN C d1_100 rfl (pc' := 101) rfl ?_
  refine g_sipush C d1_101 (v := (8204 : Int32)) (by decide) (pc' := 104) rfl ?_
  refine g_icmp C d1_104 (c_eq x0 (8204 : Int32)) (by decide) (pc2 := 191) (by decide) (pc' := 107) rfl (fun hP => Go.pos ?_ hP) (fun hP => Go.neg ?_ hP)
  · exact j1_191 hw hH C x0
  · refine g_iloadN C d1_107 rfl (pc' := 108) rfl ?_
    refine g_sipush C d1_108 (v := (8205 : Int32)) (by decide) (pc' := 111) rfl ?_
    refine g_icmp C d1_111 (c_eq x0 (8205 : Int32)) (by decide) (pc2 := 191) (by decide) (pc' := 114) rfl (fun hP => Go.pos ?_ hP) (fun hP => Go.neg ?_ hP)
    · exact j1_191 hw hH C x0
    · refine g_iloadN C d1_114 rfl (pc' := 115) rfl ?_
      refine g_sipush C d1_115 (v := (8304 : Int32)) (by decide) (pc' := 118) rfl ?_
      refine g_icmp C d1_118 (c_lt x0 (8304 : Int32)) (by decide) (pc2 := 128) (by decide) (pc' := 121) rfl (fun hP => Go.pos ?_ hP) (fun hP => Go.neg ?_ hP)
      · exact j1_128 hw hH C x0
      · refine g_iloadN C d1_121 rfl (pc' := 122) rfl ?_
        refine g_sipush C d1_122 (v := (8591 : Int32)) (by decide) (pc' := 125) rfl ?_
        refine g_icmp C d1_125 (c_le x0 (8591 : Int32)) (by decide) (pc2 := 191) (by decide) (pc' := 128) rfl (fun hP => Go.pos ?_ hP) (fun hP => Go.neg ?_ hP)
        · exact j1_191 hw hH C x0
        · exact j1_128 hw hH C x0
def f1_86 (x0 : Int32) : Int32 := (if x0 < (895 : Int32) then f1_100 x0 else (if ¬ (8191 : Int32) < x0 then f1_191 else f1_100 x0))
theorem j1_86 {p : Program} {l : Launch} {e : Env} {s : State} {m : MethodId} {args : Array Value} {below : List Frame} {meth : Method} {c : Code} {n0 : Nat} {H : Heap → Prop} {h : Heap} {Z : State} {a0 : Array Value} (hw : ∀ d ∈ tables_1, d.before a0 Z = true) (hH : H h) (C : Cx p s m meth c Z "com/example/tall_tree/talltree/model/XmlNames" "isNameStart" prog_152_method_4_code (some .boolean) 1) (x0 : Int32) : Go p l e r1 s m args below meth c n0 (Ret n0 H (f1_86 x0)) h 0 0 (mkF m 86 #[.val (.int x0)] []) := by
  unfold f1_86
  refine g_iloadN C d1_86 rfl (pc' := 87) rfl ?_
  refine g_sipush C d1_87 (v := (895 : Int32)) (by decide) (pc' := 90) rfl ?_
  refine g_icmp C d1_90 (c_lt x0 (895 : Int32)) (by decide) (pc2 := 100) (by decide) (pc' := 93) rfl (fun hP => Go.pos ?_ hP) (fun hP => Go.neg ?_ hP)
  · exact j1_100 hw hH C x0
  · refine g_iloadN C d1_93 rfl (pc' := 94) rfl ?_
    refine g_sipush C d1_94 (v := (8191 : Int32)) (by decide) (pc' := 97) rfl ?_
    refine g_icmp C d1_97 (c_le x0 (8191 : Int32)) (by decide) (pc2 := 191) (by decide) (pc' := 100) rfl (fun hP => Go.pos ?_ hP) (fun hP => Go.neg ?_ hP)
    · exact j1_191 hw hH C x0
    · exact j1_100 hw hH C x0
def f1_72 (x0 : Int32) : Int32 := (if x0 < (880 : Int32) then f1_86 x0 else (if ¬ (893 : Int32) < x0 then f1_191 else f1_86 x0))
theorem j1_72 {p : Program} {l : Launch} {e : Env} {s : State} {m : MethodId} {args : Array Value} {below : List Frame} {meth : Method} {c : Code} {n0 : Nat} {H : Heap → Prop} {h : Heap} {Z : State} {a0 : Array Value} (hw : ∀ d ∈ tables_1, d.before a0 Z = true) (hH : H h) (C : Cx p s m meth c Z "com/example/tall_tree/talltree/model/XmlNames" "isNameStart" prog_152_method_4_code (some .boolean) 1) (x0 : Int32) : Go p l e r1 s m args below meth c n0 (Ret n0 H (f1_72 x0)) h 0 0 (mkF m 72 #[.val (.int x0)] []) := by
  unfold f1_72
  refine g_iloadN C d1_72 rfl (pc' := 73) rfl ?_
  refine g_sipush C d1_73 (v := (880 : Int32)) (by decide) (pc' := 76) rfl ?_
  refine g_icmp C d1_76 (c_lt x0 (880 : Int32)) (by decide) (pc2 := 86) (by decide) (pc' := 79) rfl (fun hP => Go.pos ?_ hP) (fun hP => Go.neg ?_ hP)
  · exact j1_86 hw hH C x0
  · refine g_iloadN C d1_79 rfl (pc' := 80) rfl ?_
    refine g_sipush C d1_80 (v := (893 : Int32)) (by decide) (pc' := 83) rfl ?_
    refine g_icmp C d1_83 (c_le x0 (893 : Int32)) (by decide) (pc2 := 191) (by decide) (pc' := 86) rfl (fun hP => Go.pos ?_ hP) (fun hP => Go.neg ?_ hP)
    · exact j1_191 hw hH C x0
    · exact j1_86 hw hH C x0
def f1_58 (x0 : Int32) : Int32 := (if x0 < (248 : Int32) then f1_72 x0 else (if ¬ (767 : Int32) < x0 then f1_191 else f1_72 x0))
theorem j1_58 {p : Program} {l : Launch} {e : Env} {s : State} {m : MethodId} {args : Array Value} {below : List Frame} {meth : Method} {c : Code} {n0 : Nat} {H : Heap → Prop} {h : Heap} {Z : State} {a0 : Array Value} (hw : ∀ d ∈ tables_1, d.before a0 Z = true) (hH : H h) (C : Cx p s m meth c Z "com/example/tall_tree/talltree/model/XmlNames" "isNameStart" prog_152_method_4_code (some .boolean) 1) (x0 : Int32) : Go p l e r1 s m args below meth c n0 (Ret n0 H (f1_58 x0)) h 0 0 (mkF m 58 #[.val (.int x0)] []) := by
  unfold f1_58
  refine g_iloadN C d1_58 rfl (pc' := 59) rfl ?_
  refine g_sipush C d1_59 (v := (248 : Int32)) (by decide) (pc' := 62) rfl ?_
  refine g_icmp C d1_62 (c_lt x0 (248 : Int32)) (by decide) (pc2 := 72) (by decide) (pc' := 65) rfl (fun hP => Go.pos ?_ hP) (fun hP => Go.neg ?_ hP)
  · exact j1_72 hw hH C x0
  · refine g_iloadN C d1_65 rfl (pc' := 66) rfl ?_
    refine g_sipush C d1_66 (v := (767 : Int32)) (by decide) (pc' := 69) rfl ?_
    refine g_icmp C d1_69 (c_le x0 (767 : Int32)) (by decide) (pc2 := 191) (by decide) (pc' := 72) rfl (fun hP => Go.pos ?_ hP) (fun hP => Go.neg ?_ hP)
    · exact j1_191 hw hH C x0
    · exact j1_72 hw hH C x0
def f1_44 (x0 : Int32) : Int32 := (if x0 < (216 : Int32) then f1_58 x0 else (if ¬ (246 : Int32) < x0 then f1_191 else f1_58 x0))
theorem j1_44 {p : Program} {l : Launch} {e : Env} {s : State} {m : MethodId} {args : Array Value} {below : List Frame} {meth : Method} {c : Code} {n0 : Nat} {H : Heap → Prop} {h : Heap} {Z : State} {a0 : Array Value} (hw : ∀ d ∈ tables_1, d.before a0 Z = true) (hH : H h) (C : Cx p s m meth c Z "com/example/tall_tree/talltree/model/XmlNames" "isNameStart" prog_152_method_4_code (some .boolean) 1) (x0 : Int32) : Go p l e r1 s m args below meth c n0 (Ret n0 H (f1_44 x0)) h 0 0 (mkF m 44 #[.val (.int x0)] []) := by
  unfold f1_44
  refine g_iloadN C d1_44 rfl (pc' := 45) rfl ?_
  refine g_sipush C d1_45 (v := (216 : Int32)) (by decide) (pc' := 48) rfl ?_
  refine g_icmp C d1_48 (c_lt x0 (216 : Int32)) (by decide) (pc2 := 58) (by decide) (pc' := 51) rfl (fun hP => Go.pos ?_ hP) (fun hP => Go.neg ?_ hP)
  · exact j1_58 hw hH C x0
  · refine g_iloadN C d1_51 rfl (pc' := 52) rfl ?_
    refine g_sipush C d1_52 (v := (246 : Int32)) (by decide) (pc' := 55) rfl ?_
    refine g_icmp C d1_55 (c_le x0 (246 : Int32)) (by decide) (pc2 := 191) (by decide) (pc' := 58) rfl (fun hP => Go.pos ?_ hP) (fun hP => Go.neg ?_ hP)
    · exact j1_191 hw hH C x0
    · exact j1_58 hw hH C x0
def f1_24 (x0 : Int32) : Int32 := (if x0 = (95 : Int32) then f1_191 else (if x0 < (192 : Int32) then f1_44 x0 else (if ¬ (214 : Int32) < x0 then f1_191 else f1_44 x0)))
theorem j1_24 {p : Program} {l : Launch} {e : Env} {s : State} {m : MethodId} {args : Array Value} {below : List Frame} {meth : Method} {c : Code} {n0 : Nat} {H : Heap → Prop} {h : Heap} {Z : State} {a0 : Array Value} (hw : ∀ d ∈ tables_1, d.before a0 Z = true) (hH : H h) (C : Cx p s m meth c Z "com/example/tall_tree/talltree/model/XmlNames" "isNameStart" prog_152_method_4_code (some .boolean) 1) (x0 : Int32) : Go p l e r1 s m args below meth c n0 (Ret n0 H (f1_24 x0)) h 0 0 (mkF m 24 #[.val (.int x0)] []) := by
  unfold f1_24
  refine g_iloadN C d1_24 rfl (pc' := 25) rfl ?_
  refine g_bipush C d1_25 (v := (95 : Int32)) (by decide) (pc' := 27) rfl ?_
  refine g_icmp C d1_27 (c_eq x0 (95 : Int32)) (by decide) (pc2 := 191) (by decide) (pc' := 30) rfl (fun hP => Go.pos ?_ hP) (fun hP => Go.neg ?_ hP)
  · exact j1_191 hw hH C x0
  · refine g_iloadN C d1_30 rfl (pc' := 31) rfl ?_
    refine g_sipush C d1_31 (v := (192 : Int32)) (by decide) (pc' := 34) rfl ?_
    refine g_icmp C d1_34 (c_lt x0 (192 : Int32)) (by decide) (pc2 := 44) (by decide) (pc' := 37) rfl (fun hP => Go.pos ?_ hP) (fun hP => Go.neg ?_ hP)
    · exact j1_44 hw hH C x0
    · refine g_iloadN C d1_37 rfl (pc' := 38) rfl ?_
      refine g_sipush C d1_38 (v := (214 : Int32)) (by decide) (pc' := 41) rfl ?_
      refine g_icmp C d1_41 (c_le x0 (214 : Int32)) (by decide) (pc2 := 191) (by decide) (pc' := 44) rfl (fun hP => Go.pos ?_ hP) (fun hP => Go.neg ?_ hP)
      · exact j1_191 hw hH C x0
      · exact j1_44 hw hH C x0
def f1_12 (x0 : Int32) : Int32 := (if x0 < (65 : Int32) then f1_24 x0 else (if ¬ (90 : Int32) < x0 then f1_191 else f1_24 x0))
theorem j1_12 {p : Program} {l : Launch} {e : Env} {s : State} {m : MethodId} {args : Array Value} {below : List Frame} {meth : Method} {c : Code} {n0 : Nat} {H : Heap → Prop} {h : Heap} {Z : State} {a0 : Array Value} (hw : ∀ d ∈ tables_1, d.before a0 Z = true) (hH : H h) (C : Cx p s m meth c Z "com/example/tall_tree/talltree/model/XmlNames" "isNameStart" prog_152_method_4_code (some .boolean) 1) (x0 : Int32) : Go p l e r1 s m args below meth c n0 (Ret n0 H (f1_12 x0)) h 0 0 (mkF m 12 #[.val (.int x0)] []) := by
  unfold f1_12
  refine g_iloadN C d1_12 rfl (pc' := 13) rfl ?_
  refine g_bipush C d1_13 (v := (65 : Int32)) (by decide) (pc' := 15) rfl ?_
  refine g_icmp C d1_15 (c_lt x0 (65 : Int32)) (by decide) (pc2 := 24) (by decide) (pc' := 18) rfl (fun hP => Go.pos ?_ hP) (fun hP => Go.neg ?_ hP)
  · exact j1_24 hw hH C x0
  · refine g_iloadN C d1_18 rfl (pc' := 19) rfl ?_
    refine g_bipush C d1_19 (v := (90 : Int32)) (by decide) (pc' := 21) rfl ?_
    refine g_icmp C d1_21 (c_le x0 (90 : Int32)) (by decide) (pc2 := 191) (by decide) (pc' := 24) rfl (fun hP => Go.pos ?_ hP) (fun hP => Go.neg ?_ hP)
    · exact j1_191 hw hH C x0
    · exact j1_24 hw hH C x0
def f1_0 (x0 : Int32) : Int32 := (if x0 < (97 : Int32) then f1_12 x0 else (if ¬ (122 : Int32) < x0 then f1_191 else f1_12 x0))
theorem j1_0 {p : Program} {l : Launch} {e : Env} {s : State} {m : MethodId} {args : Array Value} {below : List Frame} {meth : Method} {c : Code} {n0 : Nat} {H : Heap → Prop} {h : Heap} {Z : State} {a0 : Array Value} (hw : ∀ d ∈ tables_1, d.before a0 Z = true) (hH : H h) (C : Cx p s m meth c Z "com/example/tall_tree/talltree/model/XmlNames" "isNameStart" prog_152_method_4_code (some .boolean) 1) (x0 : Int32) : Go p l e r1 s m args below meth c n0 (Ret n0 H (f1_0 x0)) h 0 0 (mkF m 0 #[.val (.int x0)] []) := by
  unfold f1_0
  refine g_iloadN C d1_0 rfl (pc' := 1) rfl ?_
  refine g_bipush C d1_1 (v := (97 : Int32)) (by decide) (pc' := 3) rfl ?_
  refine g_icmp C d1_3 (c_lt x0 (97 : Int32)) (by decide) (pc2 := 12) (by decide) (pc' := 6) rfl (fun hP => Go.pos ?_ hP) (fun hP => Go.neg ?_ hP)
  · exact j1_12 hw hH C x0
  · refine g_iloadN C d1_6 rfl (pc' := 7) rfl ?_
    refine g_bipush C d1_7 (v := (122 : Int32)) (by decide) (pc' := 9) rfl ?_
    refine g_icmp C d1_9 (c_le x0 (122 : Int32)) (by decide) (pc2 := 191) (by decide) (pc' := 12) rfl (fun hP => Go.pos ?_ hP) (fun hP => Go.neg ?_ hP)
    · exact j1_191 hw hH C x0
    · exact j1_12 hw hH C x0
theorem rm1 (l : Launch) (Z : State) (a0 : Array Value) (hw : ∀ d ∈ tables_1, d.before a0 Z = true) (ws : List Jvm.Cond) (h : Heap) (n0 : Nat) (x0 : Int32) : Con l Z (⟨"com/example/tall_tree/talltree/model/XmlNames", "isNameStart", "(I)Z"⟩ : MethodName) prog_152_method_4_code 1 (some .boolean) r1 ws #[(.int x0)] h (Ret n0 (· = h) (f1_0 x0)) :=
  con_of n0 pn1 (fun m => ef1 m x0) fun p e s m below meth c C => j1_0 (H := (· = h)) hw rfl C x0
theorem d3_0 : decode method_2_code 0 = .ok (.iload_n 0, 1) := by decide +kernel
theorem d3_1 : decode method_2_code 1 = .ok (.iload_n 1, 1) := by decide +kernel
theorem d3_2 : decode method_2_code 2 = .ok (.if_icmp .lt 12, 3) := by decide +kernel
theorem d3_5 : decode method_2_code 5 = .ok (.iload_n 0, 1) := by decide +kernel
theorem d3_6 : decode method_2_code 6 = .ok (.iload_n 2, 1) := by decide +kernel
theorem d3_7 : decode method_2_code 7 = .ok (.if_icmp .gt 7, 3) := by decide +kernel
theorem d3_10 : decode method_2_code 10 = .ok (.iconst 1, 1) := by decide +kernel
theorem d3_11 : decode method_2_code 11 = .ok (.goto 4, 3) := by decide +kernel
theorem d3_14 : decode method_2_code 14 = .ok (.iconst 0, 1) := by decide +kernel
theorem d3_15 : decode method_2_code 15 = .ok (.ireturn, 1) := by decide +kernel
def r3 : Room := { frames := 0, cells := 0, slots := 0, locals := 0 }
theorem pd3 : parseMethodDescriptor "(III)Z" = some ⟨[.int, .int, .int], some .boolean⟩ := by decide +kernel
theorem pn3 : plainName "com/example/tall_tree/talltree/model/XmlNamesIsNameStartPinLaw" = true := by first | (simp [plainName, overriddenIn]; done) | decide +kernel
theorem ef3 (m : MethodId) (x0 x1 x2 : Int32) : entryFrame m #[(.int x0), (.int x1), (.int x2)] 3 = mkF m 0 #[.val (.int x0), .val (.int x1), .val (.int x2)] [] := by first | (simp [entryFrame, mkF, argsToLocals, Value.category]; done) | rfl
def f3_14 : Int32 := (0 : Int32)
theorem j3_14 {p : Program} {l : Launch} {e : Env} {s : State} {m : MethodId} {args : Array Value} {below : List Frame} {meth : Method} {c : Code} {n0 : Nat} {H : Heap → Prop} {h : Heap} {Z : State} {a0 : Array Value} (hw : ∀ d ∈ tables_1, d.before a0 Z = true) (hH : H h) (C : Cx p s m meth c Z "com/example/tall_tree/talltree/model/XmlNamesIsNameStartPinLaw" "in" method_2_code (some .boolean) 3) (x0 : Int32) (x1 : Int32) (x2 : Int32) : Go p l e r3 s m args below meth c n0 (Ret n0 H (f3_14)) h 0 0 (mkF m 14 #[.val (.int x0), .val (.int x1), .val (.int x2)] []) := by
  unfold f3_14
  refine g_iconst C d3_14 (v := (0 : Int32)) (by decide) (pc' := 15) rfl ?_
  exact g_retZ C d3_15 (by decide) hH (by decide) (by decide)
def f3_0 (x0 x1 x2 : Int32) : Int32 := (if x0 < x1 then f3_14 else (if x2 < x0 then f3_14 else (1 : Int32)))
theorem j3_0 {p : Program} {l : Launch} {e : Env} {s : State} {m : MethodId} {args : Array Value} {below : List Frame} {meth : Method} {c : Code} {n0 : Nat} {H : Heap → Prop} {h : Heap} {Z : State} {a0 : Array Value} (hw : ∀ d ∈ tables_1, d.before a0 Z = true) (hH : H h) (C : Cx p s m meth c Z "com/example/tall_tree/talltree/model/XmlNamesIsNameStartPinLaw" "in" method_2_code (some .boolean) 3) (x0 : Int32) (x1 : Int32) (x2 : Int32) : Go p l e r3 s m args below meth c n0 (Ret n0 H (f3_0 x0 x1 x2)) h 0 0 (mkF m 0 #[.val (.int x0), .val (.int x1), .val (.int x2)] []) := by
  unfold f3_0
  refine g_iloadN C d3_0 rfl (pc' := 1) rfl ?_
  refine g_iloadN C d3_1 rfl (pc' := 2) rfl ?_
  refine g_icmp C d3_2 (c_lt x0 x1) (by decide) (pc2 := 14) (by decide) (pc' := 5) rfl (fun hP => Go.pos ?_ hP) (fun hP => Go.neg ?_ hP)
  · exact j3_14 hw hH C x0 x1 x2
  · refine g_iloadN C d3_5 rfl (pc' := 6) rfl ?_
    refine g_iloadN C d3_6 rfl (pc' := 7) rfl ?_
    refine g_icmp C d3_7 (c_gt x0 x2) (by decide) (pc2 := 14) (by decide) (pc' := 10) rfl (fun hP => Go.pos ?_ hP) (fun hP => Go.neg ?_ hP)
    · exact j3_14 hw hH C x0 x1 x2
    · refine g_iconst C d3_10 (v := (1 : Int32)) (by decide) (pc' := 11) rfl ?_
      refine g_goto C d3_11 (by decide) (pc' := 15) (by decide) ?_
      exact g_retZ C d3_15 (by decide) hH (by decide) (by decide)
theorem rm3 (l : Launch) (Z : State) (a0 : Array Value) (hw : ∀ d ∈ tables_1, d.before a0 Z = true) (ws : List Jvm.Cond) (h : Heap) (n0 : Nat) (x0 x1 x2 : Int32) : Con l Z (⟨"com/example/tall_tree/talltree/model/XmlNamesIsNameStartPinLaw", "in", "(III)Z"⟩ : MethodName) method_2_code 3 (some .boolean) r3 ws #[(.int x0), (.int x1), (.int x2)] h (Ret n0 (· = h) (f3_0 x0 x1 x2)) :=
  con_of n0 pn3 (fun m => ef3 m x0 x1 x2) fun p e s m below meth c C => j3_0 (H := (· = h)) hw rfl C x0 x1 x2
theorem d4_0 : decode method_3_code 0 = .ok (.iload_n 0, 1) := by decide +kernel
theorem d4_1 : decode method_3_code 1 = .ok (.bipush 91, 2) := by decide +kernel
theorem d4_3 : decode method_3_code 3 = .ok (.bipush 94, 2) := by decide +kernel
theorem d4_5 : decode method_3_code 5 = .ok (.invokestatic 7, 3) := by decide +kernel
theorem d4_8 : decode method_3_code 8 = .ok (.ifCond .ne 140, 3) := by decide +kernel
theorem d4_11 : decode method_3_code 11 = .ok (.iload_n 0, 1) := by decide +kernel
theorem d4_12 : decode method_3_code 12 = .ok (.bipush 96, 2) := by decide +kernel
theorem d4_14 : decode method_3_code 14 = .ok (.if_icmp .eq 134, 3) := by decide +kernel
theorem d4_17 : decode method_3_code 17 = .ok (.iload_n 0, 1) := by decide +kernel
theorem d4_18 : decode method_3_code 18 = .ok (.bipush 123, 2) := by decide +kernel
theorem d4_20 : decode method_3_code 20 = .ok (.sipush 191, 3) := by decide +kernel
theorem d4_23 : decode method_3_code 23 = .ok (.invokestatic 7, 3) := by decide +kernel
theorem d4_26 : decode method_3_code 26 = .ok (.ifCond .ne 122, 3) := by decide +kernel
theorem d4_29 : decode method_3_code 29 = .ok (.iload_n 0, 1) := by decide +kernel
theorem d4_30 : decode method_3_code 30 = .ok (.sipush 215, 3) := by decide +kernel
theorem d4_33 : decode method_3_code 33 = .ok (.if_icmp .eq 115, 3) := by decide +kernel
theorem d4_36 : decode method_3_code 36 = .ok (.iload_n 0, 1) := by decide +kernel
theorem d4_37 : decode method_3_code 37 = .ok (.sipush 247, 3) := by decide +kernel
theorem d4_40 : decode method_3_code 40 = .ok (.if_icmp .eq 108, 3) := by decide +kernel
theorem d4_43 : decode method_3_code 43 = .ok (.iload_n 0, 1) := by decide +kernel
theorem d4_44 : decode method_3_code 44 = .ok (.sipush 768, 3) := by decide +kernel
theorem d4_47 : decode method_3_code 47 = .ok (.sipush 879, 3) := by decide +kernel
theorem d4_50 : decode method_3_code 50 = .ok (.invokestatic 7, 3) := by decide +kernel
theorem d4_53 : decode method_3_code 53 = .ok (.ifCond .ne 95, 3) := by decide +kernel
theorem d4_56 : decode method_3_code 56 = .ok (.iload_n 0, 1) := by decide +kernel
theorem d4_57 : decode method_3_code 57 = .ok (.sipush 894, 3) := by decide +kernel
theorem d4_60 : decode method_3_code 60 = .ok (.if_icmp .eq 88, 3) := by decide +kernel
theorem d4_63 : decode method_3_code 63 = .ok (.iload_n 0, 1) := by decide +kernel
theorem d4_64 : decode method_3_code 64 = .ok (.sipush 8192, 3) := by decide +kernel
theorem d4_67 : decode method_3_code 67 = .ok (.sipush 8203, 3) := by decide +kernel
theorem d4_70 : decode method_3_code 70 = .ok (.invokestatic 7, 3) := by decide +kernel
theorem d4_73 : decode method_3_code 73 = .ok (.ifCond .ne 75, 3) := by decide +kernel
theorem d4_76 : decode method_3_code 76 = .ok (.iload_n 0, 1) := by decide +kernel
theorem d4_77 : decode method_3_code 77 = .ok (.sipush 8206, 3) := by decide +kernel
theorem d4_80 : decode method_3_code 80 = .ok (.sipush 8303, 3) := by decide +kernel
theorem d4_83 : decode method_3_code 83 = .ok (.invokestatic 7, 3) := by decide +kernel
theorem d4_86 : decode method_3_code 86 = .ok (.ifCond .ne 62, 3) := by decide +kernel
theorem d4_89 : decode method_3_code 89 = .ok (.iload_n 0, 1) := by decide +kernel
theorem d4_90 : decode method_3_code 90 = .ok (.sipush 8592, 3) := by decide +kernel
theorem d4_93 : decode method_3_code 93 = .ok (.sipush 11263, 3) := by decide +kernel
theorem d4_96 : decode method_3_code 96 = .ok (.invokestatic 7, 3) := by decide +kernel
theorem d4_99 : decode method_3_code 99 = .ok (.ifCond .ne 49, 3) := by decide +kernel
theorem d4_102 : decode method_3_code 102 = .ok (.iload_n 0, 1) := by decide +kernel
theorem d4_103 : decode method_3_code 103 = .ok (.sipush 12272, 3) := by decide +kernel
theorem d4_106 : decode method_3_code 106 = .ok (.sipush 12288, 3) := by decide +kernel
theorem d4_109 : decode method_3_code 109 = .ok (.invokestatic 7, 3) := by decide +kernel
theorem d4_112 : decode method_3_code 112 = .ok (.ifCond .ne 36, 3) := by decide +kernel
theorem d4_115 : decode method_3_code 115 = .ok (.iload_n 0, 1) := by decide +kernel
theorem d4_116 : decode method_3_code 116 = .ok (.ldc 13, 2) := by decide +kernel
theorem d4_118 : decode method_3_code 118 = .ok (.ldc 14, 2) := by decide +kernel
theorem d4_120 : decode method_3_code 120 = .ok (.invokestatic 7, 3) := by decide +kernel
theorem d4_123 : decode method_3_code 123 = .ok (.ifCond .ne 25, 3) := by decide +kernel
theorem d4_126 : decode method_3_code 126 = .ok (.iload_n 0, 1) := by decide +kernel
theorem d4_127 : decode method_3_code 127 = .ok (.ldc 15, 2) := by decide +kernel
theorem d4_129 : decode method_3_code 129 = .ok (.ldc 16, 2) := by decide +kernel
theorem d4_131 : decode method_3_code 131 = .ok (.invokestatic 7, 3) := by decide +kernel
theorem d4_134 : decode method_3_code 134 = .ok (.ifCond .ne 14, 3) := by decide +kernel
theorem d4_137 : decode method_3_code 137 = .ok (.iload_n 0, 1) := by decide +kernel
theorem d4_138 : decode method_3_code 138 = .ok (.ldc 17, 2) := by decide +kernel
theorem d4_140 : decode method_3_code 140 = .ok (.ldc 18, 2) := by decide +kernel
theorem d4_142 : decode method_3_code 142 = .ok (.invokestatic 7, 3) := by decide +kernel
theorem d4_145 : decode method_3_code 145 = .ok (.ifCond .eq 7, 3) := by decide +kernel
theorem d4_148 : decode method_3_code 148 = .ok (.iconst 1, 1) := by decide +kernel
theorem d4_149 : decode method_3_code 149 = .ok (.goto 4, 3) := by decide +kernel
theorem d4_152 : decode method_3_code 152 = .ok (.iconst 0, 1) := by decide +kernel
theorem d4_153 : decode method_3_code 153 = .ok (.ireturn, 1) := by decide +kernel
def r4 : Room := { frames := 1, cells := 0, slots := 0, locals := 16 }
theorem pd4 : parseMethodDescriptor "(I)Z" = some ⟨[.int], some .boolean⟩ := by decide +kernel
theorem pn4 : plainName "com/example/tall_tree/talltree/model/XmlNamesIsNameStartPinLaw" = true := by first | (simp [plainName, overriddenIn]; done) | decide +kernel
theorem ef4 (m : MethodId) (x0 : Int32) : entryFrame m #[(.int x0)] 1 = mkF m 0 #[.val (.int x0)] [] := by first | (simp [entryFrame, mkF, argsToLocals, Value.category]; done) | rfl
def f4_148 : Int32 := (1 : Int32)
theorem j4_148 {p : Program} {l : Launch} {e : Env} {s : State} {m : MethodId} {args : Array Value} {below : List Frame} {meth : Method} {c : Code} {n0 : Nat} {H : Heap → Prop} {h : Heap} {Z : State} {a0 : Array Value} (hw : ∀ d ∈ tables_1, d.before a0 Z = true) (hH : H h) (C : Cx p s m meth c Z "com/example/tall_tree/talltree/model/XmlNamesIsNameStartPinLaw" "gap" method_3_code (some .boolean) 1) (x0 : Int32) : Go p l e r4 s m args below meth c n0 (Ret n0 H (f4_148)) h 0 0 (mkF m 148 #[.val (.int x0)] []) := by
  unfold f4_148
  refine g_iconst C d4_148 (v := (1 : Int32)) (by decide) (pc' := 149) rfl ?_
  refine g_goto C d4_149 (by decide) (pc' := 153) (by decide) ?_
  exact g_retZ C d4_153 (by decide) hH (by decide) (by decide)
def f4_0 (x0 : Int32) : Int32 := (if ¬ (f3_0 x0 (91 : Int32) (94 : Int32)) = (0 : Int32) then f4_148 else (if x0 = (96 : Int32) then f4_148 else (if ¬ (f3_0 x0 (123 : Int32) (191 : Int32)) = (0 : Int32) then f4_148 else (if x0 = (215 : Int32) then f4_148 else (if x0 = (247 : Int32) then f4_148 else (if ¬ (f3_0 x0 (768 : Int32) (879 : Int32)) = (0 : Int32) then f4_148 else (if x0 = (894 : Int32) then f4_148 else (if ¬ (f3_0 x0 (8192 : Int32) (8203 : Int32)) = (0 : Int32) then f4_148 else (if ¬ (f3_0 x0 (8206 : Int32) (8303 : Int32)) = (0 : Int32) then f4_148 else (if ¬ (f3_0 x0 (8592 : Int32) (11263 : Int32)) = (0 : Int32) then f4_148 else (if ¬ (f3_0 x0 (12272 : Int32) (12288 : Int32)) = (0 : Int32) then f4_148 else (if ¬ (f3_0 x0 (55296 : Int32) (63743 : Int32)) = (0 : Int32) then f4_148 else (if ¬ (f3_0 x0 (64976 : Int32) (65007 : Int32)) = (0 : Int32) then f4_148 else (if (f3_0 x0 (65534 : Int32) (65535 : Int32)) = (0 : Int32) then (0 : Int32) else f4_148))))))))))))))
theorem j4_0 {p : Program} {l : Launch} {e : Env} {s : State} {m : MethodId} {args : Array Value} {below : List Frame} {meth : Method} {c : Code} {n0 : Nat} {H : Heap → Prop} {h : Heap} {Z : State} {a0 : Array Value} (hw : ∀ d ∈ tables_1, d.before a0 Z = true) (hH : H h) (C : Cx p s m meth c Z "com/example/tall_tree/talltree/model/XmlNamesIsNameStartPinLaw" "gap" method_3_code (some .boolean) 1) (x0 : Int32) : Go p l e r4 s m args below meth c n0 (Ret n0 H (f4_0 x0)) h 0 0 (mkF m 0 #[.val (.int x0)] []) := by
  unfold f4_0
  refine g_iloadN C d4_0 rfl (pc' := 1) rfl ?_
  refine g_bipush C d4_1 (v := (91 : Int32)) (by decide) (pc' := 3) rfl ?_
  refine g_bipush C d4_3 (v := (94 : Int32)) (by decide) (pc' := 5) rfl ?_
  refine g_callP C 0 (hw _ (List.mem_of_getElem? (i := 13) rfl)) (hw _ (List.mem_of_getElem? (i := 14) rfl)) (hw _ (List.mem_of_getElem? (i := 10) rfl)) (hw _ (List.mem_of_getElem? (i := 15) rfl)) (by decide) (rm3 l Z a0 hw [] h n0 x0 (91 : Int32) (94 : Int32)) (by decide) (by decide) rfl rfl (by decide) (by decide) pd3 rfl rfl (st := []) rfl (Nat.le_of_eq rfl) d4_5 (pc' := 8) rfl ?_
  refine g_if C d4_8 (c_ne (f3_0 x0 (91 : Int32) (94 : Int32)) (0 : Int32)) (by decide) (pc2 := 148) (by decide) (pc' := 11) rfl (fun hP => Go.pos ?_ hP) (fun hP => Go.neg ?_ hP)
  · exact j4_148 hw hH C x0
  · refine g_iloadN C d4_11 rfl (pc' := 12) rfl ?_
    refine g_bipush C d4_12 (v := (96 : Int32)) (by decide) (pc' := 14) rfl ?_
    refine g_icmp C d4_14 (c_eq x0 (96 : Int32)) (by decide) (pc2 := 148) (by decide) (pc' := 17) rfl (fun hP => Go.pos ?_ hP) (fun hP => Go.neg ?_ hP)
    · exact j4_148 hw hH C x0
    · refine g_iloadN C d4_17 rfl (pc' := 18) rfl ?_
      refine g_bipush C d4_18 (v := (123 : Int32)) (by decide) (pc' := 20) rfl ?_
      refine g_sipush C d4_20 (v := (191 : Int32)) (by decide) (pc' := 23) rfl ?_
      refine g_callP C 0 (hw _ (List.mem_of_getElem? (i := 13) rfl)) (hw _ (List.mem_of_getElem? (i := 14) rfl)) (hw _ (List.mem_of_getElem? (i := 10) rfl)) (hw _ (List.mem_of_getElem? (i := 15) rfl)) (by decide) (rm3 l Z a0 hw [] h n0 x0 (123 : Int32) (191 : Int32)) (by decide) (by decide) rfl rfl (by decide) (by decide) pd3 rfl rfl (st := []) rfl (Nat.le_of_eq rfl) d4_23 (pc' := 26) rfl ?_
      refine g_if C d4_26 (c_ne (f3_0 x0 (123 : Int32) (191 : Int32)) (0 : Int32)) (by decide) (pc2 := 148) (by decide) (pc' := 29) rfl (fun hP => Go.pos ?_ hP) (fun hP => Go.neg ?_ hP)
      · exact j4_148 hw hH C x0
      · refine g_iloadN C d4_29 rfl (pc' := 30) rfl ?_
        refine g_sipush C d4_30 (v := (215 : Int32)) (by decide) (pc' := 33) rfl ?_
        refine g_icmp C d4_33 (c_eq x0 (215 : Int32)) (by decide) (pc2 := 148) (by decide) (pc' := 36) rfl (fun hP => Go.pos ?_ hP) (fun hP => Go.neg ?_ hP)
        · exact j4_148 hw hH C x0
        · refine g_iloadN C d4_36 rfl (pc' := 37) rfl ?_
          refine g_sipush C d4_37 (v := (247 : Int32)) (by decide) (pc' := 40) rfl ?_
          refine g_icmp C d4_40 (c_eq x0 (247 : Int32)) (by decide) (pc2 := 148) (by decide) (pc' := 43) rfl (fun hP => Go.pos ?_ hP) (fun hP => Go.neg ?_ hP)
          · exact j4_148 hw hH C x0
          · refine g_iloadN C d4_43 rfl (pc' := 44) rfl ?_
            refine g_sipush C d4_44 (v := (768 : Int32)) (by decide) (pc' := 47) rfl ?_
            refine g_sipush C d4_47 (v := (879 : Int32)) (by decide) (pc' := 50) rfl ?_
            refine g_callP C 0 (hw _ (List.mem_of_getElem? (i := 13) rfl)) (hw _ (List.mem_of_getElem? (i := 14) rfl)) (hw _ (List.mem_of_getElem? (i := 10) rfl)) (hw _ (List.mem_of_getElem? (i := 15) rfl)) (by decide) (rm3 l Z a0 hw [] h n0 x0 (768 : Int32) (879 : Int32)) (by decide) (by decide) rfl rfl (by decide) (by decide) pd3 rfl rfl (st := []) rfl (Nat.le_of_eq rfl) d4_50 (pc' := 53) rfl ?_
            refine g_if C d4_53 (c_ne (f3_0 x0 (768 : Int32) (879 : Int32)) (0 : Int32)) (by decide) (pc2 := 148) (by decide) (pc' := 56) rfl (fun hP => Go.pos ?_ hP) (fun hP => Go.neg ?_ hP)
            · exact j4_148 hw hH C x0
            · refine g_iloadN C d4_56 rfl (pc' := 57) rfl ?_
              refine g_sipush C d4_57 (v := (894 : Int32)) (by decide) (pc' := 60) rfl ?_
              refine g_icmp C d4_60 (c_eq x0 (894 : Int32)) (by decide) (pc2 := 148) (by decide) (pc' := 63) rfl (fun hP => Go.pos ?_ hP) (fun hP => Go.neg ?_ hP)
              · exact j4_148 hw hH C x0
              · refine g_iloadN C d4_63 rfl (pc' := 64) rfl ?_
                refine g_sipush C d4_64 (v := (8192 : Int32)) (by decide) (pc' := 67) rfl ?_
                refine g_sipush C d4_67 (v := (8203 : Int32)) (by decide) (pc' := 70) rfl ?_
                refine g_callP C 0 (hw _ (List.mem_of_getElem? (i := 13) rfl)) (hw _ (List.mem_of_getElem? (i := 14) rfl)) (hw _ (List.mem_of_getElem? (i := 10) rfl)) (hw _ (List.mem_of_getElem? (i := 15) rfl)) (by decide) (rm3 l Z a0 hw [] h n0 x0 (8192 : Int32) (8203 : Int32)) (by decide) (by decide) rfl rfl (by decide) (by decide) pd3 rfl rfl (st := []) rfl (Nat.le_of_eq rfl) d4_70 (pc' := 73) rfl ?_
                refine g_if C d4_73 (c_ne (f3_0 x0 (8192 : Int32) (8203 : Int32)) (0 : Int32)) (by decide) (pc2 := 148) (by decide) (pc' := 76) rfl (fun hP => Go.pos ?_ hP) (fun hP => Go.neg ?_ hP)
                · exact j4_148 hw hH C x0
                · refine g_iloadN C d4_76 rfl (pc' := 77) rfl ?_
                  refine g_sipush C d4_77 (v := (8206 : Int32)) (by decide) (pc' := 80) rfl ?_
                  refine g_sipush C d4_80 (v := (8303 : Int32)) (by decide) (pc' := 83) rfl ?_
                  refine g_callP C 0 (hw _ (List.mem_of_getElem? (i := 13) rfl)) (hw _ (List.mem_of_getElem? (i := 14) rfl)) (hw _ (List.mem_of_getElem? (i := 10) rfl)) (hw _ (List.mem_of_getElem? (i := 15) rfl)) (by decide) (rm3 l Z a0 hw [] h n0 x0 (8206 : Int32) (8303 : Int32)) (by decide) (by decide) rfl rfl (by decide) (by decide) pd3 rfl rfl (st := []) rfl (Nat.le_of_eq rfl) d4_83 (pc' := 86) rfl ?_
                  refine g_if C d4_86 (c_ne (f3_0 x0 (8206 : Int32) (8303 : Int32)) (0 : Int32)) (by decide) (pc2 := 148) (by decide) (pc' := 89) rfl (fun hP => Go.pos ?_ hP) (fun hP => Go.neg ?_ hP)
                  · exact j4_148 hw hH C x0
                  · refine g_iloadN C d4_89 rfl (pc' := 90) rfl ?_
                    refine g_sipush C d4_90 (v := (8592 : Int32)) (by decide) (pc' := 93) rfl ?_
                    refine g_sipush C d4_93 (v := (11263 : Int32)) (by decide) (pc' := 96) rfl ?_
                    refine g_callP C 0 (hw _ (List.mem_of_getElem? (i := 13) rfl)) (hw _ (List.mem_of_getElem? (i := 14) rfl)) (hw _ (List.mem_of_getElem? (i := 10) rfl)) (hw _ (List.mem_of_getElem? (i := 15) rfl)) (by decide) (rm3 l Z a0 hw [] h n0 x0 (8592 : Int32) (11263 : Int32)) (by decide) (by decide) rfl rfl (by decide) (by decide) pd3 rfl rfl (st := []) rfl (Nat.le_of_eq rfl) d4_96 (pc' := 99) rfl ?_
                    refine g_if C d4_99 (c_ne (f3_0 x0 (8592 : Int32) (11263 : Int32)) (0 : Int32)) (by decide) (pc2 := 148) (by decide) (pc' := 102) rfl (fun hP => Go.pos ?_ hP) (fun hP => Go.neg ?_ hP)
                    · exact j4_148 hw hH C x0
                    · refine g_iloadN C d4_102 rfl (pc' := 103) rfl ?_
                      refine g_sipush C d4_103 (v := (12272 : Int32)) (by decide) (pc' := 106) rfl ?_
                      refine g_sipush C d4_106 (v := (12288 : Int32)) (by decide) (pc' := 109) rfl ?_
                      refine g_callP C 0 (hw _ (List.mem_of_getElem? (i := 13) rfl)) (hw _ (List.mem_of_getElem? (i := 14) rfl)) (hw _ (List.mem_of_getElem? (i := 10) rfl)) (hw _ (List.mem_of_getElem? (i := 15) rfl)) (by decide) (rm3 l Z a0 hw [] h n0 x0 (12272 : Int32) (12288 : Int32)) (by decide) (by decide) rfl rfl (by decide) (by decide) pd3 rfl rfl (st := []) rfl (Nat.le_of_eq rfl) d4_109 (pc' := 112) rfl ?_
                      refine g_if C d4_112 (c_ne (f3_0 x0 (12272 : Int32) (12288 : Int32)) (0 : Int32)) (by decide) (pc2 := 148) (by decide) (pc' := 115) rfl (fun hP => Go.pos ?_ hP) (fun hP => Go.neg ?_ hP)
                      · exact j4_148 hw hH C x0
                      · refine g_iloadN C d4_115 rfl (pc' := 116) rfl ?_
                        refine g_ldc C (v := (55296 : Int32)) (hw _ (List.mem_of_getElem? (i := 19) rfl)) d4_116 (pc' := 118) rfl ?_
                        refine g_ldc C (v := (63743 : Int32)) (hw _ (List.mem_of_getElem? (i := 20) rfl)) d4_118 (pc' := 120) rfl ?_
                        refine g_callP C 0 (hw _ (List.mem_of_getElem? (i := 13) rfl)) (hw _ (List.mem_of_getElem? (i := 14) rfl)) (hw _ (List.mem_of_getElem? (i := 10) rfl)) (hw _ (List.mem_of_getElem? (i := 15) rfl)) (by decide) (rm3 l Z a0 hw [] h n0 x0 (55296 : Int32) (63743 : Int32)) (by decide) (by decide) rfl rfl (by decide) (by decide) pd3 rfl rfl (st := []) rfl (Nat.le_of_eq rfl) d4_120 (pc' := 123) rfl ?_
                        refine g_if C d4_123 (c_ne (f3_0 x0 (55296 : Int32) (63743 : Int32)) (0 : Int32)) (by decide) (pc2 := 148) (by decide) (pc' := 126) rfl (fun hP => Go.pos ?_ hP) (fun hP => Go.neg ?_ hP)
                        · exact j4_148 hw hH C x0
                        · refine g_iloadN C d4_126 rfl (pc' := 127) rfl ?_
                          refine g_ldc C (v := (64976 : Int32)) (hw _ (List.mem_of_getElem? (i := 21) rfl)) d4_127 (pc' := 129) rfl ?_
                          refine g_ldc C (v := (65007 : Int32)) (hw _ (List.mem_of_getElem? (i := 22) rfl)) d4_129 (pc' := 131) rfl ?_
                          refine g_callP C 0 (hw _ (List.mem_of_getElem? (i := 13) rfl)) (hw _ (List.mem_of_getElem? (i := 14) rfl)) (hw _ (List.mem_of_getElem? (i := 10) rfl)) (hw _ (List.mem_of_getElem? (i := 15) rfl)) (by decide) (rm3 l Z a0 hw [] h n0 x0 (64976 : Int32) (65007 : Int32)) (by decide) (by decide) rfl rfl (by decide) (by decide) pd3 rfl rfl (st := []) rfl (Nat.le_of_eq rfl) d4_131 (pc' := 134) rfl ?_
                          refine g_if C d4_134 (c_ne (f3_0 x0 (64976 : Int32) (65007 : Int32)) (0 : Int32)) (by decide) (pc2 := 148) (by decide) (pc' := 137) rfl (fun hP => Go.pos ?_ hP) (fun hP => Go.neg ?_ hP)
                          · exact j4_148 hw hH C x0
                          · refine g_iloadN C d4_137 rfl (pc' := 138) rfl ?_
                            refine g_ldc C (v := (65534 : Int32)) (hw _ (List.mem_of_getElem? (i := 23) rfl)) d4_138 (pc' := 140) rfl ?_
                            refine g_ldc C (v := (65535 : Int32)) (hw _ (List.mem_of_getElem? (i := 24) rfl)) d4_140 (pc' := 142) rfl ?_
                            refine g_callP C 0 (hw _ (List.mem_of_getElem? (i := 13) rfl)) (hw _ (List.mem_of_getElem? (i := 14) rfl)) (hw _ (List.mem_of_getElem? (i := 10) rfl)) (hw _ (List.mem_of_getElem? (i := 15) rfl)) (by decide) (rm3 l Z a0 hw [] h n0 x0 (65534 : Int32) (65535 : Int32)) (by decide) (by decide) rfl rfl (by decide) (by decide) pd3 rfl rfl (st := []) rfl (Nat.le_of_eq rfl) d4_142 (pc' := 145) rfl ?_
                            refine g_if C d4_145 (c_eq (f3_0 x0 (65534 : Int32) (65535 : Int32)) (0 : Int32)) (by decide) (pc2 := 152) (by decide) (pc' := 148) rfl (fun hP => Go.pos ?_ hP) (fun hP => Go.neg ?_ hP)
                            · refine g_iconst C d4_152 (v := (0 : Int32)) (by decide) (pc' := 153) rfl ?_
                              exact g_retZ C d4_153 (by decide) hH (by decide) (by decide)
                            · exact j4_148 hw hH C x0
theorem rm4 (l : Launch) (Z : State) (a0 : Array Value) (hw : ∀ d ∈ tables_1, d.before a0 Z = true) (ws : List Jvm.Cond) (h : Heap) (n0 : Nat) (x0 : Int32) : Con l Z (⟨"com/example/tall_tree/talltree/model/XmlNamesIsNameStartPinLaw", "gap", "(I)Z"⟩ : MethodName) method_3_code 1 (some .boolean) r4 ws #[(.int x0)] h (Ret n0 (· = h) (f4_0 x0)) :=
  con_of n0 pn4 (fun m => ef4 m x0) fun p e s m below meth c C => j4_0 (H := (· = h)) hw rfl C x0
theorem d2_0 : decode method_4_code 0 = .ok (.iload_n 0, 1) := by decide +kernel
theorem d2_1 : decode method_4_code 1 = .ok (.bipush 65, 2) := by decide +kernel
theorem d2_3 : decode method_4_code 3 = .ok (.ldc 19, 2) := by decide +kernel
theorem d2_5 : decode method_4_code 5 = .ok (.invokestatic 7, 3) := by decide +kernel
theorem d2_8 : decode method_4_code 8 = .ok (.ifCond .eq 14, 3) := by decide +kernel
theorem d2_11 : decode method_4_code 11 = .ok (.iload_n 0, 1) := by decide +kernel
theorem d2_12 : decode method_4_code 12 = .ok (.invokestatic 20, 3) := by decide +kernel
theorem d2_15 : decode method_4_code 15 = .ok (.ifCond .ne 7, 3) := by decide +kernel
theorem d2_18 : decode method_4_code 18 = .ok (.iconst 1, 1) := by decide +kernel
theorem d2_19 : decode method_4_code 19 = .ok (.goto 4, 3) := by decide +kernel
theorem d2_22 : decode method_4_code 22 = .ok (.iconst 0, 1) := by decide +kernel
theorem d2_23 : decode method_4_code 23 = .ok (.ireturn, 1) := by decide +kernel
def r2 : Room := { frames := 2, cells := 0, slots := 0, locals := 32 }
theorem pd2 : parseMethodDescriptor "(I)Z" = some ⟨[.int], some .boolean⟩ := by decide +kernel
theorem pn2 : plainName "com/example/tall_tree/talltree/model/XmlNamesIsNameStartPinLaw" = true := by first | (simp [plainName, overriddenIn]; done) | decide +kernel
theorem ef2 (m : MethodId) (x0 : Int32) : entryFrame m #[(.int x0)] 1 = mkF m 0 #[.val (.int x0)] [] := by first | (simp [entryFrame, mkF, argsToLocals, Value.category]; done) | rfl
def f2_22 : Int32 := (0 : Int32)
theorem j2_22 {p : Program} {l : Launch} {e : Env} {s : State} {m : MethodId} {args : Array Value} {below : List Frame} {meth : Method} {c : Code} {n0 : Nat} {H : Heap → Prop} {h : Heap} {Z : State} {a0 : Array Value} (hw : ∀ d ∈ tables_1, d.before a0 Z = true) (hH : H h) (C : Cx p s m meth c Z "com/example/tall_tree/talltree/model/XmlNamesIsNameStartPinLaw" "ref" method_4_code (some .boolean) 1) (x0 : Int32) : Go p l e r2 s m args below meth c n0 (Ret n0 H (f2_22)) h 0 0 (mkF m 22 #[.val (.int x0)] []) := by
  unfold f2_22
  refine g_iconst C d2_22 (v := (0 : Int32)) (by decide) (pc' := 23) rfl ?_
  exact g_retZ C d2_23 (by decide) hH (by decide) (by decide)
def f2_0 (x0 : Int32) : Int32 := (if (f3_0 x0 (65 : Int32) (983039 : Int32)) = (0 : Int32) then f2_22 else (if ¬ (f4_0 x0) = (0 : Int32) then f2_22 else (1 : Int32)))
theorem j2_0 {p : Program} {l : Launch} {e : Env} {s : State} {m : MethodId} {args : Array Value} {below : List Frame} {meth : Method} {c : Code} {n0 : Nat} {H : Heap → Prop} {h : Heap} {Z : State} {a0 : Array Value} (hw : ∀ d ∈ tables_1, d.before a0 Z = true) (hH : H h) (C : Cx p s m meth c Z "com/example/tall_tree/talltree/model/XmlNamesIsNameStartPinLaw" "ref" method_4_code (some .boolean) 1) (x0 : Int32) : Go p l e r2 s m args below meth c n0 (Ret n0 H (f2_0 x0)) h 0 0 (mkF m 0 #[.val (.int x0)] []) := by
  unfold f2_0
  refine g_iloadN C d2_0 rfl (pc' := 1) rfl ?_
  refine g_bipush C d2_1 (v := (65 : Int32)) (by decide) (pc' := 3) rfl ?_
  refine g_ldc C (v := (983039 : Int32)) (hw _ (List.mem_of_getElem? (i := 12) rfl)) d2_3 (pc' := 5) rfl ?_
  refine g_callP C 0 (hw _ (List.mem_of_getElem? (i := 13) rfl)) (hw _ (List.mem_of_getElem? (i := 14) rfl)) (hw _ (List.mem_of_getElem? (i := 10) rfl)) (hw _ (List.mem_of_getElem? (i := 15) rfl)) (by decide) (rm3 l Z a0 hw [] h n0 x0 (65 : Int32) (983039 : Int32)) (by decide) (by decide) rfl rfl (by decide) (by decide) pd3 rfl rfl (st := []) rfl (Nat.le_of_eq rfl) d2_5 (pc' := 8) rfl ?_
  refine g_if C d2_8 (c_eq (f3_0 x0 (65 : Int32) (983039 : Int32)) (0 : Int32)) (by decide) (pc2 := 22) (by decide) (pc' := 11) rfl (fun hP => Go.pos ?_ hP) (fun hP => Go.neg ?_ hP)
  · exact j2_22 hw hH C x0
  · refine g_iloadN C d2_11 rfl (pc' := 12) rfl ?_
    refine g_callP C 0 (hw _ (List.mem_of_getElem? (i := 16) rfl)) (hw _ (List.mem_of_getElem? (i := 17) rfl)) (hw _ (List.mem_of_getElem? (i := 10) rfl)) (hw _ (List.mem_of_getElem? (i := 18) rfl)) (by decide) (rm4 l Z a0 hw [] h n0 x0) (by decide) (by decide) rfl rfl (by decide) (by decide) pd4 rfl rfl (st := []) rfl (Nat.le_of_eq rfl) d2_12 (pc' := 15) rfl ?_
    refine g_if C d2_15 (c_ne (f4_0 x0) (0 : Int32)) (by decide) (pc2 := 22) (by decide) (pc' := 18) rfl (fun hP => Go.pos ?_ hP) (fun hP => Go.neg ?_ hP)
    · exact j2_22 hw hH C x0
    · refine g_iconst C d2_18 (v := (1 : Int32)) (by decide) (pc' := 19) rfl ?_
      refine g_goto C d2_19 (by decide) (pc' := 23) (by decide) ?_
      exact g_retZ C d2_23 (by decide) hH (by decide) (by decide)
theorem rm2 (l : Launch) (Z : State) (a0 : Array Value) (hw : ∀ d ∈ tables_1, d.before a0 Z = true) (ws : List Jvm.Cond) (h : Heap) (n0 : Nat) (x0 : Int32) : Con l Z (⟨"com/example/tall_tree/talltree/model/XmlNamesIsNameStartPinLaw", "ref", "(I)Z"⟩ : MethodName) method_4_code 1 (some .boolean) r2 ws #[(.int x0)] h (Ret n0 (· = h) (f2_0 x0)) :=
  con_of n0 pn2 (fun m => ef2 m x0) fun p e s m below meth c C => j2_0 (H := (· = h)) hw rfl C x0
theorem pn0 : plainName "com/example/tall_tree/talltree/model/XmlNamesIsNameStartPinLaw" = true := by first | (simp [plainName, overriddenIn]; done) | decide +kernel
theorem ef0 (m : MethodId) (x0 x1 : Int32) : entryFrame m #[(.int x0), (.int x1)] maxLocals = mkF m 0 #[.val (.int x0), .val (.int x1), .unset] [] := by first | (simp [entryFrame, mkF, argsToLocals, Value.category, maxLocals]; done) | rfl
def f0_31 : Int32 := (0 : Int32)
theorem j0_31 {p : Program} {l : Launch} {e : Env} {s : State} {m : MethodId} {args : Array Value} {below : List Frame} {meth : Method} {c : Code} {n0 : Nat} {H : Heap → Prop} {h : Heap} {Z : State} {a0 : Array Value} (hw : ∀ d ∈ tables_1, d.before a0 Z = true) (hH : H h) (C : Cx p s m meth c Z "com/example/tall_tree/talltree/model/XmlNamesIsNameStartPinLaw" "law" code (some .boolean) 3) (x0 : Int32) (x1 : Int32) (x2 : Int32) : Go p l e room_1 s m args below meth c n0 (Ret n0 H (f0_31)) h 0 0 (mkF m 31 #[.val (.int x0), .val (.int x1), .val (.int x2)] []) := by
  unfold f0_31
  refine g_iconst C at_31 (v := (0 : Int32)) (by decide) (pc' := 32) rfl ?_
  exact g_retZ C at_32 (by decide) hH (by decide) (by decide)
def f0_0 (x0 x1 : Int32) : Int32 := (if ¬ (f1_0 x0) = (f2_0 x0) then f0_31 else (if ¬ (f1_0 (x1 &&& (2097151 : Int32))) = (f2_0 (x1 &&& (2097151 : Int32))) then f0_31 else (1 : Int32)))
theorem j0_0 {p : Program} {l : Launch} {e : Env} {s : State} {m : MethodId} {args : Array Value} {below : List Frame} {meth : Method} {c : Code} {n0 : Nat} {H : Heap → Prop} {h : Heap} {Z : State} {a0 : Array Value} (hw : ∀ d ∈ tables_1, d.before a0 Z = true) (hH : H h) (C : Cx p s m meth c Z "com/example/tall_tree/talltree/model/XmlNamesIsNameStartPinLaw" "law" code (some .boolean) 3) (x0 : Int32) (x1 : Int32) : Go p l e room_1 s m args below meth c n0 (Ret n0 H (f0_0 x0 x1)) h 0 0 (mkF m 0 #[.val (.int x0), .val (.int x1), .unset] []) := by
  unfold f0_0
  refine g_iloadN C at_0 rfl (pc' := 1) rfl ?_
  refine g_ldc C (v := (2097151 : Int32)) (hw _ (List.mem_of_getElem? (i := 0) rfl)) at_1 (pc' := 3) rfl ?_
  refine g_iand C at_3 (pc' := 4) rfl ?_
  refine g_istoreN C at_4 (Ls' := #[.val (.int x0), .val (.int x1), .val (.int (x1 &&& (2097151 : Int32)))]) rfl (pc' := 5) rfl ?_
  refine g_iloadN C at_5 rfl (pc' := 6) rfl ?_
  refine g_callP C 0 (hw _ (List.mem_of_getElem? (i := 1) rfl)) (hw _ (List.mem_of_getElem? (i := 2) rfl)) (hw _ (List.mem_of_getElem? (i := 3) rfl)) (hw _ (List.mem_of_getElem? (i := 4) rfl)) (by decide) (rm1 l Z a0 hw [] h n0 x0) (by decide) (by decide) rfl rfl (by decide) (by decide) pd1 rfl rfl (st := []) rfl (Nat.le_of_eq rfl) at_6 (pc' := 9) rfl ?_
  refine g_iloadN C at_9 rfl (pc' := 10) rfl ?_
  refine g_callP C 1 (hw _ (List.mem_of_getElem? (i := 8) rfl)) (hw _ (List.mem_of_getElem? (i := 9) rfl)) (hw _ (List.mem_of_getElem? (i := 10) rfl)) (hw _ (List.mem_of_getElem? (i := 11) rfl)) (by decide) (rm2 l Z a0 hw [] h n0 x0) (by decide) (by decide) rfl rfl (by decide) (by decide) pd2 rfl rfl (st := [(.int (f1_0 x0))]) rfl (Nat.le_of_eq rfl) at_10 (pc' := 13) rfl ?_
  refine g_icmp C at_13 (c_ne (f1_0 x0) (f2_0 x0)) (by decide) (pc2 := 31) (by decide) (pc' := 16) rfl (fun hP => Go.pos ?_ hP) (fun hP => Go.neg ?_ hP)
  · exact j0_31 hw hH C x0 x1 (x1 &&& (2097151 : Int32))
  · refine g_iloadN C at_16 rfl (pc' := 17) rfl ?_
    refine g_callP C 0 (hw _ (List.mem_of_getElem? (i := 1) rfl)) (hw _ (List.mem_of_getElem? (i := 2) rfl)) (hw _ (List.mem_of_getElem? (i := 3) rfl)) (hw _ (List.mem_of_getElem? (i := 4) rfl)) (by decide) (rm1 l Z a0 hw [] h n0 (x1 &&& (2097151 : Int32))) (by decide) (by decide) rfl rfl (by decide) (by decide) pd1 rfl rfl (st := []) rfl (Nat.le_of_eq rfl) at_17 (pc' := 20) rfl ?_
    refine g_iloadN C at_20 rfl (pc' := 21) rfl ?_
    refine g_callP C 1 (hw _ (List.mem_of_getElem? (i := 8) rfl)) (hw _ (List.mem_of_getElem? (i := 9) rfl)) (hw _ (List.mem_of_getElem? (i := 10) rfl)) (hw _ (List.mem_of_getElem? (i := 11) rfl)) (by decide) (rm2 l Z a0 hw [] h n0 (x1 &&& (2097151 : Int32))) (by decide) (by decide) rfl rfl (by decide) (by decide) pd2 rfl rfl (st := [(.int (f1_0 (x1 &&& (2097151 : Int32))))]) rfl (Nat.le_of_eq rfl) at_21 (pc' := 24) rfl ?_
    refine g_icmp C at_24 (c_ne (f1_0 (x1 &&& (2097151 : Int32))) (f2_0 (x1 &&& (2097151 : Int32)))) (by decide) (pc2 := 31) (by decide) (pc' := 27) rfl (fun hP => Go.pos ?_ hP) (fun hP => Go.neg ?_ hP)
    · exact j0_31 hw hH C x0 x1 (x1 &&& (2097151 : Int32))
    · refine g_iconst C at_27 (v := (1 : Int32)) (by decide) (pc' := 28) rfl ?_
      refine g_goto C at_28 (by decide) (pc' := 32) (by decide) ?_
      exact g_retZ C at_32 (by decide) hH (by decide) (by decide)
theorem rm0 (l : Launch) (Z : State) (a0 : Array Value) (hw : ∀ d ∈ tables_1, d.before a0 Z = true) (ws : List Jvm.Cond) (h : Heap) (n0 : Nat) (x0 x1 : Int32) : Con l Z x code maxLocals ret room_1 ws #[(.int x0), (.int x1)] h (Ret n0 (· = h) (f0_0 x0 x1)) :=
  con_of n0 pn0 (fun m => ef0 m x0 x1) fun p e s m below meth c C => j0_0 (H := (· = h)) hw rfl C x0 x1
def own_B : List Int32 := [0, 1, 65, 90, 91, 94, 95, 96, 97, 122, 123, 191, 192, 214, 215, 216, 246, 247, 248, 767, 768, 879, 880, 893, 894, 895, 8191, 8192, 8203, 8204, 8205, 8206, 8303, 8304, 8591, 8592, 11263, 11264, 12271, 12272, 12288, 12289, 55295, 55296, 63743, 63744, 64975, 64976, 65007, 65008, 65533, 65534, 65535, 65536, 983039]
theorem own_B1 : ∀ t ∈ own_B, (t + 1).toInt = t.toInt + 1 := by decide +kernel
theorem fc3 {c b lo hi : Int32} (h1 : c < lo ↔ b < lo) (h2 : hi < c ↔ hi < b) : f3_0 c lo hi = f3_0 b lo hi := by
  simp only [f3_14, f3_0, h1, h2]
theorem fc1_179 {c b : Int32} (S : Same own_B c b) : f1_179 c = f1_179 b := by
  have t53 := S _ (List.mem_of_getElem? (i := 53) rfl)
  have t54 := S _ (List.mem_of_getElem? (i := 54) rfl)
  simp only [f1_179, t53.1, t53.2.1, t53.2.2, t54.1, t54.2.1, t54.2.2]
theorem fc1_167 {c b : Int32} (S : Same own_B c b) : f1_167 c = f1_167 b := by
  have t49 := S _ (List.mem_of_getElem? (i := 49) rfl)
  have t50 := S _ (List.mem_of_getElem? (i := 50) rfl)
  simp only [f1_167, t49.1, t49.2.1, t49.2.2, t50.1, t50.2.1, t50.2.2, fc1_179 S]
theorem fc1_155 {c b : Int32} (S : Same own_B c b) : f1_155 c = f1_155 b := by
  have t45 := S _ (List.mem_of_getElem? (i := 45) rfl)
  have t46 := S _ (List.mem_of_getElem? (i := 46) rfl)
  simp only [f1_155, t45.1, t45.2.1, t45.2.2, t46.1, t46.2.1, t46.2.2, fc1_167 S]
theorem fc1_142 {c b : Int32} (S : Same own_B c b) : f1_142 c = f1_142 b := by
  have t41 := S _ (List.mem_of_getElem? (i := 41) rfl)
  have t42 := S _ (List.mem_of_getElem? (i := 42) rfl)
  simp only [f1_142, t41.1, t41.2.1, t41.2.2, t42.1, t42.2.1, t42.2.2, fc1_155 S]
theorem fc1_128 {c b : Int32} (S : Same own_B c b) : f1_128 c = f1_128 b := by
  have t37 := S _ (List.mem_of_getElem? (i := 37) rfl)
  have t38 := S _ (List.mem_of_getElem? (i := 38) rfl)
  simp only [f1_128, t37.1, t37.2.1, t37.2.2, t38.1, t38.2.1, t38.2.2, fc1_142 S]
theorem fc1_100 {c b : Int32} (S : Same own_B c b) : f1_100 c = f1_100 b := by
  have t29 := S _ (List.mem_of_getElem? (i := 29) rfl)
  have t30 := S _ (List.mem_of_getElem? (i := 30) rfl)
  have t33 := S _ (List.mem_of_getElem? (i := 33) rfl)
  have t34 := S _ (List.mem_of_getElem? (i := 34) rfl)
  simp only [f1_100, t29.1, t29.2.1, t29.2.2, t30.1, t30.2.1, t30.2.2, t33.1, t33.2.1, t33.2.2, t34.1, t34.2.1, t34.2.2, fc1_128 S]
theorem fc1_86 {c b : Int32} (S : Same own_B c b) : f1_86 c = f1_86 b := by
  have t25 := S _ (List.mem_of_getElem? (i := 25) rfl)
  have t26 := S _ (List.mem_of_getElem? (i := 26) rfl)
  simp only [f1_86, t25.1, t25.2.1, t25.2.2, t26.1, t26.2.1, t26.2.2, fc1_100 S]
theorem fc1_72 {c b : Int32} (S : Same own_B c b) : f1_72 c = f1_72 b := by
  have t22 := S _ (List.mem_of_getElem? (i := 22) rfl)
  have t23 := S _ (List.mem_of_getElem? (i := 23) rfl)
  simp only [f1_72, t22.1, t22.2.1, t22.2.2, t23.1, t23.2.1, t23.2.2, fc1_86 S]
theorem fc1_58 {c b : Int32} (S : Same own_B c b) : f1_58 c = f1_58 b := by
  have t18 := S _ (List.mem_of_getElem? (i := 18) rfl)
  have t19 := S _ (List.mem_of_getElem? (i := 19) rfl)
  simp only [f1_58, t18.1, t18.2.1, t18.2.2, t19.1, t19.2.1, t19.2.2, fc1_72 S]
theorem fc1_44 {c b : Int32} (S : Same own_B c b) : f1_44 c = f1_44 b := by
  have t15 := S _ (List.mem_of_getElem? (i := 15) rfl)
  have t16 := S _ (List.mem_of_getElem? (i := 16) rfl)
  simp only [f1_44, t15.1, t15.2.1, t15.2.2, t16.1, t16.2.1, t16.2.2, fc1_58 S]
theorem fc1_24 {c b : Int32} (S : Same own_B c b) : f1_24 c = f1_24 b := by
  have t6 := S _ (List.mem_of_getElem? (i := 6) rfl)
  have t12 := S _ (List.mem_of_getElem? (i := 12) rfl)
  have t13 := S _ (List.mem_of_getElem? (i := 13) rfl)
  simp only [f1_24, t6.1, t6.2.1, t6.2.2, t12.1, t12.2.1, t12.2.2, t13.1, t13.2.1, t13.2.2, fc1_44 S]
theorem fc1_12 {c b : Int32} (S : Same own_B c b) : f1_12 c = f1_12 b := by
  have t2 := S _ (List.mem_of_getElem? (i := 2) rfl)
  have t3 := S _ (List.mem_of_getElem? (i := 3) rfl)
  simp only [f1_12, t2.1, t2.2.1, t2.2.2, t3.1, t3.2.1, t3.2.2, fc1_24 S]
theorem fc1_0 {c b : Int32} (S : Same own_B c b) : f1_0 c = f1_0 b := by
  have t8 := S _ (List.mem_of_getElem? (i := 8) rfl)
  have t9 := S _ (List.mem_of_getElem? (i := 9) rfl)
  simp only [f1_0, t8.1, t8.2.1, t8.2.2, t9.1, t9.2.1, t9.2.2, fc1_12 S]
theorem fc4_0 {c b : Int32} (S : Same own_B c b) : f4_0 c = f4_0 b := by
  have t0 := S _ (List.mem_of_getElem? (i := 0) rfl)
  have t4 := S _ (List.mem_of_getElem? (i := 4) rfl)
  have t5 := S _ (List.mem_of_getElem? (i := 5) rfl)
  have t7 := S _ (List.mem_of_getElem? (i := 7) rfl)
  have t10 := S _ (List.mem_of_getElem? (i := 10) rfl)
  have t11 := S _ (List.mem_of_getElem? (i := 11) rfl)
  have t14 := S _ (List.mem_of_getElem? (i := 14) rfl)
  have t17 := S _ (List.mem_of_getElem? (i := 17) rfl)
  have t20 := S _ (List.mem_of_getElem? (i := 20) rfl)
  have t21 := S _ (List.mem_of_getElem? (i := 21) rfl)
  have t24 := S _ (List.mem_of_getElem? (i := 24) rfl)
  have t27 := S _ (List.mem_of_getElem? (i := 27) rfl)
  have t28 := S _ (List.mem_of_getElem? (i := 28) rfl)
  have t31 := S _ (List.mem_of_getElem? (i := 31) rfl)
  have t32 := S _ (List.mem_of_getElem? (i := 32) rfl)
  have t35 := S _ (List.mem_of_getElem? (i := 35) rfl)
  have t36 := S _ (List.mem_of_getElem? (i := 36) rfl)
  have t39 := S _ (List.mem_of_getElem? (i := 39) rfl)
  have t40 := S _ (List.mem_of_getElem? (i := 40) rfl)
  have t43 := S _ (List.mem_of_getElem? (i := 43) rfl)
  have t44 := S _ (List.mem_of_getElem? (i := 44) rfl)
  have t47 := S _ (List.mem_of_getElem? (i := 47) rfl)
  have t48 := S _ (List.mem_of_getElem? (i := 48) rfl)
  have t51 := S _ (List.mem_of_getElem? (i := 51) rfl)
  have t52 := S _ (List.mem_of_getElem? (i := 52) rfl)
  simp only [f4_0, t0.1, t0.2.1, t0.2.2, t4.1, t4.2.1, t4.2.2, t5.1, t5.2.1, t5.2.2, t7.1, t7.2.1, t7.2.2, t10.1, t10.2.1, t10.2.2, t11.1, t11.2.1, t11.2.2, t14.1, t14.2.1, t14.2.2, t17.1, t17.2.1, t17.2.2, t20.1, t20.2.1, t20.2.2, t21.1, t21.2.1, t21.2.2, t24.1, t24.2.1, t24.2.2, t27.1, t27.2.1, t27.2.2, t28.1, t28.2.1, t28.2.2, t31.1, t31.2.1, t31.2.2, t32.1, t32.2.1, t32.2.2, t35.1, t35.2.1, t35.2.2, t36.1, t36.2.1, t36.2.2, t39.1, t39.2.1, t39.2.2, t40.1, t40.2.1, t40.2.2, t43.1, t43.2.1, t43.2.2, t44.1, t44.2.1, t44.2.2, t47.1, t47.2.1, t47.2.2, t48.1, t48.2.1, t48.2.2, t51.1, t51.2.1, t51.2.2, t52.1, t52.2.1, t52.2.2, fc3 t39.1 t40.2.1, fc3 t10.1 t11.2.1, fc3 t43.1 t44.2.1, fc3 t47.1 t48.2.1, fc3 t51.1 t52.2.1, fc3 t20.1 t21.2.1, fc3 t27.1 t28.2.1, fc3 t31.1 t32.2.1, fc3 t35.1 t36.2.1, fc3 t4.1 t5.2.1]
theorem fc2_0 {c b : Int32} (S : Same own_B c b) : f2_0 c = f2_0 b := by
  have t0 := S _ (List.mem_of_getElem? (i := 0) rfl)
  have t1 := S _ (List.mem_of_getElem? (i := 1) rfl)
  have t2 := S _ (List.mem_of_getElem? (i := 2) rfl)
  have t54 := S _ (List.mem_of_getElem? (i := 54) rfl)
  simp only [f2_0, t0.1, t0.2.1, t0.2.2, t1.1, t1.2.1, t1.2.2, t2.1, t2.2.1, t2.2.2, t54.1, t54.2.1, t54.2.2, fc3 t2.1 t54.2.1, fc4_0 S]
set_option maxRecDepth 65536 in
theorem own_chk : ∀ c ∈ samples own_B, f1_0 c = f2_0 c := by decide +kernel
theorem own_law (c : Int32) : f1_0 c = f2_0 c := by
  obtain ⟨b, hb, S⟩ := same_some own_B own_B1 c
  rw [fc1_0 S, fc2_0 S]
  exact own_chk b hb
theorem own_one (x0 x1 : Int32) : f0_0 x0 x1 = 1 := by
  simp only [f0_0, own_law, not_true_eq_false, if_false]
theorem rm_law (l : Launch) (Z : State) (a0 : Array Value) (hw : ∀ d ∈ tables_1, d.before a0 Z = true) (ws : List Jvm.Cond) (h : Heap) (n0 : Nat) (x0 x1 : Int32) : Con l Z x code maxLocals ret room_1 ws #[(.int x0), (.int x1)] h (Ret n0 (· = h) 1) := by
  have q := rm0 l Z a0 hw ws h n0 x0 x1
  rw [own_one] at q
  exact q
set_option maxRecDepth 65536 in
set_option maxHeartbeats 4000000 in
theorem comes_1 {Post : Tables → Env → Array Value → State → Outcome → State → Prop} (hpost : ∀ tb e args s v u, (limb_1_1.after args s (.returned v) u = true ∧ limb_1_2.after args s (.returned v) u = true ∧ True) → FrameEnd s (.returned v) u (Jvm.fieldLocs frame_1_writes args s ++ Jvm.arrayLocs frame_1_arrays args s ++ Jvm.staticLocs frame_1_statics s) 0 0 → Post tb e args s (.returned v) u) :
    ArmFor flags0 classFile x code maxLocals ret World_1 tables_1 room_1 Calls_1 rest_1 Pre_1 Post := by
  intro l hfl _ _ p e ha hc hk s m args below hf hA hF happ hP
  obtain ⟨hcalls, hrest, hpre⟩ := hP
  obtain ⟨-, -, -, hnamed, -, -, -, hat⟩ := (Spec.applies_iff hf).mp happ
  obtain ⟨hg, hn⟩ := and_e (Cond.before_iff.mp (show (Jvm.Cond.and given_1 narrow_1).before args s = true from hpre))
  obtain ⟨hcount, g0⟩ := and_e hg
  obtain ⟨k0, g1⟩ := and_e g0
  obtain ⟨w0, w1, rfl⟩ : ∃ w0 w1 : Value, args = #[w0, w1] := by
    have hs : args.size = 2 := by simpa [Cond.value, given_1] using hcount
    obtain ⟨L⟩ := args
    match L, hs with
    | [w0, w1], _ => exact ⟨w0, w1, rfl⟩
  have hw := fun d (hd : d ∈ tables_1) => atoms_spec (ws := Jvm.Cond.code x code maxLocals ret :: tables_1) hat d (List.mem_cons_of_mem _ hd)
  obtain ⟨i0, e0⟩ := is_v k0
  obtain rfl : w0 = (.int i0) := Option.some.inj e0
  obtain ⟨i1, e1⟩ := is_v g1
  obtain rfl : w1 = (.int i1) := Option.some.inj e1
  obtain ⟨n, o, h1, h2, h3, _, L, rfl, ⟨rfl, N, -⟩, hq⟩ := rm_law l s _ hw tables_1 s.heap s.heap.size i0 i1 p e ha hc hk s m _ below hf ((Spec.applies_iff_loose hf).mp happ).1 ⟨rfl, State.Warmed39.refl s, rfl⟩ trivial
  refine ⟨n, _, h1, h2, h3, hpost _ _ _ _ _ _ ⟨Cond.after_iff.mpr rfl, Cond.after_iff.mpr (eq_i res_at (Term.int_eval (1)) rfl), trivial⟩ ⟨hq.1, hq.2.1, (hq.2.2.sift fun y hy => Or.inr (N y hy)).mono (by decide) (by decide)⟩⟩
theorem main_1_1 : Claimed_1_1 := comes_1 fun _ _ _ _ _ _ h hF => ⟨h.1, hF⟩
theorem main_1_2 : Claimed_1_2 := comes_1 fun _ _ _ _ _ _ h hF => ⟨h.2.1, hF⟩
end Jvm.Pilot.@@N@@
namespace Jvm.Pilot.@@N@@
open Jvm Jvm.ClassFile Sem Op Lib Jvm.Free Jvm.Stand Jvm.Pilot.@@N@@.Jvm.D
/-! MADE BY PROGRAM (witnessworld.py) out of the Statement's table words and the real class files: 9 classes; the members and pool entries that the words name. The judged class is class 1, her method 4. -/
namespace start1
open Jvm.ClassFile
def u (s : String) : CpInfo := .utf8 (stringToUtf16 s)
/-- a pool by its gaps: so many unusable entries, then the entry; so many at the end -/
def gap : Nat → List CpInfo → List CpInfo
  | 0, r => r
  | n + 1, r => .unusable :: gap n r
def poolList (es : List (Nat × CpInfo)) (last : Nat) : List CpInfo := es.foldr (fun e r => gap e.1 (e.2 :: r)) (gap last [])
def pool (es : List (Nat × CpInfo)) (last : Nat) : Array CpInfo := ⟨poolList es last⟩
def fileOf (pool : Array CpInfo) (this : Nat) (attrs : Array Attribute := #[]) (ms : Array MethodInfo := #[]) (fl : Nat := 33) (sup : Nat := 0) (ifs : Array Nat := #[]) (fds : Array FieldInfo := #[]) : ClassFile where
  minorVersion := 0
  majorVersion := 65
  constantPool := pool
  accessFlags := fl
  thisClass := this
  superClass := sup
  interfaces := ifs
  fields := fds
  methods := ms
  attributes := attrs
def plain (name : String) (sup : Option ClassId) : Class where
  name := name
  kind := .ordinary
  loader := none
  accessFlags := 33
  super := sup
  interfaces := #[]
  cf := none
  fields := #[]
  methods := #[]
  instanceTypes := #[]
  staticTypes := #[]
  resolved := #[]
  callSites := []
  init := .initialized
  statics := none
  mirror := none

def pool0 : Array CpInfo := pool [(5, u "<init>"), (0, u "()V"), (1, .class_ 10), (1, u "java/lang/Object")] 113

def k0m0 : Method := { name := "<init>", desc := "()V", sig := { parameters := [], returnType := none }, accessFlags := 1, code := none }
/-- java/lang/Object -/
def k0 : Class := { plain "java/lang/Object" none with
  accessFlags := 33
  interfaces := #[]
  cf := some (fileOf pool0 8 #[] #[{ accessFlags := 1, nameIndex := 5, descriptorIndex := 6, attributes := #[] }] 33 0 #[] #[])
  fields := #[]
  methods := #[k0m0]
  instanceTypes := #[]
  staticTypes := #[]
  resolved := Array.replicate 124 none
  statics := none }

def pool1 : Array CpInfo := pool [(2, .class_ 4), (1, u "java/lang/Object"), (0, u "<init>"), (0, u "()V"), (0, .methodref 8 9), (0, .class_ 10), (0, .nameAndType 11 12), (0, u "com/example/tall_tree/talltree/model/XmlNamesIsNameStartPinLaw"), (0, u "in"), (0, u "(III)Z"), (0, .integer 55296), (0, .integer 63743), (0, .integer 64976), (0, .integer 65007), (0, .integer 65534), (0, .integer 65535), (0, .integer 983039), (0, .methodref 8 21), (0, .nameAndType 22 23), (0, u "gap"), (0, u "(I)Z"), (0, .integer 2097151), (0, .methodref 26 27), (0, .class_ 28), (0, .nameAndType 29 23), (0, u "com/example/tall_tree/talltree/model/XmlNames"), (0, u "isNameStart"), (0, .methodref 8 31), (0, .nameAndType 32 23), (0, u "ref"), (3, u "law"), (0, u "(II)Z")] 2

def k1m0 : Method := { name := "<init>", desc := "()V", sig := { parameters := [], returnType := none }, accessFlags := 2, code := none }
def k1c1 : Code := { maxStack := 2, maxLocals := 3, code := method_2_code, exceptionTable := #[], attributes := #[] }
def k1m1 : Method := { name := "in", desc := "(III)Z", sig := { parameters := [.int, .int, .int], returnType := some .boolean }, accessFlags := 10, code := some k1c1 }
def k1c2 : Code := { maxStack := 3, maxLocals := 1, code := method_3_code, exceptionTable := #[], attributes := #[] }
def k1m2 : Method := { name := "gap", desc := "(I)Z", sig := { parameters := [.int], returnType := some .boolean }, accessFlags := 10, code := some k1c2 }
def k1c3 : Code := { maxStack := 3, maxLocals := 1, code := method_4_code, exceptionTable := #[], attributes := #[] }
def k1m3 : Method := { name := "ref", desc := "(I)Z", sig := { parameters := [.int], returnType := some .boolean }, accessFlags := 10, code := some k1c3 }
def k1c4 : Code := { maxStack := 2, maxLocals := 3, code := code, exceptionTable := #[], attributes := #[] }
def k1m4 : Method := { name := "law", desc := "(II)Z", sig := { parameters := [.int, .int], returnType := some .boolean }, accessFlags := 9, code := some k1c4 }
/-- com/example/tall_tree/talltree/model/XmlNamesIsNameStartPinLaw -/
def k1 : Class := { plain "com/example/tall_tree/talltree/model/XmlNamesIsNameStartPinLaw" (some 0) with
  accessFlags := 49
  interfaces := #[]
  cf := some (fileOf pool1 8 #[] #[{ accessFlags := 2, nameIndex := 5, descriptorIndex := 6, attributes := #[] }, { accessFlags := 10, nameIndex := 11, descriptorIndex := 12, attributes := #[] }, { accessFlags := 10, nameIndex := 22, descriptorIndex := 23, attributes := #[] }, { accessFlags := 10, nameIndex := 32, descriptorIndex := 23, attributes := #[] }, { accessFlags := 9, nameIndex := 36, descriptorIndex := 37, attributes := #[] }] 49 2 #[] #[])
  fields := #[]
  methods := #[k1m0, k1m1, k1m2, k1m3, k1m4]
  instanceTypes := #[]
  staticTypes := #[]
  resolved := Array.replicate 40 none
  statics := none }

def pool2 : Array CpInfo := pool [(2, .class_ 4), (1, u "java/lang/Object"), (0, u "<init>"), (0, u "()V"), (34, .integer 55295), (0, .integer 63744), (0, .integer 64975), (0, .integer 65008), (0, .integer 65533), (0, .integer 65536), (0, .integer 983039), (5, .class_ 55), (1, u "com/example/tall_tree/talltree/model/XmlNames"), (0, u "isNameStart"), (0, u "(I)Z")] 21

def k2m0 : Method := { name := "<init>", desc := "()V", sig := { parameters := [], returnType := none }, accessFlags := 2, code := none }
def k2c1 : Code := { maxStack := 2, maxLocals := 1, code := prog_152_method_4_code, exceptionTable := #[], attributes := #[] }
def k2m1 : Method := { name := "isNameStart", desc := "(I)Z", sig := { parameters := [.int], returnType := some .boolean }, accessFlags := 9, code := some k2c1 }
/-- com/example/tall_tree/talltree/model/XmlNames -/
def k2 : Class := { plain "com/example/tall_tree/talltree/model/XmlNames" (some 0) with
  accessFlags := 49
  interfaces := #[]
  cf := some (fileOf pool2 53 #[] #[{ accessFlags := 2, nameIndex := 5, descriptorIndex := 6, attributes := #[] }, { accessFlags := 9, nameIndex := 56, descriptorIndex := 57, attributes := #[] }] 49 2 #[] #[])
  fields := #[]
  methods := #[k2m0, k2m1]
  instanceTypes := #[]
  staticTypes := #[]
  resolved := Array.replicate 79 none
  statics := none }

def pool3 : Array CpInfo := pool [(1, u "java/lang/Cloneable"), (0, .class_ 1), (0, u "java/lang/Object"), (0, .class_ 3)] 3

/-- java/lang/Cloneable -/
def k3 : Class := { plain "java/lang/Cloneable" (some 0) with
  accessFlags := 1537
  interfaces := #[]
  cf := some (fileOf pool3 2 #[] #[] 1537 4 #[] #[])
  fields := #[]
  methods := #[]
  instanceTypes := #[]
  staticTypes := #[]
  resolved := Array.replicate 8 none
  statics := none }

def pool4 : Array CpInfo := pool [(1, u "java/io/Serializable"), (0, .class_ 1), (0, u "java/lang/Object"), (0, .class_ 3)] 3

/-- java/io/Serializable -/
def k4 : Class := { plain "java/io/Serializable" (some 0) with
  accessFlags := 1537
  interfaces := #[]
  cf := some (fileOf pool4 2 #[] #[] 1537 4 #[] #[])
  fields := #[]
  methods := #[]
  instanceTypes := #[]
  staticTypes := #[]
  resolved := Array.replicate 8 none
  statics := none }

/-- the primitive byte -/
def k5 : Class := { plain "byte" none with kind := .primitive 'B', accessFlags := 0x411 }
/-- [B -/
def k6 : Class := { plain "[B" (some 0) with kind := .array 5 .byte, interfaces := #[3, 4], accessFlags := 1041 }

/-- the primitive int -/
def k7 : Class := { plain "int" none with kind := .primitive 'I', accessFlags := 0x411 }
/-- [I -/
def k8 : Class := { plain "[I" (some 0) with kind := .array 7 .int, interfaces := #[3, 4], accessFlags := 1041 }

def heap : Heap := #[]
def classes : Array Class := #[k0, k1, k2, k3, k4, k5, k6, k7, k8]
def interned : List (Array UInt16 × Addr) := []
def slotsUsed : Nat := 0
def theMethod : MethodId := ⟨1, 4⟩
def args0 : Array Value := #[.int 5, .int 6]
def aboutOver (below : List Frame) : State where
  vm := { classes := classes, interned := interned.toArray }
  heap := heap
  slotsUsed := slotsUsed
  threads := #[{ frames := .invoking theMethod args0 :: below }]
def below0 : List Frame := [.native { method := ⟨0, 0⟩, args := #[] }]
def about1 : State := aboutOver below0
def p0 : Program := .bare "" "" ""
def e0 : Env := launch0.env 0 0 0
theorem w_frames : about1.frames = Frame.invoking theMethod args0 :: below0 := rfl
set_option maxRecDepth 65536 in
theorem w_args : argsFit about1.vm theMethod args0 = true := by decide +kernel
set_option maxRecDepth 65536 in
theorem w_heap : heapFits about1 = true := by decide +kernel
set_option maxRecDepth 65536 in
theorem w_runnable : about1.curStatus? = some .runnable := by decide +kernel
set_option maxRecDepth 65536 in
theorem w_alone : about1.alone = true := by decide +kernel
set_option maxRecDepth 65536 in
theorem w_named : about1.methodNamed? x = some theMethod := by decide +kernel
set_option maxRecDepth 65536 in
theorem w_hears : about1.hears theMethod below0 = true := by decide +kernel
set_option maxRecDepth 65536 in
theorem w_ripe : about1.ripe theMethod args0 below0 = true := by decide +kernel
theorem w_running : about1.status = .running := rfl
set_option maxRecDepth 65536 in
theorem w_room : about1.hasRoom e0.platform room_1 = true :=
  launch0.hasRoom_least _ room_1 (by decide +kernel) (by decide +kernel) (by decide +kernel) (by decide +kernel) (by decide +kernel) (by decide +kernel)
theorem allAtoms_all (ts : List Jvm.Cond) (a : Array Jvm.Value) (st : Jvm.State) : (allAtoms ts).before a st = ts.all (fun c => c.before a st) := by
  induction ts with
  | nil => rfl
  | cons c t ih =>
    show (Jvm.Cond.and c (allAtoms t)).before a st = _
    rw [Jvm.Cond.before_and, ih, List.all_cons]
def words1 : List Jvm.Cond := Jvm.Cond.code x code maxLocals ret :: tables_1
/-- a 'code' word, met by the world's own term for the bytes: nothing is compared byte by byte -/
theorem code_word {y : MethodName} {bytes : ByteArray} {mx : Nat} {rt : Option FieldType} {a : Array Value} {s : State} {m : MethodId} {meth : Method} {c : Code} (h1 : s.methodNamed? y = some m) (h2 : s.vm.method? m = some meth) (h3 : meth.code = some c) (h4 : c.code = bytes)
    (h5 : (c.maxLocals == mx && c.exceptionTable.isEmpty && decide (c.maxStack ≤ mostOperands) && decide (meth.sig.returnType = rt) && !meth.locks && decide (parseMethodDescriptor y.desc = some meth.sig)) = true) : (Jvm.Cond.code y bytes mx rt).before a s = true := by
  simp only [Bool.and_eq_true, beq_iff_eq, Bool.not_eq_true', decide_eq_true_eq] at h5
  obtain ⟨⟨⟨⟨⟨g1, g2⟩, g3⟩, g4⟩, g5⟩, g6⟩ := h5
  simp [Cond.before, Cond.holds, Cond.value, h1, h2, h3, h4, g1, g2, g3, g4, g5, g6]
def isCode : Jvm.Cond → Bool
  | .code _ _ _ _ => true
  | _ => false
theorem all_split {L : List Jvm.Cond} {P : Jvm.Cond → Bool} (h1 : L.all (fun c => isCode c || P c) = true) (h2 : ∀ c ∈ L.filter isCode, P c = true) : L.all P = true := by
  refine List.all_eq_true.mpr fun c hc => ?_
  have h := List.all_eq_true.mp h1 c hc
  rcases Bool.eq_false_or_eq_true (isCode c) with hi | hi
  · exact h2 c (List.mem_filter.mpr ⟨hc, hi⟩)
  · simpa [hi] using h
set_option maxRecDepth 65536 in
theorem w_c0 : (Jvm.Cond.code x code maxLocals ret).before args0 about1 = true := code_word (m := ⟨1, 4⟩) (meth := k1m4) (c := k1c4) (by decide +kernel) rfl rfl rfl (by decide +kernel)
set_option maxRecDepth 65536 in
theorem w_c1 : (Jvm.Cond.code ({ cls := "com/example/tall_tree/talltree/model/XmlNames", name := "isNameStart", desc := "(I)Z" } : Jvm.MethodName) prog_152_method_4_code (1 : Nat) (Option.some Jvm.ClassFile.FieldType.boolean)).before args0 about1 = true := code_word (m := ⟨2, 1⟩) (meth := k2m1) (c := k2c1) (by decide +kernel) rfl rfl rfl (by decide +kernel)
set_option maxRecDepth 65536 in
theorem w_c2 : (Jvm.Cond.code ({ cls := "com/example/tall_tree/talltree/model/XmlNamesIsNameStartPinLaw", name := "ref", desc := "(I)Z" } : Jvm.MethodName) method_4_code (1 : Nat) (Option.some Jvm.ClassFile.FieldType.boolean)).before args0 about1 = true := code_word (m := ⟨1, 3⟩) (meth := k1m3) (c := k1c3) (by decide +kernel) rfl rfl rfl (by decide +kernel)
set_option maxRecDepth 65536 in
theorem w_c3 : (Jvm.Cond.code ({ cls := "com/example/tall_tree/talltree/model/XmlNamesIsNameStartPinLaw", name := "in", desc := "(III)Z" } : Jvm.MethodName) method_2_code (3 : Nat) (Option.some Jvm.ClassFile.FieldType.boolean)).before args0 about1 = true := code_word (m := ⟨1, 1⟩) (meth := k1m1) (c := k1c1) (by decide +kernel) rfl rfl rfl (by decide +kernel)
set_option maxRecDepth 65536 in
theorem w_c4 : (Jvm.Cond.code ({ cls := "com/example/tall_tree/talltree/model/XmlNamesIsNameStartPinLaw", name := "gap", desc := "(I)Z" } : Jvm.MethodName) method_3_code (1 : Nat) (Option.some Jvm.ClassFile.FieldType.boolean)).before args0 about1 = true := code_word (m := ⟨1, 2⟩) (meth := k1m2) (c := k1c2) (by decide +kernel) rfl rfl rfl (by decide +kernel)
def codes1 : List Jvm.Cond := [Jvm.Cond.code x code maxLocals ret, Jvm.Cond.code ({ cls := "com/example/tall_tree/talltree/model/XmlNames", name := "isNameStart", desc := "(I)Z" } : Jvm.MethodName) prog_152_method_4_code (1 : Nat) (Option.some Jvm.ClassFile.FieldType.boolean), Jvm.Cond.code ({ cls := "com/example/tall_tree/talltree/model/XmlNamesIsNameStartPinLaw", name := "ref", desc := "(I)Z" } : Jvm.MethodName) method_4_code (1 : Nat) (Option.some Jvm.ClassFile.FieldType.boolean), Jvm.Cond.code ({ cls := "com/example/tall_tree/talltree/model/XmlNamesIsNameStartPinLaw", name := "in", desc := "(III)Z" } : Jvm.MethodName) method_2_code (3 : Nat) (Option.some Jvm.ClassFile.FieldType.boolean), Jvm.Cond.code ({ cls := "com/example/tall_tree/talltree/model/XmlNamesIsNameStartPinLaw", name := "gap", desc := "(I)Z" } : Jvm.MethodName) method_3_code (1 : Nat) (Option.some Jvm.ClassFile.FieldType.boolean)]
set_option maxRecDepth 65536 in
theorem codes_eq : words1.filter isCode = codes1 := rfl
theorem w_codes : ∀ c ∈ words1.filter isCode, c.before args0 about1 = true := by
  rw [codes_eq]
  intro c hc
  simp only [codes1, List.mem_cons, List.not_mem_nil, or_false] at hc
  rcases hc with rfl | rfl | rfl | rfl | rfl
  · exact w_c0
  · exact w_c1
  · exact w_c2
  · exact w_c3
  · exact w_c4
set_option maxRecDepth 65536 in
theorem w_t1 : (words1.take 24).all (fun c => isCode c || c.before args0 about1) = true := by decide +kernel
set_option maxRecDepth 65536 in
theorem w_t2 : (words1.drop 24).all (fun c => isCode c || c.before args0 about1) = true := by decide +kernel
theorem w_tables : (allAtoms (Jvm.Cond.code x code maxLocals ret :: tables_1)).before args0 about1 = true := by
  rw [allAtoms_all]
  show words1.all (fun c => c.before args0 about1) = true
  refine all_split ?_ w_codes
  rw [← List.take_append_drop 24 words1, List.all_append, w_t1, w_t2]
  rfl
set_option maxRecDepth 65536 in
theorem w_case : (Jvm.Cond.and given_1 narrow_1).before args0 about1 = true := by decide +kernel
theorem w_applies : (headSpec (Jvm.Cond.code x code maxLocals ret :: tables_1) room_1).applies x e0.platform about1 = true :=
  (Spec.applies_iff w_frames).mpr ⟨w_running, w_runnable, w_alone, w_named, w_hears, w_ripe, w_room, w_tables⟩
theorem atStart : AtStart classFile x code maxLocals ret World_1 tables_1 room_1 Calls_1 rest_1 Pre_1 launch0 p0 e0 about1 theMethod args0 below0 :=
  ⟨lists_1, trivial, launch0.admits_env _ _ _, launch0.least_env, fairChoices_fair.cas, fairChoices_fair.clock, w_frames, w_args, w_heap, w_applies, trivial, trivial, w_case⟩
end start1
theorem witness_1 : WitnessClaimed_1 := ⟨start1.p0, start1.e0, start1.about1, start1.theMethod, start1.args0, start1.below0, start1.atStart⟩
end Jvm.Pilot.@@N@@
