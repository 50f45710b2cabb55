import JvmDerived
import JvmDerived.Pilot.@@N@@Statement
import JvmDerived.Pilot.@@N@@Code
set_option linter.unusedVariables false
set_option linter.unusedSimpArgs false
namespace Jvm.Wk9
open Sem ClassFile Op Lib Jvm.Stand Jvm.Free Jvm.LawKit Jvm.RoadKit
/-- the end of a walk; narrow (nothing interned) where wd is false -/
def FinE (wd : Bool) (s : State) (o : Outcome) (t : State) (L : List Loc) (k n : Nat) : Prop :=
  (wd = false → FrameEnd s o t L k n) ∧ ReturnedEndW s o t L k n
/-- what the walk keeps of the tables at hand and of the booked literals; mine: the cells it may write -/
def Vi (wd : Bool) (Z s : State) (EL : List (String × Nat)) (m0 mine : List Addr) (locs : List Loc) (vm : Vm) (h : Heap) : Prop :=
  ((wd = false → vm = s.vm) ∧ Z.Warmed39 vm ∧ (∃ k0, s.Since vm k0 ∧ k0 ≤ h.size) ∧ CHr Z EL s.vm s.heap vm h) ∧ (∀ x ∈ mine, x < h.size ∧ Safe Z EL vm h x ∧ Z.heap.size ≤ x ∧ (x ∈ m0 ∨ s.heap.size ≤ x)) ∧ Ext Z.heap h ∧ Keep s.heap h m0 ∧ Fr Z.heap.size locs
/-- from this frame over this heap the invocation comes to an end of which Q holds -/
def Go (wd : Bool) (p : Program) (l : Launch) (e : Env) (R : Room) (s : State) (m : MethodId) (args : Array Value) (below : List Frame) (meth : Method) (c : Code) (Z : State) (EL : List (String × Nat)) (Q : Option Value → Heap → Prop) (kc ks : Nat) (m0 mine : List Addr) (h : Heap) (locs : List Loc) (cells slots : Nat) (g : JFrame) : Prop :=
  ∀ (T : State) (vm0 : Vm), Stand p l e R (s.setVm vm0) m args below meth c T locs cells slots → T.heap = h → Vi wd Z s EL m0 mine locs vm0 h →
    ∃ (s₂ : State) (o : Outcome), Steps p.tables e below (T.setTop g) s₂ ∧ s₂.status = .running ∧ Ended s₂ below o ∧ ∃ (v : Option Value) (L : List Loc), o = .returned v ∧ Q v s₂.heap ∧ CHr Z EL s.vm s.heap s₂.vm s₂.heap ∧ FinE wd s o s₂ L kc ks ∧ Ext Z.heap s₂.heap ∧ Keep s.heap s₂.heap m0 ∧ Fr Z.heap.size L
/-- what is known of the method that is walked -/
def Cx (wd : Bool) (p : Program) (s : State) (m : MethodId) (meth : Method) (c : Code) (Z : State) (a0 : Array Value) (EL : List (String × Nat)) (own : String) (bytes : ByteArray) (ml : Nat) (ret : Option FieldType) (nm : String) : Prop :=
  p.tables.exec = Jvm.exec ∧ s.vm.findClass own = some m.cls ∧ c.code = bytes ∧ c.maxLocals = ml ∧ meth.sig.returnType = ret ∧ meth.locks = false ∧ EW Z a0 EL ∧ (wd = false → EL = []) ∧ meth.name = nm
/-- a contract: of the method y at these arguments, over the heap h -/
def MetW (wd : Bool) (l : Launch) (Z : State) (EL : List (String × Nat)) (y : MethodName) (bytes : ByteArray) (ml : Nat) (ret : Option FieldType) (ws : List Cond) (rm : Room) (as' : Array Value) (m0 : List Addr) (h : Heap) (Q : Option Value → Heap → Prop) : Prop :=
  MetFree l y (head1 (Cond.code y bytes ml ret :: ws) rm) (fun a U => a = as' ∧ Z.Warmed39 U.vm ∧ U.heap = h ∧ CHv Z EL U.vm h ∧ (∀ x ∈ m0, x < h.size ∧ Safe Z EL U.vm h x ∧ Z.heap.size ≤ x) ∧ Ext Z.heap h) (fun _ _ _ _ _ => True)
    (fun _ U o U' => ∃ v L, o = .returned v ∧ Q v U'.heap ∧ CHr Z EL U.vm U.heap U'.vm U'.heap ∧ FinE wd U o U' L rm.cells rm.slots ∧ Ext Z.heap U'.heap ∧ Keep U.heap U'.heap m0 ∧ Fr Z.heap.size L)
/-- an array whose places hold just vs -/
def Av (Z : State) (h : Heap) (a : Addr) (ty : FieldType) (vs : List Value) : Prop :=
  ∃ c : Cell, Arr Z h a c ty ∧ c.slots.toList = vs ∧ vs.length < 2147483648 ∧ ∀ v ∈ vs, fits ty v = true
section K
variable {wd : Bool} {p : Program} {l : Launch} {e : Env} {R : Room} {s : State} {m : MethodId} {args : Array Value} {below : List Frame} {meth : Method} {c : Code} {Z : State} {a0 : Array Value} {EL : List (String × Nat)} {Q : Option Value → Heap → Prop} {kc ks : Nat} {m0 mine : List Addr} {h h' : Heap} {locs : List Loc} {cells slots : Nat} {own nm : String} {bytes : ByteArray} {ml : Nat} {ret : Option FieldType} {pc : Nat} {Ls : Array Slot} {st : List Value} {a b : Addr} {ty : FieldType} {vs : List Value} {vm : Vm} {ws : List Addr} {v : Value} {sl : Nat}
theorem Cx.hx (C : Cx wd p s m meth c Z a0 EL own bytes ml ret nm) : p.tables.exec = Jvm.exec := C.1
theorem Cx.hown (C : Cx wd p s m meth c Z a0 EL own bytes ml ret nm) : s.vm.findClass own = some m.cls := C.2.1
theorem Cx.hby (C : Cx wd p s m meth c Z a0 EL own bytes ml ret nm) : c.code = bytes := C.2.2.1
theorem Cx.hml (C : Cx wd p s m meth c Z a0 EL own bytes ml ret nm) : c.maxLocals = ml := C.2.2.2.1
theorem Cx.hret (C : Cx wd p s m meth c Z a0 EL own bytes ml ret nm) : meth.sig.returnType = ret := C.2.2.2.2.1
theorem Cx.hlk (C : Cx wd p s m meth c Z a0 EL own bytes ml ret nm) : meth.locks = false := C.2.2.2.2.2.1
theorem Cx.hEW (C : Cx wd p s m meth c Z a0 EL own bytes ml ret nm) : EW Z a0 EL := C.2.2.2.2.2.2.1
theorem Cx.hwd (C : Cx wd p s m meth c Z a0 EL own bytes ml ret nm) : wd = false → EL = [] := C.2.2.2.2.2.2.2.1
theorem Cx.hnm (C : Cx wd p s m meth c Z a0 EL own bytes ml ret nm) : meth.name = nm := C.2.2.2.2.2.2.2.2
theorem Vi.hZ (V : Vi wd Z s EL m0 mine locs vm h) : Z.Warmed39 vm := V.1.2.1
theorem Vi.hZ' (V : Vi wd Z s EL m0 mine locs vm h) : Z.Warmed39 (s.setVm vm).vm := V.1.2.1
theorem Vi.held (V : Vi wd Z s EL m0 mine locs vm h) : CHv Z EL vm h := V.1.2.2.2.1
theorem Vi.fr (V : Vi wd Z s EL m0 mine locs vm h) : Fr Z.heap.size locs := V.2.2.2.2
theorem Vi.old (V : Vi wd Z s EL m0 mine locs vm h) : Ext Z.heap h := V.2.2.1
theorem Vi.hown (C : Cx wd p s m meth c Z a0 EL own bytes ml ret nm) (V : Vi wd Z s EL m0 mine locs vm h) : (s.setVm vm).vm.findClass own = some m.cls := by
  obtain ⟨⟨-, -, ⟨k0, hS, -⟩, -⟩, -⟩ := V
  show vm.findClass own = some m.cls
  rw [hS.1.alike.findClass]; exact C.hown
theorem Vi.hown' (C : Cx wd p s m meth c Z a0 EL own bytes ml ret nm) (V : Vi wd Z s EL m0 mine locs vm h) : vm.findClass own = some m.cls := V.hown C
theorem Vi.keep {locs' : List Loc} (K : Keep h h' ws) (hw : ∀ x ∈ ws, x ∈ mine) (hF : Fr Z.heap.size locs') (V : Vi wd Z s EL m0 mine locs vm h) : Vi wd Z s EL m0 mine locs' vm h' := by
  obtain ⟨⟨v1, v2, ⟨k0, v3, v4⟩, v5⟩, v6, v7, v8, v9⟩ := V
  have sf : ∀ x ∈ ws, Safe Z EL vm h x := fun x hx => (v6 x (hw x hx)).2.1
  have R2 : CHr Z EL vm h vm h' := CHr.keep K sf v5.1
  exact ⟨⟨v1, v2, ⟨k0, v3, Nat.le_trans v4 K.1⟩, v5.trans R2⟩, fun x hx => ⟨Nat.lt_of_lt_of_le (v6 x hx).1 K.1, R2.safe (v6 x hx).1 (v6 x hx).2.1, (v6 x hx).2.2⟩,
    (Old.keep (n0 := Z.heap.size) ⟨rfl, v7⟩ K (fun x hx => (v6 x (hw x hx)).2.2.1)).2, v8.trans K (fun x hx => (v6 x (hw x hx)).2.2.2), hF⟩
theorem keep_ext (E : Ext h h') : Keep h h' [] := (Keep.refl h []).ext E
theorem Vi.ext (E : Ext h h') (V : Vi wd Z s EL m0 mine locs vm h) : Vi wd Z s EL m0 mine locs vm h' := V.keep (keep_ext E) (fun _ q => nomatch q) V.fr
theorem Vi.new (E : Ext h h') (hlt : h.size < h'.size) (V : Vi wd Z s EL m0 mine locs vm h) : Vi wd Z s EL m0 (h.size :: mine) locs vm h' := by
  have V' := V.ext E
  refine ⟨V'.1, fun x hx => ?_, V'.2.2⟩
  rcases List.mem_cons.mp hx with rfl | hx
  · exact ⟨hlt, Safe.ext E V.held (Safe.new (Nat.le_refl _)), V.2.2.1.1, Or.inr V.2.2.2.1.1⟩
  · exact V'.2.1 x hx
theorem Vi.less {mine' : List Addr} (hm : ∀ x ∈ mine', x ∈ mine) (V : Vi wd Z s EL m0 mine locs vm h) : Vi wd Z s EL m0 mine' locs vm h :=
  ⟨V.1, fun x hx => V.2.1 x (hm x hx), V.2.2⟩
theorem Vi.wr1 (V : Vi wd Z s EL m0 mine locs vm h) (hm : a ∈ mine) : Fr Z.heap.size (locs ++ [⟨a, sl⟩]) := fun y hy => by
  rcases List.mem_append.mp hy with q | q
  · exact V.fr y q
  · rw [List.mem_singleton.mp q]; exact (V.2.1 a hm).2.2.1
theorem Go.less {mine' : List Addr} {g : JFrame} (hm : ∀ x ∈ mine', x ∈ mine) (nx : Go wd p l e R s m args below meth c Z EL Q kc ks m0 mine' h locs cells slots g) : Go wd p l e R s m args below meth c Z EL Q kc ks m0 mine h locs cells slots g :=
  fun T vm0 X eT V => nx T vm0 X eT (V.less hm)
theorem Go.join {α : Sort _} {P : α → JFrame} {g : JFrame} (k : ∀ x, Go wd p l e R s m args below meth c Z EL Q kc ks m0 mine h locs cells slots (P x)) (u : (∀ x, Go wd p l e R s m args below meth c Z EL Q kc ks m0 mine h locs cells slots (P x)) → Go wd p l e R s m args below meth c Z EL Q kc ks m0 mine h locs cells slots g) : Go wd p l e R s m args below meth c Z EL Q kc ks m0 mine h locs cells slots g := u k
/-- what the walk knows besides, brought to light -/
theorem Go.know {g : JFrame} (nx : Ext Z.heap h → Keep s.heap h m0 → (∀ x ∈ mine, x < h.size ∧ Z.heap.size ≤ x) → Go wd p l e R s m args below meth c Z EL Q kc ks m0 mine h locs cells slots g) : Go wd p l e R s m args below meth c Z EL Q kc ks m0 mine h locs cells slots g :=
  fun T vm0 X eT V => nx V.2.2.1 V.2.2.2.1 (fun x hx => ⟨(V.2.1 x hx).1, (V.2.1 x hx).2.2.1⟩) T vm0 X eT V
theorem FinE.mono {o : Outcome} {t : State} {L : List Loc} {k n k' n' : Nat} (F : FinE wd s o t L k n) (h1 : k ≤ k') (h2 : n ≤ n') : FinE wd s o t L k' n' :=
  ⟨fun q => ⟨(F.1 q).1, (F.1 q).2.1, (F.1 q).2.2.mono h1 h2⟩, F.2.1, F.2.2.1, F.2.2.2.1, F.2.2.2.2.mono h1 h2⟩
theorem MetW.post {y : MethodName} {wsc : List Cond} {rm : Room} {as' : Array Value} {Q' : Option Value → Heap → Prop} (M : MetW wd l Z EL y bytes ml ret wsc rm as' m0 h Q) (hq : ∀ v h', Q v h' → Keep h h' m0 → Q' v h') : MetW wd l Z EL y bytes ml ret wsc rm as' m0 h Q' :=
  MetFree.mono M (fun _ _ q => q) (fun _ _ _ _ _ q => q) (fun _ _ _ _ hP ⟨v, L, q1, q2, q3, q4, q5, q6, q7⟩ => ⟨v, L, q1, hq _ _ q2 (by rw [← hP.2.2.1]; exact q6), q3, q4, q5, q6, q7⟩)
/-- the entry of a method -/
theorem MetW.ofF {y : MethodName} {wsc : List Cond} {rm : Room} {as' : Array Value} (hpn : plainFor y = true) (hef : ∀ m : MethodId, entryFrame m as' ml = mkF m 0 Ls []) (hEW : EW Z a0 EL) (hwd : wd = false → EL = [])
    (body : ∀ (p : Program) (e : Env) (s : State) (m : MethodId) (below : List Frame) (meth : Method) (c : Code), s.heap = h → Cx wd p s m meth c Z a0 EL y.cls bytes ml ret y.name → Go wd p l e rm s m as' below meth c Z EL Q rm.cells rm.slots m0 m0 h [] 0 0 (mkF m 0 Ls [])) :
    MetW wd l Z EL y bytes ml ret wsc rm as' m0 h Q := by
  refine MetFree.of_bodySF hpn hisR ?_
  intro p e s m args below meth c s₁ Bd hml0 hP hK
  obtain ⟨rfl, hZ, hh, H, hm, hold⟩ := hP
  have X0 : Stand p l e rm s m args below meth c s₁ [] 0 0 := Stand.of_body Bd
  have e0 : s₁.heap = h := by rw [← hh, Bd.state]; rfl
  have hlk : meth.locks = false := by first | exact BodyLoose.notSynchronized Bd | exact Body.notSynchronized Bd
  have C : Cx wd p s m meth c Z a0 EL y.cls bytes ml ret y.name := ⟨Bd.exec, findClass_of_methodNamed Bd.named, Bd.bytes, hml0, Bd.returns, hlk, hEW, hwd, (name_of_methodNamed Bd.named Bd.method).1⟩
  have V : Vi wd Z s EL m0 m0 [] s.vm h := ⟨⟨fun _ => rfl, hZ, ⟨h.size, ⟨State.Warmed39.refl s, fun j q hj hq => absurd (Array.getElem?_eq_some_iff.mp hq).1 (Nat.not_lt.mpr hj)⟩, Nat.le_refl _⟩, by rw [hh]; exact CHr.refl H⟩, fun x hx => ⟨(hm x hx).1, (hm x hx).2.1, (hm x hx).2.2, Or.inl hx⟩, hold, by rw [hh]; exact Keep.refl _ _, Fr.nil _⟩
  obtain ⟨s₂, o, k, r1, r2, v, L, r3, r4, r5, r6⟩ := body p e s m below meth c hh C s₁ s.vm X0 e0 V
  exact ⟨s₂, o, castTop (hef m) k, r1, r2, v, L, r3, r4, r5, r6⟩
theorem MetW.of {y : MethodName} {wsc : List Cond} {rm : Room} {as' : Array Value} (hpn : plainName y.cls = true) (hef : ∀ m : MethodId, entryFrame m as' ml = mkF m 0 Ls []) (hEW : EW Z a0 EL) (hwd : wd = false → EL = [])
    (body : ∀ (p : Program) (e : Env) (s : State) (m : MethodId) (below : List Frame) (meth : Method) (c : Code), s.heap = h → Cx wd p s m meth c Z a0 EL y.cls bytes ml ret y.name → Go wd p l e rm s m as' below meth c Z EL Q rm.cells rm.slots m0 m0 h [] 0 0 (mkF m 0 Ls [])) :
    MetW wd l Z EL y bytes ml ret wsc rm as' m0 h Q :=
  MetW.ofF (plainFor_of_name hpn) hef hEW hwd body
theorem Go.pure {g g' : JFrame} (nx : Go wd p l e R s m args below meth c Z EL Q kc ks m0 mine h locs cells slots g') (stp : ∀ (T target : State), At T m c below → Steps p.tables e below (T.setTop g') target → Steps p.tables e below (T.setTop g) target) : Go wd p l e R s m args below meth c Z EL Q kc ks m0 mine h locs cells slots g :=
  fun T vm0 X eT V => by
    obtain ⟨s₂, o, k, r⟩ := nx T vm0 X eT V
    exact ⟨s₂, o, stp T s₂ X.here k, r⟩
def hC (cd : ClassFile.Cond) (x y : Int32) : Prop := match cd with | .eq => x = y | .ne => ¬ x = y | .lt => x < y | .ge => ¬ x < y | .gt => y < x | .le => ¬ y < x
def nC (cd : ClassFile.Cond) (x y : Int32) : Prop := match cd with | .eq => ¬ x = y | .ne => x = y | .lt => ¬ x < y | .ge => x < y | .gt => ¬ y < x | .le => y < x
theorem hC_t {cd : ClassFile.Cond} {x y : Int32} (q : hC cd x y) : if_icmp.holds cd x y = true := by
  cases cd
  · exact (teq q).1
  · exact (feq q).2
  · exact (tlt q).1
  · exact (flt q).2.1
  · exact (tlt q).2.2.1
  · exact (flt q).2.2.2
theorem nC_f {cd : ClassFile.Cond} {x y : Int32} (q : nC cd x y) : if_icmp.holds cd x y = false := by
  cases cd
  · exact (feq q).1
  · exact (teq q).2
  · exact (flt q).1
  · exact (tlt q).2.1
  · exact (flt q).2.2.1
  · exact (tlt q).2.2.2
def aC (cd : ClassFile.ACond) (x y : Value) : Prop := match cd with | .eq => x = y | .ne => ¬ x = y
def aN (cd : ClassFile.ACond) (x y : Value) : Prop := match cd with | .eq => ¬ x = y | .ne => x = y
theorem aC_t {cd : ClassFile.ACond} {x y : Value} (q : aC cd x y) : XT.acmp cd x y = true := by
  cases cd
  · exact XT.aa_eq_t q
  · exact XT.aa_ne_t q
theorem aN_f {cd : ClassFile.ACond} {x y : Value} (q : aN cd x y) : XT.acmp cd x y = false := by
  cases cd
  · exact XT.aa_eq_f q
  · exact XT.aa_ne_f q
theorem g_aloadN {k : Fin 4} {v : Value} (C : Cx wd p s m meth c Z a0 EL own bytes ml ret nm) (hd : decode bytes pc = .ok (.aload_n k, 1)) (hl : Ls[k.val]? = some (.val v)) (hv : v.isRef = true) (nx : Go wd p l e R s m args below meth c Z EL Q kc ks m0 mine h locs cells slots (mkF m (pc + 1) Ls (v :: st))) : Go wd p l e R s m args below meth c Z EL Q kc ks m0 mine h locs cells slots (mkF m pc Ls (st)) := nx.pure fun T t H hr => XS.aloadN H C.hx rfl (hb C.hby hd) hl hv hr
theorem g_aload {k : Nat} {v : Value} (C : Cx wd p s m meth c Z a0 EL own bytes ml ret nm) (hd : decode bytes pc = .ok (.aload k, 2)) (hl : Ls[k]? = some (.val v)) (hv : v.isRef = true) (nx : Go wd p l e R s m args below meth c Z EL Q kc ks m0 mine h locs cells slots (mkF m (pc + 2) Ls (v :: st))) : Go wd p l e R s m args below meth c Z EL Q kc ks m0 mine h locs cells slots (mkF m pc Ls (st)) := nx.pure fun T t H hr => XS.aload H C.hx rfl (hb C.hby hd) hl hv hr
theorem g_iloadN {k : Fin 4} {x : Int32} (C : Cx wd p s m meth c Z a0 EL own bytes ml ret nm) (hd : decode bytes pc = .ok (.iload_n k, 1)) (hl : Ls[k.val]? = some (.val (.int x))) (nx : Go wd p l e R s m args below meth c Z EL Q kc ks m0 mine h locs cells slots (mkF m (pc + 1) Ls (.int x :: st))) : Go wd p l e R s m args below meth c Z EL Q kc ks m0 mine h locs cells slots (mkF m pc Ls (st)) := nx.pure fun T t H hr => XS.iloadN H C.hx rfl (hb C.hby hd) hl hr
theorem g_iload {k : Nat} {x : Int32} (C : Cx wd p s m meth c Z a0 EL own bytes ml ret nm) (hd : decode bytes pc = .ok (.iload k, 2)) (hl : Ls[k]? = some (.val (.int x))) (nx : Go wd p l e R s m args below meth c Z EL Q kc ks m0 mine h locs cells slots (mkF m (pc + 2) Ls (.int x :: st))) : Go wd p l e R s m args below meth c Z EL Q kc ks m0 mine h locs cells slots (mkF m pc Ls (st)) := nx.pure fun T t H hr => XS.iload H C.hx rfl (hb C.hby hd) hl hr
theorem g_lloadN {k : Fin 4} {x : Int64} (C : Cx wd p s m meth c Z a0 EL own bytes ml ret nm) (hd : decode bytes pc = .ok (.lload_n k, 1)) (hl : Ls[k.val]? = some (.val (.long x))) (nx : Go wd p l e R s m args below meth c Z EL Q kc ks m0 mine h locs cells slots (mkF m (pc + 1) Ls (.long x :: st))) : Go wd p l e R s m args below meth c Z EL Q kc ks m0 mine h locs cells slots (mkF m pc Ls (st)) := nx.pure fun T t H hr => XT.lloadN H C.hx rfl (hb C.hby hd) hl hr
theorem g_lload {k : Nat} {x : Int64} (C : Cx wd p s m meth c Z a0 EL own bytes ml ret nm) (hd : decode bytes pc = .ok (.lload k, 2)) (hl : Ls[k]? = some (.val (.long x))) (nx : Go wd p l e R s m args below meth c Z EL Q kc ks m0 mine h locs cells slots (mkF m (pc + 2) Ls (.long x :: st))) : Go wd p l e R s m args below meth c Z EL Q kc ks m0 mine h locs cells slots (mkF m pc Ls (st)) := nx.pure fun T t H hr => XT.lload H C.hx rfl (hb C.hby hd) hl hr
theorem g_istoreN {k : Fin 4} {x : Int32} (l' : Array Slot) (C : Cx wd p s m meth c Z a0 EL own bytes ml ret nm) (hd : decode bytes pc = .ok (.istore_n k, 1)) (hl : storeLocals Ls k.val (.int x) = some l') (nx : Go wd p l e R s m args below meth c Z EL Q kc ks m0 mine h locs cells slots (mkF m (pc + 1) l' (st))) : Go wd p l e R s m args below meth c Z EL Q kc ks m0 mine h locs cells slots (mkF m pc Ls (.int x :: st)) := nx.pure fun T t H hr => XS.istoreN H C.hx rfl (hb C.hby hd) rfl hl hr
theorem g_istore {k : Nat} {x : Int32} (l' : Array Slot) (C : Cx wd p s m meth c Z a0 EL own bytes ml ret nm) (hd : decode bytes pc = .ok (.istore k, 2)) (hl : storeLocals Ls k (.int x) = some l') (nx : Go wd p l e R s m args below meth c Z EL Q kc ks m0 mine h locs cells slots (mkF m (pc + 2) l' (st))) : Go wd p l e R s m args below meth c Z EL Q kc ks m0 mine h locs cells slots (mkF m pc Ls (.int x :: st)) := nx.pure fun T t H hr => XS.istore H C.hx rfl (hb C.hby hd) rfl hl hr
theorem g_lstoreN {k : Fin 4} {x : Int64} (l' : Array Slot) (C : Cx wd p s m meth c Z a0 EL own bytes ml ret nm) (hd : decode bytes pc = .ok (.lstore_n k, 1)) (hl : storeLocals Ls k.val (.long x) = some l') (nx : Go wd p l e R s m args below meth c Z EL Q kc ks m0 mine h locs cells slots (mkF m (pc + 1) l' (st))) : Go wd p l e R s m args below meth c Z EL Q kc ks m0 mine h locs cells slots (mkF m pc Ls (.long x :: st)) := nx.pure fun T t H hr => XT.lstoreN H C.hx rfl (hb C.hby hd) rfl hl hr
theorem g_lstore {k : Nat} {x : Int64} (l' : Array Slot) (C : Cx wd p s m meth c Z a0 EL own bytes ml ret nm) (hd : decode bytes pc = .ok (.lstore k, 2)) (hl : storeLocals Ls k (.long x) = some l') (nx : Go wd p l e R s m args below meth c Z EL Q kc ks m0 mine h locs cells slots (mkF m (pc + 2) l' (st))) : Go wd p l e R s m args below meth c Z EL Q kc ks m0 mine h locs cells slots (mkF m pc Ls (.long x :: st)) := nx.pure fun T t H hr => XT.lstore H C.hx rfl (hb C.hby hd) rfl hl hr
theorem g_astoreN {k : Fin 4} {x : Value} (l' : Array Slot) (C : Cx wd p s m meth c Z a0 EL own bytes ml ret nm) (hd : decode bytes pc = .ok (.astore_n k, 1)) (hv : x.isRef = true) (hl : storeLocals Ls k.val x = some l') (nx : Go wd p l e R s m args below meth c Z EL Q kc ks m0 mine h locs cells slots (mkF m (pc + 1) l' (st))) : Go wd p l e R s m args below meth c Z EL Q kc ks m0 mine h locs cells slots (mkF m pc Ls (x :: st)) := nx.pure fun T t H hr => XS.astoreN H C.hx rfl (hb C.hby hd) rfl hv hl hr
theorem g_astore {k : Nat} {x : Value} (l' : Array Slot) (C : Cx wd p s m meth c Z a0 EL own bytes ml ret nm) (hd : decode bytes pc = .ok (.astore k, 2)) (hv : x.isRef = true) (hl : storeLocals Ls k x = some l') (nx : Go wd p l e R s m args below meth c Z EL Q kc ks m0 mine h locs cells slots (mkF m (pc + 2) l' (st))) : Go wd p l e R s m args below meth c Z EL Q kc ks m0 mine h locs cells slots (mkF m pc Ls (x :: st)) := nx.pure fun T t H hr => XS.astore H C.hx rfl (hb C.hby hd) rfl hv hl hr
theorem g_iconst {i : Int} (z : Int32) (C : Cx wd p s m meth c Z a0 EL own bytes ml ret nm) (hd : decode bytes pc = .ok (.iconst i, 1)) (hz : Int32.ofInt i = z) (nx : Go wd p l e R s m args below meth c Z EL Q kc ks m0 mine h locs cells slots (mkF m (pc + 1) Ls (.int z :: st))) : Go wd p l e R s m args below meth c Z EL Q kc ks m0 mine h locs cells slots (mkF m pc Ls (st)) := nx.pure fun T t H hr => XT.iconstV H C.hx rfl z (hb C.hby hd) hz hr
theorem g_bipush {i : Int} (z : Int32) (C : Cx wd p s m meth c Z a0 EL own bytes ml ret nm) (hd : decode bytes pc = .ok (.bipush i, 2)) (hz : (Int8.ofInt i).toInt32 = z) (nx : Go wd p l e R s m args below meth c Z EL Q kc ks m0 mine h locs cells slots (mkF m (pc + 2) Ls (.int z :: st))) : Go wd p l e R s m args below meth c Z EL Q kc ks m0 mine h locs cells slots (mkF m pc Ls (st)) := nx.pure fun T t H hr => XT.bipushV H C.hx rfl z (hb C.hby hd) hz hr
theorem g_sipush {i : Int} (z : Int32) (C : Cx wd p s m meth c Z a0 EL own bytes ml ret nm) (hd : decode bytes pc = .ok (.sipush i, 3)) (hz : (Int16.ofInt i).toInt32 = z) (nx : Go wd p l e R s m args below meth c Z EL Q kc ks m0 mine h locs cells slots (mkF m (pc + 3) Ls (.int z :: st))) : Go wd p l e R s m args below meth c Z EL Q kc ks m0 mine h locs cells slots (mkF m pc Ls (st)) := nx.pure fun T t H hr => XT.sipushV H C.hx rfl z (hb C.hby hd) hz hr
theorem g_lconst {k : Fin 2} (z : Int64) (C : Cx wd p s m meth c Z a0 EL own bytes ml ret nm) (hd : decode bytes pc = .ok (.lconst k, 1)) (hz : Int64.ofNat k = z) (nx : Go wd p l e R s m args below meth c Z EL Q kc ks m0 mine h locs cells slots (mkF m (pc + 1) Ls (.long z :: st))) : Go wd p l e R s m args below meth c Z EL Q kc ks m0 mine h locs cells slots (mkF m pc Ls (st)) := nx.pure fun T t H hr => XT.lconstV H C.hx rfl z (hb C.hby hd) hz hr
theorem g_aconstNull  (C : Cx wd p s m meth c Z a0 EL own bytes ml ret nm) (hd : decode bytes pc = .ok (.aconst_null, 1))  (nx : Go wd p l e R s m args below meth c Z EL Q kc ks m0 mine h locs cells slots (mkF m (pc + 1) Ls (.null :: st))) : Go wd p l e R s m args below meth c Z EL Q kc ks m0 mine h locs cells slots (mkF m pc Ls (st)) := nx.pure fun T t H hr => XS.aconstNull H C.hx rfl (hb C.hby hd) hr
theorem g_iadd {x y : Int32} (z : Int32) (C : Cx wd p s m meth c Z a0 EL own bytes ml ret nm) (hd : decode bytes pc = .ok (.iadd, 1)) (hz : x + y = z) (nx : Go wd p l e R s m args below meth c Z EL Q kc ks m0 mine h locs cells slots (mkF m (pc + 1) Ls (.int z :: st))) : Go wd p l e R s m args below meth c Z EL Q kc ks m0 mine h locs cells slots (mkF m pc Ls (.int y :: .int x :: st)) := by subst hz; exact nx.pure fun T t H hr => XS.iadd H C.hx rfl (hb C.hby hd) rfl hr
theorem g_isub {x y : Int32} (z : Int32) (C : Cx wd p s m meth c Z a0 EL own bytes ml ret nm) (hd : decode bytes pc = .ok (.isub, 1)) (hz : x - y = z) (nx : Go wd p l e R s m args below meth c Z EL Q kc ks m0 mine h locs cells slots (mkF m (pc + 1) Ls (.int z :: st))) : Go wd p l e R s m args below meth c Z EL Q kc ks m0 mine h locs cells slots (mkF m pc Ls (.int y :: .int x :: st)) := by subst hz; exact nx.pure fun T t H hr => XS.isub H C.hx rfl (hb C.hby hd) rfl hr
theorem g_iand {x y : Int32} (z : Int32) (C : Cx wd p s m meth c Z a0 EL own bytes ml ret nm) (hd : decode bytes pc = .ok (.iand, 1)) (hz : x &&& y = z) (nx : Go wd p l e R s m args below meth c Z EL Q kc ks m0 mine h locs cells slots (mkF m (pc + 1) Ls (.int z :: st))) : Go wd p l e R s m args below meth c Z EL Q kc ks m0 mine h locs cells slots (mkF m pc Ls (.int y :: .int x :: st)) := by subst hz; exact nx.pure fun T t H hr => XS.iand H C.hx rfl (hb C.hby hd) rfl hr
theorem g_imul {x y : Int32} (z : Int32) (C : Cx wd p s m meth c Z a0 EL own bytes ml ret nm) (hd : decode bytes pc = .ok (.imul, 1)) (hz : x * y = z) (nx : Go wd p l e R s m args below meth c Z EL Q kc ks m0 mine h locs cells slots (mkF m (pc + 1) Ls (.int z :: st))) : Go wd p l e R s m args below meth c Z EL Q kc ks m0 mine h locs cells slots (mkF m pc Ls (.int y :: .int x :: st)) := by subst hz; exact nx.pure fun T t H hr => XS.imul H C.hx rfl (hb C.hby hd) rfl hr
theorem g_ixor {x y : Int32} (z : Int32) (C : Cx wd p s m meth c Z a0 EL own bytes ml ret nm) (hd : decode bytes pc = .ok (.ixor, 1)) (hz : x ^^^ y = z) (nx : Go wd p l e R s m args below meth c Z EL Q kc ks m0 mine h locs cells slots (mkF m (pc + 1) Ls (.int z :: st))) : Go wd p l e R s m args below meth c Z EL Q kc ks m0 mine h locs cells slots (mkF m pc Ls (.int y :: .int x :: st)) := by subst hz; exact nx.pure fun T t H hr => XT.ixor H C.hx rfl (hb C.hby hd) rfl hr
theorem g_ior {x y : Int32} (z : Int32) (C : Cx wd p s m meth c Z a0 EL own bytes ml ret nm) (hd : decode bytes pc = .ok (.ior, 1)) (hz : x ||| y = z) (nx : Go wd p l e R s m args below meth c Z EL Q kc ks m0 mine h locs cells slots (mkF m (pc + 1) Ls (.int z :: st))) : Go wd p l e R s m args below meth c Z EL Q kc ks m0 mine h locs cells slots (mkF m pc Ls (.int y :: .int x :: st)) := by subst hz; exact nx.pure fun T t H hr => XT.ior H C.hx rfl (hb C.hby hd) rfl hr
theorem g_ishl {x y : Int32} (z : Int32) (C : Cx wd p s m meth c Z a0 EL own bytes ml ret nm) (hd : decode bytes pc = .ok (.ishl, 1)) (hz : x <<< (y &&& 31) = z) (nx : Go wd p l e R s m args below meth c Z EL Q kc ks m0 mine h locs cells slots (mkF m (pc + 1) Ls (.int z :: st))) : Go wd p l e R s m args below meth c Z EL Q kc ks m0 mine h locs cells slots (mkF m pc Ls (.int y :: .int x :: st)) := by subst hz; exact nx.pure fun T t H hr => XT.ishl H C.hx rfl (hb C.hby hd) rfl hr
theorem g_ishr {x y : Int32} (z : Int32) (C : Cx wd p s m meth c Z a0 EL own bytes ml ret nm) (hd : decode bytes pc = .ok (.ishr, 1)) (hz : x >>> (y &&& 31) = z) (nx : Go wd p l e R s m args below meth c Z EL Q kc ks m0 mine h locs cells slots (mkF m (pc + 1) Ls (.int z :: st))) : Go wd p l e R s m args below meth c Z EL Q kc ks m0 mine h locs cells slots (mkF m pc Ls (.int y :: .int x :: st)) := by subst hz; exact nx.pure fun T t H hr => XT.ishr H C.hx rfl (hb C.hby hd) rfl hr
theorem g_iushr {x y : Int32} (z : Int32) (C : Cx wd p s m meth c Z a0 EL own bytes ml ret nm) (hd : decode bytes pc = .ok (.iushr, 1)) (hz : XT.ushr x y = z) (nx : Go wd p l e R s m args below meth c Z EL Q kc ks m0 mine h locs cells slots (mkF m (pc + 1) Ls (.int z :: st))) : Go wd p l e R s m args below meth c Z EL Q kc ks m0 mine h locs cells slots (mkF m pc Ls (.int y :: .int x :: st)) := by subst hz; exact nx.pure fun T t H hr => XT.iushr H C.hx rfl (hb C.hby hd) rfl hr
theorem g_idiv {x y : Int32} (z : Int32) (C : Cx wd p s m meth c Z a0 EL own bytes ml ret nm) (hd : decode bytes pc = .ok (.idiv, 1)) (hy : y ≠ 0) (hz : x / y = z) (nx : Go wd p l e R s m args below meth c Z EL Q kc ks m0 mine h locs cells slots (mkF m (pc + 1) Ls (.int z :: st))) : Go wd p l e R s m args below meth c Z EL Q kc ks m0 mine h locs cells slots (mkF m pc Ls (.int y :: .int x :: st)) := by subst hz; exact nx.pure fun T t H hr => XS.idiv H C.hx rfl (hb C.hby hd) rfl hy hr
theorem g_irem {x y : Int32} (z : Int32) (C : Cx wd p s m meth c Z a0 EL own bytes ml ret nm) (hd : decode bytes pc = .ok (.irem, 1)) (hy : y ≠ 0) (hz : x - (x / y) * y = z) (nx : Go wd p l e R s m args below meth c Z EL Q kc ks m0 mine h locs cells slots (mkF m (pc + 1) Ls (.int z :: st))) : Go wd p l e R s m args below meth c Z EL Q kc ks m0 mine h locs cells slots (mkF m pc Ls (.int y :: .int x :: st)) := by subst hz; exact nx.pure fun T t H hr => XS.irem H C.hx rfl (hb C.hby hd) rfl hy hr
theorem g_ineg {x : Int32} (z : Int32) (C : Cx wd p s m meth c Z a0 EL own bytes ml ret nm) (hd : decode bytes pc = .ok (.ineg, 1)) (hz : -x = z) (nx : Go wd p l e R s m args below meth c Z EL Q kc ks m0 mine h locs cells slots (mkF m (pc + 1) Ls (.int z :: st))) : Go wd p l e R s m args below meth c Z EL Q kc ks m0 mine h locs cells slots (mkF m pc Ls (.int x :: st)) := by subst hz; exact nx.pure fun T t H hr => XS.ineg H C.hx rfl (hb C.hby hd) rfl hr
theorem g_i2b {x : Int32} (z : Int32) (C : Cx wd p s m meth c Z a0 EL own bytes ml ret nm) (hd : decode bytes pc = .ok (.i2b, 1)) (hz : x.toInt8.toInt32 = z) (nx : Go wd p l e R s m args below meth c Z EL Q kc ks m0 mine h locs cells slots (mkF m (pc + 1) Ls (.int z :: st))) : Go wd p l e R s m args below meth c Z EL Q kc ks m0 mine h locs cells slots (mkF m pc Ls (.int x :: st)) := by subst hz; exact nx.pure fun T t H hr => XT.i2b H C.hx rfl (hb C.hby hd) rfl hr
theorem g_i2c {x : Int32} (z : Int32) (C : Cx wd p s m meth c Z a0 EL own bytes ml ret nm) (hd : decode bytes pc = .ok (.i2c, 1)) (hz : x.toUInt32.toUInt16.toUInt32.toInt32 = z) (nx : Go wd p l e R s m args below meth c Z EL Q kc ks m0 mine h locs cells slots (mkF m (pc + 1) Ls (.int z :: st))) : Go wd p l e R s m args below meth c Z EL Q kc ks m0 mine h locs cells slots (mkF m pc Ls (.int x :: st)) := by subst hz; exact nx.pure fun T t H hr => XT.i2c H C.hx rfl (hb C.hby hd) rfl hr
theorem g_i2s {x : Int32} (z : Int32) (C : Cx wd p s m meth c Z a0 EL own bytes ml ret nm) (hd : decode bytes pc = .ok (.i2s, 1)) (hz : x.toInt16.toInt32 = z) (nx : Go wd p l e R s m args below meth c Z EL Q kc ks m0 mine h locs cells slots (mkF m (pc + 1) Ls (.int z :: st))) : Go wd p l e R s m args below meth c Z EL Q kc ks m0 mine h locs cells slots (mkF m pc Ls (.int x :: st)) := by subst hz; exact nx.pure fun T t H hr => XT.i2s H C.hx rfl (hb C.hby hd) rfl hr
theorem g_i2l {x : Int32} (z : Int64) (C : Cx wd p s m meth c Z a0 EL own bytes ml ret nm) (hd : decode bytes pc = .ok (.i2l, 1)) (hz : x.toInt64 = z) (nx : Go wd p l e R s m args below meth c Z EL Q kc ks m0 mine h locs cells slots (mkF m (pc + 1) Ls (.long z :: st))) : Go wd p l e R s m args below meth c Z EL Q kc ks m0 mine h locs cells slots (mkF m pc Ls (.int x :: st)) := by subst hz; exact nx.pure fun T t H hr => XT.i2l H C.hx rfl (hb C.hby hd) rfl hr
theorem g_l2i {x : Int64} (z : Int32) (C : Cx wd p s m meth c Z a0 EL own bytes ml ret nm) (hd : decode bytes pc = .ok (.l2i, 1)) (hz : x.toInt32 = z) (nx : Go wd p l e R s m args below meth c Z EL Q kc ks m0 mine h locs cells slots (mkF m (pc + 1) Ls (.int z :: st))) : Go wd p l e R s m args below meth c Z EL Q kc ks m0 mine h locs cells slots (mkF m pc Ls (.long x :: st)) := by subst hz; exact nx.pure fun T t H hr => XT.l2i H C.hx rfl (hb C.hby hd) rfl hr
theorem g_ladd {x y : Int64} (z : Int64) (C : Cx wd p s m meth c Z a0 EL own bytes ml ret nm) (hd : decode bytes pc = .ok (.ladd, 1)) (hz : x + y = z) (nx : Go wd p l e R s m args below meth c Z EL Q kc ks m0 mine h locs cells slots (mkF m (pc + 1) Ls (.long z :: st))) : Go wd p l e R s m args below meth c Z EL Q kc ks m0 mine h locs cells slots (mkF m pc Ls (.long y :: .long x :: st)) := by subst hz; exact nx.pure fun T t H hr => XT.ladd H C.hx rfl (hb C.hby hd) rfl hr
theorem g_lsub {x y : Int64} (z : Int64) (C : Cx wd p s m meth c Z a0 EL own bytes ml ret nm) (hd : decode bytes pc = .ok (.lsub, 1)) (hz : x - y = z) (nx : Go wd p l e R s m args below meth c Z EL Q kc ks m0 mine h locs cells slots (mkF m (pc + 1) Ls (.long z :: st))) : Go wd p l e R s m args below meth c Z EL Q kc ks m0 mine h locs cells slots (mkF m pc Ls (.long y :: .long x :: st)) := by subst hz; exact nx.pure fun T t H hr => XT.lsub H C.hx rfl (hb C.hby hd) rfl hr
theorem g_lmul {x y : Int64} (z : Int64) (C : Cx wd p s m meth c Z a0 EL own bytes ml ret nm) (hd : decode bytes pc = .ok (.lmul, 1)) (hz : x * y = z) (nx : Go wd p l e R s m args below meth c Z EL Q kc ks m0 mine h locs cells slots (mkF m (pc + 1) Ls (.long z :: st))) : Go wd p l e R s m args below meth c Z EL Q kc ks m0 mine h locs cells slots (mkF m pc Ls (.long y :: .long x :: st)) := by subst hz; exact nx.pure fun T t H hr => XT.lmul H C.hx rfl (hb C.hby hd) rfl hr
theorem g_land {x y : Int64} (z : Int64) (C : Cx wd p s m meth c Z a0 EL own bytes ml ret nm) (hd : decode bytes pc = .ok (.land, 1)) (hz : x &&& y = z) (nx : Go wd p l e R s m args below meth c Z EL Q kc ks m0 mine h locs cells slots (mkF m (pc + 1) Ls (.long z :: st))) : Go wd p l e R s m args below meth c Z EL Q kc ks m0 mine h locs cells slots (mkF m pc Ls (.long y :: .long x :: st)) := by subst hz; exact nx.pure fun T t H hr => XT.land H C.hx rfl (hb C.hby hd) rfl hr
theorem g_lor {x y : Int64} (z : Int64) (C : Cx wd p s m meth c Z a0 EL own bytes ml ret nm) (hd : decode bytes pc = .ok (.lor, 1)) (hz : x ||| y = z) (nx : Go wd p l e R s m args below meth c Z EL Q kc ks m0 mine h locs cells slots (mkF m (pc + 1) Ls (.long z :: st))) : Go wd p l e R s m args below meth c Z EL Q kc ks m0 mine h locs cells slots (mkF m pc Ls (.long y :: .long x :: st)) := by subst hz; exact nx.pure fun T t H hr => XT.lor H C.hx rfl (hb C.hby hd) rfl hr
theorem g_lxor {x y : Int64} (z : Int64) (C : Cx wd p s m meth c Z a0 EL own bytes ml ret nm) (hd : decode bytes pc = .ok (.lxor, 1)) (hz : x ^^^ y = z) (nx : Go wd p l e R s m args below meth c Z EL Q kc ks m0 mine h locs cells slots (mkF m (pc + 1) Ls (.long z :: st))) : Go wd p l e R s m args below meth c Z EL Q kc ks m0 mine h locs cells slots (mkF m pc Ls (.long y :: .long x :: st)) := by subst hz; exact nx.pure fun T t H hr => XT.lxor H C.hx rfl (hb C.hby hd) rfl hr
theorem g_ldiv {x y : Int64} (z : Int64) (C : Cx wd p s m meth c Z a0 EL own bytes ml ret nm) (hd : decode bytes pc = .ok (.ldiv, 1)) (hy : y ≠ 0) (hz : x / y = z) (nx : Go wd p l e R s m args below meth c Z EL Q kc ks m0 mine h locs cells slots (mkF m (pc + 1) Ls (.long z :: st))) : Go wd p l e R s m args below meth c Z EL Q kc ks m0 mine h locs cells slots (mkF m pc Ls (.long y :: .long x :: st)) := by subst hz; exact nx.pure fun T t H hr => XT.ldiv H C.hx rfl (hb C.hby hd) rfl hy hr
theorem g_lrem {x y : Int64} (z : Int64) (C : Cx wd p s m meth c Z a0 EL own bytes ml ret nm) (hd : decode bytes pc = .ok (.lrem, 1)) (hy : y ≠ 0) (hz : x - (x / y) * y = z) (nx : Go wd p l e R s m args below meth c Z EL Q kc ks m0 mine h locs cells slots (mkF m (pc + 1) Ls (.long z :: st))) : Go wd p l e R s m args below meth c Z EL Q kc ks m0 mine h locs cells slots (mkF m pc Ls (.long y :: .long x :: st)) := by subst hz; exact nx.pure fun T t H hr => XT.lrem H C.hx rfl (hb C.hby hd) rfl hy hr
theorem g_lshl {x : Int64} {y : Int32} (z : Int64) (C : Cx wd p s m meth c Z a0 EL own bytes ml ret nm) (hd : decode bytes pc = .ok (.lshl, 1)) (hz : x <<< (y.toInt64 &&& 63) = z) (nx : Go wd p l e R s m args below meth c Z EL Q kc ks m0 mine h locs cells slots (mkF m (pc + 1) Ls (.long z :: st))) : Go wd p l e R s m args below meth c Z EL Q kc ks m0 mine h locs cells slots (mkF m pc Ls (.int y :: .long x :: st)) := by subst hz; exact nx.pure fun T t H hr => XT.lshl H C.hx rfl (hb C.hby hd) rfl hr
theorem g_lshr {x : Int64} {y : Int32} (z : Int64) (C : Cx wd p s m meth c Z a0 EL own bytes ml ret nm) (hd : decode bytes pc = .ok (.lshr, 1)) (hz : x >>> (y.toInt64 &&& 63) = z) (nx : Go wd p l e R s m args below meth c Z EL Q kc ks m0 mine h locs cells slots (mkF m (pc + 1) Ls (.long z :: st))) : Go wd p l e R s m args below meth c Z EL Q kc ks m0 mine h locs cells slots (mkF m pc Ls (.int y :: .long x :: st)) := by subst hz; exact nx.pure fun T t H hr => XT.lshr H C.hx rfl (hb C.hby hd) rfl hr
theorem g_lushr {x : Int64} {y : Int32} (z : Int64) (C : Cx wd p s m meth c Z a0 EL own bytes ml ret nm) (hd : decode bytes pc = .ok (.lushr, 1)) (hz : XT.ushrL x y = z) (nx : Go wd p l e R s m args below meth c Z EL Q kc ks m0 mine h locs cells slots (mkF m (pc + 1) Ls (.long z :: st))) : Go wd p l e R s m args below meth c Z EL Q kc ks m0 mine h locs cells slots (mkF m pc Ls (.int y :: .long x :: st)) := by subst hz; exact nx.pure fun T t H hr => XT.lushr H C.hx rfl (hb C.hby hd) rfl hr
theorem g_lneg {x : Int64} (z : Int64) (C : Cx wd p s m meth c Z a0 EL own bytes ml ret nm) (hd : decode bytes pc = .ok (.lneg, 1)) (hz : -x = z) (nx : Go wd p l e R s m args below meth c Z EL Q kc ks m0 mine h locs cells slots (mkF m (pc + 1) Ls (.long z :: st))) : Go wd p l e R s m args below meth c Z EL Q kc ks m0 mine h locs cells slots (mkF m pc Ls (.long x :: st)) := by subst hz; exact nx.pure fun T t H hr => XT.lneg H C.hx rfl (hb C.hby hd) rfl hr
theorem g_lcmp {x y : Int64} (C : Cx wd p s m meth c Z a0 EL own bytes ml ret nm) (hd : decode bytes pc = .ok (.lcmp, 1))  (nx : Go wd p l e R s m args below meth c Z EL Q kc ks m0 mine h locs cells slots (mkF m (pc + 1) Ls (.int (XT.cmpL x y) :: st))) : Go wd p l e R s m args below meth c Z EL Q kc ks m0 mine h locs cells slots (mkF m pc Ls (.long y :: .long x :: st)) := nx.pure fun T t H hr => XT.lcmp H C.hx rfl (hb C.hby hd) rfl hr
theorem g_iinc {k : Nat} {cst : Int} {x : Int32} (z : Int32) (l' : Array Slot) (C : Cx wd p s m meth c Z a0 EL own bytes ml ret nm) (hd : decode bytes pc = .ok (.iinc k cst, 3)) (hl : Ls[k]? = some (.val (.int x))) (hz : x + Int32.ofInt cst = z) (hl' : storeLocals Ls k (.int z) = some l') (nx : Go wd p l e R s m args below meth c Z EL Q kc ks m0 mine h locs cells slots (mkF m (pc + 3) l' (st))) : Go wd p l e R s m args below meth c Z EL Q kc ks m0 mine h locs cells slots (mkF m pc Ls (st)) := by subst hz; exact nx.pure fun T t H hr => XS.iinc H C.hx rfl (hb C.hby hd) hl hl' hr
theorem g_dup {x : Value} (C : Cx wd p s m meth c Z a0 EL own bytes ml ret nm) (hd : decode bytes pc = .ok (.dup, 1)) (hc : x.category = 1) (nx : Go wd p l e R s m args below meth c Z EL Q kc ks m0 mine h locs cells slots (mkF m (pc + 1) Ls (x :: x :: st))) : Go wd p l e R s m args below meth c Z EL Q kc ks m0 mine h locs cells slots (mkF m pc Ls (x :: st)) := nx.pure fun T t H hr => XS.dup H C.hx rfl (hb C.hby hd) rfl hc hr
theorem g_pop {x : Value} (C : Cx wd p s m meth c Z a0 EL own bytes ml ret nm) (hd : decode bytes pc = .ok (.pop, 1)) (hc : x.category = 1) (nx : Go wd p l e R s m args below meth c Z EL Q kc ks m0 mine h locs cells slots (mkF m (pc + 1) Ls (st))) : Go wd p l e R s m args below meth c Z EL Q kc ks m0 mine h locs cells slots (mkF m pc Ls (x :: st)) := nx.pure fun T t H hr => XT.pop H C.hx rfl (hb C.hby hd) rfl hc hr
theorem g_dupX1 {x y : Value} (C : Cx wd p s m meth c Z a0 EL own bytes ml ret nm) (hd : decode bytes pc = .ok (.dup_x1, 1)) (hc : x.category = 1) (hc' : y.category = 1) (nx : Go wd p l e R s m args below meth c Z EL Q kc ks m0 mine h locs cells slots (mkF m (pc + 1) Ls (x :: y :: x :: st))) : Go wd p l e R s m args below meth c Z EL Q kc ks m0 mine h locs cells slots (mkF m pc Ls (x :: y :: st)) := nx.pure fun T t H hr => XT.dupX1 H C.hx rfl (hb C.hby hd) rfl hc hc' hr
theorem g_dup2 {x y : Value} (C : Cx wd p s m meth c Z a0 EL own bytes ml ret nm) (hd : decode bytes pc = .ok (.dup2, 1)) (hc : x.category = 1) (hc' : y.category = 1) (nx : Go wd p l e R s m args below meth c Z EL Q kc ks m0 mine h locs cells slots (mkF m (pc + 1) Ls (x :: y :: x :: y :: st))) : Go wd p l e R s m args below meth c Z EL Q kc ks m0 mine h locs cells slots (mkF m pc Ls (x :: y :: st)) := nx.pure fun T t H hr => XT.dup2 H C.hx rfl (hb C.hby hd) rfl hc hc' hr
theorem g_dup2L {x : Int64} (C : Cx wd p s m meth c Z a0 EL own bytes ml ret nm) (hd : decode bytes pc = .ok (.dup2, 1))  (nx : Go wd p l e R s m args below meth c Z EL Q kc ks m0 mine h locs cells slots (mkF m (pc + 1) Ls (.long x :: .long x :: st))) : Go wd p l e R s m args below meth c Z EL Q kc ks m0 mine h locs cells slots (mkF m pc Ls (.long x :: st)) := nx.pure fun T t H hr => XT.dup2L H C.hx rfl (hb C.hby hd) rfl hr
theorem g_goto {o : Int} (pc' : Nat) (C : Cx wd p s m meth c Z a0 EL own bytes ml ret nm) (hd : decode bytes pc = .ok (.goto o, 3)) (ho : 0 ≤ (pc : Int) + o) (hp : ((pc : Int) + o).toNat = pc') (nx : Go wd p l e R s m args below meth c Z EL Q kc ks m0 mine h locs cells slots (mkF m pc' Ls (st))) : Go wd p l e R s m args below meth c Z EL Q kc ks m0 mine h locs cells slots (mkF m pc Ls (st)) := nx.pure fun T t H hr => XS.goto H C.hx rfl rfl (hb C.hby hd) ho hp hr
theorem g_ifT {cd : ClassFile.Cond} {x : Int32} {o : Int} (pc' : Nat) (C : Cx wd p s m meth c Z a0 EL own bytes ml ret nm) (hd : decode bytes pc = .ok (.ifCond cd o, 3)) (hc : hC cd x 0) (ho : 0 ≤ (pc : Int) + o) (hp : ((pc : Int) + o).toNat = pc') (nx : Go wd p l e R s m args below meth c Z EL Q kc ks m0 mine h locs cells slots (mkF m pc' Ls (st))) : Go wd p l e R s m args below meth c Z EL Q kc ks m0 mine h locs cells slots (mkF m pc Ls (.int x :: st)) := nx.pure fun T t H hr => XS.ifYes H C.hx rfl rfl (hb C.hby hd) rfl (by rw [if0]; exact hC_t hc) ho hp hr
theorem g_ifF {cd : ClassFile.Cond} {x : Int32} {o : Int} (C : Cx wd p s m meth c Z a0 EL own bytes ml ret nm) (hd : decode bytes pc = .ok (.ifCond cd o, 3)) (hc : nC cd x 0) (nx : Go wd p l e R s m args below meth c Z EL Q kc ks m0 mine h locs cells slots (mkF m (pc + 3) Ls (st))) : Go wd p l e R s m args below meth c Z EL Q kc ks m0 mine h locs cells slots (mkF m pc Ls (.int x :: st)) := nx.pure fun T t H hr => XS.ifNo H C.hx rfl (hb C.hby hd) rfl (by rw [if0]; exact nC_f hc) hr
theorem g_icmpT {cd : ClassFile.Cond} {x y : Int32} {o : Int} (pc' : Nat) (C : Cx wd p s m meth c Z a0 EL own bytes ml ret nm) (hd : decode bytes pc = .ok (.if_icmp cd o, 3)) (hc : hC cd x y) (ho : 0 ≤ (pc : Int) + o) (hp : ((pc : Int) + o).toNat = pc') (nx : Go wd p l e R s m args below meth c Z EL Q kc ks m0 mine h locs cells slots (mkF m pc' Ls (st))) : Go wd p l e R s m args below meth c Z EL Q kc ks m0 mine h locs cells slots (mkF m pc Ls (.int y :: .int x :: st)) := nx.pure fun T t H hr => XS.icmpYes H C.hx rfl rfl (hb C.hby hd) rfl (hC_t hc) ho hp hr
theorem g_icmpF {cd : ClassFile.Cond} {x y : Int32} {o : Int} (C : Cx wd p s m meth c Z a0 EL own bytes ml ret nm) (hd : decode bytes pc = .ok (.if_icmp cd o, 3)) (hc : nC cd x y) (nx : Go wd p l e R s m args below meth c Z EL Q kc ks m0 mine h locs cells slots (mkF m (pc + 3) Ls (st))) : Go wd p l e R s m args below meth c Z EL Q kc ks m0 mine h locs cells slots (mkF m pc Ls (.int y :: .int x :: st)) := nx.pure fun T t H hr => XS.icmpNo H C.hx rfl (hb C.hby hd) rfl (nC_f hc) hr
theorem g_acmpT {cd : ClassFile.ACond} {x y : Value} {o : Int} (pc' : Nat) (C : Cx wd p s m meth c Z a0 EL own bytes ml ret nm) (hd : decode bytes pc = .ok (.if_acmp cd o, 3)) (hx : x.isRef = true) (hy : y.isRef = true) (hc : aC cd x y) (ho : 0 ≤ (pc : Int) + o) (hp : ((pc : Int) + o).toNat = pc') (nx : Go wd p l e R s m args below meth c Z EL Q kc ks m0 mine h locs cells slots (mkF m pc' Ls (st))) : Go wd p l e R s m args below meth c Z EL Q kc ks m0 mine h locs cells slots (mkF m pc Ls (y :: x :: st)) := nx.pure fun T t H hr => XT.acmpYes H C.hx rfl rfl (hb C.hby hd) rfl hx hy (aC_t hc) ho hp hr
theorem g_acmpF {cd : ClassFile.ACond} {x y : Value} {o : Int} (C : Cx wd p s m meth c Z a0 EL own bytes ml ret nm) (hd : decode bytes pc = .ok (.if_acmp cd o, 3)) (hx : x.isRef = true) (hy : y.isRef = true) (hc : aN cd x y) (nx : Go wd p l e R s m args below meth c Z EL Q kc ks m0 mine h locs cells slots (mkF m (pc + 3) Ls (st))) : Go wd p l e R s m args below meth c Z EL Q kc ks m0 mine h locs cells slots (mkF m pc Ls (y :: x :: st)) := nx.pure fun T t H hr => XT.acmpNo H C.hx rfl (hb C.hby hd) rfl hx hy (aN_f hc) hr
theorem g_ifnullT {o : Int} (pc' : Nat) (C : Cx wd p s m meth c Z a0 EL own bytes ml ret nm) (hd : decode bytes pc = .ok (.ifnull o, 3)) (ho : 0 ≤ (pc : Int) + o) (hp : ((pc : Int) + o).toNat = pc') (nx : Go wd p l e R s m args below meth c Z EL Q kc ks m0 mine h locs cells slots (mkF m pc' Ls (st))) : Go wd p l e R s m args below meth c Z EL Q kc ks m0 mine h locs cells slots (mkF m pc Ls (.null :: st)) := nx.pure fun T t H hr => XS.ifnullYes H C.hx rfl rfl (hb C.hby hd) rfl ho hp hr
theorem g_ifnullF {o : Int} {b : Addr} (C : Cx wd p s m meth c Z a0 EL own bytes ml ret nm) (hd : decode bytes pc = .ok (.ifnull o, 3))  (nx : Go wd p l e R s m args below meth c Z EL Q kc ks m0 mine h locs cells slots (mkF m (pc + 3) Ls (st))) : Go wd p l e R s m args below meth c Z EL Q kc ks m0 mine h locs cells slots (mkF m pc Ls (.ref b :: st)) := nx.pure fun T t H hr => XS.ifnullNo H C.hx rfl (hb C.hby hd) rfl hr
theorem g_ifnonnullT {o : Int} {b : Addr} (pc' : Nat) (C : Cx wd p s m meth c Z a0 EL own bytes ml ret nm) (hd : decode bytes pc = .ok (.ifnonnull o, 3)) (ho : 0 ≤ (pc : Int) + o) (hp : ((pc : Int) + o).toNat = pc') (nx : Go wd p l e R s m args below meth c Z EL Q kc ks m0 mine h locs cells slots (mkF m pc' Ls (st))) : Go wd p l e R s m args below meth c Z EL Q kc ks m0 mine h locs cells slots (mkF m pc Ls (.ref b :: st)) := nx.pure fun T t H hr => XT.ifnonnullYes H C.hx rfl rfl (hb C.hby hd) rfl ho hp hr
theorem g_ifnonnullF {o : Int} (C : Cx wd p s m meth c Z a0 EL own bytes ml ret nm) (hd : decode bytes pc = .ok (.ifnonnull o, 3))  (nx : Go wd p l e R s m args below meth c Z EL Q kc ks m0 mine h locs cells slots (mkF m (pc + 3) Ls (st))) : Go wd p l e R s m args below meth c Z EL Q kc ks m0 mine h locs cells slots (mkF m pc Ls (.null :: st)) := nx.pure fun T t H hr => XT.ifnonnullNo H C.hx rfl (hb C.hby hd) rfl hr
theorem g_tswIn {dflt low high o : Int} {offs : Array Int} {i : Int32} {ln : Nat} (pc' : Nat) (C : Cx wd p s m meth c Z a0 EL own bytes ml ret nm) (hd : decode bytes pc = .ok (.tableswitch dflt low high offs, ln)) (hin : ¬ (i.toInt < low ∨ i.toInt > high)) (hoff : offs[(i.toInt - low).toNat]? = some o) (ho : 0 ≤ (pc : Int) + o) (hp : ((pc : Int) + o).toNat = pc') (nx : Go wd p l e R s m args below meth c Z EL Q kc ks m0 mine h locs cells slots (mkF m pc' Ls (st))) : Go wd p l e R s m args below meth c Z EL Q kc ks m0 mine h locs cells slots (mkF m pc Ls (.int i :: st)) := nx.pure fun T t H hr => XS.tswIn H C.hx rfl rfl (hb C.hby hd) rfl hin hoff ho hp hr
theorem g_tswOut {o low high : Int} {offs : Array Int} {i : Int32} {ln : Nat} (pc' : Nat) (C : Cx wd p s m meth c Z a0 EL own bytes ml ret nm) (hd : decode bytes pc = .ok (.tableswitch o low high offs, ln)) (hout : i.toInt < low ∨ i.toInt > high) (ho : 0 ≤ (pc : Int) + o) (hp : ((pc : Int) + o).toNat = pc') (nx : Go wd p l e R s m args below meth c Z EL Q kc ks m0 mine h locs cells slots (mkF m pc' Ls (st))) : Go wd p l e R s m args below meth c Z EL Q kc ks m0 mine h locs cells slots (mkF m pc Ls (.int i :: st)) := nx.pure fun T t H hr => XS.tswOut H C.hx rfl rfl (hb C.hby hd) rfl hout ho hp hr
theorem g_leave_ {v : Option Value} {g : JFrame} (C : Cx wd p s m meth c Z a0 EL own bytes ml ret nm) (hv : meth.sig.returnType = none → v = none) (hq : Q v h) (hc : cells ≤ kc) (hs : slots ≤ ks)
    (stp : ∀ (T : State) (vm0 : Vm) (fs : List Frame), Stand p l e R (s.setVm vm0) m args below meth c T locs cells slots → (∀ (f : JFrame) (acts : List Action), f.method = m → f.locked = none → f.entered = [] → (doReturn e (T.setTop f) acts v).1 = T.setFrames fs) → Steps p.tables e below (T.setTop g) (T.setFrames fs)) :
    Go wd p l e R s m args below meth c Z EL Q kc ks m0 mine h locs cells slots g := fun T vm0 X eT V => by
  obtain ⟨⟨v1, v2, ⟨k0, v3, v4⟩, v5⟩, v6, v7, v8, v9⟩ := V
  have hlk := C.hlk
  obtain ⟨fs, hr, hrun, hended, hW, hsame⟩ := X.leave hv hlk
  obtain ⟨u1, u2, u3⟩ := v3.ended (U := T.setFrames fs) hW (by show k0 ≤ T.heap.size; rw [eT]; exact v4) hsame
  have hC : CHr Z EL vm0 h T.vm h := CHv.at X v2 C.hEW v5.1
  refine ⟨_, _, stp T vm0 fs X hr, hrun, hended, v, locs, rfl, ?_, ?_, FinE.mono ⟨fun q => ?_, ⟨v, rfl⟩, u1, u2, u3⟩ hc hs, ?_, ?_, v9⟩
  · show Q v T.heap
    rw [eT]; exact hq
  · show CHr Z EL s.vm s.heap T.vm T.heap
    rw [eT]; exact v5.trans hC
  · have e1 : vm0 = s.vm := v1 q
    subst e1
    exact ⟨⟨v, rfl⟩, hW, hsame⟩
  · show Ext Z.heap T.heap
    rw [eT]; exact v7
  · show Keep s.heap T.heap m0
    rw [eT]; exact v8
theorem g_retV {i : Instr} {t : FieldType} {w : Value} (C : Cx wd p s m meth c Z a0 EL own bytes ml (some t) nm) (hd : decode bytes pc = .ok (i, 1)) (hn : narrow t w = w)
    (hi : (i = .ireturn ∧ (t = .int ∨ t = .boolean ∨ t = .byte ∨ t = .char ∨ t = .short) ∧ ∃ z, w = .int z) ∨ (i = .lreturn ∧ t = .long ∧ ∃ z, w = .long z) ∨ (i = .dreturn ∧ t = .double ∧ ∃ z, w = .double z) ∨ (i = .freturn ∧ t = .float ∧ ∃ z, w = .float z) ∨ (i = .areturn ∧ t.isReference = true ∧ w.isRef = true))
    (hq : Q (some w) h) (hc : cells ≤ kc) (hs : slots ≤ ks) : Go wd p l e R s m args below meth c Z EL Q kc ks m0 mine h locs cells slots (mkF m pc Ls (w :: st)) :=
  g_leave_ C (fun q => by rw [C.hret] at q; cases q) hq hc hs fun T vm0 fs X hr => retOut X C.hx C.hret hn hi (hb C.hby hd) hr
theorem g_retI {z : Int32} (C : Cx wd p s m meth c Z a0 EL own bytes ml (some .int) nm) (hd : decode bytes pc = .ok (.ireturn, 1)) (hq : Q (some (.int z)) h) (hc : cells ≤ kc) (hs : slots ≤ ks) : Go wd p l e R s m args below meth c Z EL Q kc ks m0 mine h locs cells slots (mkF m pc Ls (.int z :: st)) :=
  g_retV C hd rfl (Or.inl ⟨rfl, Or.inl rfl, z, rfl⟩) hq hc hs
theorem g_retJ {z : Int64} (C : Cx wd p s m meth c Z a0 EL own bytes ml (some .long) nm) (hd : decode bytes pc = .ok (.lreturn, 1)) (hq : Q (some (.long z)) h) (hc : cells ≤ kc) (hs : slots ≤ ks) : Go wd p l e R s m args below meth c Z EL Q kc ks m0 mine h locs cells slots (mkF m pc Ls (.long z :: st)) :=
  g_retV C hd rfl (Or.inr (Or.inl ⟨rfl, rfl, z, rfl⟩)) hq hc hs
theorem g_retA {t : FieldType} {w : Value} (C : Cx wd p s m meth c Z a0 EL own bytes ml (some t) nm) (hd : decode bytes pc = .ok (.areturn, 1)) (ht : t.isReference = true) (hw : w.isRef = true) (hq : Q (some w) h) (hc : cells ≤ kc) (hs : slots ≤ ks) : Go wd p l e R s m args below meth c Z EL Q kc ks m0 mine h locs cells slots (mkF m pc Ls (w :: st)) :=
  g_retV C hd (by cases t <;> first | (simp [FieldType.isReference] at ht; done) | rfl) (Or.inr (Or.inr (Or.inr (Or.inr ⟨rfl, ht, hw⟩)))) hq hc hs
/-- boolean, byte, char, short: what is left of z -/
theorem g_retN {z : Int32} {t : FieldType} (C : Cx wd p s m meth c Z a0 EL own bytes ml (some t) nm) (hd : decode bytes pc = .ok (.ireturn, 1)) (ht : t = .boolean ∨ t = .byte ∨ t = .char ∨ t = .short) (hq : Q (some (.int (nar t z))) h) (hc : cells ≤ kc) (hs : slots ≤ ks) : Go wd p l e R s m args below meth c Z EL Q kc ks m0 mine h locs cells slots (mkF m pc Ls (.int z :: st)) :=
  g_leave_ C (fun q => by rw [C.hret] at q; cases q) hq hc hs fun T vm0 fs X hr => RoadKit.retN X C.hx C.hret ht (hb C.hby hd) hr
theorem g_retU (C : Cx wd p s m meth c Z a0 EL own bytes ml none nm) (hd : decode bytes pc = .ok (.return_, 1)) (hq : Q none h) (hc : cells ≤ kc) (hs : slots ≤ ks) : Go wd p l e R s m args below meth c Z EL Q kc ks m0 mine h locs cells slots (mkF m pc Ls []) :=
  g_leave_ C (fun _ => rfl) hq hc hs fun T vm0 fs X hr => X.returnOut C.hx C.hret (hb C.hby hd) hr
theorem g_getfield {idx : Nat} {R0 O n d host : String} {v : Value} (C : Cx wd p s m meth c Z a0 EL own bytes ml ret nm) (hd : decode bytes pc = .ok (.getfield idx, 3)) (w : (Cond.fieldLink own idx R0 n d).before a0 Z = true ∨ (Cond.fieldLinkNest own idx R0 n d host).before a0 Z = true) (via : Via Z R0 O n d) (F : Fld Z h a O n d v)
    (nx : Go wd p l e R s m args below meth c Z EL Q kc ks m0 mine h locs cells slots (mkF m (pc + 3) Ls (v :: st))) : Go wd p l e R s m args below meth c Z EL Q kc ks m0 mine h locs cells slots (mkF m pc Ls (.ref a :: st)) := fun T vm0 X eT V => by
  obtain ⟨T', X', e', k1⟩ := RoadKit.getF X C.hx V.hZ' (V.hown C) w via eT F (g := mkF m pc Ls (.ref a :: st)) rfl rfl (hb C.hby hd)
  obtain ⟨s₂, o, k, r⟩ := nx T' vm0 X' e' V
  exact ⟨s₂, o, k1 _ k, r⟩
theorem g_getstatic {idx : Nat} {R0 O n d host : String} {v : Value} (C : Cx wd p s m meth c Z a0 EL own bytes ml ret nm) (hd : decode bytes pc = .ok (.getstatic idx, 3)) (w : (Cond.fieldLink own idx R0 n d).before a0 Z = true ∨ (Cond.fieldLinkNest own idx R0 n d host).before a0 Z = true) (via : Via Z R0 O n d) (F : Sta Z Z.heap O n d v)
    (nx : Go wd p l e R s m args below meth c Z EL Q kc ks m0 mine h locs cells slots (mkF m (pc + 3) Ls (v :: st))) : Go wd p l e R s m args below meth c Z EL Q kc ks m0 mine h locs cells slots (mkF m pc Ls st) := fun T vm0 X eT V => by
  obtain ⟨T', X', e', k1⟩ := getS2 X C.hx V.hZ' (V.hown C) w via eT (Sta.ext V.old F) (g := mkF m pc Ls st) rfl (hb C.hby hd)
  obtain ⟨s₂, o, k, r⟩ := nx T' vm0 X' e' V
  exact ⟨s₂, o, k1 _ k, r⟩
theorem g_putfield {idx kk : Nat} {R0 O n d host Cn : String} {v old : Value} {ty : FieldType} (C : Cx wd p s m meth c Z a0 EL own bytes ml ret nm) (hd : decode bytes pc = .ok (.putfield idx, 3)) (w : (Cond.fieldLink own idx R0 n d).before a0 Z = true ∨ (Cond.fieldLinkNest own idx R0 n d host).before a0 Z = true) (via : Via Z R0 O n d) (F : Fld Z h a O n d old) (E : Exa Z h a Cn)
    (L : (Cond.lays Cn O n d).before a0 Z = true ∨ ((Cond.laysFinal Cn O n d).before a0 Z = true ∧ own = O ∧ nm = "<init>")) (wi : (Cond.instantiable Cn kk).before a0 Z = true) (hty : parseFieldDescriptor d = some ty) (hn : narrow ty v = v) (hf : fits ty v = true) (hm : a ∈ mine)
    (nx : ∀ h', Wr h h' a (RoadKit.slotOf Z O n d) v → Keep h h' [a] → Go wd p l e R s m args below meth c Z EL Q kc ks m0 mine h' (locs ++ [⟨a, RoadKit.slotOf Z O n d⟩]) cells slots (mkF m (pc + 3) Ls st)) : Go wd p l e R s m args below meth c Z EL Q kc ks m0 mine h locs cells slots (mkF m pc Ls (v :: .ref a :: st)) := fun T vm0 X eT V => by
  have L' : (Cond.lays Cn O n d).before a0 Z = true ∨ ((Cond.laysFinal Cn O n d).before a0 Z = true ∧ own = O ∧ meth.name = "<init>") := L.imp id fun q => ⟨q.1, q.2.1, by rw [C.hnm]; exact q.2.2⟩
  obtain ⟨T', h', X', e', W, k1⟩ := putF X C.hx V.hZ' (V.hown C) w via eT F E L' wi hty hn hf (g := mkF m pc Ls (v :: .ref a :: st)) rfl rfl (hb C.hby hd)
  obtain ⟨s₂, o, k, r⟩ := nx h' W (Keep.of_wr W) T' vm0 X' e' (V.keep (Keep.of_wr W) (fun x hx => by rw [List.mem_singleton.mp hx]; exact hm) (V.wr1 hm))
  exact ⟨s₂, o, k1 _ k, r⟩
theorem g_new_ {idx kk : Nat} {Cn : String} (C : Cx wd p s m meth c Z a0 EL own bytes ml ret nm) (hd : decode bytes pc = .ok (.new idx, 3)) (w : (Cond.classLink own idx Cn).before a0 Z = true) (wi : (Cond.instantiable Cn kk).before a0 Z = true) (wz : (Cond.initialized Cn).before a0 Z = true) (hc : cells + 1 ≤ R.cells) (hs : slots + kk ≤ R.slots)
    (nx : ∀ (a : Addr) (h' : Heap), a = h.size → Ext h h' → a < h'.size → Exa Z h' a Cn → (∀ {O n d : String} {ty : FieldType}, Laid Z a0 Cn O n d → parseFieldDescriptor d = some ty → Fld Z h' a O n d (defaultValue ty)) → Go wd p l e R s m args below meth c Z EL Q kc ks m0 (a :: mine) h' locs (cells + 1) (slots + kk) (mkF m (pc + 3) Ls (.ref a :: st))) : Go wd p l e R s m args below meth c Z EL Q kc ks m0 mine h locs cells slots (mkF m pc Ls st) := fun T vm0 X eT V => by
  obtain ⟨T', h', X', e', E, A, D, -, k1⟩ := newO X C.hx V.hZ' (V.hown C) w wi wz eT (g := mkF m pc Ls st) rfl (hb C.hby hd) hc hs
  obtain ⟨s₂, o, k, r⟩ := nx h.size h' rfl E A.lt A D T' vm0 X' e' (V.new E A.lt)
  exact ⟨s₂, o, k1 _ k, r⟩
theorem g_objInit {idx : Nat} (C : Cx wd p s m meth c Z a0 EL own bytes ml ret nm) (hd : decode bytes pc = .ok (.invokespecial idx, 3)) (w1 : (Cond.methodLink own idx Lib.objectInit).before a0 Z = true) (w2 : (Cond.instanceMethod Lib.objectInit).before a0 Z = true) (w3 : (Cond.code Lib.objectInit ⟨#[0xb1]⟩ 1 none).before a0 Z = true)
    (hsz : Ls.size = ml) (hf : 1 ≤ R.frames) (hl : (st.map fun v => v.category).sum + 12 ≤ R.locals) (nx : Go wd p l e R s m args below meth c Z EL Q kc ks m0 mine h locs cells slots (mkF m (pc + 3) Ls st)) : Go wd p l e R s m args below meth c Z EL Q kc ks m0 mine h locs cells slots (mkF m pc Ls (.ref a :: st)) := fun T vm0 X eT V => by
  obtain ⟨T', X', e', k1⟩ := initO X C.hx V.hZ' (V.hown C) w1 w2 w3 eT (g := mkF m pc Ls (.ref a :: st)) rfl (by rw [C.hml]; exact hsz) rfl (hb C.hby hd) hf (W := (st.map fun v => v.category).sum) (by show 2 * 0 + _ ≤ _; omega) hl
  obtain ⟨s₂, o, k, r⟩ := nx T' vm0 X' e' V
  exact ⟨s₂, o, k1 _ k, r⟩
theorem g_castY {idx : Nat} {K : String} (C : Cx wd p s m meth c Z a0 EL own bytes ml ret nm) (hd : decode bytes pc = .ok (.checkcast idx, 3)) (w : (Cond.classLink own idx K).before a0 Z = true) (I : Ins Z h a K true) (nx : Go wd p l e R s m args below meth c Z EL Q kc ks m0 mine h locs cells slots (mkF m (pc + 3) Ls (.ref a :: st))) : Go wd p l e R s m args below meth c Z EL Q kc ks m0 mine h locs cells slots (mkF m pc Ls (.ref a :: st)) := fun T vm0 X eT V => by
  obtain ⟨T', X', e', k1⟩ := RoadKit.castY X C.hx V.hZ' (V.hown C) w eT I (g := mkF m pc Ls (.ref a :: st)) rfl rfl (hb C.hby hd)
  obtain ⟨s₂, o, k, r⟩ := nx T' vm0 X' e' V
  exact ⟨s₂, o, k1 _ k, r⟩
theorem g_instY {idx : Nat} {K : String} (C : Cx wd p s m meth c Z a0 EL own bytes ml ret nm) (hd : decode bytes pc = .ok (.instanceof idx, 3)) (w : (Cond.classLink own idx K).before a0 Z = true) (I : Ins Z h a K true) (nx : Go wd p l e R s m args below meth c Z EL Q kc ks m0 mine h locs cells slots (mkF m (pc + 3) Ls (.int 1 :: st))) : Go wd p l e R s m args below meth c Z EL Q kc ks m0 mine h locs cells slots (mkF m pc Ls (.ref a :: st)) := fun T vm0 X eT V => by
  obtain ⟨T', X', e', k1⟩ := RoadKit.instY X C.hx V.hZ' (V.hown C) w eT I (g := mkF m pc Ls (.ref a :: st)) rfl rfl (hb C.hby hd)
  obtain ⟨s₂, o, k, r⟩ := nx T' vm0 X' e' V
  exact ⟨s₂, o, k1 _ k, r⟩
/-- not an instance: the object is exactly of a class Cn that isn't assignable to K -/
theorem g_instNo {idx : Nat} {K Cn : String} (C : Cx wd p s m meth c Z a0 EL own bytes ml ret nm) (hd : decode bytes pc = .ok (.instanceof idx, 3)) (w : (Cond.classLink own idx K).before a0 Z = true) (I : Ins Z h a K false) (E : Exa Z h a Cn) (nx : Go wd p l e R s m args below meth c Z EL Q kc ks m0 mine h locs cells slots (mkF m (pc + 3) Ls (.int 0 :: st))) : Go wd p l e R s m args below meth c Z EL Q kc ks m0 mine h locs cells slots (mkF m pc Ls (.ref a :: st)) := fun T vm0 X eT V => by
  obtain ⟨cell, cT, h1, h2, h3⟩ := I
  obtain ⟨cell', k, e1, -, e3, e4, -⟩ := E
  cases h1.symm.trans e1
  obtain ⟨k', q, -⟩ := V.hZ'.alike.2.2 _ _ e3
  obtain ⟨vm', X', k1⟩ := Sym.instanceofNoAt X C.hx (V.hown C) (mv V.hZ' w) (by rw [eT]; exact h1) e4 q (by rw [V.hZ'.alike.findClass]; exact h2) (by rw [V.hZ'.alike.assignable]; simpa [e4] using h3) (g := mkF m pc Ls (.ref a :: st)) rfl rfl (hb C.hby hd)
  obtain ⟨s₂, o, k, r⟩ := nx _ vm0 X' eT V
  exact ⟨s₂, o, k1 _ k, r⟩
theorem g_instNull {idx : Nat} (C : Cx wd p s m meth c Z a0 EL own bytes ml ret nm) (hd : decode bytes pc = .ok (.instanceof idx, 3)) (nx : Go wd p l e R s m args below meth c Z EL Q kc ks m0 mine h locs cells slots (mkF m (pc + 3) Ls (.int 0 :: st))) : Go wd p l e R s m args below meth c Z EL Q kc ks m0 mine h locs cells slots (mkF m pc Ls (.null :: st)) := fun T vm0 X eT V => by
  obtain ⟨s₂, o, k, r⟩ := nx T vm0 X eT V
  exact ⟨s₂, o, X.instanceofNull C.hx (g := mkF m pc Ls (.null :: st)) rfl rfl (hb C.hby hd) _ k, r⟩
theorem g_castNull {idx : Nat} (C : Cx wd p s m meth c Z a0 EL own bytes ml ret nm) (hd : decode bytes pc = .ok (.checkcast idx, 3)) (nx : Go wd p l e R s m args below meth c Z EL Q kc ks m0 mine h locs cells slots (mkF m (pc + 3) Ls (.null :: st))) : Go wd p l e R s m args below meth c Z EL Q kc ks m0 mine h locs cells slots (mkF m pc Ls (.null :: st)) := fun T vm0 X eT V => by
  obtain ⟨s₂, o, k, r⟩ := nx T vm0 X eT V
  exact ⟨s₂, o, X.checkcastNull C.hx (g := mkF m pc Ls (.null :: st)) rfl rfl (hb C.hby hd) _ k, r⟩
theorem Av.lt (A : Av Z h a ty vs) : a < h.size := by obtain ⟨c, A, -⟩ := A; exact A.lt
theorem Av.keep (A : Av Z h a ty vs) (K : Keep h h' ws) (q : a ∉ ws) : Av Z h' a ty vs := by
  obtain ⟨c, A, r⟩ := A
  exact ⟨c, ⟨K.2.1 _ _ A.1 q, A.2⟩, r⟩
theorem Av.ext (A : Av Z h a ty vs) (E : Ext h h') : Av Z h' a ty vs := A.keep (keep_ext E) (fun q => nomatch q)
theorem Av.set {i : Nat} (A : Av Z h a ty vs) (W : Wr h h' a i v) (hf : fits ty v = true) : Av Z h' a ty (vs.set i v) := by
  obtain ⟨c, A, rfl, h2, h3⟩ := A
  refine ⟨c.setSlot i v, A.same W, by simp [Cell.setSlot], by simpa using h2, fun w hw => ?_⟩
  rcases List.mem_or_eq_of_mem_set hw with q | rfl
  · exact h3 w q
  · exact hf
theorem Av.of_arv {k : ClassId} {z : Int32} {d : Value} (A : Arv Z h a k ty z vs d) (hl : z.toNatClampNeg = vs.length) : Av Z h a ty vs := by
  obtain ⟨c, A, -, hs, hz, H, G⟩ := A
  have e1 : c.slots.toList = vs := by
    apply List.ext_getElem?
    intro i
    rw [Array.getElem?_toList]
    by_cases q : i < c.slots.size
    · rw [H i q, List.getD_eq_getElem?_getD, List.getElem?_eq_getElem (by omega)]; rfl
    · rw [Array.getElem?_eq_none (by omega), List.getElem?_eq_none (by omega)]
  refine ⟨c, A, e1, ?_, fun w hw => ?_⟩
  · have := (back32 hz).2; omega
  · obtain ⟨i, hi, rfl⟩ := List.mem_iff_getElem.mp hw
    have := G i (by omega)
    rwa [List.getD_eq_getElem?_getD, List.getElem?_eq_getElem hi] at this
theorem toNat_ofNat {n : Nat} (hn : n < 2147483648) : (Int32.ofNat n).toNatClampNeg = n ∧ ¬ Int32.ofNat n < 0 := by
  have e := Int32.toInt_ofNat_small (n := n) hn
  refine ⟨by simp only [Int32.toNatClampNeg, e]; omega, fun q => ?_⟩
  have := Int32.lt_iff_toInt_lt.mp q
  rw [e] at this
  simp at this
  omega
theorem Arv.of_av {d : Value} (A : Av Z h a ty vs) : ∃ k, Arv Z h a k ty (Int32.ofNat vs.length) vs d := by
  obtain ⟨c, A, rfl, h2, h3⟩ := A
  obtain ⟨q1, q2⟩ := toNat_ofNat h2
  refine ⟨c.cls, c, A, rfl, by rw [q1]; simp, q2, fun i hi => ?_, fun i hi => ?_⟩
  · rw [List.getD_eq_getElem?_getD, Array.getElem?_toList, Array.getElem?_eq_getElem hi]; rfl
  · rw [List.getD_eq_getElem?_getD, Array.getElem?_toList, Array.getElem?_eq_getElem hi]
    exact h3 _ (Array.mem_toList_iff.mpr (Array.getElem_mem hi))
theorem g_alen {z : Int32} (C : Cx wd p s m meth c Z a0 EL own bytes ml ret nm) (hd : decode bytes pc = .ok (.arraylength, 1)) (A : Av Z h a ty vs) (hz : Int32.ofNat vs.length = z) (nx : Go wd p l e R s m args below meth c Z EL Q kc ks m0 mine h locs cells slots (mkF m (pc + 1) Ls (.int z :: st))) : Go wd p l e R s m args below meth c Z EL Q kc ks m0 mine h locs cells slots (mkF m pc Ls (.ref a :: st)) := fun T vm0 X eT V => by
  obtain ⟨cl, Ar, rfl, -, -⟩ := A
  obtain ⟨s₂, o, k, r⟩ := nx T vm0 X eT V
  refine ⟨s₂, o, X.arraylength C.hx (by rw [eT]; exact Ar.1) (State.isArrayOf_alike V.hZ'.alike Ar.2.1) (g := mkF m pc Ls (.ref a :: st)) rfl rfl (hb C.hby hd) _ ?_, r⟩
  have e1 : cl.slots.size.toInt32 = z := by rw [← hz, Array.length_toList]
  rw [e1]; exact k
theorem g_iaload {j : Int32} {v : Value} (i : Nat) (C : Cx wd p s m meth c Z a0 EL own bytes ml ret nm) (hd : decode bytes pc = .ok (.iaload, 1)) (A : Av Z h a .int vs) (hj : ¬ j < 0) (hi : j.toNatClampNeg = i) (hv : vs[i]? = some v) (nx : Go wd p l e R s m args below meth c Z EL Q kc ks m0 mine h locs cells slots (mkF m (pc + 1) Ls (v :: st))) : Go wd p l e R s m args below meth c Z EL Q kc ks m0 mine h locs cells slots (mkF m pc Ls (.int j :: .ref a :: st)) := fun T vm0 X eT V => by
  obtain ⟨cl, Ar, rfl, -, -⟩ := A
  obtain ⟨s₂, o, k, r⟩ := nx T vm0 X eT V
  rw [Array.getElem?_toList] at hv
  have hlt := (Array.getElem?_eq_some_iff.mp hv).1
  exact ⟨s₂, o, X.iaload C.hx (by rw [eT]; exact Ar.1) (State.isArrayOf_alike V.hZ'.alike Ar.2.1) Ar.2.2 (fun q => q.elim hj (by omega)) (by rw [hi]; exact hv) (g := mkF m pc Ls (.int j :: .ref a :: st)) rfl rfl (hb C.hby hd) _ k, r⟩
theorem g_laload {j : Int32} {v : Value} (i : Nat) (C : Cx wd p s m meth c Z a0 EL own bytes ml ret nm) (hd : decode bytes pc = .ok (.laload, 1)) (A : Av Z h a .long vs) (hj : ¬ j < 0) (hi : j.toNatClampNeg = i) (hv : vs[i]? = some v) (nx : Go wd p l e R s m args below meth c Z EL Q kc ks m0 mine h locs cells slots (mkF m (pc + 1) Ls (v :: st))) : Go wd p l e R s m args below meth c Z EL Q kc ks m0 mine h locs cells slots (mkF m pc Ls (.int j :: .ref a :: st)) := fun T vm0 X eT V => by
  obtain ⟨cl, Ar, rfl, -, -⟩ := A
  obtain ⟨s₂, o, k, r⟩ := nx T vm0 X eT V
  rw [Array.getElem?_toList] at hv
  have hlt := (Array.getElem?_eq_some_iff.mp hv).1
  exact ⟨s₂, o, X.laload C.hx (by rw [eT]; exact Ar.1) (State.isArrayOf_alike V.hZ'.alike Ar.2.1) Ar.2.2 (fun q => q.elim hj (by omega)) (by rw [hi]; exact hv) (g := mkF m pc Ls (.int j :: .ref a :: st)) rfl rfl (hb C.hby hd) _ k, r⟩
theorem g_caload {j : Int32} {v : Value} (i : Nat) (C : Cx wd p s m meth c Z a0 EL own bytes ml ret nm) (hd : decode bytes pc = .ok (.caload, 1)) (A : Av Z h a .char vs) (hj : ¬ j < 0) (hi : j.toNatClampNeg = i) (hv : vs[i]? = some v) (nx : Go wd p l e R s m args below meth c Z EL Q kc ks m0 mine h locs cells slots (mkF m (pc + 1) Ls (v :: st))) : Go wd p l e R s m args below meth c Z EL Q kc ks m0 mine h locs cells slots (mkF m pc Ls (.int j :: .ref a :: st)) := fun T vm0 X eT V => by
  obtain ⟨cl, Ar, rfl, -, -⟩ := A
  obtain ⟨s₂, o, k, r⟩ := nx T vm0 X eT V
  rw [Array.getElem?_toList] at hv
  have hlt := (Array.getElem?_eq_some_iff.mp hv).1
  exact ⟨s₂, o, X.caload C.hx (by rw [eT]; exact Ar.1) (State.isArrayOf_alike V.hZ'.alike Ar.2.1) Ar.2.2 (fun q => q.elim hj (by omega)) (by rw [hi]; exact hv) (g := mkF m pc Ls (.int j :: .ref a :: st)) rfl rfl (hb C.hby hd) _ k, r⟩
theorem g_baload {j : Int32} {v : Value} (i : Nat) (C : Cx wd p s m meth c Z a0 EL own bytes ml ret nm) (hd : decode bytes pc = .ok (.baload, 1)) (A : Av Z h a .byte vs) (hj : ¬ j < 0) (hi : j.toNatClampNeg = i) (hv : vs[i]? = some v) (nx : Go wd p l e R s m args below meth c Z EL Q kc ks m0 mine h locs cells slots (mkF m (pc + 1) Ls (v :: st))) : Go wd p l e R s m args below meth c Z EL Q kc ks m0 mine h locs cells slots (mkF m pc Ls (.int j :: .ref a :: st)) := fun T vm0 X eT V => by
  obtain ⟨cl, Ar, rfl, -, -⟩ := A
  obtain ⟨s₂, o, k, r⟩ := nx T vm0 X eT V
  rw [Array.getElem?_toList] at hv
  have hlt := (Array.getElem?_eq_some_iff.mp hv).1
  exact ⟨s₂, o, X.baloadBytes C.hx (by rw [eT]; exact Ar.1) (State.isArrayOf_alike V.hZ'.alike Ar.2.1) Ar.2.2 (fun q => q.elim hj (by omega)) (by rw [hi]; exact hv) (g := mkF m pc Ls (.int j :: .ref a :: st)) rfl rfl (hb C.hby hd) _ k, r⟩
theorem g_aaload {j : Int32} {v : Value} (i : Nat) (C : Cx wd p s m meth c Z a0 EL own bytes ml ret nm) (hd : decode bytes pc = .ok (.aaload, 1)) (A : Av Z h a ty vs) (hty : ty.isReference = true) (hj : ¬ j < 0) (hi : j.toNatClampNeg = i) (hv : vs[i]? = some v) (nx : Go wd p l e R s m args below meth c Z EL Q kc ks m0 mine h locs cells slots (mkF m (pc + 1) Ls (v :: st))) : Go wd p l e R s m args below meth c Z EL Q kc ks m0 mine h locs cells slots (mkF m pc Ls (.int j :: .ref a :: st)) := fun T vm0 X eT V => by
  obtain ⟨cl, Ar, rfl, -, -⟩ := A
  obtain ⟨s₂, o, k, r⟩ := nx T vm0 X eT V
  rw [Array.getElem?_toList] at hv
  have hlt := (Array.getElem?_eq_some_iff.mp hv).1
  exact ⟨s₂, o, X.aaload C.hx (by rw [eT]; exact Ar.1) (State.isArrayOf_alike V.hZ'.alike Ar.2.1) hty Ar.2.2 (fun q => q.elim hj (by omega)) (by rw [hi]; exact hv) (g := mkF m pc Ls (.int j :: .ref a :: st)) rfl rfl (hb C.hby hd) _ k, r⟩
theorem g_castore {j : Int32} {x : Int32} (i : Nat) (C : Cx wd p s m meth c Z a0 EL own bytes ml ret nm) (hd : decode bytes pc = .ok (.castore, 1)) (A : Av Z h a .char vs) (hj : ¬ j < 0) (hi : j.toNatClampNeg = i) (hlt : i < vs.length) (hm : a ∈ mine) (nx : ∀ h', Keep h h' [a] → h'.size = h.size → Av Z h' a .char (vs.set i (.int (nar .char x))) → Go wd p l e R s m args below meth c Z EL Q kc ks m0 mine h' (locs ++ [⟨a, i⟩]) cells slots (mkF m (pc + 1) Ls st)) : Go wd p l e R s m args below meth c Z EL Q kc ks m0 mine h locs cells slots (mkF m pc Ls (.int x :: .int j :: .ref a :: st)) := fun T vm0 X eT V => by
  have A' := A
  obtain ⟨cl, Ar, e1, -, -⟩ := A
  subst hi
  obtain ⟨T', h', X', e', W, k1⟩ := stC X C.hx V.hZ' eT Ar (j := j) (x := x) (fun q => q.elim hj (by rw [← Array.length_toList, e1]; omega)) (g := mkF m pc Ls (.int x :: .int j :: .ref a :: st)) rfl rfl (hb C.hby hd)
  obtain ⟨s₂, o, k, r⟩ := nx h' (Keep.of_wr W) W.size (A'.set W (fits_nar_char x)) T' vm0 X' e' (V.keep (Keep.of_wr W) (fun x hx => by rw [List.mem_singleton.mp hx]; exact hm) (V.wr1 hm))
  exact ⟨s₂, o, k1 _ k, r⟩
theorem g_bastore {j : Int32} {x : Int32} (i : Nat) (C : Cx wd p s m meth c Z a0 EL own bytes ml ret nm) (hd : decode bytes pc = .ok (.bastore, 1)) (A : Av Z h a .byte vs) (hj : ¬ j < 0) (hi : j.toNatClampNeg = i) (hlt : i < vs.length) (hm : a ∈ mine) (nx : ∀ h', Keep h h' [a] → h'.size = h.size → Av Z h' a .byte (vs.set i (.int (nar .byte x))) → Go wd p l e R s m args below meth c Z EL Q kc ks m0 mine h' (locs ++ [⟨a, i⟩]) cells slots (mkF m (pc + 1) Ls st)) : Go wd p l e R s m args below meth c Z EL Q kc ks m0 mine h locs cells slots (mkF m pc Ls (.int x :: .int j :: .ref a :: st)) := fun T vm0 X eT V => by
  have A' := A
  obtain ⟨cl, Ar, e1, -, -⟩ := A
  subst hi
  obtain ⟨T', h', X', e', W, k1⟩ := stB X C.hx V.hZ' eT Ar (j := j) (x := x) (fun q => q.elim hj (by rw [← Array.length_toList, e1]; omega)) (g := mkF m pc Ls (.int x :: .int j :: .ref a :: st)) rfl rfl (hb C.hby hd)
  obtain ⟨s₂, o, k, r⟩ := nx h' (Keep.of_wr W) W.size (A'.set W (fits_nar_byte x)) T' vm0 X' e' (V.keep (Keep.of_wr W) (fun x hx => by rw [List.mem_singleton.mp hx]; exact hm) (V.wr1 hm))
  exact ⟨s₂, o, k1 _ k, r⟩
theorem g_iastore {j : Int32} {x : Int32} (i : Nat) (C : Cx wd p s m meth c Z a0 EL own bytes ml ret nm) (hd : decode bytes pc = .ok (.iastore, 1)) (A : Av Z h a .int vs) (hj : ¬ j < 0) (hi : j.toNatClampNeg = i) (hlt : i < vs.length) (hm : a ∈ mine) (nx : ∀ h', Keep h h' [a] → h'.size = h.size → Av Z h' a .int (vs.set i (.int x)) → Go wd p l e R s m args below meth c Z EL Q kc ks m0 mine h' (locs ++ [⟨a, i⟩]) cells slots (mkF m (pc + 1) Ls st)) : Go wd p l e R s m args below meth c Z EL Q kc ks m0 mine h locs cells slots (mkF m pc Ls (.int x :: .int j :: .ref a :: st)) := fun T vm0 X eT V => by
  have A' := A
  obtain ⟨cl, Ar, e1, -, -⟩ := A
  subst hi
  obtain ⟨T', h', X', e', W, k1⟩ := stI X C.hx V.hZ' eT Ar (j := j) (x := x) (fun q => q.elim hj (by rw [← Array.length_toList, e1]; omega)) (g := mkF m pc Ls (.int x :: .int j :: .ref a :: st)) rfl rfl (hb C.hby hd)
  obtain ⟨s₂, o, k, r⟩ := nx h' (Keep.of_wr W) W.size (A'.set W rfl) T' vm0 X' e' (V.keep (Keep.of_wr W) (fun x hx => by rw [List.mem_singleton.mp hx]; exact hm) (V.wr1 hm))
  exact ⟨s₂, o, k1 _ k, r⟩
theorem g_lastore {j : Int32} {x : Int64} (i : Nat) (C : Cx wd p s m meth c Z a0 EL own bytes ml ret nm) (hd : decode bytes pc = .ok (.lastore, 1)) (A : Av Z h a .long vs) (hj : ¬ j < 0) (hi : j.toNatClampNeg = i) (hlt : i < vs.length) (hm : a ∈ mine) (nx : ∀ h', Keep h h' [a] → h'.size = h.size → Av Z h' a .long (vs.set i (.long x)) → Go wd p l e R s m args below meth c Z EL Q kc ks m0 mine h' (locs ++ [⟨a, i⟩]) cells slots (mkF m (pc + 1) Ls st)) : Go wd p l e R s m args below meth c Z EL Q kc ks m0 mine h locs cells slots (mkF m pc Ls (.long x :: .int j :: .ref a :: st)) := fun T vm0 X eT V => by
  have A' := A
  obtain ⟨cl, Ar, e1, -, -⟩ := A
  subst hi
  obtain ⟨T', h', X', e', W, k1⟩ := stJ X C.hx V.hZ' eT Ar (j := j) (x := x) (fun q => q.elim hj (by rw [← Array.length_toList, e1]; omega)) (g := mkF m pc Ls (.long x :: .int j :: .ref a :: st)) rfl rfl (hb C.hby hd)
  obtain ⟨s₂, o, k, r⟩ := nx h' (Keep.of_wr W) W.size (A'.set W rfl) T' vm0 X' e' (V.keep (Keep.of_wr W) (fun x hx => by rw [List.mem_singleton.mp hx]; exact hm) (V.wr1 hm))
  exact ⟨s₂, o, k1 _ k, r⟩
theorem g_aastore {j : Int32} {x : Value} (i : Nat) (C : Cx wd p s m meth c Z a0 EL own bytes ml ret nm) (hd : decode bytes pc = .ok (.aastore, 1)) (A : Av Z h a ty vs) (hty : ty.isReference = true) (hx : x.isRef = true) (S : Sto Z h a x) (hj : ¬ j < 0) (hi : j.toNatClampNeg = i) (hlt : i < vs.length) (hm : a ∈ mine) (nx : ∀ h', Keep h h' [a] → h'.size = h.size → Av Z h' a ty (vs.set i x) → Go wd p l e R s m args below meth c Z EL Q kc ks m0 mine h' (locs ++ [⟨a, i⟩]) cells slots (mkF m (pc + 1) Ls st)) : Go wd p l e R s m args below meth c Z EL Q kc ks m0 mine h locs cells slots (mkF m pc Ls (x :: .int j :: .ref a :: st)) := fun T vm0 X eT V => by
  have A' := A
  obtain ⟨cl, Ar, e1, -, -⟩ := A
  subst hi
  obtain ⟨T', h', X', e', W, k1⟩ := stR X C.hx V.hZ' eT Ar (j := j) (v := x) (fun q => q.elim hj (by rw [← Array.length_toList, e1]; omega)) hty S (g := mkF m pc Ls (x :: .int j :: .ref a :: st)) rfl rfl (hb C.hby hd)
  have hf : fits ty x = true := by rcases ref_cases hx with rfl | ⟨q, rfl⟩ <;> cases ty <;> first | rfl | (simp [FieldType.isReference] at hty; done)
  obtain ⟨s₂, o, k, r⟩ := nx h' (Keep.of_wr W) W.size (A'.set W hf) T' vm0 X' e' (V.keep (Keep.of_wr W) (fun x hx => by rw [List.mem_singleton.mp hx]; exact hm) (V.wr1 hm))
  exact ⟨s₂, o, k1 _ k, r⟩
theorem g_newarray_ {aty : ArrayType} {n : Int32} {ad : String} (cap : Nat) (vs : List Value) (C : Cx wd p s m meth c Z a0 EL own bytes ml ret nm) (hd : decode bytes pc = .ok (.newarray aty, 2)) (w : (Cond.arrayClass (newarray.typeOf aty)).before a0 Z = true) (hn : ¬ n < 0) (hcap : n.toNatClampNeg ≤ cap) (hbig : cap * 8 ≤ 536870912) (had : "[" ++ (newarray.typeOf aty).toString = ad) (hvs : List.replicate n.toNatClampNeg (defaultValue (newarray.typeOf aty)) = vs) (hc : cells + 1 ≤ R.cells) (hs : slots + cap ≤ R.slots)
    (nx : ∀ (a : Addr) (h' : Heap), a = h.size → Ext h h' → a < h'.size → Exa Z h' a ad → Av Z h' a (newarray.typeOf aty) vs → Go wd p l e R s m args below meth c Z EL Q kc ks m0 (a :: mine) h' locs (cells + 1) (slots + cap) (mkF m (pc + 2) Ls (.ref a :: st))) : Go wd p l e R s m args below meth c Z EL Q kc ks m0 mine h locs cells slots (mkF m pc Ls (.int n :: st)) := fun T vm0 X eT V => by
  obtain ⟨T', h', cA, X', e', E, A, A2, k1⟩ := newPE X C.hx V.hZ' w eT (g := mkF m pc Ls (.int n :: st)) rfl (hb C.hby hd) rfl hn hcap hbig hc hs had
  have hav : Av Z h' h.size (newarray.typeOf aty) vs := by
    refine ⟨_, A, by rw [← hvs]; simp [newA], ?_, fun w hw => ?_⟩
    · rw [← hvs]; simp; have := (back32 hn).2; omega
    · rw [← hvs] at hw
      rw [(List.mem_replicate.mp hw).2]; cases aty <;> rfl
  obtain ⟨s₂, o, k, r⟩ := nx h.size h' rfl E A.lt A2 hav T' vm0 X' e' (V.new E A.lt)
  exact ⟨s₂, o, k1 _ k, r⟩
theorem g_anewarray_ {idx : Nat} {n : Int32} {ad Cn : String} (cap : Nat) (vs : List Value) (C : Cx wd p s m meth c Z a0 EL own bytes ml ret nm) (hd : decode bytes pc = .ok (.anewarray idx, 3)) (w1 : (Cond.classLink own idx Cn).before a0 Z = true) (w2 : (Cond.arrayOver (.object Cn)).before a0 Z = true) (hn : ¬ n < 0) (hcap : n.toNatClampNeg ≤ cap) (hbig : cap * 8 ≤ 536870912) (had : "[" ++ (FieldType.object Cn).toString = ad) (hvs : List.replicate n.toNatClampNeg Value.null = vs) (hc : cells + 1 ≤ R.cells) (hs : slots + cap ≤ R.slots)
    (nx : ∀ (a : Addr) (h' : Heap), a = h.size → Ext h h' → a < h'.size → Exa Z h' a ad → Av Z h' a (.object Cn) vs → (∃ cA cl, h'[a]? = some cl ∧ cl.cls = cA ∧ Ovr Z cA Cn) → Go wd p l e R s m args below meth c Z EL Q kc ks m0 (a :: mine) h' locs (cells + 1) (slots + cap) (mkF m (pc + 3) Ls (.ref a :: st))) : Go wd p l e R s m args below meth c Z EL Q kc ks m0 mine h locs cells slots (mkF m pc Ls (.int n :: st)) := fun T vm0 X eT V => by
  obtain ⟨T', h', cA, X', e', E, A, A2, O, k1⟩ := newRE X C.hx V.hZ' (V.hown C) w1 w2 eT (g := mkF m pc Ls (.int n :: st)) rfl (hb C.hby hd) rfl hn hcap hbig hc hs had
  have hav : Av Z h' h.size (.object Cn) vs := by
    refine ⟨_, A, by rw [← hvs]; simp [newA, defaultValue], ?_, fun w hw => ?_⟩
    · rw [← hvs]; simp; have := (back32 hn).2; omega
    · rw [← hvs] at hw
      rw [(List.mem_replicate.mp hw).2]; rfl
  obtain ⟨s₂, o, k, r⟩ := nx h.size h' rfl E A.lt A2 hav ⟨cA, _, A.1, rfl, O⟩ T' vm0 X' e' (V.new E A.lt)
  exact ⟨s₂, o, k1 _ k, r⟩
theorem Sto.ofAv {y : Addr} {Cn : String} (A : Av Z h a ty vs) (O : ∃ cA cl, h[a]? = some cl ∧ cl.cls = cA ∧ Ovr Z cA Cn) (I : Ins Z h y Cn true) : Sto Z h a (.ref y) := by
  obtain ⟨c, A, -⟩ := A
  obtain ⟨cA, cl, q1, q2, O⟩ := O
  cases A.1.symm.trans q1
  exact Sto.ofV A q2 O I
theorem g_clone_ {idx : Nat} {ad : String} (cap : Nat) (C : Cx wd p s m meth c Z a0 EL own bytes ml ret nm) (hd : decode bytes pc = .ok (.invokevirtual idx, 3)) (w1 : (Cond.methodLink own idx ⟨ad, "clone", "()Ljava/lang/Object;"⟩).before a0 Z = true) (w2 : (Cond.sameMethod ad "java/lang/Object" "clone" "()Ljava/lang/Object;").before a0 Z = true) (w3 : (Cond.native ⟨"java/lang/Object", "clone", "()Ljava/lang/Object;"⟩).before a0 Z = true)
    (w4 : (Cond.instanceMethod ⟨"java/lang/Object", "clone", "()Ljava/lang/Object;"⟩).before a0 Z = true) (w5 : (Cond.selects ad ⟨ad, "clone", "()Ljava/lang/Object;"⟩ ⟨"java/lang/Object", "clone", "()Ljava/lang/Object;"⟩).before a0 Z = true) (w6 : (Cond.castable ad "java/lang/Cloneable").before a0 Z = true)
    (A : Av Z h a ty vs) (E : Exa Z h a ad) (hcap : vs.length ≤ cap) (hsz : Ls.size = ml) (hf : 1 ≤ R.frames) (hl : (st.map fun v => v.category).sum + 14 ≤ R.locals) (hc : cells + 1 ≤ R.cells) (hs : slots + cap ≤ R.slots)
    (nx : ∀ (b : Addr) (h' : Heap), b = h.size → Ext h h' → b < h'.size → Exa Z h' b ad → Av Z h' b ty vs → Go wd p l e R s m args below meth c Z EL Q kc ks m0 (b :: mine) h' locs (cells + 1) (slots + cap) (mkF m (pc + 3) Ls (.ref b :: st))) : Go wd p l e R s m args below meth c Z EL Q kc ks m0 mine h locs cells slots (mkF m pc Ls (.ref a :: st)) := fun T vm0 X eT V => by
  obtain ⟨cl, Ar, rfl, h2, h3⟩ := A
  have FC : FitC Z cl := fitC_of Ar fun i hi v hv => h3 v (by rw [Array.getElem?_eq_getElem hi] at hv; cases hv; exact Array.mem_toList_iff.mpr (Array.getElem_mem hi))
  obtain ⟨T', h', X', e', E', A', A2, k1⟩ := cloneA X C.hx V.hZ' (V.hown C) w1 w2 w3 w4 w5 w6 eT Ar E FC (g := mkF m pc Ls (.ref a :: st)) rfl (by rw [C.hml]; exact hsz) rfl (hb C.hby hd) hf (W := (st.map fun v => v.category).sum) (by show 2 * 0 + _ ≤ _; omega) hl (by rw [← Array.length_toList]; exact hcap) hc hs
  obtain ⟨s₂, o, k, r⟩ := nx h.size h' rfl E' A'.lt A2 ⟨_, A', rfl, h2, h3⟩ T' vm0 X' e' (V.new E' A'.lt)
  exact ⟨s₂, o, k1 _ k, r⟩
/-! calls -/
theorem safe0 {x : Addr} : Safe Z [] vm h x := fun ⟨_, q, _⟩ => nomatch q
theorem chv0 : CHv Z [] vm h := fun _ q => nomatch q
variable {y z : MethodName} {bytes' : ByteArray} {ml' : Nat} {ret' : Option FieldType} {rm : Room} {Q' : Option Value → Heap → Prop} {mine' : List Addr} {as' : Array Value} {len W : Nat}
theorem backN (M : MetW false l Z [] y bytes' ml' ret' [] rm as' mine' h Q') (hZ : Z.Warmed39 s.vm) (wc : (Cond.code y bytes' ml' ret').before a0 Z = true) (wz : (Cond.initialized y.cls).before a0 Z = true) (hf : rm.frames + 1 ≤ R.frames) (hl : W + (ml' + 11) + rm.locals ≤ R.locals) (hm : ∀ x ∈ mine', x < h.size ∧ Z.heap.size ≤ x) (hold : Ext Z.heap h) :
    Back l R p e below s args y len W (fun A a => a = as' ∧ A.U.heap = h ∧ A.cells + rm.cells ≤ R.cells ∧ A.slots + rm.slots ≤ R.slots)
      (fun A _ v B => ∃ L, Q' v B.U.heap ∧ B.locs = A.locs ++ L ∧ B.cells = A.cells + rm.cells ∧ B.slots = A.slots + rm.slots ∧ Keep h B.U.heap mine' ∧ Fr Z.heap.size L) :=
  Back.of_free (bytes := bytes') (maxL := ml') (ret := ret') (E := fun _ first o t L k n => k = rm.cells ∧ n = rm.slots ∧ (∃ v, o = .returned v ∧ Q' v t.heap) ∧ Keep first.heap t.heap mine' ∧ Fr Z.heap.size L) M hf hl
    (fun m meth c A a Y hp => have hU : Z.Warmed39 A.U.vm := wtrans hZ Y.warmed
      ⟨by show (Cond.and _ .tt).before a A.U = true; rw [Cond.before_and, mv hU wc]; rfl, mv hU wc, mv hU wz, hp.2.2.1, hp.2.2.2⟩)
    (fun m meth c A a g mk Y hp => ⟨hp.1, wtrans hZ Y.warmed, hp.2.1, chv0, fun x hx => ⟨(hm x hx).1, safe0, (hm x hx).2⟩, hold⟩) (fun _ _ _ _ _ _ _ _ _ => trivial)
    (fun _ _ _ _ ⟨v, L, h1, h2, h3, h4, h5, h6, h7⟩ => ⟨L, _, _, h4.1 rfl, rfl, rfl, ⟨v, h1, h2⟩, h6, h7⟩)
    (fun m meth c A a g mk v t L k n Y hp _ _ ⟨e1, e2, ⟨v', e3, e4⟩, e5, e6⟩ => by
      cases e3; subst e1 e2
      refine ⟨L, e4, rfl, rfl, rfl, ?_, e6⟩
      rw [← hp.2.1]; exact e5)
theorem backW {vm0 : Vm} (M : MetW true l Z EL y bytes' ml' ret' [] rm as' mine' h Q') (hZ : Z.Warmed39 vm0) (wc : (Cond.code y bytes' ml' ret').before a0 Z = true) (wz : (Cond.initialized y.cls).before a0 Z = true) (hf : rm.frames + 1 ≤ R.frames) (hl : W + (ml' + 11) + rm.locals ≤ R.locals) (hEL : EW Z a0 EL) (H : CHv Z EL vm0 h) (hm : ∀ x ∈ mine', x < h.size ∧ Safe Z EL vm0 h x ∧ Z.heap.size ≤ x) (hold : Ext Z.heap h) :
    BackS l R p e below (s.setVm vm0) args y len W (fun A a => a = as' ∧ A.U.heap = h ∧ A.cells + rm.cells ≤ R.cells ∧ A.slots + rm.slots ≤ R.slots)
      (fun A _ v B => ∃ L, Q' v B.U.heap ∧ B.locs = A.locs ++ L ∧ B.cells = A.cells + rm.cells ∧ B.slots = A.slots + rm.slots ∧ CHr Z EL vm0 h B.U.vm B.U.heap ∧ Keep h B.U.heap mine' ∧ Fr Z.heap.size L) :=
  BackS.of_freeW (bytes := bytes') (maxL := ml') (ret := ret') (E := fun _ first o t L k n => k = rm.cells ∧ n = rm.slots ∧ (∃ v, o = .returned v ∧ Q' v t.heap) ∧ CHr Z EL first.vm first.heap t.vm t.heap ∧ Keep first.heap t.heap mine' ∧ Fr Z.heap.size L) M hf hl
    (fun m meth c A a Y hp => have hU : Z.Warmed39 A.U.vm := wtrans (s := s.setVm vm0) hZ Y.warmed
      ⟨by show (Cond.and _ .tt).before a A.U = true; rw [Cond.before_and, mv hU wc]; rfl, mv hU wc, mv hU wz, hp.2.2.1, hp.2.2.2⟩)
    (fun m meth c A a g mk Y hp => ⟨hp.1, wtrans (s := s.setVm vm0) hZ Y.warmed, hp.2.1, (CHv.at Y hZ hEL H).1, fun x hx => ⟨(hm x hx).1, (CHv.at Y hZ hEL H).safe (hm x hx).1 (hm x hx).2.1, (hm x hx).2.2⟩, hold⟩) (fun _ _ _ _ _ _ _ _ _ => trivial)
    (fun _ _ _ _ ⟨v, L, h1, h2, h3, h4, h5, h6, h7⟩ => ⟨L, _, _, h4.2, rfl, rfl, ⟨v, h1, h2⟩, h3, h6, h7⟩)
    (fun m meth c A a g mk v t L k n Y hp _ _ ⟨e1, e2, ⟨v', e3, e4⟩, e5, e6, e7⟩ => by
      cases e3; subst e1 e2
      refine ⟨L, e4, rfl, rfl, rfl, (CHv.at Y hZ hEL H).trans ?_, ?_, e7⟩
      · rw [← hp.2.1]; exact e5
      · rw [← hp.2.1]; exact e6)
theorem Vi.call {vm0 vm1 : Vm} {n : Nat} {locs' : List Loc} (V : Vi true Z s EL m0 mine locs vm0 h) (hS : (s.setVm vm0).Since vm1 n) (hn : n ≤ h'.size) (hg : h.size ≤ n) (R2 : CHr Z EL vm0 h vm1 h') (K : Keep h h' ws) (hw : ∀ x ∈ ws, x ∈ mine) (hF : Fr Z.heap.size locs') : Vi true Z s EL m0 mine locs' vm1 h' := by
  have V' := V.keep K hw hF
  obtain ⟨⟨v1, v2, ⟨k0, v3, v4⟩, v5⟩, v6, v7, v8, v9⟩ := V
  exact ⟨⟨fun q => (nomatch q), State.Warmed39.trans (t := s.setVm vm0) v2 hS.1, ⟨n, v3.trans hS (Nat.le_trans v4 hg), hn⟩, v5.trans R2⟩, fun x hx => ⟨(V'.2.1 x hx).1, R2.safe (v6 x hx).1 (v6 x hx).2.1, (V'.2.1 x hx).2.2⟩, V'.2.2⟩
theorem Fr.both {L L' : List Loc} {n : Nat} (A : Fr n L) (B : Fr n L') : Fr n (L ++ L') := Fr.app A B
theorem g_invokestatic {idx : Nat} {st0 : List Value} (argsL rest : List Value) (W : Nat) (C : Cx wd p s m meth c Z a0 EL own bytes ml ret nm) (hd : decode bytes pc = .ok (.invokestatic idx, 3)) (w1 : (Cond.methodLink own idx y).before a0 Z = true) (w2 : (Cond.static y).before a0 Z = true) (w3 : (Cond.initialized y.cls).before a0 Z = true) (w4 : (Cond.code y bytes' ml' ret').before a0 Z = true) (hy : y.cls ≠ "java/lang/invoke/MethodHandle" ∧ y.cls ≠ "java/lang/invoke/VarHandle") (M : MetW wd l Z EL y bytes' ml' ret' [] rm argsL.toArray mine' h Q') (hlen : ∀ sig, parseMethodDescriptor y.desc = some sig → argsL.length = sig.parameters.length) (hst : st0 = argsL.reverse ++ rest) (hsz : Ls.size = ml) (hW : (rest.map fun v => v.category).sum ≤ W) (hf : rm.frames + 1 ≤ R.frames) (hl : W + (ml' + 11) + rm.locals ≤ R.locals) (hc : cells + rm.cells ≤ R.cells) (hs : slots + rm.slots ≤ R.slots) (hm : ∀ x ∈ mine', x ∈ mine) (nx : ∀ (v : Option Value) (h' : Heap) (L : List Loc), Q' v h' → Keep h h' mine' → Go wd p l e R s m args below meth c Z EL Q kc ks m0 mine h' (locs ++ L) (cells + rm.cells) (slots + rm.slots) (mkF m (pc + 3) Ls (v.toList ++ rest))) : Go wd p l e R s m args below meth c Z EL Q kc ks m0 mine h locs cells slots (mkF m pc Ls st0) := fun T vm0 X eT V => by
  subst hst
  have h2W : 2 * 0 + (rest.map fun v => v.category).sum ≤ W := by omega
  cases wd with
  | false =>
    have hE := C.hwd rfl
    subst hE
    have e1 : vm0 = s.vm := V.1.1 rfl
    subst e1
    obtain ⟨v, vm₁, ⟨T', L', k', n'⟩, -, X', ⟨L, hq, l1, l2, l3, hK, hF⟩, k1⟩ := Jvm.LawKit.callS X C.hx (V.hown C) (mvT V.hZ' w1) (mvT V.hZ' w2) (mvT V.hZ' w3) (mvT V.hZ' w4) hy (backN (len := 3) (W := W) M V.hZ' w4 w3 hf hl (fun x hx => ⟨(V.2.1 x (hm x hx)).1, (V.2.1 x (hm x hx)).2.2.1⟩) V.old) (g := mkF m pc Ls _) rfl (by rw [C.hml]; exact hsz) hlen rfl h2W (hb C.hby hd) (fun _ _ => ⟨rfl, eT, hc, hs⟩)
    dsimp only [Pt.U, Pt.locs, Pt.cells, Pt.slots] at X' l1 l2 l3 k1 hq hK
    subst l1 l2 l3
    obtain ⟨s₂, o, k, r⟩ := nx v _ L hq hK T' s.vm X' rfl (V.keep hK hm (Fr.app V.fr hF))
    exact ⟨s₂, o, k1 _ k, r⟩
  | true =>
    obtain ⟨v, vm₁, ⟨T', L', k', n'⟩, -, X', hS, hg, ⟨L, hq, l1, l2, l3, hR, hK, hF⟩, k1⟩ := callSS X C.hx (V.hown C) (mvT V.hZ' w1) (mvT V.hZ' w2) (mvT V.hZ' w3) (mvT V.hZ' w4) hy (backW (len := 3) (W := W) M V.hZ w4 w3 hf hl C.hEW V.held (fun x hx => ⟨(V.2.1 x (hm x hx)).1, (V.2.1 x (hm x hx)).2.1, (V.2.1 x (hm x hx)).2.2.1⟩) V.old) (g := mkF m pc Ls _) rfl (by rw [C.hml]; exact hsz) hlen rfl h2W (hb C.hby hd) (fun _ _ => ⟨rfl, eT, hc, hs⟩)
    dsimp only [Pt.U, Pt.locs, Pt.cells, Pt.slots] at X' l1 l2 l3 k1 hq hg hS hR hK
    subst l1 l2 l3
    rw [eT] at hg
    obtain ⟨s₂, o, k, r⟩ := nx v _ L hq hK T' T'.vm X' rfl (V.call hS (Nat.le_refl _) hg hR hK hm (Fr.app V.fr hF))
    exact ⟨s₂, o, k1.trans k, r⟩
theorem g_invokespecial {idx : Nat} {st0 : List Value} (argsL rest : List Value) (W : Nat) (C : Cx wd p s m meth c Z a0 EL own bytes ml ret nm) (hd : decode bytes pc = .ok (.invokespecial idx, 3)) (hyi : y.name = "<init>") (w1 : (Cond.methodLink own idx y).before a0 Z = true) (w2 : (Cond.instanceMethod y).before a0 Z = true) (w3 : (Cond.initialized y.cls).before a0 Z = true) (w4 : (Cond.code y bytes' ml' none).before a0 Z = true) (hy : y.cls ≠ "java/lang/invoke/MethodHandle" ∧ y.cls ≠ "java/lang/invoke/VarHandle") (M : MetW wd l Z EL y bytes' ml' none [] rm (.ref a :: argsL).toArray mine' h Q') (hlen : ∀ sig, parseMethodDescriptor y.desc = some sig → argsL.length = sig.parameters.length) (hst : st0 = argsL.reverse ++ .ref a :: rest) (hsz : Ls.size = ml) (hW : (rest.map fun v => v.category).sum ≤ W) (hf : rm.frames + 1 ≤ R.frames) (hl : W + (ml' + 11) + rm.locals ≤ R.locals) (hc : cells + rm.cells ≤ R.cells) (hs : slots + rm.slots ≤ R.slots) (hm : ∀ x ∈ mine', x ∈ mine) (nx : ∀ (v : Option Value) (h' : Heap) (L : List Loc), Q' v h' → Keep h h' mine' → Go wd p l e R s m args below meth c Z EL Q kc ks m0 mine h' (locs ++ L) (cells + rm.cells) (slots + rm.slots) (mkF m (pc + 3) Ls (v.toList ++ rest))) : Go wd p l e R s m args below meth c Z EL Q kc ks m0 mine h locs cells slots (mkF m pc Ls st0) := fun T vm0 X eT V => by
  subst hst
  have h2W : 2 * 0 + (rest.map fun v => v.category).sum ≤ W := by omega
  cases wd with
  | false =>
    have hE := C.hwd rfl
    subst hE
    have e1 : vm0 = s.vm := V.1.1 rfl
    subst e1
    obtain ⟨v, vm₁, ⟨T', L', k', n'⟩, -, X', ⟨L, hq, l1, l2, l3, hK, hF⟩, k1⟩ := X.specialBack C.hx hyi (V.hown C) (mvT V.hZ' w1) (mvT V.hZ' w2) (mvT V.hZ' w4) hy (backN (len := 3) (W := W) M V.hZ' w4 w3 hf hl (fun x hx => ⟨(V.2.1 x (hm x hx)).1, (V.2.1 x (hm x hx)).2.2.1⟩) V.old) (g := mkF m pc Ls _) rfl (by rw [C.hml]; exact hsz) (Steps.refl _) hlen rfl h2W (hb C.hby hd) (fun _ _ => ⟨rfl, eT, hc, hs⟩)
    dsimp only [Pt.U, Pt.locs, Pt.cells, Pt.slots] at X' l1 l2 l3 k1 hq hK
    subst l1 l2 l3
    obtain ⟨s₂, o, k, r⟩ := nx v _ L hq hK T' s.vm X' rfl (V.keep hK hm (Fr.app V.fr hF))
    exact ⟨s₂, o, k1.trans k, r⟩
  | true =>
    obtain ⟨v, vm₁, ⟨T', L', k', n'⟩, -, X', hS, hg, ⟨L, hq, l1, l2, l3, hR, hK, hF⟩, k1⟩ := X.specialBackS C.hx hyi (V.hown C) (mvT V.hZ' w1) (mvT V.hZ' w2) (mvT V.hZ' w4) hy (backW (len := 3) (W := W) M V.hZ w4 w3 hf hl C.hEW V.held (fun x hx => ⟨(V.2.1 x (hm x hx)).1, (V.2.1 x (hm x hx)).2.1, (V.2.1 x (hm x hx)).2.2.1⟩) V.old) (g := mkF m pc Ls _) rfl (by rw [C.hml]; exact hsz) (Steps.refl _) hlen rfl h2W (hb C.hby hd) (fun _ _ => ⟨rfl, eT, hc, hs⟩)
    dsimp only [Pt.U, Pt.locs, Pt.cells, Pt.slots] at X' l1 l2 l3 k1 hq hg hS hR hK
    subst l1 l2 l3
    rw [eT] at hg
    obtain ⟨s₂, o, k, r⟩ := nx v _ L hq hK T' T'.vm X' rfl (V.call hS (Nat.le_refl _) hg hR hK hm (Fr.app V.fr hF))
    exact ⟨s₂, o, k1.trans k, r⟩
theorem g_invokevirtual {idx : Nat} {st0 : List Value} {Cn : String} (argsL rest : List Value) (W : Nat) (C : Cx wd p s m meth c Z a0 EL own bytes ml ret nm) (hd : decode bytes pc = .ok (.invokevirtual idx, 3)) (w1 : (Cond.methodLink own idx y).before a0 Z = true) (w5 : (Cond.declares y).before a0 Z = true) (w6 : (Cond.selects Cn y z).before a0 Z = true) (w2 : (Cond.instanceMethod z).before a0 Z = true) (w3 : (Cond.initialized z.cls).before a0 Z = true) (w4 : (Cond.code z bytes' ml' ret').before a0 Z = true) (hnf : ∀ U : State, Z.Warmed39 U.vm → NotFace U y) (hy : y.cls ≠ "java/lang/invoke/MethodHandle" ∧ y.cls ≠ "java/lang/invoke/VarHandle") (E : Exa Z h a Cn) (M : MetW wd l Z EL z bytes' ml' ret' [] rm (.ref a :: argsL).toArray mine' h Q') (hlen : ∀ sig, parseMethodDescriptor y.desc = some sig → argsL.length = sig.parameters.length) (hst : st0 = argsL.reverse ++ .ref a :: rest) (hsz : Ls.size = ml) (hW : (rest.map fun v => v.category).sum ≤ W) (hf : rm.frames + 1 ≤ R.frames) (hl : W + (ml' + 11) + rm.locals ≤ R.locals) (hc : cells + rm.cells ≤ R.cells) (hs : slots + rm.slots ≤ R.slots) (hm : ∀ x ∈ mine', x ∈ mine) (nx : ∀ (v : Option Value) (h' : Heap) (L : List Loc), Q' v h' → Keep h h' mine' → Go wd p l e R s m args below meth c Z EL Q kc ks m0 mine h' (locs ++ L) (cells + rm.cells) (slots + rm.slots) (mkF m (pc + 3) Ls (v.toList ++ rest))) : Go wd p l e R s m args below meth c Z EL Q kc ks m0 mine h locs cells slots (mkF m pc Ls st0) := fun T vm0 X eT V => by
  subst hst
  have h2W : 2 * 0 + (rest.map fun v => v.category).sum ≤ W := by omega
  obtain ⟨cB, kB, qa, qb, qc⟩ := isOf V.hZ' eT E
  cases wd with
  | false =>
    have hE := C.hwd rfl
    subst hE
    have e1 : vm0 = s.vm := V.1.1 rfl
    subst e1
    obtain ⟨v, vm₁, ⟨T', L', k', n'⟩, -, X', ⟨L, hq, l1, l2, l3, hK, hF⟩, k1⟩ := X.virtualBack C.hx (V.hown C) (mvT V.hZ' w1) (mvT V.hZ' w5) (hnf _ V.hZ') (mvT V.hZ' w6) (mvT V.hZ' w2) hy (backN (len := 3) (W := W) M V.hZ' w4 w3 hf hl (fun x hx => ⟨(V.2.1 x (hm x hx)).1, (V.2.1 x (hm x hx)).2.2.1⟩) V.old) qa qc (g := mkF m pc Ls _) rfl (by rw [C.hml]; exact hsz) (Steps.refl _) hlen rfl h2W (hb C.hby hd) (fun _ _ => ⟨rfl, eT, hc, hs⟩)
    dsimp only [Pt.U, Pt.locs, Pt.cells, Pt.slots] at X' l1 l2 l3 k1 hq hK
    subst l1 l2 l3
    obtain ⟨s₂, o, k, r⟩ := nx v _ L hq hK T' s.vm X' rfl (V.keep hK hm (Fr.app V.fr hF))
    exact ⟨s₂, o, k1.trans k, r⟩
  | true =>
    obtain ⟨v, vm₁, ⟨T', L', k', n'⟩, -, X', hS, hg, ⟨L, hq, l1, l2, l3, hR, hK, hF⟩, k1⟩ := X.virtualBackS C.hx (V.hown C) (mvT V.hZ' w1) (mvT V.hZ' w5) (hnf _ V.hZ') (mvT V.hZ' w6) (mvT V.hZ' w2) hy (backW (len := 3) (W := W) M V.hZ w4 w3 hf hl C.hEW V.held (fun x hx => ⟨(V.2.1 x (hm x hx)).1, (V.2.1 x (hm x hx)).2.1, (V.2.1 x (hm x hx)).2.2.1⟩) V.old) qa qc (g := mkF m pc Ls _) rfl (by rw [C.hml]; exact hsz) (Steps.refl _) hlen rfl h2W (hb C.hby hd) (fun _ _ => ⟨rfl, eT, hc, hs⟩)
    dsimp only [Pt.U, Pt.locs, Pt.cells, Pt.slots] at X' l1 l2 l3 k1 hq hg hS hR hK
    subst l1 l2 l3
    rw [eT] at hg
    obtain ⟨s₂, o, k, r⟩ := nx v _ L hq hK T' T'.vm X' rfl (V.call hS (Nat.le_refl _) hg hR hK hm (Fr.app V.fr hF))
    exact ⟨s₂, o, k1.trans k, r⟩
theorem g_specialB {idx : Nat} {rc rs : Nat} {QB : Option Value → Heap → List Loc → Prop} {st0 : List Value} (argsL rest : List Value) (W : Nat) (C : Cx wd p s m meth c Z a0 EL own bytes ml ret nm) (hd : decode bytes pc = .ok (.invokespecial idx, 3)) (hyi : y.name = "<init>") (w1 : (Cond.methodLink own idx y).before a0 Z = true) (w2 : (Cond.instanceMethod y).before a0 Z = true) (w4 : (Cond.code y bytes' ml' none).before a0 Z = true) (hy : y.cls ≠ "java/lang/invoke/MethodHandle" ∧ y.cls ≠ "java/lang/invoke/VarHandle") (hB : ∀ vm0 : Vm, Z.Warmed39 vm0 → Ext Z.heap h → Back l R p e below (s.setVm vm0) args y 3 W (fun A a => a = as' ∧ A.U.heap = h ∧ A.cells + rc ≤ R.cells ∧ A.slots + rs ≤ R.slots) (fun A _ v B => ∃ L, QB v B.U.heap L ∧ B.locs = A.locs ++ L ∧ B.cells = A.cells + rc ∧ B.slots = A.slots + rs)) (has : as' = (.ref a :: argsL).toArray) (hlen : ∀ sig, parseMethodDescriptor y.desc = some sig → argsL.length = sig.parameters.length) (hst : st0 = argsL.reverse ++ .ref a :: rest) (hsz : Ls.size = ml) (hW : (rest.map fun v => v.category).sum ≤ W) (hc : cells + rc ≤ R.cells) (hs : slots + rs ≤ R.slots) (hk : ∀ (v : Option Value) (h' : Heap) (L : List Loc), QB v h' L → Keep h h' mine' ∧ Fr Z.heap.size L) (hm : ∀ x ∈ mine', x ∈ mine) (nx : ∀ (v : Option Value) (h' : Heap) (L : List Loc), QB v h' L → Keep h h' mine' → Go wd p l e R s m args below meth c Z EL Q kc ks m0 mine h' (locs ++ L) (cells + rc) (slots + rs) (mkF m (pc + 3) Ls (v.toList ++ rest))) : Go wd p l e R s m args below meth c Z EL Q kc ks m0 mine h locs cells slots (mkF m pc Ls st0) := fun T vm0 X eT V => by
  subst hst
  have h2W : 2 * 0 + (rest.map fun v => v.category).sum ≤ W := by omega
  obtain ⟨v, vm₁, ⟨T', L', k', n'⟩, -, X', ⟨L, hq, l1, l2, l3⟩, k1⟩ := X.specialBack C.hx hyi (V.hown C) (mvT V.hZ' w1) (mvT V.hZ' w2) (mvT V.hZ' w4) hy (hB vm0 V.hZ V.old) (g := mkF m pc Ls _) rfl (by rw [C.hml]; exact hsz) (Steps.refl _) hlen rfl h2W (hb C.hby hd) (fun _ _ => ⟨has.symm, eT, hc, hs⟩)
  dsimp only [Pt.U, Pt.locs, Pt.cells, Pt.slots] at X' l1 l2 l3 k1 hq
  subst l1 l2 l3
  obtain ⟨K, hF⟩ := hk _ _ _ hq
  obtain ⟨s₂, o, k, r⟩ := nx v _ L hq K T' vm0 X' rfl (V.keep K hm (Fr.app V.fr hF))
  exact ⟨s₂, o, k1.trans k, r⟩
theorem g_virtualB {idx : Nat} {rc rs : Nat} {QB : Option Value → Heap → List Loc → Prop} {st0 : List Value} {Cn : String} (argsL rest : List Value) (W : Nat) (C : Cx wd p s m meth c Z a0 EL own bytes ml ret nm) (hd : decode bytes pc = .ok (.invokevirtual idx, 3)) (w1 : (Cond.methodLink own idx y).before a0 Z = true) (w5 : (Cond.declares y).before a0 Z = true) (w6 : (Cond.selects Cn y z).before a0 Z = true) (w2 : (Cond.instanceMethod z).before a0 Z = true) (hnf : ∀ U : State, Z.Warmed39 U.vm → NotFace U y) (hy : y.cls ≠ "java/lang/invoke/MethodHandle" ∧ y.cls ≠ "java/lang/invoke/VarHandle") (E : Exa Z h a Cn) (hB : ∀ vm0 : Vm, Z.Warmed39 vm0 → Ext Z.heap h → Back l R p e below (s.setVm vm0) args z 3 W (fun A a => a = as' ∧ A.U.heap = h ∧ A.cells + rc ≤ R.cells ∧ A.slots + rs ≤ R.slots) (fun A _ v B => ∃ L, QB v B.U.heap L ∧ B.locs = A.locs ++ L ∧ B.cells = A.cells + rc ∧ B.slots = A.slots + rs)) (has : as' = (.ref a :: argsL).toArray) (hlen : ∀ sig, parseMethodDescriptor y.desc = some sig → argsL.length = sig.parameters.length) (hst : st0 = argsL.reverse ++ .ref a :: rest) (hsz : Ls.size = ml) (hW : (rest.map fun v => v.category).sum ≤ W) (hc : cells + rc ≤ R.cells) (hs : slots + rs ≤ R.slots) (hk : ∀ (v : Option Value) (h' : Heap) (L : List Loc), QB v h' L → Keep h h' mine' ∧ Fr Z.heap.size L) (hm : ∀ x ∈ mine', x ∈ mine) (nx : ∀ (v : Option Value) (h' : Heap) (L : List Loc), QB v h' L → Keep h h' mine' → Go wd p l e R s m args below meth c Z EL Q kc ks m0 mine h' (locs ++ L) (cells + rc) (slots + rs) (mkF m (pc + 3) Ls (v.toList ++ rest))) : Go wd p l e R s m args below meth c Z EL Q kc ks m0 mine h locs cells slots (mkF m pc Ls st0) := fun T vm0 X eT V => by
  subst hst
  have h2W : 2 * 0 + (rest.map fun v => v.category).sum ≤ W := by omega
  obtain ⟨cB, kB, qa, qb, qc⟩ := isOf V.hZ' eT E
  obtain ⟨v, vm₁, ⟨T', L', k', n'⟩, -, X', ⟨L, hq, l1, l2, l3⟩, k1⟩ := X.virtualBack C.hx (V.hown C) (mvT V.hZ' w1) (mvT V.hZ' w5) (hnf _ V.hZ') (mvT V.hZ' w6) (mvT V.hZ' w2) hy (hB vm0 V.hZ V.old) qa qc (g := mkF m pc Ls _) rfl (by rw [C.hml]; exact hsz) (Steps.refl _) hlen rfl h2W (hb C.hby hd) (fun _ _ => ⟨has.symm, eT, hc, hs⟩)
  dsimp only [Pt.U, Pt.locs, Pt.cells, Pt.slots] at X' l1 l2 l3 k1 hq
  subst l1 l2 l3
  obtain ⟨K, hF⟩ := hk _ _ _ hq
  obtain ⟨s₂, o, k, r⟩ := nx v _ L hq K T' vm0 X' rfl (V.keep K hm (Fr.app V.fr hF))
  exact ⟨s₂, o, k1.trans k, r⟩
theorem mvMN {host : String} {idx : Nat} (hZ : Z.Warmed39 s.vm) (w : (Cond.methodLinkNest own idx y host).before a0 Z = true) : (Cond.methodLinkNest own idx y host).before args s = true := (Cond.methodLinkNest_wide hZ w :)
theorem g_invokeinterface {idx : Nat} {st0 : List Value} {Cn : String} {count : Nat} (argsL rest : List Value) (W : Nat) (C : Cx wd p s m meth c Z a0 EL own bytes ml ret nm) (hd : decode bytes pc = .ok (.invokeinterface idx count, 5)) (w1 : (Cond.methodLink own idx y).before a0 Z = true) (w5 : (Cond.declares y).before a0 Z = true) (w7 : (Cond.interfaceMethod y.cls y.cls y.name y.desc).before a0 Z = true) (w6 : (Cond.selects Cn y z).before a0 Z = true) (w2 : (Cond.instanceMethod z).before a0 Z = true) (w8 : (Cond.publicMethod z).before a0 Z = true) (w9 : (Cond.unhidden Cn y.name y.desc).before a0 Z = true) (w10 : (Cond.castable Cn y.cls).before a0 Z = true) (w3 : (Cond.initialized z.cls).before a0 Z = true) (w4 : (Cond.code z bytes' ml' ret').before a0 Z = true) (hy : y.cls ≠ "java/lang/invoke/MethodHandle" ∧ y.cls ≠ "java/lang/invoke/VarHandle") (E : Exa Z h a Cn) (M : MetW wd l Z EL z bytes' ml' ret' [] rm (.ref a :: argsL).toArray mine' h Q') (hlen : ∀ sig, parseMethodDescriptor y.desc = some sig → argsL.length = sig.parameters.length) (hst : st0 = argsL.reverse ++ .ref a :: rest) (hsz : Ls.size = ml) (hW : (rest.map fun v => v.category).sum ≤ W) (hf : rm.frames + 1 ≤ R.frames) (hl : W + (ml' + 11) + rm.locals ≤ R.locals) (hc : cells + rm.cells ≤ R.cells) (hs : slots + rm.slots ≤ R.slots) (hm : ∀ x ∈ mine', x ∈ mine) (nx : ∀ (v : Option Value) (h' : Heap) (L : List Loc), Q' v h' → Keep h h' mine' → Go wd p l e R s m args below meth c Z EL Q kc ks m0 mine h' (locs ++ L) (cells + rm.cells) (slots + rm.slots) (mkF m (pc + 5) Ls (v.toList ++ rest))) : Go wd p l e R s m args below meth c Z EL Q kc ks m0 mine h locs cells slots (mkF m pc Ls st0) := fun T vm0 X eT V => by
  subst hst
  have h2W : 2 * 0 + (rest.map fun v => v.category).sum ≤ W := by omega
  obtain ⟨cB, kB, qa, qb, qc⟩ := isOf V.hZ' eT E
  cases wd with
  | false =>
    have hE := C.hwd rfl
    subst hE
    have e1 : vm0 = s.vm := V.1.1 rfl
    subst e1
    obtain ⟨v, vm₁, ⟨T', L', k', n'⟩, -, X', ⟨L, hq, l1, l2, l3, hK, hF⟩, k1⟩ := X.interfaceBack C.hx (V.hown C) (mvT V.hZ' w1) (mvT V.hZ' w5) (mvT V.hZ' w7 (by simp [Cond.onTables, Cond.keepsFace, Cond.keeps, Cond.faceAtom, hy.1, hy.2])) (mvT V.hZ' w6) (mvT V.hZ' w2) (mvT V.hZ' w8) (mvT V.hZ' w9) (mvT V.hZ' w10) hy (backN (len := 5) (W := W) M V.hZ' w4 w3 hf hl (fun x hx => ⟨(V.2.1 x (hm x hx)).1, (V.2.1 x (hm x hx)).2.2.1⟩) V.old) qa qb qc (g := mkF m pc Ls _) rfl (by rw [C.hml]; exact hsz) (Steps.refl _) hlen rfl h2W (hb C.hby hd) (fun _ _ => ⟨rfl, eT, hc, hs⟩)
    dsimp only [Pt.U, Pt.locs, Pt.cells, Pt.slots] at X' l1 l2 l3 k1 hq hK
    subst l1 l2 l3
    obtain ⟨s₂, o, k, r⟩ := nx v _ L hq hK T' s.vm X' rfl (V.keep hK hm (Fr.app V.fr hF))
    exact ⟨s₂, o, k1.trans k, r⟩
  | true =>
    obtain ⟨v, vm₁, ⟨T', L', k', n'⟩, -, X', hS, hg, ⟨L, hq, l1, l2, l3, hR, hK, hF⟩, k1⟩ := X.interfaceBackS C.hx (V.hown C) (mvT V.hZ' w1) (mvT V.hZ' w5) (mvT V.hZ' w7 (by simp [Cond.onTables, Cond.keepsFace, Cond.keeps, Cond.faceAtom, hy.1, hy.2])) (mvT V.hZ' w6) (mvT V.hZ' w2) (mvT V.hZ' w8) (mvT V.hZ' w9) (mvT V.hZ' w10) hy (backW (len := 5) (W := W) M V.hZ w4 w3 hf hl C.hEW V.held (fun x hx => ⟨(V.2.1 x (hm x hx)).1, (V.2.1 x (hm x hx)).2.1, (V.2.1 x (hm x hx)).2.2.1⟩) V.old) qa qb qc (g := mkF m pc Ls _) rfl (by rw [C.hml]; exact hsz) (Steps.refl _) hlen rfl h2W (hb C.hby hd) (fun _ _ => ⟨rfl, eT, hc, hs⟩)
    dsimp only [Pt.U, Pt.locs, Pt.cells, Pt.slots] at X' l1 l2 l3 k1 hq hg hS hR hK
    subst l1 l2 l3
    rw [eT] at hg
    obtain ⟨s₂, o, k, r⟩ := nx v _ L hq hK T' T'.vm X' rfl (V.call hS (Nat.le_refl _) hg hR hK hm (Fr.app V.fr hF))
    exact ⟨s₂, o, k1.trans k, r⟩
theorem g_invokeprivate {idx : Nat} {st0 : List Value} {Cn : String} (argsL rest : List Value) (W : Nat) (C : Cx wd p s m meth c Z a0 EL own bytes ml ret nm) (hd : decode bytes pc = .ok (.invokevirtual idx, 3)) (w1 : (Cond.methodLink own idx y).before a0 Z = true) (w2 : (Cond.instanceMethod y).before a0 Z = true) (w6 : (Cond.selects y.cls y y).before a0 Z = true) (w7 : (Cond.privateMethod y).before a0 Z = true) (w3 : (Cond.initialized y.cls).before a0 Z = true) (w4 : (Cond.code y bytes' ml' ret').before a0 Z = true) (hy : y.cls ≠ "java/lang/invoke/MethodHandle" ∧ y.cls ≠ "java/lang/invoke/VarHandle") (E : Exa Z h a Cn) (M : MetW wd l Z EL y bytes' ml' ret' [] rm (.ref a :: argsL).toArray mine' h Q') (hlen : ∀ sig, parseMethodDescriptor y.desc = some sig → argsL.length = sig.parameters.length) (hst : st0 = argsL.reverse ++ .ref a :: rest) (hsz : Ls.size = ml) (hW : (rest.map fun v => v.category).sum ≤ W) (hf : rm.frames + 1 ≤ R.frames) (hl : W + (ml' + 11) + rm.locals ≤ R.locals) (hc : cells + rm.cells ≤ R.cells) (hs : slots + rm.slots ≤ R.slots) (hm : ∀ x ∈ mine', x ∈ mine) (nx : ∀ (v : Option Value) (h' : Heap) (L : List Loc), Q' v h' → Keep h h' mine' → Go wd p l e R s m args below meth c Z EL Q kc ks m0 mine h' (locs ++ L) (cells + rm.cells) (slots + rm.slots) (mkF m (pc + 3) Ls (v.toList ++ rest))) : Go wd p l e R s m args below meth c Z EL Q kc ks m0 mine h locs cells slots (mkF m pc Ls st0) := fun T vm0 X eT V => by
  subst hst
  have h2W : 2 * 0 + (rest.map fun v => v.category).sum ≤ W := by omega
  obtain ⟨cl0, qa, qb⟩ := E.cell
  cases wd with
  | false =>
    have hE := C.hwd rfl
    subst hE
    have e1 : vm0 = s.vm := V.1.1 rfl
    subst e1
    obtain ⟨v, vm₁, ⟨T', L', k', n'⟩, -, X', ⟨L, hq, l1, l2, l3, hK, hF⟩, k1⟩ := X.privateBack C.hx (V.hown C) (mvT V.hZ' w1) (mvT V.hZ' w2) (mvT V.hZ' w6) (Cond.privateMethod_at (args := args) (mvP V.hZ' w7)) (mvT V.hZ' w4) hy (backN (len := 3) (W := W) M V.hZ' w4 w3 hf hl (fun x hx => ⟨(V.2.1 x (hm x hx)).1, (V.2.1 x (hm x hx)).2.2.1⟩) V.old) (g := mkF m pc Ls _) rfl (by rw [C.hml]; exact hsz) (Steps.refl _) (by rw [eT]; exact qa) qb hlen rfl h2W (hb C.hby hd) (fun _ _ => ⟨rfl, eT, hc, hs⟩)
    dsimp only [Pt.U, Pt.locs, Pt.cells, Pt.slots] at X' l1 l2 l3 k1 hq hK
    subst l1 l2 l3
    obtain ⟨s₂, o, k, r⟩ := nx v _ L hq hK T' s.vm X' rfl (V.keep hK hm (Fr.app V.fr hF))
    exact ⟨s₂, o, k1.trans k, r⟩
  | true =>
    obtain ⟨v, vm₁, ⟨T', L', k', n'⟩, -, X', hS, hg, ⟨L, hq, l1, l2, l3, hR, hK, hF⟩, k1⟩ := X.privateBackS C.hx (V.hown C) (mvT V.hZ' w1) (mvT V.hZ' w2) (mvT V.hZ' w6) (Cond.privateMethod_at (args := args) (mvP V.hZ' w7)) (mvT V.hZ' w4) hy (backW (len := 3) (W := W) M V.hZ w4 w3 hf hl C.hEW V.held (fun x hx => ⟨(V.2.1 x (hm x hx)).1, (V.2.1 x (hm x hx)).2.1, (V.2.1 x (hm x hx)).2.2.1⟩) V.old) (g := mkF m pc Ls _) rfl (by rw [C.hml]; exact hsz) (Steps.refl _) (by rw [eT]; exact qa) qb hlen rfl h2W (hb C.hby hd) (fun _ _ => ⟨rfl, eT, hc, hs⟩)
    dsimp only [Pt.U, Pt.locs, Pt.cells, Pt.slots] at X' l1 l2 l3 k1 hq hg hS hR hK
    subst l1 l2 l3
    rw [eT] at hg
    obtain ⟨s₂, o, k, r⟩ := nx v _ L hq hK T' T'.vm X' rfl (V.call hS (Nat.le_refl _) hg hR hK hm (Fr.app V.fr hF))
    exact ⟨s₂, o, k1.trans k, r⟩
theorem g_invokespecialNest {idx : Nat} {st0 : List Value} {host : String} (argsL rest : List Value) (W : Nat) (C : Cx wd p s m meth c Z a0 EL own bytes ml ret nm) (hd : decode bytes pc = .ok (.invokespecial idx, 3)) (hyi : y.name = "<init>") (w1 : (Cond.methodLinkNest own idx y host).before a0 Z = true) (w2 : (Cond.instanceMethod y).before a0 Z = true) (w3 : (Cond.initialized y.cls).before a0 Z = true) (w4 : (Cond.code y bytes' ml' none).before a0 Z = true) (hy : y.cls ≠ "java/lang/invoke/MethodHandle" ∧ y.cls ≠ "java/lang/invoke/VarHandle") (M : MetW wd l Z EL y bytes' ml' none [] rm (.ref a :: argsL).toArray mine' h Q') (hlen : ∀ sig, parseMethodDescriptor y.desc = some sig → argsL.length = sig.parameters.length) (hst : st0 = argsL.reverse ++ .ref a :: rest) (hsz : Ls.size = ml) (hW : (rest.map fun v => v.category).sum ≤ W) (hf : rm.frames + 1 ≤ R.frames) (hl : W + (ml' + 11) + rm.locals ≤ R.locals) (hc : cells + rm.cells ≤ R.cells) (hs : slots + rm.slots ≤ R.slots) (hm : ∀ x ∈ mine', x ∈ mine) (nx : ∀ (v : Option Value) (h' : Heap) (L : List Loc), Q' v h' → Keep h h' mine' → Go wd p l e R s m args below meth c Z EL Q kc ks m0 mine h' (locs ++ L) (cells + rm.cells) (slots + rm.slots) (mkF m (pc + 3) Ls (v.toList ++ rest))) : Go wd p l e R s m args below meth c Z EL Q kc ks m0 mine h locs cells slots (mkF m pc Ls st0) := fun T vm0 X eT V => by
  subst hst
  have h2W : 2 * 0 + (rest.map fun v => v.category).sum ≤ W := by omega
  cases wd with
  | false =>
    have hE := C.hwd rfl
    subst hE
    have e1 : vm0 = s.vm := V.1.1 rfl
    subst e1
    obtain ⟨v, vm₁, ⟨T', L', k', n'⟩, -, X', ⟨L, hq, l1, l2, l3, hK, hF⟩, k1⟩ := X.specialBackNest C.hx hyi (V.hown C) (mvMN V.hZ' w1) (mvT V.hZ' w2) (mvT V.hZ' w4) hy (backN (len := 3) (W := W) M V.hZ' w4 w3 hf hl (fun x hx => ⟨(V.2.1 x (hm x hx)).1, (V.2.1 x (hm x hx)).2.2.1⟩) V.old) (g := mkF m pc Ls _) rfl (by rw [C.hml]; exact hsz) (Steps.refl _) hlen rfl h2W (hb C.hby hd) (fun _ _ => ⟨rfl, eT, hc, hs⟩)
    dsimp only [Pt.U, Pt.locs, Pt.cells, Pt.slots] at X' l1 l2 l3 k1 hq hK
    subst l1 l2 l3
    obtain ⟨s₂, o, k, r⟩ := nx v _ L hq hK T' s.vm X' rfl (V.keep hK hm (Fr.app V.fr hF))
    exact ⟨s₂, o, k1.trans k, r⟩
  | true =>
    obtain ⟨v, vm₁, ⟨T', L', k', n'⟩, -, X', hS, hg, ⟨L, hq, l1, l2, l3, hR, hK, hF⟩, k1⟩ := X.specialBackNestS C.hx hyi (V.hown C) (mvMN V.hZ' w1) (mvT V.hZ' w2) (mvT V.hZ' w4) hy (backW (len := 3) (W := W) M V.hZ w4 w3 hf hl C.hEW V.held (fun x hx => ⟨(V.2.1 x (hm x hx)).1, (V.2.1 x (hm x hx)).2.1, (V.2.1 x (hm x hx)).2.2.1⟩) V.old) (g := mkF m pc Ls _) rfl (by rw [C.hml]; exact hsz) (Steps.refl _) hlen rfl h2W (hb C.hby hd) (fun _ _ => ⟨rfl, eT, hc, hs⟩)
    dsimp only [Pt.U, Pt.locs, Pt.cells, Pt.slots] at X' l1 l2 l3 k1 hq hg hS hR hK
    subst l1 l2 l3
    rw [eT] at hg
    obtain ⟨s₂, o, k, r⟩ := nx v _ L hq hK T' T'.vm X' rfl (V.call hS (Nat.le_refl _) hg hR hK hm (Fr.app V.fr hF))
    exact ⟨s₂, o, k1.trans k, r⟩
/-- the Class object of the class Cn is made, at a -/
def MirC (Z : State) (Cn : String) (a : Addr) : Prop := ∃ c k, Z.vm.findClass Cn = some c ∧ Z.vm.classes[c]? = some k ∧ k.mirror = some a
theorem MirC.at {Cn : String} {args' : Array Value} (M : MirC Z Cn a) (hZ : Z.Warmed39 s.vm) : (Term.mirror Cn).eval args' s none [] s = some (.ref a) := by
  obtain ⟨c, k, h1, h2, h3⟩ := M
  obtain ⟨k', q, e⟩ := hZ.alike.2.2 _ _ h2
  have hm : k'.mirror = some a := by rw [e]; exact h3
  simp [Term.eval, hZ.alike.findClass, h1, q, hm]
theorem g_ldcClass {idx : Nat} {Cn : String} {b : Addr} (C : Cx wd p s m meth c Z a0 EL own bytes ml ret nm) (hd : decode bytes pc = .ok (.ldc idx, 2)) (w : (Cond.classLink own idx Cn).before a0 Z = true) (M : MirC Z Cn b) (nx : Go wd p l e R s m args below meth c Z EL Q kc ks m0 mine h locs cells slots (mkF m (pc + 2) Ls (.ref b :: st))) : Go wd p l e R s m args below meth c Z EL Q kc ks m0 mine h locs cells slots (mkF m pc Ls st) := fun T vm0 X eT V => by
  obtain ⟨vm', X', k1⟩ := X.ldcMirror C.hx (V.hown C) (mvT V.hZ' w) (M.at V.hZ') (g := mkF m pc Ls st) rfl (hb C.hby hd)
  obtain ⟨s₂, o, k, r⟩ := nx _ vm0 X' eT V
  exact ⟨s₂, o, k1 _ k, r⟩
theorem g_getClass {idx : Nat} {Cn : String} {b : Addr} (C : Cx wd p s m meth c Z a0 EL own bytes ml ret nm) (hd : decode bytes pc = .ok (.invokevirtual idx, 3)) (w1 : (Cond.methodLink own idx Jvm.Stand.gcN).before a0 Z = true) (w5 : (Cond.declares Jvm.Stand.gcN).before a0 Z = true) (w6 : (Cond.selects Cn Jvm.Stand.gcN Jvm.Stand.gcN).before a0 Z = true) (w2 : (Cond.instanceMethod Jvm.Stand.gcN).before a0 Z = true) (w3 : (Cond.native Jvm.Stand.gcN).before a0 Z = true) (E : Exa Z h a Cn) (M : MirC Z Cn b)
    (hsz : Ls.size = ml) (hf : 1 ≤ R.frames) (hl : (st.map fun v => v.category).sum + 14 ≤ R.locals) (nx : Go wd p l e R s m args below meth c Z EL Q kc ks m0 mine h locs cells slots (mkF m (pc + 3) Ls (.ref b :: st))) : Go wd p l e R s m args below meth c Z EL Q kc ks m0 mine h locs cells slots (mkF m pc Ls (.ref a :: st)) := fun T vm0 X eT V => by
  obtain ⟨cB, kB, qa, qb, qc⟩ := isOf V.hZ' eT E
  obtain ⟨c1, k1, h1, h2, h3⟩ := M
  obtain ⟨k', q, e⟩ := V.hZ'.alike.2.2 _ _ h2
  have hm : k'.mirror = some b := by rw [e]; exact h3
  have e1 : cB = c1 := by
    rw [V.hZ'.alike.findClass, h1] at qa
    exact (Option.some.inj qa).symm
  subst e1
  have hfw : nativeFrameWords "java/lang/Object" "getClass" 1 = 3 := by decide
  obtain ⟨vm', X', k2⟩ := X.getClassOf C.hx (V.hown C) (mvT V.hZ' w1) (mvT V.hZ' w5) (notFace_of_selects (args := args) (mvT V.hZ' w6)) (mvT V.hZ' w6) (mvT V.hZ' w2) (mvT V.hZ' w3) qa qc q hm (g := mkF m pc Ls (.ref a :: st)) rfl (by rw [C.hml]; exact hsz) rfl (hb C.hby hd) hf (by rw [hfw]; show 2 * 0 + _ + (3 + 11) ≤ _; omega)
  obtain ⟨s₂, o, k, r⟩ := nx _ vm0 X' eT V
  exact ⟨s₂, o, k2 _ k, r⟩
theorem g_arraycopy {idx : Nat} {b : Addr} {ty' : FieldType} {sp dp nn : Int32} {vd : List Value} (us vd' : List Value) (C : Cx wd p s m meth c Z a0 EL own bytes ml ret nm) (hd : decode bytes pc = .ok (.invokestatic idx, 3)) (w1 : (Cond.methodLink own idx Jvm.Stand.acN).before a0 Z = true) (w2 : (Cond.native Jvm.Stand.acN).before a0 Z = true) (w3 : (Cond.static Jvm.Stand.acN).before a0 Z = true) (w4 : (Cond.initialized "java/lang/System").before a0 Z = true)
    (A : Av Z h a ty vs) (B : Av Z h b ty' vd) (hty : (ty = ty' ∧ refKind ty = false) ∨ (refKind ty = true ∧ refKind ty' = true ∧ StoL Z h b us)) (h1 : ¬ sp < 0) (h2 : ¬ dp < 0) (h3 : ¬ nn < 0) (h4 : sp.toNatClampNeg + nn.toNatClampNeg ≤ vs.length) (h5 : dp.toNatClampNeg + nn.toNatClampNeg ≤ vd.length)
    (hus : us = (List.range nn.toNatClampNeg).map fun i => vs.getD (sp.toNatClampNeg + i) .null) (hvd : vd.take dp.toNatClampNeg ++ us ++ vd.drop (dp.toNatClampNeg + nn.toNatClampNeg) = vd') (hm : b ∈ mine)
    (hsz : Ls.size = ml) (hf : 1 ≤ R.frames) (hl : (st.map fun v => v.category).sum + (nativeFrameWords "java/lang/System" "arraycopy" 5 + 11) ≤ R.locals)
    (nx : ∀ (h' : Heap) (locs' : List Loc), Keep h h' [b] → Av Z h' b ty' vd' → Go wd p l e R s m args below meth c Z EL Q kc ks m0 mine h' locs' cells slots (mkF m (pc + 3) Ls st)) : Go wd p l e R s m args below meth c Z EL Q kc ks m0 mine h locs cells slots (mkF m pc Ls (.int nn :: .int dp :: .ref b :: .int sp :: .ref a :: st)) := fun T vm0 X eT V => by
  have la : vs.length < 2147483648 := by obtain ⟨_, _, _, q, _⟩ := A; exact q
  have lb : vd.length < 2147483648 := by obtain ⟨_, _, _, q, _⟩ := B; exact q
  obtain ⟨ka, A'⟩ := Arv.of_av (d := .null) A
  obtain ⟨kb, B'⟩ := Arv.of_av (d := .null) B
  obtain ⟨na, -⟩ := toNat_ofNat la
  obtain ⟨nb, -⟩ := toNat_ofNat lb
  obtain ⟨T', h', L, X', e', hF, K, A2, k1⟩ := cpA X C.hx V.hZ' (V.hown C) w1 w2 w3 w4 eT A' B' hty h1 h2 h3 (by rw [na]; exact h4) (by rw [nb]; exact h5) hus h5 V.fr (V.2.1 b hm).2.2.1 (g := mkF m pc Ls (.int nn :: .int dp :: .ref b :: .int sp :: .ref a :: st)) rfl (by rw [C.hml]; exact hsz) rfl (hb C.hby hd) hf (W := (st.map fun v => v.category).sum) (by show 2 * 0 + _ ≤ _; omega) hl
  rw [hvd] at A2
  have hl' : vd'.length = vd.length := by
    rw [← hvd, hus]; simp; omega
  obtain ⟨s₂, o, k, r⟩ := nx h' L K (Av.of_arv A2 (by rw [nb, hl'])) T' vm0 X' e' (V.keep K (fun x hx => by rw [List.mem_singleton.mp hx]; exact hm) hF)
  exact ⟨s₂, o, k1 _ k, r⟩
/-- a cell that a callee made is the walk's own from now on -/
theorem Go.take {x : Addr} {Cn : String} {g : JFrame} (E : Exa Z h x Cn) (h1 : Cn ≠ "java/lang/String") (h2 : Cn ≠ "[B") (hz : Z.heap.size ≤ x) (hs : s.heap.size ≤ x) (nx : Go wd p l e R s m args below meth c Z EL Q kc ks m0 (x :: mine) h locs cells slots g) : Go wd p l e R s m args below meth c Z EL Q kc ks m0 mine h locs cells slots g :=
  fun T vm0 X eT V => nx T vm0 X eT ⟨V.1, fun y hy => by
    rcases List.mem_cons.mp hy with rfl | hy
    · exact ⟨E.lt, Safe.exa V.hZ.alike E h1 h2, hz, Or.inr hs⟩
    · exact V.2.1 y hy, V.2.2⟩
theorem g_ldcStr {idx : Nat} {text : String} {zl : Int32} (n : Nat) (C : Cx true p s m meth c Z a0 EL own bytes ml ret nm) (hd : decode bytes pc = .ok (.ldc idx, 2)) (w : (Cond.stringLink own idx text).before a0 Z = true) (wS : ∀ a ∈ Bundle.stringAtoms, a.before a0 Z = true) (hmem : (own, idx) ∈ EL)
    (ht : (∀ c ∈ text.toList, c.toNat < 256) ∧ text.toList.map (fun c => Value.int (Jvm.Lit.byteI c.toNat.toUInt16)) = vs) (hz : ¬ zl < 0) (hzl : zl.toNatClampNeg = vs.length) (hn : 4 * text.toList.length ≤ n) (hbig : n ≤ 536870912) (hc : cells + 2 ≤ R.cells) (hs : slots + (n + 4) ≤ R.slots)
    (nx : ∀ (a b : Addr) (h' : Heap), Ext h h' → Exa Z h' a "java/lang/String" → Fld Z h' a "java/lang/String" "coder" "B" (.int 0) → Fld Z h' a "java/lang/String" "value" "[B" (.ref b) → Av Z h' b .byte vs → (∀ x ∈ mine, x ≠ a ∧ x ≠ b) → Go true p l e R s m args below meth c Z EL Q kc ks m0 mine h' locs (cells + 2) (slots + (n + 4)) (mkF m (pc + 2) Ls (.ref a :: st))) : Go true p l e R s m args below meth c Z EL Q kc ks m0 mine h locs cells slots (mkF m pc Ls st) := fun T vm0 X eT V => by
  have V' := V
  obtain ⟨⟨v1, v2, ⟨k0, v3, v4⟩, v5⟩, v6, -⟩ := V'

  obtain ⟨a, T', h', k1, b, kb, X', e', E, hS, hk, hW, hf, F1, F2, F3, F4, l1, l2, hR, hL, hne, kk⟩ := ldcCH X C.hx V.hZ (V.hown' C) w wS eT v3 v4 C.hEW hmem v5.1 ht hz hzl (g := mkF m pc Ls st) rfl (hb C.hby hd) hn hbig hc hs
  have V2 := V.ext E
  have v6' : ∀ x ∈ mine, x < h'.size ∧ Safe Z EL T'.vm h' x ∧ Z.heap.size ≤ x ∧ (x ∈ m0 ∨ s.heap.size ≤ x) := fun x hx => ⟨Nat.lt_of_lt_of_le (v6 x hx).1 E.1, hR.safe (v6 x hx).1 (v6 x hx).2.1, (v6 x hx).2.2⟩
  obtain ⟨s₂, o, k, r⟩ := nx a b h' E F1 F2 F3 (Av.of_arv F4 hzl) (fun x hx => hne x (v6' x hx).2.1) T' T'.vm X' e' ⟨⟨fun q => (nomatch q), hW, ⟨k1, hS, hk⟩, v5.trans hR⟩, v6', V2.2.2⟩
  exact ⟨s₂, o, kk _ k, r⟩
/-- a String constant that isn't read -/
theorem g_ldcOpq {idx : Nat} {text : String} (n : Nat) (C : Cx true p s m meth c Z a0 EL own bytes ml ret nm) (hd : decode bytes pc = .ok (.ldc idx, 2)) (w : (Cond.stringLink own idx text).before a0 Z = true) (wS : ∀ a ∈ Bundle.stringAtoms, a.before a0 Z = true)
    (hn : 4 * text.toList.length ≤ n) (hbig : n ≤ 536870912) (hc : cells + 2 ≤ R.cells) (hs : slots + (n + 4) ≤ R.slots)
    (nx : ∀ (a : Addr) (h' : Heap), Ext h h' → Go true p l e R s m args below meth c Z EL Q kc ks m0 mine h' locs (cells + 2) (slots + (n + 4)) (mkF m (pc + 2) Ls (.ref a :: st))) : Go true p l e R s m args below meth c Z EL Q kc ks m0 mine h locs cells slots (mkF m pc Ls st) := fun T vm0 X eT V => by
  have V' := V
  obtain ⟨⟨v1, v2, ⟨k0, v3, v4⟩, v5⟩, v6, -⟩ := V'

  obtain ⟨a, T', h', k1, X', e', E, hS, hk, hW, hf, hR, hL, kk⟩ := ldcOH X C.hx V.hZ (V.hown' C) w wS eT v3 v4 C.hEW v5.1 (g := mkF m pc Ls st) rfl (hb C.hby hd) hn hbig hc hs
  obtain ⟨s₂, o, k, r⟩ := nx a h' E T' T'.vm X' e' ⟨⟨fun q => (nomatch q), hW, ⟨k1, hS, hk⟩, v5.trans hR⟩, fun x hx => ⟨Nat.lt_of_lt_of_le (v6 x hx).1 E.1, hR.safe (v6 x hx).1 (v6 x hx).2.1, (v6 x hx).2.2⟩, (V.ext E).2.2⟩
  exact ⟨s₂, o, kk _ k, r⟩
/-- the array at a holds objects of Cn -/
def OvA (Z : State) (h : Heap) (a : Addr) (Cn : String) : Prop := ∃ cA cl, h[a]? = some cl ∧ cl.cls = cA ∧ Ovr Z cA Cn
theorem OvA.keep {Cn : String} (F : OvA Z h a Cn) (K : Keep h h' ws) : OvA Z h' a Cn := by
  obtain ⟨cA, cl, q1, q2, O⟩ := F
  obtain ⟨cl', r1, r2, -⟩ := K.2.2 _ _ q1
  exact ⟨cA, cl', r1, r2.trans q2, O⟩
/-- an object of C isn't one of the ordinary class K that C's chain of superclasses doesn't meet -/
theorem ins_no {C K : String} {t : List String} {n : Nat} (E : Exa Z h a C) (hw : ∀ w ∈ Cond.chainWords (C :: t), w.before a0 Z = true) (wi : (Cond.instantiable K n).before a0 Z = true) (hn : K ∉ C :: t) : Ins Z h a K false := by
  obtain ⟨cell, k, e1, e2, e3, e4, -⟩ := E
  obtain ⟨cK, kK, i1, i2, i3, i4, -⟩ := Cond.instantiable_spec wi
  obtain ⟨c', k', c1, c2, c3, c4⟩ := Cond.chain_head hw
  cases e2.symm.trans c1
  cases e3.symm.trans c2
  have ne : cell.cls ≠ cK := Vm.findClass_ne e2 i1 (fun e => hn (by simp [e]))
  have ns := Cond.chain_notSub i1 t C _ e2 hw hn (Z.vm.classes.size + 1)
  have i5 : kK.isInterface = false := by
    cases q : kK.isInterface
    · rfl
    · rw [q] at i4; cases i4
  refine ⟨cell, cK, e1, i1, ?_⟩
  simp [e4, Vm.assignable, Vm.assignableAux, ne, e3, i2, c3, i3, i5, Vm.isSubclass, ns]
/-- a String of Latin-1 chars cs, its bytes at t -/
def Str (Z : State) (h : Heap) (x t : Addr) (cs : List Int32) : Prop :=
  Exa Z h x "java/lang/String" ∧ Fld Z h x "java/lang/String" "coder" "B" (.int 0) ∧ Fld Z h x "java/lang/String" "value" "[B" (.ref t) ∧ Av Z h t .byte (cs.map fun c => Value.int c.toInt8.toInt32)
theorem Str.keep {x t : Addr} {cs : List Int32} (F : Str Z h x t cs) (K : Keep h h' ws) (q1 : x ∉ ws) (q2 : t ∉ ws) : Str Z h' x t cs := ⟨F.1.keep K, F.2.1.keep K q1, F.2.2.1.keep K q1, F.2.2.2.keep K q2⟩
theorem Str.ext {x t : Addr} {cs : List Int32} (F : Str Z h x t cs) (E : Ext h h') : Str Z h' x t cs := F.keep (keep_ext E) (fun q => nomatch q) (fun q => nomatch q)
theorem g_ldc2w {idx : Nat} (z : Int64) (C : Cx wd p s m meth c Z a0 EL own bytes ml ret nm) (hd : decode bytes pc = .ok (.ldc2_w idx, 3)) (w : (Cond.constantLong own idx z).before a0 Z = true) (nx : Go wd p l e R s m args below meth c Z EL Q kc ks m0 mine h locs cells slots (mkF m (pc + 3) Ls (.long z :: st))) : Go wd p l e R s m args below meth c Z EL Q kc ks m0 mine h locs cells slots (mkF m pc Ls st) := fun T vm0 X eT V => by
  obtain ⟨s₂, o, k, r⟩ := nx T vm0 X eT V
  exact ⟨s₂, o, X.ldc2J C.hx (V.hown C) (mvT V.hZ' w) (g := mkF m pc Ls st) rfl (hb C.hby hd) k, r⟩
theorem g_ldcInt {idx : Nat} (z : Int32) (C : Cx wd p s m meth c Z a0 EL own bytes ml ret nm) (hd : decode bytes pc = .ok (.ldc idx, 2)) (w : (Cond.constant own idx z).before a0 Z = true) (nx : Go wd p l e R s m args below meth c Z EL Q kc ks m0 mine h locs cells slots (mkF m (pc + 2) Ls (.int z :: st))) : Go wd p l e R s m args below meth c Z EL Q kc ks m0 mine h locs cells slots (mkF m pc Ls st) := fun T vm0 X eT V => by
  obtain ⟨s₂, o, k, r⟩ := nx T vm0 X eT V
  exact ⟨s₂, o, X.ldcI C.hx (V.hown C) (mvT V.hZ' w) (g := mkF m pc Ls st) rfl (hb C.hby hd) k, r⟩
theorem cl_lt {x y : Int64} : XT.cmpL x y < 0 ↔ x < y := by rw [← lw_lt]; rfl
theorem cl_gt {x y : Int64} : 0 < XT.cmpL x y ↔ y < x := by rw [← lw_gt]; rfl
theorem cl_eq {x y : Int64} : XT.cmpL x y = 0 ↔ x = y := by rw [← lw_eq]; rfl
theorem cl_eq_t {x y : Int64} (q : x = y) : hC .eq (XT.cmpL x y) 0 := cl_eq.mpr q
theorem cl_eq_f {x y : Int64} (q : ¬ x = y) : nC .eq (XT.cmpL x y) 0 := fun z => q (cl_eq.mp z)
theorem cl_ne_t {x y : Int64} (q : ¬ x = y) : hC .ne (XT.cmpL x y) 0 := fun z => q (cl_eq.mp z)
theorem cl_ne_f {x y : Int64} (q : x = y) : nC .ne (XT.cmpL x y) 0 := cl_eq.mpr q
theorem cl_lt_t {x y : Int64} (q : x < y) : hC .lt (XT.cmpL x y) 0 := cl_lt.mpr q
theorem cl_lt_f {x y : Int64} (q : ¬ x < y) : nC .lt (XT.cmpL x y) 0 := fun z => q (cl_lt.mp z)
theorem cl_ge_t {x y : Int64} (q : ¬ x < y) : hC .ge (XT.cmpL x y) 0 := fun z => q (cl_lt.mp z)
theorem cl_ge_f {x y : Int64} (q : x < y) : nC .ge (XT.cmpL x y) 0 := cl_lt.mpr q
theorem cl_gt_t {x y : Int64} (q : y < x) : hC .gt (XT.cmpL x y) 0 := cl_gt.mpr q
theorem cl_gt_f {x y : Int64} (q : ¬ y < x) : nC .gt (XT.cmpL x y) 0 := fun z => q (cl_gt.mp z)
theorem cl_le_t {x y : Int64} (q : ¬ y < x) : hC .le (XT.cmpL x y) 0 := fun z => q (cl_gt.mp z)
theorem cl_le_f {x y : Int64} (q : y < x) : nC .le (XT.cmpL x y) 0 := cl_gt.mpr q
end K
end Jvm.Wk9
/- laws to paste: Road.backV (cut by pick.py; bodies as the Statement names them) -/
namespace Jvm.Pilot.@@N@@
namespace StrChars
open Jvm Sem ClassFile Op Lib Jvm.Stand Jvm.Free.XT Jvm.Free.ALB Jvm.Free.JM Jvm.Free
open Jvm.Lib.Cold (StaticIs)
/-- a char array whose places are chars -/
def Ch (a : Addr) (A : Cell) (U : State) : Prop := Arr .char a A U ∧ Typed .char A
theorem Ch.mv {a : Addr} {A : Cell} {U U' : State} (h : Ch a A U) (hal : U.vm.Alike U'.vm) (hh : U'.heap = U.heap) : Ch a A U' := ⟨h.1.mv hal hh, h.2⟩
theorem Ch.keep {a : Addr} {A : Cell} {U U' : State} (h : Ch a A U) (hal : U.vm.Alike U'.vm) (hk : U'.heap[a]? = some A) : Ch a A U' := ⟨h.1.keep hal hk, h.2⟩
/-- what place i of a char[]'s cell holds -/
def cv (A : Cell) (i : Nat) : Int32 := match A.slots[i]? with | some (.int x) => x | _ => 0
theorem Ch.get {a : Addr} {A : Cell} {U : State} (h : Ch a A U) {i : Nat} (hi : i < A.slots.size) : A.slots[i]? = some (.int (cv A i)) := by
  have e := Array.getElem?_eq_getElem hi
  have f := h.2 i _ e
  unfold cv; rw [e]
  generalize A.slots[i] = v at f
  cases v <;> simp [fits] at f ⊢
/-- the byte that i2b leaves of a char -/
def lo8 (x : Int32) : Int32 := x.toInt8.toInt32
theorem fits_lo8 (y : Int32) : fits .byte (.int (lo8 y)) = true := by
  have h1 := y.toInt8.le_toInt
  have h2 := y.toInt8.toInt_lt
  simp only [lo8, fits, Bool.and_eq_true, decide_eq_true_eq, Int32.le_iff_toInt_le, Int8.toInt_toInt32, show (-128 : Int32).toInt = -128 from by decide, show (127 : Int32).toInt = 127 from by decide]
  omega
/-- A' is A but that each place j of lo .. hi - 1 holds f j -/
def Laid (A A' : Cell) (lo hi : Nat) (f : Nat → Value) : Prop := A'.cls = A.cls ∧ A'.vm = A.vm ∧ A'.slots.size = A.slots.size ∧ ∀ i, A'.slots[i]? = if lo ≤ i ∧ i < hi then some (f i) else A.slots[i]?
theorem Laid.zero (A : Cell) (lo : Nat) (f : Nat → Value) : Laid A A lo (lo + 0) f := ⟨rfl, rfl, rfl, fun i => by rw [if_neg (by omega)]⟩
theorem Laid.step {A Ak : Cell} {lo k : Nat} {f : Nat → Value} {v : Value} (h : Laid A Ak lo k f) (hlo : lo ≤ k) (hk : k < Ak.slots.size) (hv : v = f k) : Laid A (Ak.setSlot k v) lo (k + 1) f := by
  refine ⟨h.1, h.2.1, by simpa [Cell.setSlot] using h.2.2.1, fun i => ?_⟩
  by_cases e : k = i
  · subst e; rw [Cell.slots_setSlot_self v hk, if_pos (by omega), hv]
  · rw [Cell.slots_setSlot_ne v e, h.2.2.2 i]
    by_cases q : lo ≤ i ∧ i < k
    · rw [if_pos q, if_pos (by omega)]
    · rw [if_neg q, if_neg (by omega)]
def U16 : String := "java/lang/StringUTF16"
namespace Cmp5
def yN : MethodName := ⟨"java/lang/StringUTF16", "compress", "([CI[BII)I"⟩
abbrev yB : ByteArray := jdk_52_method_21_code
theorem d0 : decode yB 0 = .ok (.iconst 0, 1) := by decide +kernel
theorem d1 : decode yB 1 = .ok (.istore 5, 2) := by decide +kernel
theorem d3 : decode yB 3 = .ok (.iload 5, 2) := by decide +kernel
theorem d5 : decode yB 5 = .ok (.iload 4, 2) := by decide +kernel
theorem d7 : decode yB 7 = .ok (.if_icmp (.ge) 37, 3) := by decide +kernel
theorem d10 : decode yB 10 = .ok (.aload_n 0, 1) := by decide +kernel
theorem d11 : decode yB 11 = .ok (.iload_n 1, 1) := by decide +kernel
theorem d12 : decode yB 12 = .ok (.caload, 1) := by decide +kernel
theorem d13 : decode yB 13 = .ok (.istore 6, 2) := by decide +kernel
theorem d15 : decode yB 15 = .ok (.iload 6, 2) := by decide +kernel
theorem d17 : decode yB 17 = .ok (.sipush 255, 3) := by decide +kernel
theorem d20 : decode yB 20 = .ok (.if_icmp (.le) 6, 3) := by decide +kernel
theorem d26 : decode yB 26 = .ok (.aload_n 2, 1) := by decide +kernel
theorem d27 : decode yB 27 = .ok (.iload_n 3, 1) := by decide +kernel
theorem d28 : decode yB 28 = .ok (.iload 6, 2) := by decide +kernel
theorem d30 : decode yB 30 = .ok (.i2b, 1) := by decide +kernel
theorem d31 : decode yB 31 = .ok (.bastore, 1) := by decide +kernel
theorem d32 : decode yB 32 = .ok (.iinc 1 1, 3) := by decide +kernel
theorem d35 : decode yB 35 = .ok (.iinc 3 1, 3) := by decide +kernel
theorem d38 : decode yB 38 = .ok (.iinc 5 1, 3) := by decide +kernel
theorem d41 : decode yB 41 = .ok (.goto (-38), 3) := by decide +kernel
theorem d44 : decode yB 44 = .ok (.iload 4, 2) := by decide +kernel
theorem d46 : decode yB 46 = .ok (.ireturn, 1) := by decide +kernel
def site : List Cond := []
def tab : Cond := tabOf yN yB 7 (some .int) site
def P (b : Addr) (A : Cell) (d : Addr) (B : Cell) (o q len : Nat) (args : Array Value) (s : State) : Prop := args = #[.ref b, .int (Int32.ofNat o), .ref d, .int (Int32.ofNat q), .int (Int32.ofNat len)] ∧ Ch b A s ∧ Arr .byte d B s ∧ b ≠ d ∧ o + len ≤ A.slots.size ∧ q + len ≤ B.slots.size ∧ ∀ i, i < len → ¬ 255 < cv A (o + i)
def E (b : Addr) (A : Cell) (d : Addr) (B : Cell) (o q len : Nat) (r : Option Value) (s u : State) : Prop := r = some (.int (Int32.ofNat len)) ∧ ∃ B', Put d B' s u ∧ Laid B B' q (q + len) (fun j => Value.int (lo8 (cv A (o + (j - q)))))
/-- no char of the range above 255: len; the places written hold each char's low byte -/
theorem law (l : Launch) (b : Addr) (A : Cell) (d : Addr) (B : Cell) (o q len : Nat) : Law l yN 5 5 0 0 yB 7 (some .int) site (P b A d B o q len) (E b A d B o q len) (copyLocs d q len) 0 0 := by
  refine Law.of_walk (plainFor_of_name (by decide +kernel)) (by decide +kernel) (by decide +kernel) (by decide) (fun _ _ h => by rw [h.1]; rfl) (fun _ U U' hal hh h => ⟨h.1, h.2.1.mv hal hh, h.2.2.1.mv hal hh, h.2.2.2⟩) (fun r U U' V V' h1 hal h2 h => ⟨h.1, h.2.elim fun B' q => ⟨B', q.1.mv h1 h2, q.2⟩⟩) ?_
  intro p e s m args below meth c s₁ X0 hexec hbytes hml hret hlk hnm hown hh0 W hP
  obtain ⟨rfl, hA, hB, hne, l1, l2, hp⟩ := hP
  have c1 : Steps p.tables e below (s₁.setTop (entryFrame m #[.ref b, .int (Int32.ofNat o), .ref d, .int (Int32.ofNat q), .int (Int32.ofNat len)] 7)) (s₁.setTop (mkF m 0 #[.val (.ref b), .val (.int (Int32.ofNat o)), .val (.ref d), .val (.int (Int32.ofNat q)), .val (.int (Int32.ofNat len)), .unset, .unset] [])) := entry rfl
  have hA0 := hA.1.mv X0.warmed.alike hh0
  have hB0 := hB.mv X0.warmed.alike hh0
  have a31 := hA.1.2.2.2
  have c2 : Steps p.tables e below (s₁.setTop (entryFrame m #[.ref b, .int (Int32.ofNat o), .ref d, .int (Int32.ofNat q), .int (Int32.ofNat len)] 7)) (s₁.setTop (mkF m 3 #[.val (.ref b), .val (.int (Int32.ofNat o)), .val (.ref d), .val (.int (Int32.ofNat q)), .val (.int (Int32.ofNat len)), .val (.int 0), .unset] [])) := c1.trans (by
    refine iconstV X0.here hexec rfl 0 (hb hbytes d0) (by decide) ?_
    refine XS.istore X0.here hexec rfl (hb hbytes d1) rfl rfl ?_
    exact Steps.refl _)
  have loop : ∀ (r i : Nat), i + r = len → ∀ (z : Slot), (z = .unset ∨ ∃ w, z = .val w ∧ w.category = 1) → ∀ (Tl : State) (Bk : Cell), Stand p l e { frames := 0, locals := 0, cells := 0, slots := 0 } s m #[.ref b, .int (Int32.ofNat o), .ref d, .int (Int32.ofNat q), .int (Int32.ofNat len)] below meth c Tl ([] ++ copyLocs d q i) 0 0 → Put d Bk s₁ Tl → Laid B Bk q (q + i) (fun j => Value.int (lo8 (cv A (o + (j - q))))) →
      Steps p.tables e below (s₁.setTop (entryFrame m #[.ref b, .int (Int32.ofNat o), .ref d, .int (Int32.ofNat q), .int (Int32.ofNat len)] 7)) (Tl.setTop (mkF m 3 #[.val (.ref b), .val (.int (Int32.ofNat (o + i))), .val (.ref d), .val (.int (Int32.ofNat (q + i))), .val (.int (Int32.ofNat len)), .val (.int (Int32.ofNat i)), z] [])) → ∃ (T' : State) (B' : Cell) (z' : Slot), Stand p l e { frames := 0, locals := 0, cells := 0, slots := 0 } s m #[.ref b, .int (Int32.ofNat o), .ref d, .int (Int32.ofNat q), .int (Int32.ofNat len)] below meth c T' ([] ++ copyLocs d q len) 0 0 ∧ Put d B' s₁ T' ∧ Laid B B' q (q + len) (fun j => Value.int (lo8 (cv A (o + (j - q))))) ∧
      Steps p.tables e below (s₁.setTop (entryFrame m #[.ref b, .int (Int32.ofNat o), .ref d, .int (Int32.ofNat q), .int (Int32.ofNat len)] 7)) (T'.setTop (mkF m 3 #[.val (.ref b), .val (.int (Int32.ofNat (o + len))), .val (.ref d), .val (.int (Int32.ofNat (q + len))), .val (.int (Int32.ofNat len)), .val (.int (Int32.ofNat len)), z'] [])) := by
    intro r
    induction r with
    | zero =>
      intro i hi z hz Tl Bk Xl pl fl cl
      have hil : i = len := by omega
      rw [hil] at Xl fl cl
      exact ⟨Tl, Bk, z, Xl, pl, fl, cl⟩
    | succ r ih =>
      intro i hi z hz Tl Bk Xl pl fl cl
      have all := X0.warmed.alike.symm.trans Xl.warmed.alike
      have hAl := hA0.keep all (pl.other hne hA0.1)
      have hBk := hB0.like all pl.1 fl.1 fl.2.1 fl.2.2.1
      have hlt : q + i < Bk.slots.size := by rw [fl.2.2.1]; omega
      have c3 : Steps p.tables e below (s₁.setTop (entryFrame m #[.ref b, .int (Int32.ofNat o), .ref d, .int (Int32.ofNat q), .int (Int32.ofNat len)] 7)) (Tl.setTop (mkF m 12 #[.val (.ref b), .val (.int (Int32.ofNat (o + i))), .val (.ref d), .val (.int (Int32.ofNat (q + i))), .val (.int (Int32.ofNat len)), .val (.int (Int32.ofNat i)), z] [.int (Int32.ofNat (o + i)), .ref b])) := cl.trans (by
        refine XS.iload Xl.here hexec rfl (hb hbytes d3) rfl ?_
        refine XS.iload Xl.here hexec rfl (hb hbytes d5) rfl ?_
        refine XS.icmpNo Xl.here hexec rfl (hb hbytes d7) rfl (ii_ge_f (lt32 (by omega) (by omega))) ?_
        refine XS.aloadN Xl.here hexec rfl (hb hbytes d10) rfl rfl ?_
        refine XS.iloadN Xl.here hexec rfl (hb hbytes d11) rfl ?_
        exact Steps.refl _)
      have c4 : Steps p.tables e below (s₁.setTop (entryFrame m #[.ref b, .int (Int32.ofNat o), .ref d, .int (Int32.ofNat q), .int (Int32.ofNat len)] 7)) (Tl.setTop (mkF m 13 #[.val (.ref b), .val (.int (Int32.ofNat (o + i))), .val (.ref d), .val (.int (Int32.ofNat (q + i))), .val (.int (Int32.ofNat len)), .val (.int (Int32.ofNat i)), z] [.int (cv A (o + i))])) := c3.trans (by
        refine Xl.aget hexec hAl rfl (hA.get (i := o + i) (by omega)) rfl rfl (hb hbytes d12) ?_
        exact Steps.refl _)
      have c5 : Steps p.tables e below (s₁.setTop (entryFrame m #[.ref b, .int (Int32.ofNat o), .ref d, .int (Int32.ofNat q), .int (Int32.ofNat len)] 7)) (Tl.setTop (mkF m 15 #[.val (.ref b), .val (.int (Int32.ofNat (o + i))), .val (.ref d), .val (.int (Int32.ofNat (q + i))), .val (.int (Int32.ofNat len)), .val (.int (Int32.ofNat i)), .val (.int (cv A (o + i)))] [])) := c4.trans (by
        refine XS.istoreS Xl.here hexec rfl (hb hbytes d13) rfl rfl hz ?_
        exact Steps.refl _)
      have c6 : Steps p.tables e below (s₁.setTop (entryFrame m #[.ref b, .int (Int32.ofNat o), .ref d, .int (Int32.ofNat q), .int (Int32.ofNat len)] 7)) (Tl.setTop (mkF m 31 #[.val (.ref b), .val (.int (Int32.ofNat (o + i))), .val (.ref d), .val (.int (Int32.ofNat (q + i))), .val (.int (Int32.ofNat len)), .val (.int (Int32.ofNat i)), .val (.int (cv A (o + i)))] [.int (lo8 (cv A (o + i))), .int (Int32.ofNat (q + i)), .ref d])) := c5.trans (by
        refine XS.iload Xl.here hexec rfl (hb hbytes d15) rfl ?_
        refine sipushV Xl.here hexec rfl 255 (hb hbytes d17) (by decide) ?_
        refine XS.icmpYes Xl.here hexec rfl (pc0 := 20) rfl (hb hbytes d20) rfl (ii_le_t (hp i (by omega))) (by decide) rfl ?_
        refine XS.aloadN Xl.here hexec rfl (hb hbytes d26) rfl rfl ?_
        refine XS.iloadN Xl.here hexec rfl (hb hbytes d27) rfl ?_
        refine XS.iload Xl.here hexec rfl (hb hbytes d28) rfl ?_
        refine i2b Xl.here hexec rfl (hb hbytes d30) rfl ?_
        exact Steps.refl _)
      obtain ⟨T7, X7, p7, st7⟩ := Xl.aput hexec hBk rfl hlt rfl (fits_lo8 (cv A (o + i))) (g := (mkF m 31 #[.val (.ref b), .val (.int (Int32.ofNat (o + i))), .val (.ref d), .val (.int (Int32.ofNat (q + i))), .val (.int (Int32.ofNat len)), .val (.int (Int32.ofNat i)), .val (.int (cv A (o + i)))] [.int (lo8 (cv A (o + i))), .int (Int32.ofNat (q + i)), .ref d])) rfl (rest := []) rfl (hb hbytes d31)
      have c8 : Steps p.tables e below (s₁.setTop (entryFrame m #[.ref b, .int (Int32.ofNat o), .ref d, .int (Int32.ofNat q), .int (Int32.ofNat len)] 7)) (T7.setTop (mkF m 32 #[.val (.ref b), .val (.int (Int32.ofNat (o + i))), .val (.ref d), .val (.int (Int32.ofNat (q + i))), .val (.int (Int32.ofNat len)), .val (.int (Int32.ofNat i)), .val (.int (cv A (o + i)))] [])) := c6.trans (st7 _ (Steps.refl _))
      have c9 : Steps p.tables e below (s₁.setTop (entryFrame m #[.ref b, .int (Int32.ofNat o), .ref d, .int (Int32.ofNat q), .int (Int32.ofNat len)] 7)) (T7.setTop (mkF m 3 #[.val (.ref b), .val (.int (Int32.ofNat (o + i) + 1)), .val (.ref d), .val (.int (Int32.ofNat (q + i) + 1)), .val (.int (Int32.ofNat len)), .val (.int (Int32.ofNat i + 1)), .val (.int (cv A (o + i)))] [])) := c8.trans (by
        refine iincV X7.here hexec rfl 1 (hb hbytes d32) (by decide) rfl rfl ?_
        refine iincV X7.here hexec rfl 1 (hb hbytes d35) (by decide) rfl rfl ?_
        refine iincV X7.here hexec rfl 1 (hb hbytes d38) (by decide) rfl rfl ?_
        refine XS.goto X7.here hexec rfl (pc0 := 41) rfl (hb hbytes d41) (by decide) rfl ?_
        exact Steps.refl _)
      have c10 : Steps p.tables e below (s₁.setTop (entryFrame m #[.ref b, .int (Int32.ofNat o), .ref d, .int (Int32.ofNat q), .int (Int32.ofNat len)] 7)) (T7.setTop (mkF m 3 #[.val (.ref b), .val (.int (Int32.ofNat (o + (i + 1)))), .val (.ref d), .val (.int (Int32.ofNat (q + (i + 1)))), .val (.int (Int32.ofNat len)), .val (.int (Int32.ofNat (i + 1))), .val (.int (cv A (o + i)))] [])) := by
        have := c9
        rw [succ32, succ32, succ32] at this
        exact this
      exact ih (i + 1) (by omega) _ (Or.inr ⟨_, rfl, rfl⟩) T7 _ (by rw [copyLocs_step, ← List.append_assoc]; exact X7) (pl.trans p7) (fl.step (by omega) hlt (by simp)) c10
  obtain ⟨T9, B9, z9, X9, p9, f9, g9⟩ := loop len 0 (by omega) .unset (Or.inl rfl) s₁ B (by simpa [copyLocs] using X0) ⟨hB0.1, fun _ _ => rfl, rfl⟩ (Laid.zero _ _ _) c2
  have c11 : Steps p.tables e below (s₁.setTop (entryFrame m #[.ref b, .int (Int32.ofNat o), .ref d, .int (Int32.ofNat q), .int (Int32.ofNat len)] 7)) (T9.setTop (mkF m 46 #[.val (.ref b), .val (.int (Int32.ofNat (o + len))), .val (.ref d), .val (.int (Int32.ofNat (q + len))), .val (.int (Int32.ofNat len)), .val (.int (Int32.ofNat len)), z9] [.int (Int32.ofNat len)])) := g9.trans (by
    refine XS.iload X9.here hexec rfl (hb hbytes d3) rfl ?_
    refine XS.iload X9.here hexec rfl (hb hbytes d5) rfl ?_
    refine XS.icmpYes X9.here hexec rfl (pc0 := 7) rfl (hb hbytes d7) rfl (ii_ge_t (nlt32 (by omega) (Nat.le_refl _))) (by decide) rfl ?_
    refine XS.iload X9.here hexec rfl (hb hbytes d44) rfl ?_
    exact Steps.refl _)
  exact ⟨T9, some (.int (Int32.ofNat len)), _, _, _, X9, by simp, rfl, rfl, (fun h => by cases h), ⟨rfl, B9, p9.from hh0, f9⟩, fun fs hl => c11.trans (X9.ireturnOut hexec hret rfl (Or.inl rfl) (hb hbytes d46) hl)⟩
end Cmp5
namespace Cmp3
def yN : MethodName := ⟨"java/lang/StringUTF16", "compress", "([CII)[B"⟩
abbrev yB : ByteArray := jdk_52_method_16_code
theorem d0 : decode yB 0 = .ok (.iload_n 2, 1) := by decide +kernel
theorem d1 : decode yB 1 = .ok (.newarray .byte, 2) := by decide +kernel
theorem d3 : decode yB 3 = .ok (.astore_n 3, 1) := by decide +kernel
theorem d4 : decode yB 4 = .ok (.aload_n 0, 1) := by decide +kernel
theorem d5 : decode yB 5 = .ok (.iload_n 1, 1) := by decide +kernel
theorem d6 : decode yB 6 = .ok (.aload_n 3, 1) := by decide +kernel
theorem d7 : decode yB 7 = .ok (.iconst 0, 1) := by decide +kernel
theorem d8 : decode yB 8 = .ok (.iload_n 2, 1) := by decide +kernel
theorem d9 : decode yB 9 = .ok (.invokestatic 115, 3) := by decide +kernel
theorem d12 : decode yB 12 = .ok (.istore 4, 2) := by decide +kernel
theorem d14 : decode yB 14 = .ok (.iload 4, 2) := by decide +kernel
theorem d16 : decode yB 16 = .ok (.iload_n 2, 1) := by decide +kernel
theorem d17 : decode yB 17 = .ok (.if_icmp (.eq) 40, 3) := by decide +kernel
theorem d57 : decode yB 57 = .ok (.aload_n 3, 1) := by decide +kernel
theorem d58 : decode yB 58 = .ok (.areturn, 1) := by decide +kernel
def site : List Cond := [.arrayClass .byte, Cmp5.tab] ++ staticW U16 115 Cmp5.yN
def tab : Cond := tabOf yN yB 6 (some (.array .byte)) site
def P (b : Addr) (A : Cell) (o len : Nat) (args : Array Value) (s : State) : Prop := args = #[.ref b, .int (Int32.ofNat o), .int (Int32.ofNat len)] ∧ Ch b A s ∧ o + len ≤ A.slots.size ∧ len ≤ 536870912 ∧ ∀ i, i < len → ¬ 255 < cv A (o + i)
def E (b : Addr) (A : Cell) (o len : Nat) (r : Option Value) (s u : State) : Prop := NewArr .byte "[B" len (fun j => .int (lo8 (cv A (o + j)))) r s u ∧ u.heap.size = s.heap.size + 1
/-- no char of the range above 255: a new byte[] of their low bytes -/
theorem law (l : Launch) (b : Addr) (A : Cell) (o len : Nat) : Law l yN 3 3 1 18 yB 6 (some (.array .byte)) site (P b A o len) (E b A o len) [] 1 len := by
  refine Law.of_walk (plainFor_of_name (by decide +kernel)) (by decide +kernel) (by decide +kernel) (by decide) (fun _ _ h => by rw [h.1]; rfl) (fun _ U U' hal hh h => ⟨h.1, h.2.1.mv hal hh, h.2.2⟩) (fun r U U' V V' h1 hal h2 h => ⟨NewArr.mv r U U' V V' h1 hal h2 h.1, by rw [h1, h2]; exact h.2⟩) ?_
  intro p e s m args below meth c s₁ X0 hexec hbytes hml hret hlk hnm hown hh0 W hP
  obtain ⟨rfl, hA, l1, l2, hp⟩ := hP
  have a31 := hA.1.2.2.2
  have c1 : Steps p.tables e below (s₁.setTop (entryFrame m #[.ref b, .int (Int32.ofNat o), .int (Int32.ofNat len)] 6)) (s₁.setTop (mkF m 0 #[.val (.ref b), .val (.int (Int32.ofNat o)), .val (.int (Int32.ofNat len)), .unset, .unset, .unset] [])) := entry rfl
  have c2 : Steps p.tables e below (s₁.setTop (entryFrame m #[.ref b, .int (Int32.ofNat o), .int (Int32.ofNat len)] 6)) (s₁.setTop (mkF m 1 #[.val (.ref b), .val (.int (Int32.ofNat o)), .val (.int (Int32.ofNat len)), .unset, .unset, .unset] [.int (Int32.ofNat len)])) := c1.trans (by
    refine XS.iloadN X0.here hexec rfl (hb hbytes d0) rfl ?_
    exact Steps.refl _)
  obtain ⟨T3, B3, X3, ba3, bs3, bv3, bh3, bf3, st3⟩ := X0.anew hexec (atype := .byte) (wk W (.arrayClass .byte)) rfl (by show len * 1 ≤ _; omega) (by omega) (g := (mkF m 1 #[.val (.ref b), .val (.int (Int32.ofNat o)), .val (.int (Int32.ofNat len)), .unset, .unset, .unset] [.int (Int32.ofNat len)])) rfl (hb hbytes d1) (rest := []) rfl (Nat.le_refl _) (by show 0 + len ≤ len; omega)
  rw [hh0] at ba3 st3
  have kp3 : XT.Kept s T3 := (XT.Kept.of_eq hh0).push bh3
  have hA3 := hA.keep X3.warmed.alike (kp3 _ _ hA.1.1)
  have hne : b ≠ s.heap.size := hA.1.ne
  have c4 : Steps p.tables e below (s₁.setTop (entryFrame m #[.ref b, .int (Int32.ofNat o), .int (Int32.ofNat len)] 6)) (T3.setTop (mkF m 3 #[.val (.ref b), .val (.int (Int32.ofNat o)), .val (.int (Int32.ofNat len)), .unset, .unset, .unset] [.ref s.heap.size])) := c2.trans (st3 _ (Steps.refl _))
  have c5 : Steps p.tables e below (s₁.setTop (entryFrame m #[.ref b, .int (Int32.ofNat o), .int (Int32.ofNat len)] 6)) (T3.setTop (mkF m 9 #[.val (.ref b), .val (.int (Int32.ofNat o)), .val (.int (Int32.ofNat len)), .val (.ref s.heap.size), .unset, .unset] [.int (Int32.ofNat len), .int 0, .ref s.heap.size, .int (Int32.ofNat o), .ref b])) := c4.trans (by
    refine XS.astoreN X3.here hexec rfl (hb hbytes d3) rfl rfl rfl ?_
    refine XS.aloadN X3.here hexec rfl (hb hbytes d4) rfl rfl ?_
    refine XS.iloadN X3.here hexec rfl (hb hbytes d5) rfl ?_
    refine XS.aloadN X3.here hexec rfl (hb hbytes d6) rfl rfl ?_
    refine iconstV X3.here hexec rfl 0 (hb hbytes d7) (by decide) ?_
    refine XS.iloadN X3.here hexec rfl (hb hbytes d8) rfl ?_
    exact Steps.refl _)
  obtain ⟨v6, T6, X6, E6, g6⟩ := X3.callS hexec (Cmp5.law l b A s.heap.size B3 o 0 len) hown (wks W (staticW U16 115 Cmp5.yN)) (wk W Cmp5.tab) (W := 0) (Nat.le_of_ble_eq_true rfl) (Nat.le_of_ble_eq_true rfl) (Nat.le_refl _) (by show 0 + len + 0 ≤ len; omega) (g := (mkF m 9 #[.val (.ref b), .val (.int (Int32.ofNat o)), .val (.int (Int32.ofNat len)), .val (.ref s.heap.size), .unset, .unset] [.int (Int32.ofNat len), .int (Int32.ofNat 0), .ref s.heap.size, .int (Int32.ofNat o), .ref b])) rfl (by rw [hml]; rfl) c5 (argsL := [.ref b, .int (Int32.ofNat o), .ref s.heap.size, .int (Int32.ofNat 0), .int (Int32.ofNat len)]) (rest := []) rfl rfl (by show 2 * 0 + 0 ≤ _; decide) (hb hbytes d9) (⟨rfl, hA3, ba3, hne, l1, by rw [bs3]; simp, hp⟩)
  obtain ⟨rfl, B6, p6, f6⟩ := E6
  have c7 : Steps p.tables e below (s₁.setTop (entryFrame m #[.ref b, .int (Int32.ofNat o), .int (Int32.ofNat len)] 6)) (T6.setTop (mkF m 12 #[.val (.ref b), .val (.int (Int32.ofNat o)), .val (.int (Int32.ofNat len)), .val (.ref s.heap.size), .unset, .unset] [.int (Int32.ofNat len)])) := g6
  have c8 : Steps p.tables e below (s₁.setTop (entryFrame m #[.ref b, .int (Int32.ofNat o), .int (Int32.ofNat len)] 6)) (T6.setTop (mkF m 58 #[.val (.ref b), .val (.int (Int32.ofNat o)), .val (.int (Int32.ofNat len)), .val (.ref s.heap.size), .val (.int (Int32.ofNat len)), .unset] [.ref s.heap.size])) := c7.trans (by
    refine XS.istore X6.here hexec rfl (hb hbytes d12) rfl rfl ?_
    refine XS.iload X6.here hexec rfl (hb hbytes d14) rfl ?_
    refine XS.iloadN X6.here hexec rfl (hb hbytes d16) rfl ?_
    refine XS.icmpYes X6.here hexec rfl (pc0 := 17) rfl (hb hbytes d17) rfl (ii_eq_t rfl) (by decide) rfl ?_
    refine XS.aloadN X6.here hexec rfl (hb hbytes d57) rfl rfl ?_
    exact Steps.refl _)
  have X8 := X6.wide (L' := []) (cells' := 1) (slots' := len) (fun x hx hlt => by
    simp only [List.nil_append, copyLocs, List.mem_map, List.mem_range] at hx
    obtain ⟨i, -, rfl⟩ := hx
    exact absurd hlt (Nat.lt_irrefl _)) (Nat.le_refl _) (by omega)
  exact ⟨T6, some (.ref s.heap.size), _, _, _, X8, rfl, rfl, rfl, (fun h => by cases h), ⟨⟨rfl, B6, ba3.like (X3.warmed.alike.symm.trans X6.warmed.alike) p6.1 f6.1 f6.2.1 f6.2.2.1, f6.2.1.trans bv3, by rw [X6.warmed.alike.findClass, f6.1]; exact bf3, by rw [f6.2.2.1, bs3]; simp, fun j hj => by rw [f6.2.2.2 j, if_pos (by omega)]; rfl, kp3.put p6 (Nat.le_refl _)⟩, by rw [p6.2.2, bh3, hh0]; simp⟩, fun fs hl => c8.trans (X8.areturnOut hexec rfl hret rfl (hb hbytes d58) hl)⟩
end Cmp3
namespace CodL
def yN : MethodName := ⟨"java/lang/StringUTF16", "coderFromArrayLen", "([BI)B"⟩
abbrev yB : ByteArray := jdk_52_method_15_code
theorem d0 : decode yB 0 = .ok (.iload_n 1, 1) := by decide +kernel
theorem d1 : decode yB 1 = .ok (.aload_n 0, 1) := by decide +kernel
theorem d2 : decode yB 2 = .ok (.arraylength, 1) := by decide +kernel
theorem d3 : decode yB 3 = .ok (.isub, 1) := by decide +kernel
theorem d4 : decode yB 4 = .ok (.bipush 31, 2) := by decide +kernel
theorem d6 : decode yB 6 = .ok (.iushr, 1) := by decide +kernel
theorem d7 : decode yB 7 = .ok (.i2b, 1) := by decide +kernel
theorem d8 : decode yB 8 = .ok (.ireturn, 1) := by decide +kernel
def site : List Cond := []
def tab : Cond := tabOf yN yB 2 (some .byte) site
def P (d : Addr) (B : Cell) (args : Array Value) (s : State) : Prop := args = #[.ref d, .int (Int32.ofNat B.slots.size)] ∧ Arr .byte d B s
def E (r : Option Value) (s u : State) : Prop := XT.PureE (some (.int 0)) r s u
/-- an array as long as the number of chars: LATIN1 -/
theorem law (l : Launch) (d : Addr) (B : Cell) : Law l yN 2 2 0 0 yB 2 (some .byte) site (P d B) E [] 0 0 := by
  refine Law.of_walk (plainFor_of_name (by decide +kernel)) (by decide +kernel) (by decide +kernel) (by decide) (fun _ _ h => by rw [h.1]; rfl) (fun _ U U' hal hh h => ⟨h.1, h.2.mv hal hh⟩) (fun r U U' V V' h1 hal h2 h => XT.PureE.mv r U U' V V' h1 hal h2 h) ?_
  intro p e s m args below meth c s₁ X0 hexec hbytes hml hret hlk hnm hown hh0 W hP
  obtain ⟨rfl, hB⟩ := hP
  have hB0 := hB.mv X0.warmed.alike hh0
  have c1 : Steps p.tables e below (s₁.setTop (entryFrame m #[.ref d, .int (Int32.ofNat B.slots.size)] 2)) (s₁.setTop (mkF m 0 #[.val (.ref d), .val (.int (Int32.ofNat B.slots.size))] [])) := entry rfl
  have c2 : Steps p.tables e below (s₁.setTop (entryFrame m #[.ref d, .int (Int32.ofNat B.slots.size)] 2)) (s₁.setTop (mkF m 2 #[.val (.ref d), .val (.int (Int32.ofNat B.slots.size))] [.ref d, .int (Int32.ofNat B.slots.size)])) := c1.trans (by
    refine XS.iloadN X0.here hexec rfl (hb hbytes d0) rfl ?_
    refine XS.aloadN X0.here hexec rfl (hb hbytes d1) rfl rfl ?_
    exact Steps.refl _)
  have c3 : Steps p.tables e below (s₁.setTop (entryFrame m #[.ref d, .int (Int32.ofNat B.slots.size)] 2)) (s₁.setTop (mkF m 8 #[.val (.ref d), .val (.int (Int32.ofNat B.slots.size))] [.int (lo8 (ushr (Int32.ofNat B.slots.size - Int32.ofNat B.slots.size) 31))])) := c2.trans (by
    refine X0.alen hexec hB0 rfl rfl (hb hbytes d2) ?_
    refine XS.isub X0.here hexec rfl (hb hbytes d3) rfl ?_
    refine bipushV X0.here hexec rfl 31 (hb hbytes d4) (by decide) ?_
    refine iushr X0.here hexec rfl (hb hbytes d6) rfl ?_
    refine i2b X0.here hexec rfl (hb hbytes d7) rfl ?_
    exact Steps.refl _)
  have e0 : lo8 (ushr (Int32.ofNat B.slots.size - Int32.ofNat B.slots.size) 31) = 0 := by rw [Int32.sub_self]; decide
  rw [e0] at c3
  exact ⟨s₁, some (.int 0), _, _, _, X0, rfl, rfl, rfl, (fun h => by cases h), ⟨rfl, hh0⟩, fun fs hl => c3.trans (X0.ireturnOut hexec hret rfl (Or.inr (Or.inr (Or.inl rfl))) (hb hbytes d8) hl)⟩
end CodL
/-- the String at a is Latin-1 over a new byte[] (the heap's one new cell): the low bytes of the len chars of A from o on; every cell but a is kept -/
def Got (a : Addr) (D : Cell) (fV fC : Field) (A : Cell) (o len : Nat) (r : Option Value) (s u : State) : Prop := r = none ∧ ∃ D' V : Cell, Blank "java/lang/String" a D' u ∧ Same D D' [fV.slot, fC.slot] ∧ D'.slots[fV.slot]? = some (.ref s.heap.size) ∧ D'.slots[fC.slot]? = some (.int 0) ∧ Arr .byte s.heap.size V u ∧ V.vm = .none ∧ u.vm.findClass "[B" = some V.cls ∧ V.slots.size = len ∧ (∀ j, j < len → V.slots[j]? = some (.int (lo8 (cv A (o + j))))) ∧ (∀ (y : Addr) (c : Cell), y ≠ a → s.heap[y]? = some c → u.heap[y]? = some c) ∧ u.heap.size = s.heap.size + 1
theorem Got.mv {a : Addr} {D A : Cell} {fV fC : Field} {o len : Nat} : ∀ r (U U' V V' : State), U'.heap = U.heap → V.vm.Alike V'.vm → V'.heap = V.heap → Got a D fV fC A o len r U V → Got a D fV fC A o len r U' V' :=
  fun r U U' V V' h1 hal h2 ⟨e0, D', X, a1, a2, a3, a4, a5, a6, a7, a8, a9, a10, a11⟩ => ⟨e0, D', X, a1.mv hal h2, a2, by rw [h1]; exact a3, a4, by rw [h1]; exact a5.mv hal h2, a6, by rw [hal.findClass]; exact a7, a8, a9, by rw [h1, h2]; exact a10, by rw [h1, h2]; exact a11⟩
namespace New4
def yN : MethodName := ⟨"java/lang/String", "<init>", "([CIILjava/lang/Void;)V"⟩
abbrev yB : ByteArray := jdk_42_method_149_code
theorem d0 : decode yB 0 = .ok (.aload_n 0, 1) := by decide +kernel
theorem d1 : decode yB 1 = .ok (.invokespecial 1, 3) := by decide +kernel
theorem d4 : decode yB 4 = .ok (.iload_n 3, 1) := by decide +kernel
theorem d5 : decode yB 5 = .ok (.ifCond (.ne) 22, 3) := by decide +kernel
theorem d27 : decode yB 27 = .ok (.getstatic 38, 3) := by decide +kernel
theorem d30 : decode yB 30 = .ok (.ifCond (.eq) 28, 3) := by decide +kernel
theorem d33 : decode yB 33 = .ok (.aload_n 1, 1) := by decide +kernel
theorem d34 : decode yB 34 = .ok (.iload_n 2, 1) := by decide +kernel
theorem d35 : decode yB 35 = .ok (.iload_n 3, 1) := by decide +kernel
theorem d36 : decode yB 36 = .ok (.invokestatic 177, 3) := by decide +kernel
theorem d39 : decode yB 39 = .ok (.astore 5, 2) := by decide +kernel
theorem d41 : decode yB 41 = .ok (.aload_n 0, 1) := by decide +kernel
theorem d42 : decode yB 42 = .ok (.aload 5, 2) := by decide +kernel
theorem d44 : decode yB 44 = .ok (.iload_n 3, 1) := by decide +kernel
theorem d45 : decode yB 45 = .ok (.invokestatic 47, 3) := by decide +kernel
theorem d48 : decode yB 48 = .ok (.putfield 15, 3) := by decide +kernel
theorem d51 : decode yB 51 = .ok (.aload_n 0, 1) := by decide +kernel
theorem d52 : decode yB 52 = .ok (.aload 5, 2) := by decide +kernel
theorem d54 : decode yB 54 = .ok (.putfield 9, 3) := by decide +kernel
theorem d57 : decode yB 57 = .ok (.return_, 1) := by decide +kernel
def site : List Cond := [.fieldLink "java/lang/String" 38 "java/lang/String" "COMPACT_STRINGS" "Z", Cmp3.tab, CodL.tab, .laysFinal "java/lang/String" "java/lang/String" "value" "[B", .fieldLink "java/lang/String" 9 "java/lang/String" "value" "[B", .laysFinal "java/lang/String" "java/lang/String" "coder" "B", .fieldLink "java/lang/String" 15 "java/lang/String" "coder" "B"] ++ objW "java/lang/String" 1 ++ staticW "java/lang/String" 177 Cmp3.yN ++ staticW "java/lang/String" 47 CodL.yN
def tab : Cond := tabOf yN yB 6 none site
def P (a : Addr) (D : Cell) (fV fC : Field) (b : Addr) (A : Cell) (z : Int32) (o len : Nat) (args : Array Value) (s : State) : Prop := args = #[.ref a, .ref b, .int (Int32.ofNat o), .int (Int32.ofNat len), .null] ∧ Blank "java/lang/String" a D s ∧ Found "java/lang/String" "value" "[B" fV s ∧ Found "java/lang/String" "coder" "B" fC s ∧ Ch b A s ∧ StaticIs s "java/lang/String" "COMPACT_STRINGS" "Z" (.int z) ∧ ¬ z = 0 ∧ 0 < len ∧ o + len ≤ A.slots.size ∧ len ≤ 536870912 ∧ ∀ i, i < len → ¬ 255 < cv A (o + i)
def E (a : Addr) (D : Cell) (fV fC : Field) (A : Cell) (o len : Nat) (r : Option Value) (s u : State) : Prop := Got a D fV fC A o len r s u
/-- len > 0, no char of the range above 255: a Latin-1 String of their low bytes -/
theorem law (l : Launch) (a : Addr) (D : Cell) (fV fC : Field) (b : Addr) (A : Cell) (z : Int32) (o len : Nat) : Law l yN 5 4 2 35 yB 6 none site (P a D fV fC b A z o len) (E a D fV fC A o len) [⟨a, fC.slot⟩, ⟨a, fV.slot⟩] 1 len := by
  refine Law.of_walk (plainFor_of_name (by decide +kernel)) (by decide +kernel) (by decide +kernel) (by decide) (fun _ _ h => by rw [h.1]; rfl) (fun _ U U' hal hh h => ⟨h.1, h.2.1.mv hal hh, h.2.2.1.al hal, h.2.2.2.1.al hal, h.2.2.2.2.1.mv hal hh, h.2.2.2.2.2.1.there hal hh, h.2.2.2.2.2.2⟩) (fun r U U' V V' h1 hal h2 h => Got.mv r U U' V V' h1 hal h2 h) ?_
  intro p e s m args below meth c s₁ X0 hexec hbytes hml hret hlk hnm hown hh0 W hP
  obtain ⟨rfl, hB, f1, f2, hA, s1, hz, l0, l1, l2, hp⟩ := hP
  have a31 := hA.1.2.2.2
  have c1 : Steps p.tables e below (s₁.setTop (entryFrame m #[.ref a, .ref b, .int (Int32.ofNat o), .int (Int32.ofNat len), .null] 6)) (s₁.setTop (mkF m 0 #[.val (.ref a), .val (.ref b), .val (.int (Int32.ofNat o)), .val (.int (Int32.ofNat len)), .val .null, .unset] [])) := entry rfl
  have c2 : Steps p.tables e below (s₁.setTop (entryFrame m #[.ref a, .ref b, .int (Int32.ofNat o), .int (Int32.ofNat len), .null] 6)) (s₁.setTop (mkF m 1 #[.val (.ref a), .val (.ref b), .val (.int (Int32.ofNat o)), .val (.int (Int32.ofNat len)), .val .null, .unset] [.ref a])) := c1.trans (by
    refine XS.aloadN X0.here hexec rfl (hb hbytes d0) rfl rfl ?_
    exact Steps.refl _)
  obtain ⟨T3, X3, q3, st3⟩ := X0.oinit hexec hown (wks W (objW "java/lang/String" 1)) (g := (mkF m 1 #[.val (.ref a), .val (.ref b), .val (.int (Int32.ofNat o)), .val (.int (Int32.ofNat len)), .val .null, .unset] [.ref a])) rfl (by rw [hml]; rfl) (rest := []) rfl (hb hbytes d1) (W := 0) (by show 2 * 0 + 0 ≤ _; decide) (Nat.le_of_ble_eq_true rfl) (Nat.le_of_ble_eq_true rfl)
  have hh3 := q3.trans hh0
  have c4 : Steps p.tables e below (s₁.setTop (entryFrame m #[.ref a, .ref b, .int (Int32.ofNat o), .int (Int32.ofNat len), .null] 6)) (T3.setTop (mkF m 27 #[.val (.ref a), .val (.ref b), .val (.int (Int32.ofNat o)), .val (.int (Int32.ofNat len)), .val .null, .unset] [])) := (c2.trans (st3 _ (Steps.refl _))).trans (by
    refine XS.iloadN X3.here hexec rfl (hb hbytes d4) rfl ?_
    refine XS.ifYes X3.here hexec rfl (pc0 := 5) rfl (hb hbytes d5) rfl (i0_ne_t (nz32 (by omega) l0)) (by decide) rfl ?_
    exact Steps.refl _)
  obtain ⟨T5, X5, q5, st5⟩ := X3.sget hexec hown (wk W (.fieldLink "java/lang/String" 38 "java/lang/String" "COMPACT_STRINGS" "Z")) s1 (fun _ _ h => by rw [hh3]; exact h) (g := (mkF m 27 #[.val (.ref a), .val (.ref b), .val (.int (Int32.ofNat o)), .val (.int (Int32.ofNat len)), .val .null, .unset] [])) rfl (hb hbytes d27)
  have hh5 := q5.trans hh3
  have c6 : Steps p.tables e below (s₁.setTop (entryFrame m #[.ref a, .ref b, .int (Int32.ofNat o), .int (Int32.ofNat len), .null] 6)) (T5.setTop (mkF m 30 #[.val (.ref a), .val (.ref b), .val (.int (Int32.ofNat o)), .val (.int (Int32.ofNat len)), .val .null, .unset] [.int z])) := c4.trans (st5 _ (Steps.refl _))
  have c7 : Steps p.tables e below (s₁.setTop (entryFrame m #[.ref a, .ref b, .int (Int32.ofNat o), .int (Int32.ofNat len), .null] 6)) (T5.setTop (mkF m 36 #[.val (.ref a), .val (.ref b), .val (.int (Int32.ofNat o)), .val (.int (Int32.ofNat len)), .val .null, .unset] [.int (Int32.ofNat len), .int (Int32.ofNat o), .ref b])) := c6.trans (by
    refine XS.ifNo X5.here hexec rfl (hb hbytes d30) rfl (i0_eq_f hz) ?_
    refine XS.aloadN X5.here hexec rfl (hb hbytes d33) rfl rfl ?_
    refine XS.iloadN X5.here hexec rfl (hb hbytes d34) rfl ?_
    refine XS.iloadN X5.here hexec rfl (hb hbytes d35) rfl ?_
    exact Steps.refl _)
  obtain ⟨v8, T8, X8, E8, g8⟩ := X5.callS hexec (Cmp3.law l b A o len) hown (wks W (staticW "java/lang/String" 177 Cmp3.yN)) (wk W Cmp3.tab) (W := 0) (Nat.le_of_ble_eq_true rfl) (Nat.le_of_ble_eq_true rfl) (Nat.le_refl _) (by show 0 + len ≤ len; omega) (g := (mkF m 36 #[.val (.ref a), .val (.ref b), .val (.int (Int32.ofNat o)), .val (.int (Int32.ofNat len)), .val .null, .unset] [.int (Int32.ofNat len), .int (Int32.ofNat o), .ref b])) rfl (by rw [hml]; rfl) c7 (argsL := [.ref b, .int (Int32.ofNat o), .int (Int32.ofNat len)]) (rest := []) rfl rfl (by show 2 * 0 + 0 ≤ _; decide) (hb hbytes d36) (⟨rfl, hA.mv X5.warmed.alike hh5, l1, l2, hp⟩)
  obtain ⟨e8, z8⟩ := E8
  obtain ⟨rfl, N, n1, n2, n3, n4, n5, n6⟩ := NewArr.mv _ T5 s _ _ hh5.symm (Vm.Alike.refl _) rfl e8
  rw [hh5] at z8
  have hB1 := hB.keep X8.warmed.alike (n6 _ _ hB.1)
  have hne : s.heap.size ≠ a := (Nat.ne_of_lt (Array.getElem?_eq_some_iff.mp hB.1).1).symm
  have c9 : Steps p.tables e below (s₁.setTop (entryFrame m #[.ref a, .ref b, .int (Int32.ofNat o), .int (Int32.ofNat len), .null] 6)) (T8.setTop (mkF m 39 #[.val (.ref a), .val (.ref b), .val (.int (Int32.ofNat o)), .val (.int (Int32.ofNat len)), .val .null, .unset] [.ref s.heap.size])) := g8
  have c10 : Steps p.tables e below (s₁.setTop (entryFrame m #[.ref a, .ref b, .int (Int32.ofNat o), .int (Int32.ofNat len), .null] 6)) (T8.setTop (mkF m 45 #[.val (.ref a), .val (.ref b), .val (.int (Int32.ofNat o)), .val (.int (Int32.ofNat len)), .val .null, .val (.ref s.heap.size)] [.int (Int32.ofNat N.slots.size), .ref s.heap.size, .ref a])) := by
    have hc : Steps p.tables e below (s₁.setTop (entryFrame m #[.ref a, .ref b, .int (Int32.ofNat o), .int (Int32.ofNat len), .null] 6)) (T8.setTop (mkF m 45 #[.val (.ref a), .val (.ref b), .val (.int (Int32.ofNat o)), .val (.int (Int32.ofNat len)), .val .null, .val (.ref s.heap.size)] [.int (Int32.ofNat len), .ref s.heap.size, .ref a])) := c9.trans (by
      refine XS.astore X8.here hexec rfl (hb hbytes d39) rfl rfl rfl ?_
      refine XS.aloadN X8.here hexec rfl (hb hbytes d41) rfl rfl ?_
      refine XS.aload X8.here hexec rfl (hb hbytes d42) rfl rfl ?_
      refine XS.iloadN X8.here hexec rfl (hb hbytes d44) rfl ?_
      exact Steps.refl _)
    rw [n4]; exact hc
  obtain ⟨v11, T11, X11, E11, g11⟩ := X8.callS hexec (CodL.law l s.heap.size N) hown (wks W (staticW "java/lang/String" 47 CodL.yN)) (wk W CodL.tab) (W := 1) (Nat.le_of_ble_eq_true rfl) (Nat.le_of_ble_eq_true rfl) (Nat.le_refl _) (by show 0 + len + 0 ≤ len; omega) (g := (mkF m 45 #[.val (.ref a), .val (.ref b), .val (.int (Int32.ofNat o)), .val (.int (Int32.ofNat len)), .val .null, .val (.ref s.heap.size)] [.int (Int32.ofNat N.slots.size), .ref s.heap.size, .ref a])) rfl (by rw [hml]; rfl) c10 (argsL := [.ref s.heap.size, .int (Int32.ofNat N.slots.size)]) (rest := [.ref a]) rfl rfl (by show 2 * 0 + (1 + 0) ≤ _; decide) (hb hbytes d45) (⟨rfl, n1⟩)
  obtain ⟨rfl, q11⟩ := E11
  have hB11 := hB1.mv (X8.warmed.alike.symm.trans X11.warmed.alike) q11
  have c12 : Steps p.tables e below (s₁.setTop (entryFrame m #[.ref a, .ref b, .int (Int32.ofNat o), .int (Int32.ofNat len), .null] 6)) (T11.setTop (mkF m 48 #[.val (.ref a), .val (.ref b), .val (.int (Int32.ofNat o)), .val (.int (Int32.ofNat len)), .val .null, .val (.ref s.heap.size)] [.int 0, .ref a])) := g11
  obtain ⟨T13, X13, p13, bl13, sl13, st13⟩ := X11.finit hexec hown (wk W (.fieldLink "java/lang/String" 15 "java/lang/String" "coder" "B")) (Or.inr ⟨_, (wk W (.laysFinal "java/lang/String" "java/lang/String" "coder" "B"))⟩) (Or.inl ⟨rfl, hnm⟩) f2 (Or.inl rfl) hB11 (t := .byte) (by decide +kernel) rfl (g := (mkF m 48 #[.val (.ref a), .val (.ref b), .val (.int (Int32.ofNat o)), .val (.int (Int32.ofNat len)), .val .null, .val (.ref s.heap.size)] [.int 0, .ref a])) rfl (rest := []) rfl (hb hbytes d48)
  have c14 : Steps p.tables e below (s₁.setTop (entryFrame m #[.ref a, .ref b, .int (Int32.ofNat o), .int (Int32.ofNat len), .null] 6)) (T13.setTop (mkF m 54 #[.val (.ref a), .val (.ref b), .val (.int (Int32.ofNat o)), .val (.int (Int32.ofNat len)), .val .null, .val (.ref s.heap.size)] [.ref s.heap.size, .ref a])) := (c12.trans (st13 _ (Steps.refl _))).trans (by
    refine XS.aloadN X13.here hexec rfl (hb hbytes d51) rfl rfl ?_
    refine XS.aload X13.here hexec rfl (hb hbytes d52) rfl rfl ?_
    exact Steps.refl _)
  obtain ⟨T15, X15, p15, bl15, sl15, st15⟩ := X13.finit hexec hown (wk W (.fieldLink "java/lang/String" 9 "java/lang/String" "value" "[B")) (Or.inr ⟨_, (wk W (.laysFinal "java/lang/String" "java/lang/String" "value" "[B"))⟩) (Or.inl ⟨rfl, hnm⟩) f1 (Or.inl rfl) bl13 (t := (.array .byte)) (by decide +kernel) rfl (g := (mkF m 54 #[.val (.ref a), .val (.ref b), .val (.int (Int32.ofNat o)), .val (.int (Int32.ofNat len)), .val .null, .val (.ref s.heap.size)] [.ref s.heap.size, .ref a])) rfl (rest := []) rfl (hb hbytes d54)
  have c16 : Steps p.tables e below (s₁.setTop (entryFrame m #[.ref a, .ref b, .int (Int32.ofNat o), .int (Int32.ofNat len), .null] 6)) (T15.setTop (mkF m 57 #[.val (.ref a), .val (.ref b), .val (.int (Int32.ofNat o)), .val (.int (Int32.ofNat len)), .val .null, .val (.ref s.heap.size)] [])) := c14.trans (st15 _ (Steps.refl _))
  have ap := apart (Or.inr ⟨_, (wk W (.laysFinal "java/lang/String" "java/lang/String" "value" "[B"))⟩) (Or.inr ⟨_, (wk W (.laysFinal "java/lang/String" "java/lang/String" "coder" "B"))⟩) f1 f2 (t₁ := .array .byte) (t₂ := .byte) (by decide +kernel) (by decide +kernel) (by decide)
  have al := X8.warmed.alike.symm.trans X15.warmed.alike
  have n7 : T11.heap[s.heap.size]? = some N := by rw [q11]; exact n1.1
  exact ⟨T15, none, _, _, _, X15, by simp, rfl, by omega, (fun _ => rfl), ⟨rfl, _, N, bl15, ((Same.refl D _).set _ (by simp)).set _ (by simp), sl15, (Cell.slots_setSlot_ne _ ap).trans sl13, n1.keep al (p15.other hne (p13.other hne n7)), n2, by rw [al.findClass]; exact n3, n4, n5, fun y c h1 h2 => p15.other h1 (p13.other h1 (by rw [q11]; exact n6 y c h2)), by rw [p15.2.2, p13.2.2, q11]; exact z8⟩, fun fs hl => c16.trans (X15.returnOut hexec hret (hb hbytes d57) hl)⟩
end New4
namespace New1
def yN : MethodName := ⟨"java/lang/String", "<init>", "([C)V"⟩
abbrev yB : ByteArray := jdk_42_method_3_code
theorem d0 : decode yB 0 = .ok (.aload_n 0, 1) := by decide +kernel
theorem d1 : decode yB 1 = .ok (.aload_n 1, 1) := by decide +kernel
theorem d2 : decode yB 2 = .ok (.iconst 0, 1) := by decide +kernel
theorem d3 : decode yB 3 = .ok (.aload_n 1, 1) := by decide +kernel
theorem d4 : decode yB 4 = .ok (.arraylength, 1) := by decide +kernel
theorem d5 : decode yB 5 = .ok (.aconst_null, 1) := by decide +kernel
theorem d6 : decode yB 6 = .ok (.invokespecial 27, 3) := by decide +kernel
theorem d9 : decode yB 9 = .ok (.return_, 1) := by decide +kernel
def site : List Cond := [New4.tab] ++ initW "java/lang/String" 27 New4.yN
def tab : Cond := tabOf yN yB 2 none site
def P (a : Addr) (D : Cell) (fV fC : Field) (b : Addr) (A : Cell) (z : Int32) (args : Array Value) (s : State) : Prop := args = #[.ref a, .ref b] ∧ Blank "java/lang/String" a D s ∧ Found "java/lang/String" "value" "[B" fV s ∧ Found "java/lang/String" "coder" "B" fC s ∧ Ch b A s ∧ StaticIs s "java/lang/String" "COMPACT_STRINGS" "Z" (.int z) ∧ ¬ z = 0 ∧ 0 < A.slots.size ∧ A.slots.size ≤ 536870912 ∧ ∀ i, i < A.slots.size → ¬ 255 < cv A i
def E (a : Addr) (D : Cell) (fV fC : Field) (A : Cell) (r : Option Value) (s u : State) : Prop := Got a D fV fC A 0 A.slots.size r s u
/-- new String(chars), not empty, no char above 255: a Latin-1 String of their low bytes -/
theorem law (l : Launch) (a : Addr) (D : Cell) (fV fC : Field) (b : Addr) (A : Cell) (z : Int32) : Law l yN 2 1 3 52 yB 2 none site (P a D fV fC b A z) (E a D fV fC A) [⟨a, fC.slot⟩, ⟨a, fV.slot⟩] 1 A.slots.size := by
  refine Law.of_walk (plainFor_of_name (by decide +kernel)) (by decide +kernel) (by decide +kernel) (by decide) (fun _ _ h => by rw [h.1]; rfl) (fun _ U U' hal hh h => ⟨h.1, h.2.1.mv hal hh, h.2.2.1.al hal, h.2.2.2.1.al hal, h.2.2.2.2.1.mv hal hh, h.2.2.2.2.2.1.there hal hh, h.2.2.2.2.2.2⟩) (fun r U U' V V' h1 hal h2 h => Got.mv r U U' V V' h1 hal h2 h) ?_
  intro p e s m args below meth c s₁ X0 hexec hbytes hml hret hlk hnm hown hh0 W hP
  obtain ⟨rfl, hB, f1, f2, hA, s1, hz, l0, l2, hp⟩ := hP
  have c1 : Steps p.tables e below (s₁.setTop (entryFrame m #[.ref a, .ref b] 2)) (s₁.setTop (mkF m 0 #[.val (.ref a), .val (.ref b)] [])) := entry rfl
  have c2 : Steps p.tables e below (s₁.setTop (entryFrame m #[.ref a, .ref b] 2)) (s₁.setTop (mkF m 6 #[.val (.ref a), .val (.ref b)] [.null, .int (Int32.ofNat A.slots.size), .int 0, .ref b, .ref a])) := c1.trans (by
    refine XS.aloadN X0.here hexec rfl (hb hbytes d0) rfl rfl ?_
    refine XS.aloadN X0.here hexec rfl (hb hbytes d1) rfl rfl ?_
    refine iconstV X0.here hexec rfl 0 (hb hbytes d2) (by decide) ?_
    refine XS.aloadN X0.here hexec rfl (hb hbytes d3) rfl rfl ?_
    refine X0.alen hexec (hA.1.mv X0.warmed.alike hh0) rfl rfl (hb hbytes d4) ?_
    refine XS.aconstNull X0.here hexec rfl (hb hbytes d5) ?_
    exact Steps.refl _)
  obtain ⟨v3, T3, X3, E3, g3⟩ := X0.callN hexec (New4.law l a D fV fC b A z 0 A.slots.size) rfl hown (wks W (initW "java/lang/String" 27 New4.yN)) (W New4.tab (by simp only [site, List.mem_cons, List.mem_append, true_or, or_true])) (W := 0) (Nat.le_of_ble_eq_true rfl) (Nat.le_of_ble_eq_true rfl) (Nat.le_refl _) (by show 0 + A.slots.size ≤ A.slots.size; omega) (g := (mkF m 6 #[.val (.ref a), .val (.ref b)] [.null, .int (Int32.ofNat A.slots.size), .int (Int32.ofNat 0), .ref b, .ref a])) rfl (by rw [hml]; rfl) c2 (argsL := [.ref b, .int (Int32.ofNat 0), .int (Int32.ofNat A.slots.size), .null]) (rest := []) rfl rfl (by show 2 * 0 + 0 ≤ _; decide) (hb hbytes d6) (⟨rfl, hB.mv X0.warmed.alike hh0, f1.al X0.warmed.alike, f2.al X0.warmed.alike, hA.mv X0.warmed.alike hh0, s1.there X0.warmed.alike hh0, hz, l0, by omega, l2, fun i hi => by rw [Nat.zero_add]; exact hp i hi⟩)
  have e0 := Got.mv _ s₁ s _ _ hh0.symm (Vm.Alike.refl _) rfl E3
  obtain rfl := e0.1
  have c4 : Steps p.tables e below (s₁.setTop (entryFrame m #[.ref a, .ref b] 2)) (T3.setTop (mkF m 9 #[.val (.ref a), .val (.ref b)] [])) := g3
  exact ⟨T3, none, _, _, _, X3, by simp, rfl, by omega, (fun _ => rfl), e0, fun fs hl => c4.trans (X3.returnOut hexec hret (hb hbytes d9) hl)⟩
theorem pays {l : Launch} {R : Room} {p : Program} {e : Env} {below : List Frame} {s : State} {sargs : Array Value} {len W : Nat} (a : Addr) (D : Cell) (fV fC : Field) (b : Addr) (A : Cell) (z : Int32) (htab : tab.before sargs s = true) (hfr : 4 ≤ R.frames) (hlo : W + 65 ≤ R.locals) :
    Back l R p e below s sargs yN len W (fun A₁ a₁ => A₁.cells + 1 ≤ R.cells ∧ A₁.slots + A.slots.size ≤ R.slots ∧ P a D fV fC b A z a₁ A₁.U) (fun A₁ _ v₁ B₁ => E a D fV fC A v₁ A₁.U B₁.U ∧ B₁.locs = A₁.locs ++ [⟨a, fC.slot⟩, ⟨a, fV.slot⟩] ∧ B₁.cells = A₁.cells + 1 ∧ B₁.slots = A₁.slots + A.slots.size) :=
  (law l a D fV fC b A z).pays htab hfr (by omega)
end New1
end StrChars
namespace StrChars.Road
open Jvm Sem ClassFile Op Lib Jvm.Stand Jvm.Free Jvm.Free.XT
open Jvm.Lib.Cold (StaticIs)
abbrev ST : String := "java/lang/String"
/-- every table word that New1's law asks, flat -/
abbrev words : List Jvm.Cond := [.code New1.yN New1.yB 2 none, .initialized ST, .methodLink ST 27 New4.yN, .instanceMethod New4.yN,
  .code New4.yN New4.yB 6 none, .fieldLink ST 38 ST "COMPACT_STRINGS" "Z", .laysFinal ST ST "value" "[B", .fieldLink ST 9 ST "value" "[B", .laysFinal ST ST "coder" "B", .fieldLink ST 15 ST "coder" "B",
  .methodLink ST 1 Lib.objectInit, .instanceMethod Lib.objectInit, .code Lib.objectInit ⟨#[0xb1]⟩ 1 none, .methodLink ST 177 Cmp3.yN, .static Cmp3.yN, .methodLink ST 47 CodL.yN, .static CodL.yN,
  .code Cmp3.yN Cmp3.yB 6 (some (.array .byte)), .initialized U16, .arrayClass .byte, .methodLink U16 115 Cmp5.yN, .static Cmp5.yN, .code Cmp5.yN Cmp5.yB 7 (some .int), .code CodL.yN CodL.yB 2 (some .byte)]
theorem tab_of {a : Array Value} {s : State} (h : ∀ w ∈ words, w.before a s = true) : New1.tab.before a s = true := by
  have h5 : Cmp5.tab.before a s = true := unparts (wk h (.code Cmp5.yN Cmp5.yB 7 (some .int))) (wks h (.initialized Cmp5.yN.cls :: Cmp5.site))
  have hc : CodL.tab.before a s = true := unparts (wk h (.code CodL.yN CodL.yB 2 (some .byte))) (wks h (.initialized CodL.yN.cls :: CodL.site))
  have q5 : ∀ w ∈ Cmp5.tab :: words, w.before a s = true := fun w hw => (List.mem_cons.mp hw).elim (fun e => e ▸ h5) (h w)
  have h3 : Cmp3.tab.before a s = true := unparts (wk q5 (.code Cmp3.yN Cmp3.yB 6 (some (.array .byte)))) (wks q5 (.initialized Cmp3.yN.cls :: Cmp3.site))
  have q3 : ∀ w ∈ Cmp3.tab :: CodL.tab :: words, w.before a s = true := fun w hw => (List.mem_cons.mp hw).elim (fun e => e ▸ h3) fun hw => (List.mem_cons.mp hw).elim (fun e => e ▸ hc) (h w)
  have h4 : New4.tab.before a s = true := unparts (wk q3 (.code New4.yN New4.yB 6 none)) (wks q3 (.initialized New4.yN.cls :: New4.site))
  have q4 : ∀ w ∈ New4.tab :: words, w.before a s = true := fun w hw => (List.mem_cons.mp hw).elim (fun e => e ▸ h4) (h w)
  exact unparts (wk q4 (.code New1.yN New1.yB 2 none)) (wks q4 (.initialized New1.yN.cls :: New1.site))
/-- the words ride from the start Z to the walk's own state -/
theorem moved {Z s : State} {a0 args : Array Value} (hZ : Z.Warmed39 s.vm) (hw : ∀ d ∈ words, d.before a0 Z = true) : ∀ d ∈ words, d.before args s = true := fun d hd => by
  have q := hw d hd
  have t : ∀ d ∈ words, d = .arrayClass .byte ∨ (d.onTables && d.keepsFace) = true := by decide +kernel
  rcases t d hd with rfl | t
  · exact RoadKit.mvA hZ q
  · exact RoadKit.mv hZ q t
/-- WHAT COMES BACK, over the tables of the start Z: h the heap at the call, h' behind it -/
def Q (Z : State) (x : Addr) (A : Cell) (h : Heap) (v : Option Value) (h' : Heap) (L : List Loc) : Prop := v = none ∧ (∀ y ∈ L, y.base = x) ∧ RoadKit.Keep h h' [x] ∧ h'.size = h.size + 1 ∧ RoadKit.Exa Z h' x ST ∧ RoadKit.Fld Z h' x ST "value" "[B" (.ref h.size) ∧ RoadKit.Fld Z h' x ST "coder" "B" (.int 0) ∧
  (∃ V : Cell, RoadKit.Arr Z h' h.size V .byte ∧ V.vm = .none ∧ Z.vm.findClass "[B" = some V.cls ∧ V.slots.size = A.slots.size ∧ ∀ j, j < A.slots.size → V.slots[j]? = some (.int (lo8 (cv A j)))) ∧
  ∀ (O n d : String) (w : Value), RoadKit.Fld Z h x O n d w → RoadKit.slotOf Z O n d ≠ RoadKit.slotOf Z ST "value" "[B" → RoadKit.slotOf Z O n d ≠ RoadKit.slotOf Z ST "coder" "B" → RoadKit.Fld Z h' x O n d w
/-- **new String(chars) AT A CALL, IN THE ROAD'S FORM**: for specialBack behind newO: x the fresh String, b the char[] with the cell A -/
theorem back {p : Program} {l : Launch} {e : Env} {R : Room} {s : State} {args : Array Value} {below : List Frame} {len W : Nat} {Z : State} {a0 : Array Value} {h : Heap} (hZ : Z.Warmed39 s.vm) (hw : ∀ d ∈ words, d.before a0 Z = true) {kI : Nat} (wi : (Jvm.Cond.instantiable ST kI).before a0 Z = true)
    {x b : Addr} {A : Cell} {z : Int32} {v0 c0 : Value} (E : RoadKit.Exa Z h x ST) (V : RoadKit.Fld Z h x ST "value" "[B" v0) (C : RoadKit.Fld Z h x ST "coder" "B" c0) (K : RoadKit.Arr Z h b A .char) (hty : Typed .char A) (S : RoadKit.Sta Z h ST "COMPACT_STRINGS" "Z" (.int z)) (hz : ¬ z = 0)
    (l0 : 0 < A.slots.size) (l2 : A.slots.size ≤ 536870912) (hp : ∀ i, i < A.slots.size → ¬ 255 < cv A i) (hfr : 4 ≤ R.frames) (hlo : W + 65 ≤ R.locals) :
    Back l R p e below s args New1.yN len W (fun P a => a = #[.ref x, .ref b] ∧ P.U.heap = h ∧ P.cells + 1 ≤ R.cells ∧ P.slots + A.slots.size ≤ R.slots)
      (fun P _ v B => ∃ L, Q Z x A h v B.U.heap L ∧ B.locs = P.locs ++ L ∧ B.cells = P.cells + 1 ∧ B.slots = P.slots + A.slots.size) := by
  intro m meth c P g ig mk a X hg hsize hdg hW hn hp'
  obtain ⟨rfl, rfl, r1, r2⟩ := hp'
  have al : Z.vm.Alike P.U.vm := hZ.alike.trans X.warmed.alike
  obtain ⟨D, cfV, kV, iV, fV, hD, gV, stV, knV, obV, asV, slV⟩ := id V
  obtain ⟨D', cfC, kC, iC, fC, hD', gC, stC, -, -, asC, slC⟩ := id C
  cases hD.symm.trans hD'
  obtain ⟨D2, kD, e1, e2, e3, e4, e5⟩ := id E
  cases hD.symm.trans e1
  obtain ⟨c2, k2, i1, i2, i3, -⟩ := Cond.instantiable_spec wi
  cases e2.symm.trans i1
  cases e3.symm.trans i2
  obtain ⟨kU, u1, u2⟩ := al.2.2 _ _ e3
  have hB : Blank ST x D P.U := ⟨hD, ⟨knV, fun q hq => by rw [hq] at obV; cases obV⟩, by rw [al.findClass]; exact e2, kU, u1, by rw [u2]; exact i3, by rw [u2]; exact e5 i3⟩
  have F1 : Found ST "value" "[B" fV P.U := ⟨SBG.found_only al ⟨cfV, kV, iV, gV⟩, stV⟩
  have F2 : Found ST "coder" "B" fC P.U := ⟨SBG.found_only al ⟨cfC, kC, iC, gC⟩, stC⟩
  have hA : Ch b A P.U := ⟨⟨K.1, State.isArrayOf_alike al K.2.1, K.2.2, by omega⟩, hty⟩
  have hS : StaticIs P.U ST "COMPACT_STRINGS" "Z" (.int z) := by
    obtain ⟨cfS, iS, kS, fS, st, cS, t1, t2, t3, t4, t5, t6, t7⟩ := S
    exact StaticIs.there (s := { Z with heap := P.U.heap }) ⟨cfS, iS, kS, fS, st, cS, t1, t2, t3, t4, t5, (fun q => by rw [q] at t6; cases t6), t7⟩ al rfl
  obtain ⟨v, B, X', ⟨⟨hv, E', V', q1, q2, q3, q4, q5, q6, q7, q8, q9, q10, q11⟩, hl, hc, hs⟩, st⟩ := New1.pays x D fV fC b A z (tab_of (moved hZ hw)) hfr hlo m meth c P g ig mk _ X hg hsize hdg hW hn ⟨r1, r2, rfl, hB, F1, F2, hA, hS, hz, l0, l2, hp⟩
  have al' : Z.vm.Alike B.U.vm := hZ.alike.trans X'.warmed.alike
  have hsz : E'.slots.size = D.slots.size := by
    obtain ⟨-, -, -, kB, w1, w2, w3⟩ := q1
    obtain ⟨kB', y1, y2⟩ := al'.2.2 _ _ e3
    rw [q2.2.1] at w1
    cases w1.symm.trans y1
    rw [w3, e5 i3, y2]
  refine ⟨v, B, X', ⟨_, ⟨hv, ?_, ⟨by omega, fun y cy hy hn' => q10 y cy (by simpa using hn') hy, fun y cy hy => ?_⟩, q11, ⟨E', _, q1.1, by rw [q2.2.1]; exact e2, by rw [q2.2.1]; exact e3, by rw [q2.1]; exact obV, fun _ => by rw [hsz]; exact e5 i3⟩,
    ⟨E', cfV, kV, iV, fV, q1.1, gV, stV, by rw [q2.1]; exact knV, by rw [q2.1]; exact obV, by rw [q2.2.1]; exact asV, q3⟩, ⟨E', cfC, kC, iC, fC, q1.1, gC, stC, by rw [q2.1]; exact knV, by rw [q2.1]; exact obV, by rw [q2.2.1]; exact asC, q4⟩,
    ⟨V', ⟨q5.1, State.isArrayOf_alike al'.symm q5.2.1, q5.2.2.1⟩, q6, by rw [← al'.findClass]; exact q7, q8, fun j hj => by have := q9 j hj; rwa [Nat.zero_add] at this⟩, fun O n d w F n1 n2 => ?_⟩, hl, hc, hs⟩, st⟩
  · intro y hy
    simp only [List.mem_cons, List.not_mem_nil, or_false] at hy
    rcases hy with rfl | rfl <;> rfl
  · by_cases q : y = x
    · subst q
      cases hD.symm.trans hy
      exact ⟨E', q1.1, q2.2.1, q2.1, hsz⟩
    · exact ⟨cy, q10 y cy q hy, rfl, rfl, rfl⟩
  · obtain ⟨D3, cf, k, i, f, g1, g2, g3, g4, g5, g6, g7⟩ := F
    cases hD.symm.trans g1
    simp only [RoadKit.slotOf, g2, gV, gC, Option.map_some, Option.getD_some] at n1 n2
    exact ⟨E', cf, k, i, f, q1.1, g2, g3, by rw [q2.1]; exact g4, by rw [q2.1]; exact g5, by rw [q2.2.1]; exact g6, by rw [q2.2.2 f.slot (by simp [n1, n2])]; exact g7⟩
end StrChars.Road
namespace StrChars.Road
open Jvm Sem ClassFile Op Lib Jvm.Stand Jvm.Free Jvm.Free.XT
/-- WHAT COMES BACK, the byte[] as a list of values -/
def QA (Z : State) (x : Addr) (zn : Int32) (cs : List Int32) (h : Heap) (v : Option Value) (h' : Heap) (L : List Loc) : Prop := v = none ∧ (∀ y ∈ L, y.base = x) ∧ RoadKit.Keep h h' [x] ∧ h'.size = h.size + 1 ∧ RoadKit.Exa Z h' x ST ∧ RoadKit.Fld Z h' x ST "value" "[B" (.ref h.size) ∧ RoadKit.Fld Z h' x ST "coder" "B" (.int 0) ∧
  (∃ kb, Z.vm.findClass "[B" = some kb ∧ RoadKit.Arv Z h' h.size kb .byte zn (cs.map fun c => .int (lo8 c)) (.int 0)) ∧
  ∀ (O n d : String) (w : Value), RoadKit.Fld Z h x O n d w → RoadKit.slotOf Z O n d ≠ RoadKit.slotOf Z ST "value" "[B" → RoadKit.slotOf Z O n d ≠ RoadKit.slotOf Z ST "coder" "B" → RoadKit.Fld Z h' x O n d w
/-- **new String(chars) AT A CALL, THE ARRAYS AS LISTS**: the char[] at b holds cs, not empty, no char above 255 -/
theorem backArv {p : Program} {l : Launch} {e : Env} {R : Room} {s : State} {args : Array Value} {below : List Frame} {len W : Nat} {Z : State} {a0 : Array Value} {h : Heap} (hZ : Z.Warmed39 s.vm) (hw : ∀ d ∈ words, d.before a0 Z = true) {kI : Nat} (wi : (Jvm.Cond.instantiable ST kI).before a0 Z = true)
    {x b : Addr} {k : ClassId} {zn z : Int32} {cs : List Int32} {dv v0 c0 : Value} (E : RoadKit.Exa Z h x ST) (V : RoadKit.Fld Z h x ST "value" "[B" v0) (C : RoadKit.Fld Z h x ST "coder" "B" c0) (K : RoadKit.Arv Z h b k .char zn (cs.map Value.int) dv) (S : RoadKit.Sta Z h ST "COMPACT_STRINGS" "Z" (.int z)) (hz : ¬ z = 0)
    (hlen : zn.toNatClampNeg = cs.length) (h0 : 0 < cs.length) (hbig : cs.length ≤ 536870912) (hall : ∀ c ∈ cs, ¬ 255 < c) (hfr : 4 ≤ R.frames) (hlo : W + 65 ≤ R.locals) :
    Back l R p e below s args New1.yN len W (fun P a => a = #[.ref x, .ref b] ∧ P.U.heap = h ∧ P.cells + 1 ≤ R.cells ∧ P.slots + cs.length ≤ R.slots)
      (fun P _ v B => ∃ L, QA Z x zn cs h v B.U.heap L ∧ B.locs = P.locs ++ L ∧ B.cells = P.cells + 1 ∧ B.slots = P.slots + cs.length) := by
  obtain ⟨A, K1, K2, K3, K4, K5, K6⟩ := K
  have e : A.slots.size = cs.length := K3.trans hlen
  have hat : ∀ (i : Nat) (hi : i < cs.length), A.slots[i]? = some (.int cs[i]) := fun i hi => by rw [K5 i (by omega)]; simp [List.getD_eq_getElem?_getD, hi]
  have hcv : ∀ (i : Nat) (hi : i < cs.length), cv A i = cs[i] := fun i hi => by unfold cv; rw [hat i hi]
  have hty : Typed .char A := fun i v hv => by
    have hi : i < A.slots.size := (Array.getElem?_eq_some_iff.mp hv).1
    have q := K5 i hi
    rw [hv] at q
    rw [Option.some.inj q]
    exact K6 i hi
  refine Back.mono (back hZ hw wi E V C K1 hty S hz (by omega) (by omega) (fun i hi => by rw [hcv i (by omega)]; exact hall _ (List.getElem_mem _)) hfr hlo) (fun P a hp => ⟨hp.1, hp.2.1, hp.2.2.1, by rw [e]; exact hp.2.2.2⟩) (fun P a v B hp hq => ?_)
  obtain ⟨L, ⟨q1, q2, q3, q4, q5, q6, q7, ⟨V', v1, v2, v3, v4, v5⟩, q9⟩, hl, hc, hs⟩ := hq
  refine ⟨L, ⟨q1, q2, q3, q4, q5, q6, q7, ⟨V'.cls, v3, V', v1, rfl, by rw [v4, e, hlen], K4, fun i hi => ?_, fun i hi => ?_⟩, q9⟩, hl, hc, by rw [hs, e]⟩
  · have hi' : i < cs.length := by omega
    rw [v5 i (by omega), hcv i hi']; simp [List.getD_eq_getElem?_getD, hi']
  · have hi' : i < cs.length := by omega
    simp only [List.getD_eq_getElem?_getD, List.getElem?_map, List.getElem?_eq_getElem hi', Option.map_some, Option.getD_some]
    exact fits_lo8 _
end StrChars.Road
namespace StrChars.Road
open Jvm Sem ClassFile Op Lib Jvm.Stand Jvm.Free Jvm.Free.XT
/-- WHAT COMES BACK, in the writer's own shape -/
def QV (Z : State) (x : Addr) (N : Int32) (bs : List Int32) (h : Heap) (n0 : Nat) (v : Option Value) (h' : Heap) (L : List Loc) : Prop := v = none ∧ RoadKit.Fr n0 L ∧ RoadKit.Keep h h' [x] ∧ RoadKit.Exa Z h' x ST ∧ RoadKit.Fld Z h' x ST "coder" "B" (.int 0) ∧
  ∃ (t : Addr) (kb : ClassId), n0 ≤ t ∧ h.size ≤ t ∧ ¬ t = x ∧ RoadKit.Fld Z h' x ST "value" "[B" (.ref t) ∧ RoadKit.Arv Z h' t kb .byte N (bs.map Value.int) (.int 0)
/-- **new String(chars) AT A CALL, FOR THE WRITER**: a char[] of n known ints, each 0 to 255 -/
theorem backV {p : Program} {l : Launch} {e : Env} {R : Room} {s : State} {args : Array Value} {below : List Frame} {len W : Nat} {Z : State} {a0 : Array Value} {h : Heap} (hZ : Z.Warmed39 s.vm) (hw : ∀ d ∈ words, d.before a0 Z = true) {kI : Nat} (wi : (Jvm.Cond.instantiable ST kI).before a0 Z = true)
    {x b : Addr} {kC : ClassId} {cs bs : List Int32} {d v0 c0 : Value} {z N : Int32} {n n0 : Nat} (hx0 : n0 ≤ x) (hh0 : n0 ≤ h.size) (E : RoadKit.Exa Z h x ST) (V : RoadKit.Fld Z h x ST "value" "[B" v0) (C : RoadKit.Fld Z h x ST "coder" "B" c0) (K : RoadKit.Arv Z h b kC .char N (cs.map Value.int) d) (S : RoadKit.Sta Z h ST "COMPACT_STRINGS" "Z" (.int z)) (hz : ¬ z = 0)
    (hn : cs.length = n) (hN : N = Int32.ofNat n) (l0 : 0 < n) (l2 : n ≤ 4000) (hp : ∀ c ∈ cs, ¬ c < 0 ∧ ¬ (255 : Int32) < c) (hb : bs = cs.map (fun c => c.toInt8.toInt32)) (hfr : 4 ≤ R.frames) (hlo : W + 65 ≤ R.locals) :
    Back l R p e below s args (⟨"java/lang/String", "<init>", "([C)V"⟩ : MethodName) len W (fun P a => a = #[.ref x, .ref b] ∧ P.U.heap = h ∧ P.cells + 1 ≤ R.cells ∧ P.slots + n ≤ R.slots)
      (fun P _ v B => ∃ L, QV Z x N bs h n0 v B.U.heap L ∧ B.locs = P.locs ++ L ∧ B.cells = P.cells + 1 ∧ B.slots = P.slots + n) := by
  subst hn hN hb
  refine Back.mono (backArv hZ hw wi E V C K S hz (n32 (by omega)) l0 (by omega) (fun c hc => (hp c hc).2) hfr hlo) (fun P a hp => hp) (fun P a v B hp hq => ?_)
  obtain ⟨L, ⟨q1, q2, q3, q4, q5, q6, q7, ⟨kb, v1, v2⟩, q9⟩, hl, hc, hs⟩ := hq
  exact ⟨L, ⟨q1, fun y hy => by rw [q2 y hy]; exact hx0, q3, q5, q7, h.size, kb, hh0, Nat.le_refl _, Nat.ne_of_gt E.lt, q6, by rw [List.map_map]; exact v2⟩, hl, hc, hs⟩
end StrChars.Road
end Jvm.Pilot.@@N@@

namespace Jvm.Pilot.@@N@@
open Jvm Jvm.ClassFile Sem Op Lib Jvm.Free Jvm.Stand Jvm.LawKit Jvm.RoadKit Bundle Jvm.Pilot.@@N@@.Jvm.D Jvm.Wk9
theorem own_mask255 (x : Int32) : ¬ (x &&& 255) < 0 ∧ ¬ (255 : Int32) < (x &&& 255) := by
  have h := c_and x 255 (by decide)
  have e : (255 : Int32).toInt = 255 := by decide
  rw [e] at h
  refine ⟨fun q => ?_, fun q => ?_⟩
  · have := Int32.lt_iff_toInt_lt.mp q
    have e0 : (0 : Int32).toInt = 0 := by decide
    omega
  · have := Int32.lt_iff_toInt_lt.mp q
    omega
theorem own_narc {x : Int32} (h : ¬ x < 0 ∧ ¬ (255 : Int32) < x) : nar .char x = x := by
  have h1 := h.1
  have h2 := h.2
  rw [Int32.lt_iff_toInt_lt] at h1 h2
  have e0 : (0 : Int32).toInt = 0 := by decide
  have e1 : (255 : Int32).toInt = 255 := by decide
  have k := c_i2c x
  apply Int32.toInt_inj.mp
  show (x.toUInt32.toUInt16.toUInt32.toInt32).toInt = x.toInt
  omega
theorem own_all0 {P : Int32 → Prop} : ∀ c ∈ ([] : List Int32), P c := fun _ h => nomatch h
theorem own_allS {P : Int32 → Prop} {y : Int32} {L : List Int32} (q : P y) (r : ∀ c ∈ L, P c) : ∀ c ∈ y :: L, P c := fun c h => by
  rcases List.mem_cons.mp h with rfl | h
  · exact q
  · exact r c h
theorem own_narb (x : Int32) : nar .byte x.toInt8.toInt32 = x.toInt8.toInt32 := by
  show x.toInt8.toInt32.toInt8.toInt32 = x.toInt8.toInt32
  simp
/-- new String(char[]) of chars 0 to 255, at least one -/
theorem g_newStr {wd : Bool} {p : Program} {l : Launch} {e : Env} {R : Room} {s : State} {m : MethodId} {args : Array Value} {below : List Frame} {meth : Method} {c : Code} {Z : State} {a0 : Array Value} {EL : List (String × Nat)} {Q : Option Value → Heap → Prop} {kc ks : Nat} {m0 mine : List Addr} {h : Heap} {locs : List Loc} {cells slots : Nat} {own nm : String} {bytes : ByteArray} {ml : Nat} {ret : Option FieldType} {pc : Nat} {Ls : Array Slot} {idx kI : Nat} {x b : Addr} {cs : List Int32} {v0 c0 : Value} {z : Int32} (n : Nat) (rest : List Value) (W : Nat) (C : Cx wd p s m meth c Z a0 EL own bytes ml ret nm) (hd : decode bytes pc = .ok (.invokespecial idx, 3)) (hws : ∀ d ∈ StrChars.Road.words, d.before a0 Z = true) (wi : (Jvm.Cond.instantiable "java/lang/String" kI).before a0 Z = true)
    (w1 : (Jvm.Cond.methodLink own idx ⟨"java/lang/String", "<init>", "([C)V"⟩).before a0 Z = true) (w2 : (Jvm.Cond.instanceMethod ⟨"java/lang/String", "<init>", "([C)V"⟩).before a0 Z = true) (w4 : (Jvm.Cond.code ⟨"java/lang/String", "<init>", "([C)V"⟩ StrChars.New1.yB 2 none).before a0 Z = true)
    (E : Exa Z h x "java/lang/String") (F1 : Fld Z h x "java/lang/String" "value" "[B" v0) (F2 : Fld Z h x "java/lang/String" "coder" "B" c0) (A : Av Z h b .char (cs.map Value.int)) (S : Sta Z Z.heap "java/lang/String" "COMPACT_STRINGS" "Z" (.int z)) (hz : ¬ z = 0)
    (hn : cs.length = n) (l0 : 0 < n) (l2 : n ≤ 4000) (hp : ∀ c ∈ cs, ¬ c < 0 ∧ ¬ (255 : Int32) < c) (hsz : Ls.size = ml) (hW : (rest.map fun v => v.category).sum ≤ W) (hf : 4 ≤ R.frames) (hl : W + 65 ≤ R.locals) (hc : cells + 1 ≤ R.cells) (hs : slots + n ≤ R.slots) (hm : x ∈ mine)
    (nx : ∀ (t : Addr) (h' : Heap) (L : List Loc), h.size ≤ t → t < h'.size → Str Z h' x t cs → Keep h h' [x] → Go wd p l e R s m args below meth c Z EL Q kc ks m0 mine h' (locs ++ L) (cells + 1) (slots + n) (mkF m (pc + 3) Ls rest)) :
    Go wd p l e R s m args below meth c Z EL Q kc ks m0 mine h locs cells slots (mkF m pc Ls (.ref b :: .ref x :: rest)) := by
  refine Go.know fun ho _ hmm => ?_
  obtain ⟨kC, A'⟩ := Arv.of_av (d := .int 0) A
  have hl1 : (cs.map Value.int).length = n := by simp [hn]
  rw [hl1] at A'
  refine g_specialB (mine' := [x]) (as' := #[.ref x, .ref b]) [.ref b] rest W C hd rfl w1 w2 w4 (by decide) (fun vm0 hZ hold => StrChars.Road.backV (s := s.setVm vm0) (W := W) (n0 := Z.heap.size) hZ hws wi (hmm x hm).2 hold.1 E F1 F2 A' (S.ext hold) hz hn rfl l0 l2 hp rfl hf hl) rfl (lenOf (ps := [.array .char]) (r := none) (by decide +kernel) rfl) rfl hsz hW hc hs (fun v h' L q => ⟨q.2.2.1, q.2.1⟩) (fun y hy => by rw [List.mem_singleton.mp hy]; exact hm) (fun v h' L q K => ?_)
  obtain ⟨rfl, -, -, q1, q2, t, kb, -, q3, q4, q5, q6⟩ := q
  have hav : Av Z h' t .byte ((cs.map fun c => c.toInt8.toInt32).map Value.int) := Av.of_arv q6 (by rw [(toNat_ofNat (n := n) (by omega)).1]; simp [hn])
  refine nx t h' L q3 hav.lt ⟨q1, q2, q5, ?_⟩ K
  rw [List.map_map] at hav
  exact hav
theorem own_hws {Z : State} {a0 : Array Value} (hw : ∀ d ∈ tables_1, d.before a0 Z = true) : ∀ d ∈ StrChars.Road.words, d.before a0 Z = true := fun d hd => hw d ((by decide +kernel : ∀ d ∈ StrChars.Road.words, d ∈ tables_1) d hd)
theorem pd0 : parseMethodDescriptor "([CIILjava/lang/Void;)V" = some ⟨[(.array .char), .int, .int, (.object "java/lang/Void")], none⟩ := by decide +kernel
theorem pd1 : parseMethodDescriptor "(C)Z" = some ⟨[.char], some .boolean⟩ := by decide +kernel
theorem pd2 : parseMethodDescriptor "(C)[B" = some ⟨[.char], some (.array .byte)⟩ := by decide +kernel
theorem pd3 : parseMethodDescriptor "([BB)V" = some ⟨[(.array .byte), .byte], none⟩ := by decide +kernel
theorem pd4 : parseMethodDescriptor "([C)V" = some ⟨[(.array .char)], none⟩ := by decide +kernel
theorem pd5 : parseMethodDescriptor "(C)Ljava/lang/String;" = some ⟨[.char], some (.object "java/lang/String")⟩ := by decide +kernel
theorem pd6 : parseMethodDescriptor "()V" = some ⟨[], none⟩ := by decide +kernel
theorem pd7 : parseMethodDescriptor "(II)I" = some ⟨[.int, .int], some .int⟩ := by decide +kernel
theorem pd8 : parseMethodDescriptor "(I)[Ljava/lang/Object;" = some ⟨[.int], some (.array (.object "java/lang/Object"))⟩ := by decide +kernel
theorem pd9 : parseMethodDescriptor "()[Ljava/lang/Object;" = some ⟨[], some (.array (.object "java/lang/Object"))⟩ := by decide +kernel
theorem pd10 : parseMethodDescriptor "(Ljava/lang/Object;[Ljava/lang/Object;I)V" = some ⟨[(.object "java/lang/Object"), (.array (.object "java/lang/Object")), .int], none⟩ := by decide +kernel
theorem pd11 : parseMethodDescriptor "([Ljava/lang/Object;ILjava/lang/Class;)[Ljava/lang/Object;" = some ⟨[(.array (.object "java/lang/Object")), .int, (.object "java/lang/Class")], some (.array (.object "java/lang/Object"))⟩ := by decide +kernel
theorem pd12 : parseMethodDescriptor "([Ljava/lang/Object;I)[Ljava/lang/Object;" = some ⟨[(.array (.object "java/lang/Object")), .int], some (.array (.object "java/lang/Object"))⟩ := by decide +kernel
theorem pd13 : parseMethodDescriptor "(Ljava/lang/Object;)Ljava/lang/Object;" = some ⟨[(.object "java/lang/Object")], some (.object "java/lang/Object")⟩ := by decide +kernel
theorem pd14 : parseMethodDescriptor "([Ljava/lang/Object;Z)V" = some ⟨[(.array (.object "java/lang/Object")), .boolean], none⟩ := by decide +kernel
theorem pd15 : parseMethodDescriptor "(Ljava/lang/Object;)V" = some ⟨[(.object "java/lang/Object")], none⟩ := by decide +kernel
theorem pd16 : parseMethodDescriptor "(Ljava/lang/Object;Ljava/lang/Object;)V" = some ⟨[(.object "java/lang/Object"), (.object "java/lang/Object")], none⟩ := by decide +kernel
theorem pd17 : parseMethodDescriptor "([Ljava/lang/Object;)Ljava/util/List;" = some ⟨[(.array (.object "java/lang/Object"))], some (.object "java/util/List")⟩ := by decide +kernel
theorem pd18 : parseMethodDescriptor "()Z" = some ⟨[], some .boolean⟩ := by decide +kernel
theorem pd19 : parseMethodDescriptor "(Ljava/util/Collection;)Ljava/util/List;" = some ⟨[(.object "java/util/Collection")], some (.object "java/util/List")⟩ := by decide +kernel
theorem pd20 : parseMethodDescriptor "()I" = some ⟨[], some .int⟩ := by decide +kernel
theorem pd21 : parseMethodDescriptor "(I)Ljava/lang/Object;" = some ⟨[.int], some (.object "java/lang/Object")⟩ := by decide +kernel
theorem pd22 : parseMethodDescriptor "(I)Ljava/lang/String;" = some ⟨[.int], some (.object "java/lang/String")⟩ := by decide +kernel
theorem pd23 : parseMethodDescriptor "(Ljava/lang/Object;)Z" = some ⟨[(.object "java/lang/Object")], some .boolean⟩ := by decide +kernel
theorem pd24 : parseMethodDescriptor "(Ljava/util/List;)V" = some ⟨[(.object "java/util/List")], none⟩ := by decide +kernel
theorem pd25 : parseMethodDescriptor "()Ljava/lang/String;" = some ⟨[], some (.object "java/lang/String")⟩ := by decide +kernel
theorem own_EW {Z : State} {a0 : Array Value} (hw : ∀ d ∈ tables_1, d.before a0 Z = true) : EW Z a0 [("java/lang/String", 7)] := EW.cons (hw _ (List.mem_of_getElem? (i := 18) rfl)) (by decide) (EW.nil)
theorem own_wS {Z : State} {a0 : Array Value} (hw : ∀ d ∈ tables_1, d.before a0 Z = true) : ∀ d ∈ Bundle.stringAtoms, d.before a0 Z = true := fun d hd => hw d ((by decide +kernel : ∀ d ∈ Bundle.stringAtoms, d ∈ tables_1) d hd)
theorem dS4_0 : decode jdk_42_method_149_code 0 = .ok (.aload_n 0, 1) := by decide +kernel
theorem dS4_1 : decode jdk_42_method_149_code 1 = .ok (.invokespecial 1, 3) := by decide +kernel
theorem dS4_4 : decode jdk_42_method_149_code 4 = .ok (.iload_n 3, 1) := by decide +kernel
theorem dS4_5 : decode jdk_42_method_149_code 5 = .ok (.ifCond .ne 22, 3) := by decide +kernel
theorem dS4_8 : decode jdk_42_method_149_code 8 = .ok (.aload_n 0, 1) := by decide +kernel
theorem dS4_9 : decode jdk_42_method_149_code 9 = .ok (.ldc 7, 2) := by decide +kernel
theorem dS4_11 : decode jdk_42_method_149_code 11 = .ok (.getfield 9, 3) := by decide +kernel
theorem dS4_14 : decode jdk_42_method_149_code 14 = .ok (.putfield 9, 3) := by decide +kernel
theorem dS4_17 : decode jdk_42_method_149_code 17 = .ok (.aload_n 0, 1) := by decide +kernel
theorem dS4_18 : decode jdk_42_method_149_code 18 = .ok (.ldc 7, 2) := by decide +kernel
theorem dS4_20 : decode jdk_42_method_149_code 20 = .ok (.getfield 15, 3) := by decide +kernel
theorem dS4_23 : decode jdk_42_method_149_code 23 = .ok (.putfield 15, 3) := by decide +kernel
theorem dS4_26 : decode jdk_42_method_149_code 26 = .ok (.return_, 1) := by decide +kernel
set_option maxRecDepth 65536 in
set_option maxHeartbeats 80000000 in
theorem m_str4 (l : Launch) (Z : State) (a0 : Array Value) {z0 : Int32} (hw : ∀ d ∈ tables_1, d.before a0 Z = true) (S0 : Sta Z Z.heap "java/lang/String" "COMPACT_STRINGS" "Z" (.int z0)) (hz0 : ¬ z0 = 0) {dc em mir : Addr} (SD : Sta Z Z.heap "java/util/ArrayList" "DEFAULTCAPACITY_EMPTY_ELEMENTDATA" "[Ljava/lang/Object;" (.ref dc)) (SE : Sta Z Z.heap "java/util/ImmutableCollections" "EMPTY" "Ljava/lang/Object;" (.ref em)) (Ld : dc < Z.heap.size) (Le : em < Z.heap.size) (MI : MirC Z "[Ljava/lang/Object;" mir) (a b : Addr) (h : Heap) (E : Exa Z h a "java/lang/String") (F1 : Fld Z h a "java/lang/String" "value" "[B" .null) (F2 : Fld Z h a "java/lang/String" "coder" "B" (.int (0 : Int32))) :
    MetW true l Z [("java/lang/String", 7)] (⟨"java/lang/String", "<init>", "([CIILjava/lang/Void;)V"⟩ : MethodName) jdk_42_method_149_code 6 none [] ({ frames := 1, cells := 4, slots := 8, locals := 12 } : Room) #[(.ref a), (.ref b), (.int (0 : Int32)), (.int (0 : Int32)), .null] [a] h (fun v h' => v = none ∧ ∃ t : Addr, t < h'.size ∧ t ≠ a ∧ Str Z h' a t []) := by
  refine MetW.of (Ls := #[.val (.ref a), .val (.ref b), .val (.int (0 : Int32)), .val (.int (0 : Int32)), .val .null, .unset]) (a0 := a0) (by first | (simp [plainName, overriddenIn]; done) | decide +kernel) (fun m => by first | (simp [entryFrame, mkF, argsToLocals, Value.category]; done) | rfl) (own_EW hw) (fun q => nomatch q) (fun p_ e_ s_ m_ below_ meth_ c_ hs0 C => ?_)
  refine g_aloadN C dS4_0 rfl rfl ?_
  refine g_objInit C dS4_1 (hw _ (List.mem_of_getElem? (i := 15) rfl)) (hw _ (List.mem_of_getElem? (i := 16) rfl)) (hw _ (List.mem_of_getElem? (i := 17) rfl)) rfl (by decide) (Nat.le_of_ble_eq_true rfl) ?_
  refine g_iloadN C dS4_4 rfl ?_
  refine g_ifF C dS4_5 (show (0 : Int32) = (0 : Int32) by decide) ?_
  refine g_aloadN C dS4_8 rfl rfl ?_
  refine g_ldcStr (vs := []) (zl := 0) 0 C dS4_9 (hw _ (List.mem_of_getElem? (i := 18) rfl)) (own_wS hw) (List.mem_of_getElem? (i := 0) rfl) (by decide) (by decide) (by decide) (by decide) (by decide) (by decide) (by decide) (fun a1 a2 h3 E4 f5 f6 f7 f8 n9 => ?_)
  have K10 := keep_ext E4
  refine g_getfield (host := "") C dS4_11 (Or.inl (hw _ (List.mem_of_getElem? (i := 24) rfl))) Via.refl f7 ?_
  have f11 := (F1.keep K10 nin0)
  have f12 := (E.keep K10)
  have f13 := (F2.keep K10 nin0)
  refine g_putfield (host := "") C dS4_14 (Or.inl (hw _ (List.mem_of_getElem? (i := 24) rfl))) Via.refl f11 f12 (Or.inr ⟨(hw _ (List.mem_of_getElem? (i := 20) rfl)), rfl, rfl⟩) (hw _ (List.mem_of_getElem? (i := 5) rfl)) (ty := (.array .byte)) (by decide) rfl rfl (List.mem_of_getElem? (i := 0) rfl) (fun h14 W15 K16 => ?_)
  have f17 := Fld.same W15 f11
  have f18 := Fld.other W15 f13 (Or.inr (slot_ne (Or.inr (hw _ (List.mem_of_getElem? (i := 21) rfl))) (Or.inr (hw _ (List.mem_of_getElem? (i := 20) rfl))) (by decide) (t := .byte) (t' := (.array .byte)) (by decide) (by decide)))
  refine g_aloadN C dS4_17 rfl rfl ?_
  refine g_ldcStr (vs := []) (zl := 0) 0 C dS4_18 (hw _ (List.mem_of_getElem? (i := 18) rfl)) (own_wS hw) (List.mem_of_getElem? (i := 0) rfl) (by decide) (by decide) (by decide) (by decide) (by decide) (by decide) (by decide) (fun a19 a20 h21 E22 f23 f24 f25 f26 n27 => ?_)
  have K28 := keep_ext E22
  refine g_getfield (host := "") C dS4_20 (Or.inl (hw _ (List.mem_of_getElem? (i := 25) rfl))) Via.refl f24 ?_
  have f29 := (f18.keep K28 nin0)
  have f30 := ((f12.keep K16).keep K28)
  have f31 := (f17.keep K28 nin0)
  refine g_putfield (host := "") C dS4_23 (Or.inl (hw _ (List.mem_of_getElem? (i := 25) rfl))) Via.refl f29 f30 (Or.inr ⟨(hw _ (List.mem_of_getElem? (i := 21) rfl)), rfl, rfl⟩) (hw _ (List.mem_of_getElem? (i := 5) rfl)) (ty := .byte) (by decide) rfl rfl (List.mem_of_getElem? (i := 0) rfl) (fun h32 W33 K34 => ?_)
  have f35 := Fld.same W33 f29
  have f36 := Fld.other W33 f31 (Or.inr (slot_ne (Or.inr (hw _ (List.mem_of_getElem? (i := 20) rfl))) (Or.inr (hw _ (List.mem_of_getElem? (i := 21) rfl))) (by decide) (t := (.array .byte)) (t' := .byte) (by decide) (by decide)))
  have f37 := (f30.keep K34)
  have f38 := (((f8.keep K16 (ninS (Ne.symm (n9 _ (List.mem_of_getElem? (i := 0) rfl)).2) nin0)).keep K28 nin0).keep K34 (ninS (Ne.symm (n9 _ (List.mem_of_getElem? (i := 0) rfl)).2) nin0))
  exact g_retU C dS4_26 ⟨rfl, a2, (Nat.lt_of_lt_of_le f8.lt (Nat.le_trans (Nat.le_trans K16.1 K28.1) K34.1)), Ne.symm (n9 _ (List.mem_of_getElem? (i := 0) rfl)).2, f37, f35, f36, f38⟩ (by decide) (by decide)
theorem dS1_0 : decode jdk_42_method_3_code 0 = .ok (.aload_n 0, 1) := by decide +kernel
theorem dS1_1 : decode jdk_42_method_3_code 1 = .ok (.aload_n 1, 1) := by decide +kernel
theorem dS1_2 : decode jdk_42_method_3_code 2 = .ok (.iconst 0, 1) := by decide +kernel
theorem dS1_3 : decode jdk_42_method_3_code 3 = .ok (.aload_n 1, 1) := by decide +kernel
theorem dS1_4 : decode jdk_42_method_3_code 4 = .ok (.arraylength, 1) := by decide +kernel
theorem dS1_5 : decode jdk_42_method_3_code 5 = .ok (.aconst_null, 1) := by decide +kernel
theorem dS1_6 : decode jdk_42_method_3_code 6 = .ok (.invokespecial 27, 3) := by decide +kernel
theorem dS1_9 : decode jdk_42_method_3_code 9 = .ok (.return_, 1) := by decide +kernel
set_option maxRecDepth 65536 in
set_option maxHeartbeats 80000000 in
theorem m_str1 (l : Launch) (Z : State) (a0 : Array Value) {z0 : Int32} (hw : ∀ d ∈ tables_1, d.before a0 Z = true) (S0 : Sta Z Z.heap "java/lang/String" "COMPACT_STRINGS" "Z" (.int z0)) (hz0 : ¬ z0 = 0) {dc em mir : Addr} (SD : Sta Z Z.heap "java/util/ArrayList" "DEFAULTCAPACITY_EMPTY_ELEMENTDATA" "[Ljava/lang/Object;" (.ref dc)) (SE : Sta Z Z.heap "java/util/ImmutableCollections" "EMPTY" "Ljava/lang/Object;" (.ref em)) (Ld : dc < Z.heap.size) (Le : em < Z.heap.size) (MI : MirC Z "[Ljava/lang/Object;" mir) (a b : Addr) (h : Heap) (E : Exa Z h a "java/lang/String") (F1 : Fld Z h a "java/lang/String" "value" "[B" .null) (F2 : Fld Z h a "java/lang/String" "coder" "B" (.int (0 : Int32))) (Ab : Av Z h b .char []) :
    MetW true l Z [("java/lang/String", 7)] (⟨"java/lang/String", "<init>", "([C)V"⟩ : MethodName) jdk_42_method_3_code 2 none [] ({ frames := 2, cells := 4, slots := 8, locals := 29 } : Room) #[(.ref a), (.ref b)] [a] h (fun v h' => v = none ∧ ∃ t : Addr, t < h'.size ∧ t ≠ a ∧ Str Z h' a t []) := by
  refine MetW.of (Ls := #[.val (.ref a), .val (.ref b)]) (a0 := a0) (by first | (simp [plainName, overriddenIn]; done) | decide +kernel) (fun m => by first | (simp [entryFrame, mkF, argsToLocals, Value.category]; done) | rfl) (own_EW hw) (fun q => nomatch q) (fun p_ e_ s_ m_ below_ meth_ c_ hs0 C => ?_)
  refine g_aloadN C dS1_0 rfl rfl ?_
  refine g_aloadN C dS1_1 rfl rfl ?_
  refine g_iconst (0 : Int32) C dS1_2 (by decide) ?_
  refine g_aloadN C dS1_3 rfl rfl ?_
  refine g_alen C dS1_4 Ab (z := (0 : Int32)) rfl ?_
  refine g_aconstNull C dS1_5 ?_
  refine g_invokespecial [(.ref b), (.int (0 : Int32)), (.int (0 : Int32)), .null] [] 0 C dS1_6 rfl (hw _ (List.mem_of_getElem? (i := 11) rfl)) (hw _ (List.mem_of_getElem? (i := 12) rfl)) (hw _ (List.mem_of_getElem? (i := 6) rfl)) (hw _ (List.mem_of_getElem? (i := 14) rfl)) (by decide) (m_str4 l Z a0 hw S0 hz0 SD SE Ld Le MI a b _ E F1 F2) (lenOf pd0 rfl) rfl rfl (Nat.le_of_ble_eq_true rfl) (by decide) (by decide) (by decide) (by decide) (allS (List.mem_of_getElem? (i := 0) rfl) all0) (fun v1 h2 L3 q4 K5 => ?_)
  obtain ⟨rfl, t, hl, hn, hS⟩ := q4
  show Go _ _ _ _ _ _ _ _ _ _ _ _ _ _ _ _ _ _ _ _ _ _ (mkF _ 9 #[.val (.ref a), .val (.ref b)] [])
  exact g_retU C dS1_9 ⟨rfl, t, hl, hn, hS⟩ (by decide) (by decide)
theorem dV1_0 : decode jdk_43_method_3_code 0 = .ok (.iload_n 0, 1) := by decide +kernel
theorem dV1_1 : decode jdk_43_method_3_code 1 = .ok (.sipush 255, 3) := by decide +kernel
theorem dV1_4 : decode jdk_43_method_3_code 4 = .ok (.if_icmp .gt 7, 3) := by decide +kernel
theorem dV1_7 : decode jdk_43_method_3_code 7 = .ok (.iconst 1, 1) := by decide +kernel
theorem dV1_8 : decode jdk_43_method_3_code 8 = .ok (.goto 4, 3) := by decide +kernel
theorem dV1_12 : decode jdk_43_method_3_code 12 = .ok (.ireturn, 1) := by decide +kernel
set_option maxRecDepth 65536 in
set_option maxHeartbeats 80000000 in
theorem m_canEncode (l : Launch) (Z : State) (a0 : Array Value) {z0 : Int32} (hw : ∀ d ∈ tables_1, d.before a0 Z = true) (S0 : Sta Z Z.heap "java/lang/String" "COMPACT_STRINGS" "Z" (.int z0)) (hz0 : ¬ z0 = 0) {dc em mir : Addr} (SD : Sta Z Z.heap "java/util/ArrayList" "DEFAULTCAPACITY_EMPTY_ELEMENTDATA" "[Ljava/lang/Object;" (.ref dc)) (SE : Sta Z Z.heap "java/util/ImmutableCollections" "EMPTY" "Ljava/lang/Object;" (.ref em)) (Ld : dc < Z.heap.size) (Le : em < Z.heap.size) (MI : MirC Z "[Ljava/lang/Object;" mir) (x : Int32) (hx : ¬ x < 0 ∧ ¬ (255 : Int32) < x) (h : Heap) :
    MetW true l Z [("java/lang/String", 7)] (⟨"java/lang/StringLatin1", "canEncode", "(C)Z"⟩ : MethodName) jdk_43_method_3_code 1 (Option.some Jvm.ClassFile.FieldType.boolean) [] ({ frames := 0, cells := 0, slots := 0, locals := 0 } : Room) #[(.int x)] [] h (fun v h' => v = some (.int (1 : Int32))) := by
  refine MetW.of (Ls := #[.val (.int x)]) (a0 := a0) (by first | (simp [plainName, overriddenIn]; done) | decide +kernel) (fun m => by first | (simp [entryFrame, mkF, argsToLocals, Value.category]; done) | rfl) (own_EW hw) (fun q => nomatch q) (fun p_ e_ s_ m_ below_ meth_ c_ hs0 C => ?_)
  refine g_iloadN C dV1_0 rfl ?_
  refine g_sipush (255 : Int32) C dV1_1 (by decide) ?_
  refine g_icmpF C dV1_4 (show ¬ (255 : Int32) < x from hx.2) ?_
  refine g_iconst (1 : Int32) C dV1_7 (by decide) ?_
  refine g_goto 12 C dV1_8 (by decide) (by decide) ?_
  exact g_retN C dV1_12 (by simp) rfl (by decide) (by decide)
theorem dV2_0 : decode jdk_43_method_46_code 0 = .ok (.iconst 1, 1) := by decide +kernel
theorem dV2_1 : decode jdk_43_method_46_code 1 = .ok (.newarray .byte, 2) := by decide +kernel
theorem dV2_3 : decode jdk_43_method_46_code 3 = .ok (.dup, 1) := by decide +kernel
theorem dV2_4 : decode jdk_43_method_46_code 4 = .ok (.iconst 0, 1) := by decide +kernel
theorem dV2_5 : decode jdk_43_method_46_code 5 = .ok (.iload_n 0, 1) := by decide +kernel
theorem dV2_6 : decode jdk_43_method_46_code 6 = .ok (.i2b, 1) := by decide +kernel
theorem dV2_7 : decode jdk_43_method_46_code 7 = .ok (.bastore, 1) := by decide +kernel
theorem dV2_8 : decode jdk_43_method_46_code 8 = .ok (.areturn, 1) := by decide +kernel
set_option maxRecDepth 65536 in
set_option maxHeartbeats 80000000 in
theorem m_toBytes (l : Launch) (Z : State) (a0 : Array Value) {z0 : Int32} (hw : ∀ d ∈ tables_1, d.before a0 Z = true) (S0 : Sta Z Z.heap "java/lang/String" "COMPACT_STRINGS" "Z" (.int z0)) (hz0 : ¬ z0 = 0) {dc em mir : Addr} (SD : Sta Z Z.heap "java/util/ArrayList" "DEFAULTCAPACITY_EMPTY_ELEMENTDATA" "[Ljava/lang/Object;" (.ref dc)) (SE : Sta Z Z.heap "java/util/ImmutableCollections" "EMPTY" "Ljava/lang/Object;" (.ref em)) (Ld : dc < Z.heap.size) (Le : em < Z.heap.size) (MI : MirC Z "[Ljava/lang/Object;" mir) (x : Int32) (h : Heap) :
    MetW true l Z [("java/lang/String", 7)] (⟨"java/lang/StringLatin1", "toBytes", "(C)[B"⟩ : MethodName) jdk_43_method_46_code 1 (Option.some (Jvm.ClassFile.FieldType.array Jvm.ClassFile.FieldType.byte)) [] ({ frames := 0, cells := 1, slots := 1, locals := 0 } : Room) #[(.int x)] [] h (fun v h' => ∃ a : Addr, v = some (.ref a) ∧ h.size ≤ a ∧ Exa Z h' a "[B" ∧ Av Z h' a .byte [.int x.toInt8.toInt32]) := by
  refine MetW.of (Ls := #[.val (.int x)]) (a0 := a0) (by first | (simp [plainName, overriddenIn]; done) | decide +kernel) (fun m => by first | (simp [entryFrame, mkF, argsToLocals, Value.category]; done) | rfl) (own_EW hw) (fun q => nomatch q) (fun p_ e_ s_ m_ below_ meth_ c_ hs0 C => ?_)
  refine g_iconst (1 : Int32) C dV2_0 (by decide) ?_
  refine g_newarray_ (ad := "[B") 1 [(.int (0 : Int32))] C dV2_1 (hw _ (List.mem_of_getElem? (i := 19) rfl)) (by decide) (by decide) (by decide) (by decide) (by decide) (by decide) (by decide) (fun a1 h2 e3 E4 l5 f6 f7 => ?_)
  have K8 := keep_ext E4
  refine g_dup C dV2_3 rfl ?_
  refine g_iconst (0 : Int32) C dV2_4 (by decide) ?_
  refine g_iloadN C dV2_5 rfl ?_
  refine g_i2b _ C dV2_6 rfl ?_
  refine g_bastore 0 C dV2_7 f7 (by decide) (by decide) (Nat.le_of_ble_eq_true rfl) (List.mem_of_getElem? (i := 0) rfl) (fun h9 K10 z11 f12 => ?_)
  have f13 : Av Z h9 a1 .byte [(.int (x.toInt8.toInt32))] := (show nar .byte (x.toInt8.toInt32) = (x.toInt8.toInt32) from own_narb _) ▸ f12
  have f14 := (f6.keep K10)
  exact g_retA C dV2_8 rfl rfl ⟨a1, rfl, (Nat.le_of_eq e3.symm), f14, f13⟩ (by decide) (by decide)
theorem dV3_0 : decode jdk_42_method_151_code 0 = .ok (.aload_n 0, 1) := by decide +kernel
theorem dV3_1 : decode jdk_42_method_151_code 1 = .ok (.invokespecial 1, 3) := by decide +kernel
theorem dV3_4 : decode jdk_42_method_151_code 4 = .ok (.aload_n 0, 1) := by decide +kernel
theorem dV3_5 : decode jdk_42_method_151_code 5 = .ok (.aload_n 1, 1) := by decide +kernel
theorem dV3_6 : decode jdk_42_method_151_code 6 = .ok (.putfield 9, 3) := by decide +kernel
theorem dV3_9 : decode jdk_42_method_151_code 9 = .ok (.aload_n 0, 1) := by decide +kernel
theorem dV3_10 : decode jdk_42_method_151_code 10 = .ok (.iload_n 2, 1) := by decide +kernel
theorem dV3_11 : decode jdk_42_method_151_code 11 = .ok (.putfield 15, 3) := by decide +kernel
theorem dV3_14 : decode jdk_42_method_151_code 14 = .ok (.return_, 1) := by decide +kernel
set_option maxRecDepth 65536 in
set_option maxHeartbeats 80000000 in
theorem m_strBB (l : Launch) (Z : State) (a0 : Array Value) {z0 : Int32} (hw : ∀ d ∈ tables_1, d.before a0 Z = true) (S0 : Sta Z Z.heap "java/lang/String" "COMPACT_STRINGS" "Z" (.int z0)) (hz0 : ¬ z0 = 0) {dc em mir : Addr} (SD : Sta Z Z.heap "java/util/ArrayList" "DEFAULTCAPACITY_EMPTY_ELEMENTDATA" "[Ljava/lang/Object;" (.ref dc)) (SE : Sta Z Z.heap "java/util/ImmutableCollections" "EMPTY" "Ljava/lang/Object;" (.ref em)) (Ld : dc < Z.heap.size) (Le : em < Z.heap.size) (MI : MirC Z "[Ljava/lang/Object;" mir) (a b : Addr) (h : Heap) (E : Exa Z h a "java/lang/String") (F1 : Fld Z h a "java/lang/String" "value" "[B" .null) (F2 : Fld Z h a "java/lang/String" "coder" "B" (.int (0 : Int32))) :
    MetW true l Z [("java/lang/String", 7)] (⟨"java/lang/String", "<init>", "([BB)V"⟩ : MethodName) jdk_42_method_151_code 3 none [] ({ frames := 1, cells := 0, slots := 0, locals := 12 } : Room) #[(.ref a), (.ref b), (.int (0 : Int32))] [a] h (fun v h' => v = none ∧ Exa Z h' a "java/lang/String" ∧ Fld Z h' a "java/lang/String" "coder" "B" (.int (0 : Int32)) ∧ Fld Z h' a "java/lang/String" "value" "[B" (.ref b)) := by
  refine MetW.of (Ls := #[.val (.ref a), .val (.ref b), .val (.int (0 : Int32))]) (a0 := a0) (by first | (simp [plainName, overriddenIn]; done) | decide +kernel) (fun m => by first | (simp [entryFrame, mkF, argsToLocals, Value.category]; done) | rfl) (own_EW hw) (fun q => nomatch q) (fun p_ e_ s_ m_ below_ meth_ c_ hs0 C => ?_)
  refine g_aloadN C dV3_0 rfl rfl ?_
  refine g_objInit C dV3_1 (hw _ (List.mem_of_getElem? (i := 15) rfl)) (hw _ (List.mem_of_getElem? (i := 16) rfl)) (hw _ (List.mem_of_getElem? (i := 17) rfl)) rfl (by decide) (Nat.le_of_ble_eq_true rfl) ?_
  refine g_aloadN C dV3_4 rfl rfl ?_
  refine g_aloadN C dV3_5 rfl rfl ?_
  refine g_putfield (host := "") C dV3_6 (Or.inl (hw _ (List.mem_of_getElem? (i := 24) rfl))) Via.refl F1 E (Or.inr ⟨(hw _ (List.mem_of_getElem? (i := 20) rfl)), rfl, rfl⟩) (hw _ (List.mem_of_getElem? (i := 5) rfl)) (ty := (.array .byte)) (by decide) rfl rfl (List.mem_of_getElem? (i := 0) rfl) (fun h1 W2 K3 => ?_)
  have f4 := Fld.same W2 F1
  have f5 := Fld.other W2 F2 (Or.inr (slot_ne (Or.inr (hw _ (List.mem_of_getElem? (i := 21) rfl))) (Or.inr (hw _ (List.mem_of_getElem? (i := 20) rfl))) (by decide) (t := .byte) (t' := (.array .byte)) (by decide) (by decide)))
  refine g_aloadN C dV3_9 rfl rfl ?_
  refine g_iloadN C dV3_10 rfl ?_
  have f6 := (E.keep K3)
  refine g_putfield (host := "") C dV3_11 (Or.inl (hw _ (List.mem_of_getElem? (i := 25) rfl))) Via.refl f5 f6 (Or.inr ⟨(hw _ (List.mem_of_getElem? (i := 21) rfl)), rfl, rfl⟩) (hw _ (List.mem_of_getElem? (i := 5) rfl)) (ty := .byte) (by decide) rfl rfl (List.mem_of_getElem? (i := 0) rfl) (fun h7 W8 K9 => ?_)
  have f10 := Fld.same W8 f5
  have f11 := Fld.other W8 f4 (Or.inr (slot_ne (Or.inr (hw _ (List.mem_of_getElem? (i := 20) rfl))) (Or.inr (hw _ (List.mem_of_getElem? (i := 21) rfl))) (by decide) (t := (.array .byte)) (t' := .byte) (by decide) (by decide)))
  have f12 := (f6.keep K9)
  exact g_retU C dV3_14 ⟨rfl, f12, f10, f11⟩ (by decide) (by decide)
theorem dV4_0 : decode jdk_42_method_139_code 0 = .ok (.getstatic 38, 3) := by decide +kernel
theorem dV4_3 : decode jdk_42_method_139_code 3 = .ok (.ifCond .eq 23, 3) := by decide +kernel
theorem dV4_6 : decode jdk_42_method_139_code 6 = .ok (.iload_n 0, 1) := by decide +kernel
theorem dV4_7 : decode jdk_42_method_139_code 7 = .ok (.invokestatic 1015, 3) := by decide +kernel
theorem dV4_10 : decode jdk_42_method_139_code 10 = .ok (.ifCond .eq 16, 3) := by decide +kernel
theorem dV4_13 : decode jdk_42_method_139_code 13 = .ok (.new 10, 3) := by decide +kernel
theorem dV4_16 : decode jdk_42_method_139_code 16 = .ok (.dup, 1) := by decide +kernel
theorem dV4_17 : decode jdk_42_method_139_code 17 = .ok (.iload_n 0, 1) := by decide +kernel
theorem dV4_18 : decode jdk_42_method_139_code 18 = .ok (.invokestatic 1018, 3) := by decide +kernel
theorem dV4_21 : decode jdk_42_method_139_code 21 = .ok (.iconst 0, 1) := by decide +kernel
theorem dV4_22 : decode jdk_42_method_139_code 22 = .ok (.invokespecial 209, 3) := by decide +kernel
theorem dV4_25 : decode jdk_42_method_139_code 25 = .ok (.areturn, 1) := by decide +kernel
set_option maxRecDepth 65536 in
set_option maxHeartbeats 80000000 in
theorem m_valueOf (l : Launch) (Z : State) (a0 : Array Value) {z0 : Int32} (hw : ∀ d ∈ tables_1, d.before a0 Z = true) (S0 : Sta Z Z.heap "java/lang/String" "COMPACT_STRINGS" "Z" (.int z0)) (hz0 : ¬ z0 = 0) {dc em mir : Addr} (SD : Sta Z Z.heap "java/util/ArrayList" "DEFAULTCAPACITY_EMPTY_ELEMENTDATA" "[Ljava/lang/Object;" (.ref dc)) (SE : Sta Z Z.heap "java/util/ImmutableCollections" "EMPTY" "Ljava/lang/Object;" (.ref em)) (Ld : dc < Z.heap.size) (Le : em < Z.heap.size) (MI : MirC Z "[Ljava/lang/Object;" mir) (x : Int32) (hx : ¬ x < 0 ∧ ¬ (255 : Int32) < x) (h : Heap) :
    MetW true l Z [("java/lang/String", 7)] (⟨"java/lang/String", "valueOf", "(C)Ljava/lang/String;"⟩ : MethodName) jdk_42_method_139_code 1 (Option.some (Jvm.ClassFile.FieldType.object "java/lang/String")) [] ({ frames := 2, cells := 2, slots := 5, locals := 27 } : Room) #[(.int x)] [] h (fun v h' => ∃ a t : Addr, v = some (.ref a) ∧ h.size ≤ a ∧ t < h'.size ∧ Str Z h' a t [x]) := by
  refine MetW.of (Ls := #[.val (.int x)]) (a0 := a0) (by first | (simp [plainName, overriddenIn]; done) | decide +kernel) (fun m => by first | (simp [entryFrame, mkF, argsToLocals, Value.category]; done) | rfl) (own_EW hw) (fun q => nomatch q) (fun p_ e_ s_ m_ below_ meth_ c_ hs0 C => ?_)
  refine g_getstatic (host := "") C dV4_0 (Or.inl (hw _ (List.mem_of_getElem? (i := 209) rfl))) Via.refl S0 ?_
  refine g_ifF C dV4_3 (show ¬ z0 = (0 : Int32) from hz0) ?_
  refine g_iloadN C dV4_6 rfl ?_
  refine g_invokestatic [(.int x)] [] 0 C dV4_7 (hw _ (List.mem_of_getElem? (i := 223) rfl)) (hw _ (List.mem_of_getElem? (i := 224) rfl)) (hw _ (List.mem_of_getElem? (i := 225) rfl)) (hw _ (List.mem_of_getElem? (i := 226) rfl)) (by decide) (m_canEncode l Z a0 hw S0 hz0 SD SE Ld Le MI x hx _) (lenOf pd1 rfl) rfl rfl (Nat.le_of_ble_eq_true rfl) (by decide) (by decide) (by decide) (by decide) all0 (fun v1 h2 L3 q4 K5 => ?_)
  obtain rfl := q4
  show Go _ _ _ _ _ _ _ _ _ _ _ _ _ _ _ _ _ _ _ _ _ _ (mkF _ 10 #[.val (.int x)] [(.int (1 : Int32))])
  refine g_ifF C dV4_10 (show ¬ (1 : Int32) = (0 : Int32) by decide) ?_
  refine g_new_ C dV4_13 (hw _ (List.mem_of_getElem? (i := 227) rfl)) (hw _ (List.mem_of_getElem? (i := 5) rfl)) (hw _ (List.mem_of_getElem? (i := 6) rfl)) (by decide) (by decide) (fun a6 h7 e8 E9 l10 f11 D12 => ?_)
  have K13 := keep_ext E9
  have f14 : Fld Z h7 a6 "java/lang/String" "value" "[B" .null := D12 (Or.inr (hw _ (List.mem_of_getElem? (i := 20) rfl))) (ty := (.array .byte)) (by decide)
  have f15 : Fld Z h7 a6 "java/lang/String" "coder" "B" (.int (0 : Int32)) := D12 (Or.inr (hw _ (List.mem_of_getElem? (i := 21) rfl))) (ty := .byte) (by decide)
  refine g_dup C dV4_16 rfl ?_
  refine g_iloadN C dV4_17 rfl ?_
  refine g_invokestatic [(.int x)] [(.ref a6), (.ref a6)] 2 C dV4_18 (hw _ (List.mem_of_getElem? (i := 228) rfl)) (hw _ (List.mem_of_getElem? (i := 229) rfl)) (hw _ (List.mem_of_getElem? (i := 225) rfl)) (hw _ (List.mem_of_getElem? (i := 230) rfl)) (by decide) (m_toBytes l Z a0 hw S0 hz0 SD SE Ld Le MI x _) (lenOf pd2 rfl) rfl rfl (Nat.le_of_ble_eq_true rfl) (by decide) (by decide) (by decide) (by decide) all0 (fun v20 h21 L22 q23 K24 => ?_)
  obtain ⟨a16, rfl, g17, f18, f19⟩ := q23
  show Go _ _ _ _ _ _ _ _ _ _ _ _ _ _ _ _ _ _ _ _ _ _ (mkF _ 21 #[.val (.int x)] [(.ref a16), (.ref a6), (.ref a6)])
  refine g_iconst (0 : Int32) C dV4_21 (by decide) ?_
  have f28 := (f11.keep K24)
  have f29 := (f14.keep K24 nin0)
  have f30 := (f15.keep K24 nin0)
  refine g_invokespecial [(.ref a16), (.int (0 : Int32))] [(.ref a6)] 1 C dV4_22 rfl (hw _ (List.mem_of_getElem? (i := 231) rfl)) (hw _ (List.mem_of_getElem? (i := 232) rfl)) (hw _ (List.mem_of_getElem? (i := 6) rfl)) (hw _ (List.mem_of_getElem? (i := 233) rfl)) (by decide) (m_strBB l Z a0 hw S0 hz0 SD SE Ld Le MI a6 a16 _ f28 f29 f30) (lenOf pd3 rfl) rfl rfl (Nat.le_of_ble_eq_true rfl) (by decide) (by decide) (by decide) (by decide) (allS (List.mem_of_getElem? (i := 0) rfl) all0) (fun v31 h32 L33 q34 K35 => ?_)
  obtain ⟨rfl, f25, f26, f27⟩ := q34
  show Go _ _ _ _ _ _ _ _ _ _ _ _ _ _ _ _ _ _ _ _ _ _ (mkF _ 25 #[.val (.int x)] [(.ref a6)])
  have f36 := (f19.keep K35 (ninS (Nat.ne_of_gt (Nat.lt_of_lt_of_le l10 g17)) nin0))
  exact g_retA C dV4_25 rfl rfl ⟨a6, a16, rfl, Nat.le_trans K5.1 (Nat.le_of_eq e8.symm), (Nat.lt_of_lt_of_le f19.lt K35.1), f25, f26, f27, f36⟩ (by decide) (by decide)
theorem own_and3 (x : Int32) : x &&& 3 = 0 ∨ x &&& 3 = 1 ∨ x &&& 3 = 2 ∨ x &&& 3 = 3 := by
  have h := c_and x 3 (by decide)
  have e : (3 : Int32).toInt = 3 := by decide
  rw [e] at h
  have k : (x &&& 3).toInt = 0 ∨ (x &&& 3).toInt = 1 ∨ (x &&& 3).toInt = 2 ∨ (x &&& 3).toInt = 3 := by omega
  rcases k with k | k | k | k
  · exact Or.inl (Int32.toInt_inj.mp k)
  · exact Or.inr (Or.inl (Int32.toInt_inj.mp k))
  · exact Or.inr (Or.inr (Or.inl (Int32.toInt_inj.mp k)))
  · exact Or.inr (Or.inr (Or.inr (Int32.toInt_inj.mp k)))
theorem own_key3 (x : Int32) : (x &&& 3) - (x &&& 3) / 3 * 3 = 0 ∨ (x &&& 3) - (x &&& 3) / 3 * 3 = 1 ∨ (x &&& 3) - (x &&& 3) / 3 * 3 = 2 := by
  rcases own_and3 x with r | r | r | r <;> rw [r] <;> decide
theorem dA_0 : decode method_2_code 0 = .ok (.iload_n 0, 1) := by decide +kernel
theorem dA_1 : decode method_2_code 1 = .ok (.sipush 255, 3) := by decide +kernel
theorem dA_4 : decode method_2_code 4 = .ok (.iand, 1) := by decide +kernel
theorem dA_5 : decode method_2_code 5 = .ok (.i2c, 1) := by decide +kernel
theorem dA_6 : decode method_2_code 6 = .ok (.istore_n 1, 1) := by decide +kernel
theorem dA_7 : decode method_2_code 7 = .ok (.iload_n 0, 1) := by decide +kernel
theorem dA_8 : decode method_2_code 8 = .ok (.bipush 8, 2) := by decide +kernel
theorem dA_10 : decode method_2_code 10 = .ok (.iushr, 1) := by decide +kernel
theorem dA_11 : decode method_2_code 11 = .ok (.sipush 255, 3) := by decide +kernel
theorem dA_14 : decode method_2_code 14 = .ok (.iand, 1) := by decide +kernel
theorem dA_15 : decode method_2_code 15 = .ok (.i2c, 1) := by decide +kernel
theorem dA_16 : decode method_2_code 16 = .ok (.istore_n 2, 1) := by decide +kernel
theorem dA_17 : decode method_2_code 17 = .ok (.iload_n 0, 1) := by decide +kernel
theorem dA_18 : decode method_2_code 18 = .ok (.bipush 16, 2) := by decide +kernel
theorem dA_20 : decode method_2_code 20 = .ok (.iushr, 1) := by decide +kernel
theorem dA_21 : decode method_2_code 21 = .ok (.iconst 3, 1) := by decide +kernel
theorem dA_22 : decode method_2_code 22 = .ok (.iand, 1) := by decide +kernel
theorem dA_23 : decode method_2_code 23 = .ok (.iconst 3, 1) := by decide +kernel
theorem dA_24 : decode method_2_code 24 = .ok (.irem, 1) := by decide +kernel
theorem dA_25 : decode method_2_code 25 = .ok (.istore_n 3, 1) := by decide +kernel
theorem dA_26 : decode method_2_code 26 = .ok (.iload_n 3, 1) := by decide +kernel
theorem dA_27 : decode method_2_code 27 = .ok (.ifCond .ne 14, 3) := by decide +kernel
theorem dA_30 : decode method_2_code 30 = .ok (.new 7, 3) := by decide +kernel
theorem dA_33 : decode method_2_code 33 = .ok (.dup, 1) := by decide +kernel
theorem dA_34 : decode method_2_code 34 = .ok (.iconst 0, 1) := by decide +kernel
theorem dA_35 : decode method_2_code 35 = .ok (.newarray .char, 2) := by decide +kernel
theorem dA_37 : decode method_2_code 37 = .ok (.invokespecial 9, 3) := by decide +kernel
theorem dA_40 : decode method_2_code 40 = .ok (.areturn, 1) := by decide +kernel
theorem dA_41 : decode method_2_code 41 = .ok (.iload_n 3, 1) := by decide +kernel
theorem dA_42 : decode method_2_code 42 = .ok (.iconst 1, 1) := by decide +kernel
theorem dA_43 : decode method_2_code 43 = .ok (.if_icmp .ne 8, 3) := by decide +kernel
theorem dA_46 : decode method_2_code 46 = .ok (.iload_n 1, 1) := by decide +kernel
theorem dA_47 : decode method_2_code 47 = .ok (.invokestatic 12, 3) := by decide +kernel
theorem dA_50 : decode method_2_code 50 = .ok (.areturn, 1) := by decide +kernel
theorem dA_51 : decode method_2_code 51 = .ok (.new 7, 3) := by decide +kernel
theorem dA_54 : decode method_2_code 54 = .ok (.dup, 1) := by decide +kernel
theorem dA_55 : decode method_2_code 55 = .ok (.iconst 2, 1) := by decide +kernel
theorem dA_56 : decode method_2_code 56 = .ok (.newarray .char, 2) := by decide +kernel
theorem dA_58 : decode method_2_code 58 = .ok (.dup, 1) := by decide +kernel
theorem dA_59 : decode method_2_code 59 = .ok (.iconst 0, 1) := by decide +kernel
theorem dA_60 : decode method_2_code 60 = .ok (.iload_n 1, 1) := by decide +kernel
theorem dA_61 : decode method_2_code 61 = .ok (.castore, 1) := by decide +kernel
theorem dA_62 : decode method_2_code 62 = .ok (.dup, 1) := by decide +kernel
theorem dA_63 : decode method_2_code 63 = .ok (.iconst 1, 1) := by decide +kernel
theorem dA_64 : decode method_2_code 64 = .ok (.iload_n 2, 1) := by decide +kernel
theorem dA_65 : decode method_2_code 65 = .ok (.castore, 1) := by decide +kernel
theorem dA_66 : decode method_2_code 66 = .ok (.invokespecial 9, 3) := by decide +kernel
theorem dA_69 : decode method_2_code 69 = .ok (.areturn, 1) := by decide +kernel
set_option maxRecDepth 65536 in
set_option maxHeartbeats 80000000 in
theorem m_key (l : Launch) (Z : State) (a0 : Array Value) {z0 : Int32} (hw : ∀ d ∈ tables_1, d.before a0 Z = true) (S0 : Sta Z Z.heap "java/lang/String" "COMPACT_STRINGS" "Z" (.int z0)) (hz0 : ¬ z0 = 0) {dc em mir : Addr} (SD : Sta Z Z.heap "java/util/ArrayList" "DEFAULTCAPACITY_EMPTY_ELEMENTDATA" "[Ljava/lang/Object;" (.ref dc)) (SE : Sta Z Z.heap "java/util/ImmutableCollections" "EMPTY" "Ljava/lang/Object;" (.ref em)) (Ld : dc < Z.heap.size) (Le : em < Z.heap.size) (MI : MirC Z "[Ljava/lang/Object;" mir) (x : Int32) (h : Heap) :
    MetW true l Z [("java/lang/String", 7)] (⟨"com/example/warm_suite/warmsuite/core/engine/HolderToStringPinLaw", "key", "(I)Ljava/lang/String;"⟩ : MethodName) method_2_code 4 (Option.some (Jvm.ClassFile.FieldType.object "java/lang/String")) [] ({ frames := 4, cells := 6, slots := 12, locals := 66 } : Room) #[(.int x)] [] h (fun v h' => ∃ s : Addr, v = some (.ref s) ∧ h.size ≤ s ∧ Exa Z h' s "java/lang/String") := by
  refine MetW.of (Ls := #[.val (.int x), .unset, .unset, .unset]) (a0 := a0) (by first | (simp [plainName, overriddenIn]; done) | decide +kernel) (fun m => by first | (simp [entryFrame, mkF, argsToLocals, Value.category]; done) | rfl) (own_EW hw) (fun q => nomatch q) (fun p_ e_ s_ m_ below_ meth_ c_ hs0 C => ?_)
  refine g_iloadN C dA_0 rfl ?_
  refine g_sipush (255 : Int32) C dA_1 (by decide) ?_
  refine g_iand _ C dA_4 rfl ?_
  refine g_i2c (x &&& (255 : Int32)) C dA_5 (i2c_mask _) ?_
  obtain ⟨c0, hc0⟩ : ∃ z : Int32, z = (x &&& (255 : Int32)) := ⟨_, rfl⟩
  rw [← hc0]
  have bc1 : ¬ c0 < 0 ∧ ¬ (255 : Int32) < c0 := hc0 ▸ own_mask255 _
  show Go _ _ _ _ _ _ _ _ _ _ _ _ _ _ _ _ _ _ _ _ _ _ (mkF _ 6 #[.val (.int x), .unset, .unset, .unset] [(.int c0)])
  refine g_istoreN #[.val (.int x), .val (.int c0), .unset, .unset] C dA_6 rfl ?_
  refine g_iloadN C dA_7 rfl ?_
  refine g_bipush (8 : Int32) C dA_8 (by decide) ?_
  refine g_iushr _ C dA_10 rfl ?_
  refine g_sipush (255 : Int32) C dA_11 (by decide) ?_
  refine g_iand _ C dA_14 rfl ?_
  refine g_i2c ((XT.ushr x (8 : Int32)) &&& (255 : Int32)) C dA_15 (i2c_mask _) ?_
  obtain ⟨c1, hc1⟩ : ∃ z : Int32, z = ((XT.ushr x (8 : Int32)) &&& (255 : Int32)) := ⟨_, rfl⟩
  rw [← hc1]
  have bc2 : ¬ c1 < 0 ∧ ¬ (255 : Int32) < c1 := hc1 ▸ own_mask255 _
  show Go _ _ _ _ _ _ _ _ _ _ _ _ _ _ _ _ _ _ _ _ _ _ (mkF _ 16 #[.val (.int x), .val (.int c0), .unset, .unset] [(.int c1)])
  refine g_istoreN #[.val (.int x), .val (.int c0), .val (.int c1), .unset] C dA_16 rfl ?_
  refine g_iloadN C dA_17 rfl ?_
  refine g_bipush (16 : Int32) C dA_18 (by decide) ?_
  refine g_iushr _ C dA_20 rfl ?_
  refine g_iconst (3 : Int32) C dA_21 (by decide) ?_
  refine g_iand _ C dA_22 rfl ?_
  refine g_iconst (3 : Int32) C dA_23 (by decide) ?_
  refine g_irem _ C dA_24 (by decide) rfl ?_
  obtain ⟨v3_1, hv3_1⟩ : ∃ z : Int32, z = (((XT.ushr x (16 : Int32)) &&& (3 : Int32)) - (((XT.ushr x (16 : Int32)) &&& (3 : Int32)) / (3 : Int32)) * (3 : Int32)) := ⟨_, rfl⟩
  rw [← hv3_1]
  refine g_istoreN #[.val (.int x), .val (.int c0), .val (.int c1), .val (.int v3_1)] C dA_25 rfl ?_
  refine g_iloadN C dA_26 rfl ?_
  by_cases cc2 : v3_1 = (0 : Int32)
  · skip
    refine g_ifF C dA_27 (show v3_1 = (0 : Int32) from cc2) ?_
    refine g_new_ C dA_30 (hw _ (List.mem_of_getElem? (i := 4) rfl)) (hw _ (List.mem_of_getElem? (i := 5) rfl)) (hw _ (List.mem_of_getElem? (i := 6) rfl)) (by decide) (by decide) (fun a3 h4 e5 E6 l7 f8 D9 => ?_)
    have K10 := keep_ext E6
    have f11 : Fld Z h4 a3 "java/lang/String" "value" "[B" .null := D9 (Or.inr (hw _ (List.mem_of_getElem? (i := 20) rfl))) (ty := (.array .byte)) (by decide)
    have f12 : Fld Z h4 a3 "java/lang/String" "coder" "B" (.int (0 : Int32)) := D9 (Or.inr (hw _ (List.mem_of_getElem? (i := 21) rfl))) (ty := .byte) (by decide)
    refine g_dup C dA_33 rfl ?_
    refine g_iconst (0 : Int32) C dA_34 (by decide) ?_
    refine g_newarray_ (ad := "[C") 0 [] C dA_35 (hw _ (List.mem_of_getElem? (i := 7) rfl)) (by decide) (by decide) (by decide) (by decide) (by decide) (by decide) (by decide) (fun a13 h14 e15 E16 l17 f18 f19 => ?_)
    have K20 := keep_ext E16
    have f25 := (f8.keep K20)
    have f26 := (f11.keep K20 nin0)
    have f27 := (f12.keep K20 nin0)
    refine g_invokespecial [(.ref a13)] [(.ref a3)] 1 C dA_37 rfl (hw _ (List.mem_of_getElem? (i := 8) rfl)) (hw _ (List.mem_of_getElem? (i := 9) rfl)) (hw _ (List.mem_of_getElem? (i := 6) rfl)) (hw _ (List.mem_of_getElem? (i := 10) rfl)) (by decide) (m_str1 l Z a0 hw S0 hz0 SD SE Ld Le MI a3 a13 _ f25 f26 f27 f19) (lenOf pd4 rfl) rfl rfl (Nat.le_of_ble_eq_true rfl) (by decide) (by decide) (by decide) (by decide) (allS (List.mem_of_getElem? (i := 1) rfl) all0) (fun v28 h29 L30 q31 K32 => ?_)
    obtain ⟨rfl, t21, l22, n23, f24⟩ := q31
    show Go _ _ _ _ _ _ _ _ _ _ _ _ _ _ _ _ _ _ _ _ _ _ (mkF _ 40 #[.val (.int x), .val (.int c0), .val (.int c1), .val (.int v3_1)] [(.ref a3)])
    have f33 := f24.1
    exact g_retA C dA_40 rfl rfl ⟨a3, rfl, Nat.le_trans (Nat.le_refl _) (Nat.le_of_eq e5.symm), f33⟩ (by decide) (by decide)
  · skip
    refine g_ifT 41 C dA_27 (show ¬ v3_1 = (0 : Int32) from cc2) (by decide) (by decide) ?_
    refine g_iloadN C dA_41 rfl ?_
    refine g_iconst (1 : Int32) C dA_42 (by decide) ?_
    by_cases cc34 : v3_1 = (1 : Int32)
    · skip
      refine g_icmpF C dA_43 (show v3_1 = (1 : Int32) from cc34) ?_
      refine g_iloadN C dA_46 rfl ?_
      refine g_invokestatic [(.int c0)] [] 0 C dA_47 (hw _ (List.mem_of_getElem? (i := 220) rfl)) (hw _ (List.mem_of_getElem? (i := 221) rfl)) (hw _ (List.mem_of_getElem? (i := 6) rfl)) (hw _ (List.mem_of_getElem? (i := 222) rfl)) (by decide) (m_valueOf l Z a0 hw S0 hz0 SD SE Ld Le MI c0 bc1 _) (lenOf pd5 rfl) rfl rfl (Nat.le_of_ble_eq_true rfl) (by decide) (by decide) (by decide) (by decide) all0 (fun v40 h41 L42 q43 K44 => ?_)
      obtain ⟨a35, t36, rfl, g37, l38, f39⟩ := q43
      have f45 := f39.1
      show Go _ _ _ _ _ _ _ _ _ _ _ _ _ _ _ _ _ _ _ _ _ _ (mkF _ 50 #[.val (.int x), .val (.int c0), .val (.int c1), .val (.int v3_1)] [(.ref a35)])
      exact g_retA C dA_50 rfl rfl ⟨a35, rfl, Nat.le_trans (Nat.le_refl _) g37, f45⟩ (by decide) (by decide)
    · skip
      refine g_icmpT 51 C dA_43 (show ¬ v3_1 = (1 : Int32) from cc34) (by decide) (by decide) ?_
      refine g_new_ C dA_51 (hw _ (List.mem_of_getElem? (i := 4) rfl)) (hw _ (List.mem_of_getElem? (i := 5) rfl)) (hw _ (List.mem_of_getElem? (i := 6) rfl)) (by decide) (by decide) (fun a46 h47 e48 E49 l50 f51 D52 => ?_)
      have K53 := keep_ext E49
      have f54 : Fld Z h47 a46 "java/lang/String" "value" "[B" .null := D52 (Or.inr (hw _ (List.mem_of_getElem? (i := 20) rfl))) (ty := (.array .byte)) (by decide)
      have f55 : Fld Z h47 a46 "java/lang/String" "coder" "B" (.int (0 : Int32)) := D52 (Or.inr (hw _ (List.mem_of_getElem? (i := 21) rfl))) (ty := .byte) (by decide)
      refine g_dup C dA_54 rfl ?_
      refine g_iconst (2 : Int32) C dA_55 (by decide) ?_
      refine g_newarray_ (ad := "[C") 2 [(.int (0 : Int32)), (.int (0 : Int32))] C dA_56 (hw _ (List.mem_of_getElem? (i := 7) rfl)) (by decide) (by decide) (by decide) (by decide) (by decide) (by decide) (by decide) (fun a56 h57 e58 E59 l60 f61 f62 => ?_)
      have K63 := keep_ext E59
      refine g_dup C dA_58 rfl ?_
      refine g_iconst (0 : Int32) C dA_59 (by decide) ?_
      refine g_iloadN C dA_60 rfl ?_
      refine g_castore 0 C dA_61 f62 (by decide) (by decide) (Nat.le_of_ble_eq_true rfl) (List.mem_of_getElem? (i := 0) rfl) (fun h64 K65 z66 f67 => ?_)
      have f68 : Av Z h64 a56 .char [(.int c0), (.int (0 : Int32))] := (show nar .char c0 = c0 from own_narc bc1) ▸ f67
      refine g_dup C dA_62 rfl ?_
      refine g_iconst (1 : Int32) C dA_63 (by decide) ?_
      refine g_iloadN C dA_64 rfl ?_
      refine g_castore 1 C dA_65 f68 (by decide) (by decide) (Nat.le_of_ble_eq_true rfl) (List.mem_of_getElem? (i := 0) rfl) (fun h69 K70 z71 f72 => ?_)
      have f73 : Av Z h69 a56 .char [(.int c0), (.int c1)] := (show nar .char c1 = c1 from own_narc bc2) ▸ f72
      have f81 := (((f51.keep K63).keep K65).keep K70)
      have f82 := (((f54.keep K63 nin0).keep K65 (ninS (Nat.ne_of_lt (Nat.lt_of_lt_of_le l50 (Nat.le_of_eq e58.symm))) nin0)).keep K70 (ninS (Nat.ne_of_lt (Nat.lt_of_lt_of_le l50 (Nat.le_of_eq e58.symm))) nin0))
      have f83 := (((f55.keep K63 nin0).keep K65 (ninS (Nat.ne_of_lt (Nat.lt_of_lt_of_le l50 (Nat.le_of_eq e58.symm))) nin0)).keep K70 (ninS (Nat.ne_of_lt (Nat.lt_of_lt_of_le l50 (Nat.le_of_eq e58.symm))) nin0))
      refine g_newStr (cs := [c0, c1]) 2 [(.ref a46)] 1 C dA_66 (own_hws hw) (hw _ (List.mem_of_getElem? (i := 5) rfl)) (hw _ (List.mem_of_getElem? (i := 8) rfl)) (hw _ (List.mem_of_getElem? (i := 9) rfl)) (hw _ (List.mem_of_getElem? (i := 10) rfl)) f81 f82 f83 f73 S0 hz0 rfl (by decide) (by decide) (own_allS bc1 (own_allS bc2 own_all0)) rfl (Nat.le_of_ble_eq_true rfl) (by decide) (by decide) (by decide) (by decide) (List.mem_of_getElem? (i := 1) rfl) (fun t74 h75 L76 g77 l78 f79 K80 => ?_)
      have f84 := f79.1
      exact g_retA C dA_69 rfl rfl ⟨a46, rfl, Nat.le_trans (Nat.le_refl _) (Nat.le_of_eq e48.symm), f84⟩ (by decide) (by decide)
theorem dB_0 : decode jdk_22_method_1_code 0 = .ok (.aload_n 0, 1) := by decide +kernel
theorem dB_1 : decode jdk_22_method_1_code 1 = .ok (.invokespecial 1, 3) := by decide +kernel
theorem dB_4 : decode jdk_22_method_1_code 4 = .ok (.return_, 1) := by decide +kernel
set_option maxRecDepth 65536 in
set_option maxHeartbeats 80000000 in
theorem m_abc (l : Launch) (Z : State) (a0 : Array Value) {z0 : Int32} (hw : ∀ d ∈ tables_1, d.before a0 Z = true) (S0 : Sta Z Z.heap "java/lang/String" "COMPACT_STRINGS" "Z" (.int z0)) (hz0 : ¬ z0 = 0) {dc em mir : Addr} (SD : Sta Z Z.heap "java/util/ArrayList" "DEFAULTCAPACITY_EMPTY_ELEMENTDATA" "[Ljava/lang/Object;" (.ref dc)) (SE : Sta Z Z.heap "java/util/ImmutableCollections" "EMPTY" "Ljava/lang/Object;" (.ref em)) (Ld : dc < Z.heap.size) (Le : em < Z.heap.size) (MI : MirC Z "[Ljava/lang/Object;" mir) (a : Addr) (h : Heap) :
    MetW true l Z [("java/lang/String", 7)] (⟨"java/util/AbstractCollection", "<init>", "()V"⟩ : MethodName) jdk_22_method_1_code 1 none [] ({ frames := 1, cells := 0, slots := 0, locals := 12 } : Room) #[(.ref a)] [] h (fun v h' => v = none) := by
  refine MetW.of (Ls := #[.val (.ref a)]) (a0 := a0) (by first | (simp [plainName, overriddenIn]; done) | decide +kernel) (fun m => by first | (simp [entryFrame, mkF, argsToLocals, Value.category]; done) | rfl) (own_EW hw) (fun q => nomatch q) (fun p_ e_ s_ m_ below_ meth_ c_ hs0 C => ?_)
  refine g_aloadN C dB_0 rfl rfl ?_
  refine g_objInit C dB_1 (hw _ (List.mem_of_getElem? (i := 44) rfl)) (hw _ (List.mem_of_getElem? (i := 16) rfl)) (hw _ (List.mem_of_getElem? (i := 17) rfl)) rfl (by decide) (Nat.le_of_ble_eq_true rfl) ?_
  exact g_retU C dB_4 rfl (by decide) (by decide)
theorem dB2_0 : decode jdk_47_method_1_code 0 = .ok (.aload_n 0, 1) := by decide +kernel
theorem dB2_1 : decode jdk_47_method_1_code 1 = .ok (.invokespecial 1, 3) := by decide +kernel
theorem dB2_4 : decode jdk_47_method_1_code 4 = .ok (.return_, 1) := by decide +kernel
set_option maxRecDepth 65536 in
set_option maxHeartbeats 80000000 in
theorem m_aic (l : Launch) (Z : State) (a0 : Array Value) {z0 : Int32} (hw : ∀ d ∈ tables_1, d.before a0 Z = true) (S0 : Sta Z Z.heap "java/lang/String" "COMPACT_STRINGS" "Z" (.int z0)) (hz0 : ¬ z0 = 0) {dc em mir : Addr} (SD : Sta Z Z.heap "java/util/ArrayList" "DEFAULTCAPACITY_EMPTY_ELEMENTDATA" "[Ljava/lang/Object;" (.ref dc)) (SE : Sta Z Z.heap "java/util/ImmutableCollections" "EMPTY" "Ljava/lang/Object;" (.ref em)) (Ld : dc < Z.heap.size) (Le : em < Z.heap.size) (MI : MirC Z "[Ljava/lang/Object;" mir) (a : Addr) (h : Heap) :
    MetW true l Z [("java/lang/String", 7)] (⟨"java/util/ImmutableCollections$AbstractImmutableCollection", "<init>", "()V"⟩ : MethodName) jdk_47_method_1_code 1 none [] ({ frames := 2, cells := 0, slots := 0, locals := 24 } : Room) #[(.ref a)] [] h (fun v h' => v = none) := by
  refine MetW.of (Ls := #[.val (.ref a)]) (a0 := a0) (by first | (simp [plainName, overriddenIn]; done) | decide +kernel) (fun m => by first | (simp [entryFrame, mkF, argsToLocals, Value.category]; done) | rfl) (own_EW hw) (fun q => nomatch q) (fun p_ e_ s_ m_ below_ meth_ c_ hs0 C => ?_)
  refine g_aloadN C dB2_0 rfl rfl ?_
  refine g_invokespecial [] [] 0 C dB2_1 rfl (hw _ (List.mem_of_getElem? (i := 168) rfl)) (hw _ (List.mem_of_getElem? (i := 39) rfl)) (hw _ (List.mem_of_getElem? (i := 42) rfl)) (hw _ (List.mem_of_getElem? (i := 43) rfl)) (by decide) (m_abc l Z a0 hw S0 hz0 SD SE Ld Le MI _ _) (lenOf pd6 rfl) rfl rfl (Nat.le_of_ble_eq_true rfl) (by decide) (by decide) (by decide) (by decide) all0 (fun v1 h2 L3 q4 K5 => ?_)
  obtain rfl := q4
  show Go _ _ _ _ _ _ _ _ _ _ _ _ _ _ _ _ _ _ _ _ _ _ (mkF _ 4 #[.val (.ref a)] [])
  exact g_retU C dB2_4 rfl (by decide) (by decide)
theorem dB3_0 : decode jdk_46_method_1_code 0 = .ok (.aload_n 0, 1) := by decide +kernel
theorem dB3_1 : decode jdk_46_method_1_code 1 = .ok (.invokespecial 1, 3) := by decide +kernel
theorem dB3_4 : decode jdk_46_method_1_code 4 = .ok (.return_, 1) := by decide +kernel
set_option maxRecDepth 65536 in
set_option maxHeartbeats 80000000 in
theorem m_ail (l : Launch) (Z : State) (a0 : Array Value) {z0 : Int32} (hw : ∀ d ∈ tables_1, d.before a0 Z = true) (S0 : Sta Z Z.heap "java/lang/String" "COMPACT_STRINGS" "Z" (.int z0)) (hz0 : ¬ z0 = 0) {dc em mir : Addr} (SD : Sta Z Z.heap "java/util/ArrayList" "DEFAULTCAPACITY_EMPTY_ELEMENTDATA" "[Ljava/lang/Object;" (.ref dc)) (SE : Sta Z Z.heap "java/util/ImmutableCollections" "EMPTY" "Ljava/lang/Object;" (.ref em)) (Ld : dc < Z.heap.size) (Le : em < Z.heap.size) (MI : MirC Z "[Ljava/lang/Object;" mir) (a : Addr) (h : Heap) :
    MetW true l Z [("java/lang/String", 7)] (⟨"java/util/ImmutableCollections$AbstractImmutableList", "<init>", "()V"⟩ : MethodName) jdk_46_method_1_code 1 none [] ({ frames := 3, cells := 0, slots := 0, locals := 36 } : Room) #[(.ref a)] [] h (fun v h' => v = none) := by
  refine MetW.of (Ls := #[.val (.ref a)]) (a0 := a0) (by first | (simp [plainName, overriddenIn]; done) | decide +kernel) (fun m => by first | (simp [entryFrame, mkF, argsToLocals, Value.category]; done) | rfl) (own_EW hw) (fun q => nomatch q) (fun p_ e_ s_ m_ below_ meth_ c_ hs0 C => ?_)
  refine g_aloadN C dB3_0 rfl rfl ?_
  refine g_invokespecial [] [] 0 C dB3_1 rfl (hw _ (List.mem_of_getElem? (i := 162) rfl)) (hw _ (List.mem_of_getElem? (i := 163) rfl)) (hw _ (List.mem_of_getElem? (i := 166) rfl)) (hw _ (List.mem_of_getElem? (i := 167) rfl)) (by decide) (m_aic l Z a0 hw S0 hz0 SD SE Ld Le MI _ _) (lenOf pd6 rfl) rfl rfl (Nat.le_of_ble_eq_true rfl) (by decide) (by decide) (by decide) (by decide) all0 (fun v1 h2 L3 q4 K5 => ?_)
  obtain rfl := q4
  show Go _ _ _ _ _ _ _ _ _ _ _ _ _ _ _ _ _ _ _ _ _ _ (mkF _ 4 #[.val (.ref a)] [])
  exact g_retU C dB3_4 rfl (by decide) (by decide)
theorem dB4_0 : decode jdk_39_method_1_code 0 = .ok (.aload_n 0, 1) := by decide +kernel
theorem dB4_1 : decode jdk_39_method_1_code 1 = .ok (.invokespecial 1, 3) := by decide +kernel
theorem dB4_4 : decode jdk_39_method_1_code 4 = .ok (.aload_n 0, 1) := by decide +kernel
theorem dB4_5 : decode jdk_39_method_1_code 5 = .ok (.iconst 0, 1) := by decide +kernel
theorem dB4_6 : decode jdk_39_method_1_code 6 = .ok (.putfield 7, 3) := by decide +kernel
theorem dB4_9 : decode jdk_39_method_1_code 9 = .ok (.return_, 1) := by decide +kernel
set_option maxRecDepth 65536 in
set_option maxHeartbeats 80000000 in
theorem m_abl (l : Launch) (Z : State) (a0 : Array Value) {z0 : Int32} (hw : ∀ d ∈ tables_1, d.before a0 Z = true) (S0 : Sta Z Z.heap "java/lang/String" "COMPACT_STRINGS" "Z" (.int z0)) (hz0 : ¬ z0 = 0) {dc em mir : Addr} (SD : Sta Z Z.heap "java/util/ArrayList" "DEFAULTCAPACITY_EMPTY_ELEMENTDATA" "[Ljava/lang/Object;" (.ref dc)) (SE : Sta Z Z.heap "java/util/ImmutableCollections" "EMPTY" "Ljava/lang/Object;" (.ref em)) (Ld : dc < Z.heap.size) (Le : em < Z.heap.size) (MI : MirC Z "[Ljava/lang/Object;" mir) (a : Addr) (h : Heap) (E : Exa Z h a "java/util/ArrayList") (F0 : Fld Z h a "java/util/AbstractList" "modCount" "I" (.int (0 : Int32))) (F1 : Fld Z h a "java/util/ArrayList" "elementData" "[Ljava/lang/Object;" .null) (F2 : Fld Z h a "java/util/ArrayList" "size" "I" (.int (0 : Int32))) :
    MetW true l Z [("java/lang/String", 7)] (⟨"java/util/AbstractList", "<init>", "()V"⟩ : MethodName) jdk_39_method_1_code 1 none [] ({ frames := 2, cells := 0, slots := 0, locals := 24 } : Room) #[(.ref a)] [a] h (fun v h' => v = none ∧ Exa Z h' a "java/util/ArrayList" ∧ Fld Z h' a "java/util/AbstractList" "modCount" "I" (.int (0 : Int32)) ∧ Fld Z h' a "java/util/ArrayList" "elementData" "[Ljava/lang/Object;" .null ∧ Fld Z h' a "java/util/ArrayList" "size" "I" (.int (0 : Int32))) := by
  refine MetW.of (Ls := #[.val (.ref a)]) (a0 := a0) (by first | (simp [plainName, overriddenIn]; done) | decide +kernel) (fun m => by first | (simp [entryFrame, mkF, argsToLocals, Value.category]; done) | rfl) (own_EW hw) (fun q => nomatch q) (fun p_ e_ s_ m_ below_ meth_ c_ hs0 C => ?_)
  refine Go.know (fun hX _ hM => ?_)
  refine g_aloadN C dB4_0 rfl rfl ?_
  refine g_invokespecial [] [] 0 C dB4_1 rfl (hw _ (List.mem_of_getElem? (i := 38) rfl)) (hw _ (List.mem_of_getElem? (i := 39) rfl)) (hw _ (List.mem_of_getElem? (i := 42) rfl)) (hw _ (List.mem_of_getElem? (i := 43) rfl)) (by decide) (m_abc l Z a0 hw S0 hz0 SD SE Ld Le MI _ _) (lenOf pd6 rfl) rfl rfl (Nat.le_of_ble_eq_true rfl) (by decide) (by decide) (by decide) (by decide) all0 (fun v1 h2 L3 q4 K5 => ?_)
  obtain rfl := q4
  show Go _ _ _ _ _ _ _ _ _ _ _ _ _ _ _ _ _ _ _ _ _ _ (mkF _ 4 #[.val (.ref a)] [])
  refine g_aloadN C dB4_4 rfl rfl ?_
  refine g_iconst (0 : Int32) C dB4_5 (by decide) ?_
  have f6 := (F0.keep K5 nin0)
  have f7 := (E.keep K5)
  have f8 := (F1.keep K5 nin0)
  have f9 := (F2.keep K5 nin0)
  refine g_putfield (host := "") C dB4_6 (Or.inl (hw _ (List.mem_of_getElem? (i := 45) rfl))) Via.refl f6 f7 (Or.inl (hw _ (List.mem_of_getElem? (i := 46) rfl))) (hw _ (List.mem_of_getElem? (i := 27) rfl)) (ty := .int) (by decide) rfl rfl (List.mem_of_getElem? (i := 0) rfl) (fun h10 W11 K12 => ?_)
  have f13 := Fld.same W11 f6
  have f14 := Fld.other W11 f8 (Or.inr (slot_ne (Or.inl (hw _ (List.mem_of_getElem? (i := 49) rfl))) (Or.inl (hw _ (List.mem_of_getElem? (i := 46) rfl))) (by decide) (t := (.array (.object "java/lang/Object"))) (t' := .int) (by decide) (by decide)))
  have f15 := Fld.other W11 f9 (Or.inr (slot_ne (Or.inl (hw _ (List.mem_of_getElem? (i := 58) rfl))) (Or.inl (hw _ (List.mem_of_getElem? (i := 46) rfl))) (by decide) (t := .int) (t' := .int) (by decide) (by decide)))
  have f16 := (f7.keep K12)
  exact g_retU C dB4_9 ⟨rfl, f16, f13, f14, f15⟩ (by decide) (by decide)
theorem dC_0 : decode jdk_38_method_2_code 0 = .ok (.aload_n 0, 1) := by decide +kernel
theorem dC_1 : decode jdk_38_method_2_code 1 = .ok (.invokespecial 1, 3) := by decide +kernel
theorem dC_4 : decode jdk_38_method_2_code 4 = .ok (.aload_n 0, 1) := by decide +kernel
theorem dC_5 : decode jdk_38_method_2_code 5 = .ok (.getstatic 39, 3) := by decide +kernel
theorem dC_8 : decode jdk_38_method_2_code 8 = .ok (.putfield 9, 3) := by decide +kernel
theorem dC_11 : decode jdk_38_method_2_code 11 = .ok (.return_, 1) := by decide +kernel
set_option maxRecDepth 65536 in
set_option maxHeartbeats 80000000 in
theorem m_alInit (l : Launch) (Z : State) (a0 : Array Value) {z0 : Int32} (hw : ∀ d ∈ tables_1, d.before a0 Z = true) (S0 : Sta Z Z.heap "java/lang/String" "COMPACT_STRINGS" "Z" (.int z0)) (hz0 : ¬ z0 = 0) {dc em mir : Addr} (SD : Sta Z Z.heap "java/util/ArrayList" "DEFAULTCAPACITY_EMPTY_ELEMENTDATA" "[Ljava/lang/Object;" (.ref dc)) (SE : Sta Z Z.heap "java/util/ImmutableCollections" "EMPTY" "Ljava/lang/Object;" (.ref em)) (Ld : dc < Z.heap.size) (Le : em < Z.heap.size) (MI : MirC Z "[Ljava/lang/Object;" mir) (a : Addr) (h : Heap) (E : Exa Z h a "java/util/ArrayList") (F0 : Fld Z h a "java/util/AbstractList" "modCount" "I" (.int (0 : Int32))) (F1 : Fld Z h a "java/util/ArrayList" "elementData" "[Ljava/lang/Object;" .null) (F2 : Fld Z h a "java/util/ArrayList" "size" "I" (.int (0 : Int32))) :
    MetW true l Z [("java/lang/String", 7)] (⟨"java/util/ArrayList", "<init>", "()V"⟩ : MethodName) jdk_38_method_2_code 1 none [] ({ frames := 3, cells := 0, slots := 0, locals := 36 } : Room) #[(.ref a)] [a] h (fun v h' => v = none ∧ Exa Z h' a "java/util/ArrayList" ∧ Fld Z h' a "java/util/AbstractList" "modCount" "I" (.int (0 : Int32)) ∧ Fld Z h' a "java/util/ArrayList" "elementData" "[Ljava/lang/Object;" (.ref dc) ∧ Fld Z h' a "java/util/ArrayList" "size" "I" (.int (0 : Int32))) := by
  refine MetW.of (Ls := #[.val (.ref a)]) (a0 := a0) (by first | (simp [plainName, overriddenIn]; done) | decide +kernel) (fun m => by first | (simp [entryFrame, mkF, argsToLocals, Value.category]; done) | rfl) (own_EW hw) (fun q => nomatch q) (fun p_ e_ s_ m_ below_ meth_ c_ hs0 C => ?_)
  refine Go.know (fun hX _ hM => ?_)
  refine g_aloadN C dC_0 rfl rfl ?_
  refine g_invokespecial [] [] 0 C dC_1 rfl (hw _ (List.mem_of_getElem? (i := 32) rfl)) (hw _ (List.mem_of_getElem? (i := 33) rfl)) (hw _ (List.mem_of_getElem? (i := 36) rfl)) (hw _ (List.mem_of_getElem? (i := 37) rfl)) (by decide) (m_abl l Z a0 hw S0 hz0 SD SE Ld Le MI a _ E F0 F1 F2) (lenOf pd6 rfl) rfl rfl (Nat.le_of_ble_eq_true rfl) (by decide) (by decide) (by decide) (by decide) (allS (List.mem_of_getElem? (i := 0) rfl) all0) (fun v5 h6 L7 q8 K9 => ?_)
  obtain ⟨rfl, f1, f2, f3, f4⟩ := q8
  show Go _ _ _ _ _ _ _ _ _ _ _ _ _ _ _ _ _ _ _ _ _ _ (mkF _ 4 #[.val (.ref a)] [])
  refine g_aloadN C dC_4 rfl rfl ?_
  refine g_getstatic (host := "") C dC_5 (Or.inl (hw _ (List.mem_of_getElem? (i := 47) rfl))) Via.refl SD ?_
  refine g_putfield (host := "") C dC_8 (Or.inl (hw _ (List.mem_of_getElem? (i := 48) rfl))) Via.refl f3 f1 (Or.inl (hw _ (List.mem_of_getElem? (i := 49) rfl))) (hw _ (List.mem_of_getElem? (i := 27) rfl)) (ty := (.array (.object "java/lang/Object"))) (by decide) rfl rfl (List.mem_of_getElem? (i := 0) rfl) (fun h10 W11 K12 => ?_)
  have f13 := Fld.same W11 f3
  have f14 := Fld.other W11 f2 (Or.inr (slot_ne (Or.inl (hw _ (List.mem_of_getElem? (i := 46) rfl))) (Or.inl (hw _ (List.mem_of_getElem? (i := 49) rfl))) (by decide) (t := .int) (t' := (.array (.object "java/lang/Object"))) (by decide) (by decide)))
  have f15 := Fld.other W11 f4 (Or.inr (slot_ne (Or.inl (hw _ (List.mem_of_getElem? (i := 58) rfl))) (Or.inl (hw _ (List.mem_of_getElem? (i := 49) rfl))) (by decide) (t := .int) (t' := (.array (.object "java/lang/Object"))) (by decide) (by decide)))
  have f16 := (f1.keep K12)
  exact g_retU C dC_11 ⟨rfl, f16, f14, f13, f15⟩ (by decide) (by decide)
theorem dD_0 : decode jdk_29_method_65_code 0 = .ok (.iload_n 0, 1) := by decide +kernel
theorem dD_1 : decode jdk_29_method_65_code 1 = .ok (.iload_n 1, 1) := by decide +kernel
theorem dD_2 : decode jdk_29_method_65_code 2 = .ok (.if_icmp .lt 7, 3) := by decide +kernel
theorem dD_5 : decode jdk_29_method_65_code 5 = .ok (.iload_n 0, 1) := by decide +kernel
theorem dD_6 : decode jdk_29_method_65_code 6 = .ok (.goto 4, 3) := by decide +kernel
theorem dD_10 : decode jdk_29_method_65_code 10 = .ok (.ireturn, 1) := by decide +kernel
set_option maxRecDepth 65536 in
set_option maxHeartbeats 80000000 in
theorem m_max (l : Launch) (Z : State) (a0 : Array Value) {z0 : Int32} (hw : ∀ d ∈ tables_1, d.before a0 Z = true) (S0 : Sta Z Z.heap "java/lang/String" "COMPACT_STRINGS" "Z" (.int z0)) (hz0 : ¬ z0 = 0) {dc em mir : Addr} (SD : Sta Z Z.heap "java/util/ArrayList" "DEFAULTCAPACITY_EMPTY_ELEMENTDATA" "[Ljava/lang/Object;" (.ref dc)) (SE : Sta Z Z.heap "java/util/ImmutableCollections" "EMPTY" "Ljava/lang/Object;" (.ref em)) (Ld : dc < Z.heap.size) (Le : em < Z.heap.size) (MI : MirC Z "[Ljava/lang/Object;" mir) (h : Heap) :
    MetW true l Z [("java/lang/String", 7)] (⟨"java/lang/Math", "max", "(II)I"⟩ : MethodName) jdk_29_method_65_code 2 (Option.some Jvm.ClassFile.FieldType.int) [] ({ frames := 0, cells := 0, slots := 0, locals := 0 } : Room) #[(.int (10 : Int32)), (.int (1 : Int32))] [] h (fun v h' => v = some (.int (10 : Int32))) := by
  refine MetW.ofF (Ls := #[.val (.int (10 : Int32)), .val (.int (1 : Int32))]) (a0 := a0) (by decide +kernel) (fun m => by first | (simp [entryFrame, mkF, argsToLocals, Value.category]; done) | rfl) (own_EW hw) (fun q => nomatch q) (fun p_ e_ s_ m_ below_ meth_ c_ hs0 C => ?_)
  refine g_iloadN C dD_0 rfl ?_
  refine g_iloadN C dD_1 rfl ?_
  refine g_icmpF C dD_2 (show ¬ (10 : Int32) < (1 : Int32) by decide) ?_
  refine g_iloadN C dD_5 rfl ?_
  refine g_goto 10 C dD_6 (by decide) (by decide) ?_
  exact g_retI C dD_10 rfl (by decide) (by decide)
theorem dE_0 : decode jdk_29_method_69_code 0 = .ok (.iload_n 0, 1) := by decide +kernel
theorem dE_1 : decode jdk_29_method_69_code 1 = .ok (.iload_n 1, 1) := by decide +kernel
theorem dE_2 : decode jdk_29_method_69_code 2 = .ok (.if_icmp .gt 7, 3) := by decide +kernel
theorem dE_9 : decode jdk_29_method_69_code 9 = .ok (.iload_n 1, 1) := by decide +kernel
theorem dE_10 : decode jdk_29_method_69_code 10 = .ok (.ireturn, 1) := by decide +kernel
set_option maxRecDepth 65536 in
set_option maxHeartbeats 80000000 in
theorem m_min1 (l : Launch) (Z : State) (a0 : Array Value) {z0 : Int32} (hw : ∀ d ∈ tables_1, d.before a0 Z = true) (S0 : Sta Z Z.heap "java/lang/String" "COMPACT_STRINGS" "Z" (.int z0)) (hz0 : ¬ z0 = 0) {dc em mir : Addr} (SD : Sta Z Z.heap "java/util/ArrayList" "DEFAULTCAPACITY_EMPTY_ELEMENTDATA" "[Ljava/lang/Object;" (.ref dc)) (SE : Sta Z Z.heap "java/util/ImmutableCollections" "EMPTY" "Ljava/lang/Object;" (.ref em)) (Ld : dc < Z.heap.size) (Le : em < Z.heap.size) (MI : MirC Z "[Ljava/lang/Object;" mir) (h : Heap) :
    MetW true l Z [("java/lang/String", 7)] (⟨"java/lang/Math", "min", "(II)I"⟩ : MethodName) jdk_29_method_69_code 2 (Option.some Jvm.ClassFile.FieldType.int) [] ({ frames := 0, cells := 0, slots := 0, locals := 0 } : Room) #[(.int (10 : Int32)), (.int (1 : Int32))] [] h (fun v h' => v = some (.int (1 : Int32))) := by
  refine MetW.ofF (Ls := #[.val (.int (10 : Int32)), .val (.int (1 : Int32))]) (a0 := a0) (by decide +kernel) (fun m => by first | (simp [entryFrame, mkF, argsToLocals, Value.category]; done) | rfl) (own_EW hw) (fun q => nomatch q) (fun p_ e_ s_ m_ below_ meth_ c_ hs0 C => ?_)
  refine g_iloadN C dE_0 rfl ?_
  refine g_iloadN C dE_1 rfl ?_
  refine g_icmpT 9 C dE_2 (show (1 : Int32) < (10 : Int32) by decide) (by decide) (by decide) ?_
  refine g_iloadN C dE_9 rfl ?_
  exact g_retI C dE_10 rfl (by decide) (by decide)
set_option maxRecDepth 65536 in
set_option maxHeartbeats 80000000 in
theorem m_min2 (l : Launch) (Z : State) (a0 : Array Value) {z0 : Int32} (hw : ∀ d ∈ tables_1, d.before a0 Z = true) (S0 : Sta Z Z.heap "java/lang/String" "COMPACT_STRINGS" "Z" (.int z0)) (hz0 : ¬ z0 = 0) {dc em mir : Addr} (SD : Sta Z Z.heap "java/util/ArrayList" "DEFAULTCAPACITY_EMPTY_ELEMENTDATA" "[Ljava/lang/Object;" (.ref dc)) (SE : Sta Z Z.heap "java/util/ImmutableCollections" "EMPTY" "Ljava/lang/Object;" (.ref em)) (Ld : dc < Z.heap.size) (Le : em < Z.heap.size) (MI : MirC Z "[Ljava/lang/Object;" mir) (h : Heap) :
    MetW true l Z [("java/lang/String", 7)] (⟨"java/lang/Math", "min", "(II)I"⟩ : MethodName) jdk_29_method_69_code 2 (Option.some Jvm.ClassFile.FieldType.int) [] ({ frames := 0, cells := 0, slots := 0, locals := 0 } : Room) #[(.int (10 : Int32)), (.int (2 : Int32))] [] h (fun v h' => v = some (.int (2 : Int32))) := by
  refine MetW.ofF (Ls := #[.val (.int (10 : Int32)), .val (.int (2 : Int32))]) (a0 := a0) (by decide +kernel) (fun m => by first | (simp [entryFrame, mkF, argsToLocals, Value.category]; done) | rfl) (own_EW hw) (fun q => nomatch q) (fun p_ e_ s_ m_ below_ meth_ c_ hs0 C => ?_)
  refine g_iloadN C dE_0 rfl ?_
  refine g_iloadN C dE_1 rfl ?_
  refine g_icmpT 9 C dE_2 (show (2 : Int32) < (10 : Int32) by decide) (by decide) (by decide) ?_
  refine g_iloadN C dE_9 rfl ?_
  exact g_retI C dE_10 rfl (by decide) (by decide)
set_option maxRecDepth 65536 in
set_option maxHeartbeats 80000000 in
theorem m_min3 (l : Launch) (Z : State) (a0 : Array Value) {z0 : Int32} (hw : ∀ d ∈ tables_1, d.before a0 Z = true) (S0 : Sta Z Z.heap "java/lang/String" "COMPACT_STRINGS" "Z" (.int z0)) (hz0 : ¬ z0 = 0) {dc em mir : Addr} (SD : Sta Z Z.heap "java/util/ArrayList" "DEFAULTCAPACITY_EMPTY_ELEMENTDATA" "[Ljava/lang/Object;" (.ref dc)) (SE : Sta Z Z.heap "java/util/ImmutableCollections" "EMPTY" "Ljava/lang/Object;" (.ref em)) (Ld : dc < Z.heap.size) (Le : em < Z.heap.size) (MI : MirC Z "[Ljava/lang/Object;" mir) (h : Heap) :
    MetW true l Z [("java/lang/String", 7)] (⟨"java/lang/Math", "min", "(II)I"⟩ : MethodName) jdk_29_method_69_code 2 (Option.some Jvm.ClassFile.FieldType.int) [] ({ frames := 0, cells := 0, slots := 0, locals := 0 } : Room) #[(.int (10 : Int32)), (.int (3 : Int32))] [] h (fun v h' => v = some (.int (3 : Int32))) := by
  refine MetW.ofF (Ls := #[.val (.int (10 : Int32)), .val (.int (3 : Int32))]) (a0 := a0) (by decide +kernel) (fun m => by first | (simp [entryFrame, mkF, argsToLocals, Value.category]; done) | rfl) (own_EW hw) (fun q => nomatch q) (fun p_ e_ s_ m_ below_ meth_ c_ hs0 C => ?_)
  refine g_iloadN C dE_0 rfl ?_
  refine g_iloadN C dE_1 rfl ?_
  refine g_icmpT 9 C dE_2 (show (3 : Int32) < (10 : Int32) by decide) (by decide) (by decide) ?_
  refine g_iloadN C dE_9 rfl ?_
  exact g_retI C dE_10 rfl (by decide) (by decide)
theorem dF_0 : decode jdk_38_method_6_code 0 = .ok (.aload_n 0, 1) := by decide +kernel
theorem dF_1 : decode jdk_38_method_6_code 1 = .ok (.getfield 9, 3) := by decide +kernel
theorem dF_4 : decode jdk_38_method_6_code 4 = .ok (.arraylength, 1) := by decide +kernel
theorem dF_5 : decode jdk_38_method_6_code 5 = .ok (.istore_n 2, 1) := by decide +kernel
theorem dF_6 : decode jdk_38_method_6_code 6 = .ok (.iload_n 2, 1) := by decide +kernel
theorem dF_7 : decode jdk_38_method_6_code 7 = .ok (.ifCond .gt 13, 3) := by decide +kernel
theorem dF_10 : decode jdk_38_method_6_code 10 = .ok (.aload_n 0, 1) := by decide +kernel
theorem dF_11 : decode jdk_38_method_6_code 11 = .ok (.getfield 9, 3) := by decide +kernel
theorem dF_14 : decode jdk_38_method_6_code 14 = .ok (.getstatic 39, 3) := by decide +kernel
theorem dF_17 : decode jdk_38_method_6_code 17 = .ok (.if_acmp .eq 28, 3) := by decide +kernel
theorem dF_45 : decode jdk_38_method_6_code 45 = .ok (.aload_n 0, 1) := by decide +kernel
theorem dF_46 : decode jdk_38_method_6_code 46 = .ok (.bipush 10, 2) := by decide +kernel
theorem dF_48 : decode jdk_38_method_6_code 48 = .ok (.iload_n 1, 1) := by decide +kernel
theorem dF_49 : decode jdk_38_method_6_code 49 = .ok (.invokestatic 79, 3) := by decide +kernel
theorem dF_52 : decode jdk_38_method_6_code 52 = .ok (.anewarray 7, 3) := by decide +kernel
theorem dF_55 : decode jdk_38_method_6_code 55 = .ok (.dup_x1, 1) := by decide +kernel
theorem dF_56 : decode jdk_38_method_6_code 56 = .ok (.putfield 9, 3) := by decide +kernel
theorem dF_59 : decode jdk_38_method_6_code 59 = .ok (.areturn, 1) := by decide +kernel
set_option maxRecDepth 65536 in
set_option maxHeartbeats 80000000 in
theorem m_grow1 (l : Launch) (Z : State) (a0 : Array Value) {z0 : Int32} (hw : ∀ d ∈ tables_1, d.before a0 Z = true) (S0 : Sta Z Z.heap "java/lang/String" "COMPACT_STRINGS" "Z" (.int z0)) (hz0 : ¬ z0 = 0) {dc em mir : Addr} (SD : Sta Z Z.heap "java/util/ArrayList" "DEFAULTCAPACITY_EMPTY_ELEMENTDATA" "[Ljava/lang/Object;" (.ref dc)) (SE : Sta Z Z.heap "java/util/ImmutableCollections" "EMPTY" "Ljava/lang/Object;" (.ref em)) (Ld : dc < Z.heap.size) (Le : em < Z.heap.size) (MI : MirC Z "[Ljava/lang/Object;" mir) (a : Addr) (h : Heap) (E : Exa Z h a "java/util/ArrayList") (F0 : Fld Z h a "java/util/AbstractList" "modCount" "I" (.int (1 : Int32))) (F1 : Fld Z h a "java/util/ArrayList" "elementData" "[Ljava/lang/Object;" (.ref dc)) (F2 : Fld Z h a "java/util/ArrayList" "size" "I" (.int (0 : Int32))) (AD : Av Z h dc (.object "java/lang/Object") []) :
    MetW true l Z [("java/lang/String", 7)] (⟨"java/util/ArrayList", "grow", "(I)[Ljava/lang/Object;"⟩ : MethodName) jdk_38_method_6_code 4 (Option.some (Jvm.ClassFile.FieldType.array (Jvm.ClassFile.FieldType.object "java/lang/Object"))) [] ({ frames := 1, cells := 1, slots := 10, locals := 14 } : Room) #[(.ref a), (.int (1 : Int32))] [a] h (fun v h' => ∃ b : Addr, v = some (.ref b) ∧ h.size ≤ b ∧ Exa Z h' a "java/util/ArrayList" ∧ Fld Z h' a "java/util/AbstractList" "modCount" "I" (.int (1 : Int32)) ∧ Fld Z h' a "java/util/ArrayList" "elementData" "[Ljava/lang/Object;" (.ref b) ∧ Fld Z h' a "java/util/ArrayList" "size" "I" (.int (0 : Int32)) ∧ Exa Z h' b "[Ljava/lang/Object;" ∧ Av Z h' b (.object "java/lang/Object") [.null, .null, .null, .null, .null, .null, .null, .null, .null, .null] ∧ OvA Z h' b "java/lang/Object") := by
  refine MetW.of (Ls := #[.val (.ref a), .val (.int (1 : Int32)), .unset, .unset]) (a0 := a0) (by first | (simp [plainName, overriddenIn]; done) | decide +kernel) (fun m => by first | (simp [entryFrame, mkF, argsToLocals, Value.category]; done) | rfl) (own_EW hw) (fun q => nomatch q) (fun p_ e_ s_ m_ below_ meth_ c_ hs0 C => ?_)
  refine Go.know (fun hX _ hM => ?_)
  refine g_aloadN C dF_0 rfl rfl ?_
  refine g_getfield (host := "") C dF_1 (Or.inl (hw _ (List.mem_of_getElem? (i := 48) rfl))) Via.refl F1 ?_
  refine g_alen C dF_4 AD (z := (0 : Int32)) rfl ?_
  refine g_istoreN #[.val (.ref a), .val (.int (1 : Int32)), .val (.int (0 : Int32)), .unset] C dF_5 rfl ?_
  refine g_iloadN C dF_6 rfl ?_
  refine g_ifF C dF_7 (show ¬ (0 : Int32) < (0 : Int32) by decide) ?_
  refine g_aloadN C dF_10 rfl rfl ?_
  refine g_getfield (host := "") C dF_11 (Or.inl (hw _ (List.mem_of_getElem? (i := 48) rfl))) Via.refl F1 ?_
  refine g_getstatic (host := "") C dF_14 (Or.inl (hw _ (List.mem_of_getElem? (i := 47) rfl))) Via.refl SD ?_
  refine g_acmpT 45 C dF_17 rfl rfl rfl (by decide) (by decide) ?_
  refine g_aloadN C dF_45 rfl rfl ?_
  refine g_bipush (10 : Int32) C dF_46 (by decide) ?_
  refine g_iloadN C dF_48 rfl ?_
  refine g_invokestatic [(.int (10 : Int32)), (.int (1 : Int32))] [(.ref a)] 1 C dF_49 (hw _ (List.mem_of_getElem? (i := 74) rfl)) (hw _ (List.mem_of_getElem? (i := 75) rfl)) (hw _ (List.mem_of_getElem? (i := 76) rfl)) (hw _ (List.mem_of_getElem? (i := 77) rfl)) (by decide) (m_max l Z a0 hw S0 hz0 SD SE Ld Le MI _) (lenOf pd7 rfl) rfl rfl (Nat.le_of_ble_eq_true rfl) (by decide) (by decide) (by decide) (by decide) all0 (fun v1 h2 L3 q4 K5 => ?_)
  obtain rfl := q4
  show Go _ _ _ _ _ _ _ _ _ _ _ _ _ _ _ _ _ _ _ _ _ _ (mkF _ 52 #[.val (.ref a), .val (.int (1 : Int32)), .val (.int (0 : Int32)), .unset] [(.int (10 : Int32)), (.ref a)])
  refine g_anewarray_ (ad := "[Ljava/lang/Object;") 10 [.null, .null, .null, .null, .null, .null, .null, .null, .null, .null] C dF_52 (hw _ (List.mem_of_getElem? (i := 78) rfl)) (hw _ (List.mem_of_getElem? (i := 79) rfl)) (by decide) (by decide) (by decide) (by decide) (by decide) (by decide) (by decide) (fun a6 h7 e8 E9 l10 f11 f12 f13 => ?_)
  have K14 := keep_ext E9
  have f13 : OvA Z h7 a6 "java/lang/Object" := f13
  refine g_dupX1 C dF_55 rfl rfl ?_
  have f15 := ((F1.keep K5 nin0).keep K14 nin0)
  have f16 := ((E.keep K5).keep K14)
  have f17 := ((F0.keep K5 nin0).keep K14 nin0)
  have f18 := ((F2.keep K5 nin0).keep K14 nin0)
  refine g_putfield (host := "") C dF_56 (Or.inl (hw _ (List.mem_of_getElem? (i := 48) rfl))) Via.refl f15 f16 (Or.inl (hw _ (List.mem_of_getElem? (i := 49) rfl))) (hw _ (List.mem_of_getElem? (i := 27) rfl)) (ty := (.array (.object "java/lang/Object"))) (by decide) rfl rfl (List.mem_of_getElem? (i := 1) rfl) (fun h19 W20 K21 => ?_)
  have f22 := Fld.same W20 f15
  have f23 := Fld.other W20 f17 (Or.inr (slot_ne (Or.inl (hw _ (List.mem_of_getElem? (i := 46) rfl))) (Or.inl (hw _ (List.mem_of_getElem? (i := 49) rfl))) (by decide) (t := .int) (t' := (.array (.object "java/lang/Object"))) (by decide) (by decide)))
  have f24 := Fld.other W20 f18 (Or.inr (slot_ne (Or.inl (hw _ (List.mem_of_getElem? (i := 58) rfl))) (Or.inl (hw _ (List.mem_of_getElem? (i := 49) rfl))) (by decide) (t := .int) (t' := (.array (.object "java/lang/Object"))) (by decide) (by decide)))
  have f25 := (f16.keep K21)
  have f26 := (f11.keep K21)
  have f27 := (f12.keep K21 (ninS (Nat.ne_of_gt (Nat.lt_of_lt_of_le (Nat.lt_of_lt_of_le E.lt K5.1) (Nat.le_of_eq e8.symm))) nin0))
  have f28 := (f13.keep K21)
  exact g_retA C dF_59 rfl rfl ⟨a6, rfl, Nat.le_trans K5.1 (Nat.le_of_eq e8.symm), f25, f23, f22, f24, f26, f27, f28⟩ (by decide) (by decide)
theorem dG_0 : decode jdk_38_method_7_code 0 = .ok (.aload_n 0, 1) := by decide +kernel
theorem dG_1 : decode jdk_38_method_7_code 1 = .ok (.aload_n 0, 1) := by decide +kernel
theorem dG_2 : decode jdk_38_method_7_code 2 = .ok (.getfield 48, 3) := by decide +kernel
theorem dG_5 : decode jdk_38_method_7_code 5 = .ok (.iconst 1, 1) := by decide +kernel
theorem dG_6 : decode jdk_38_method_7_code 6 = .ok (.iadd, 1) := by decide +kernel
theorem dG_7 : decode jdk_38_method_7_code 7 = .ok (.invokevirtual 69, 3) := by decide +kernel
theorem dG_10 : decode jdk_38_method_7_code 10 = .ok (.areturn, 1) := by decide +kernel
set_option maxRecDepth 65536 in
set_option maxHeartbeats 80000000 in
theorem m_grow (l : Launch) (Z : State) (a0 : Array Value) {z0 : Int32} (hw : ∀ d ∈ tables_1, d.before a0 Z = true) (S0 : Sta Z Z.heap "java/lang/String" "COMPACT_STRINGS" "Z" (.int z0)) (hz0 : ¬ z0 = 0) {dc em mir : Addr} (SD : Sta Z Z.heap "java/util/ArrayList" "DEFAULTCAPACITY_EMPTY_ELEMENTDATA" "[Ljava/lang/Object;" (.ref dc)) (SE : Sta Z Z.heap "java/util/ImmutableCollections" "EMPTY" "Ljava/lang/Object;" (.ref em)) (Ld : dc < Z.heap.size) (Le : em < Z.heap.size) (MI : MirC Z "[Ljava/lang/Object;" mir) (a : Addr) (h : Heap) (E : Exa Z h a "java/util/ArrayList") (F0 : Fld Z h a "java/util/AbstractList" "modCount" "I" (.int (1 : Int32))) (F1 : Fld Z h a "java/util/ArrayList" "elementData" "[Ljava/lang/Object;" (.ref dc)) (F2 : Fld Z h a "java/util/ArrayList" "size" "I" (.int (0 : Int32))) (AD : Av Z h dc (.object "java/lang/Object") []) :
    MetW true l Z [("java/lang/String", 7)] (⟨"java/util/ArrayList", "grow", "()[Ljava/lang/Object;"⟩ : MethodName) jdk_38_method_7_code 1 (Option.some (Jvm.ClassFile.FieldType.array (Jvm.ClassFile.FieldType.object "java/lang/Object"))) [] ({ frames := 2, cells := 1, slots := 10, locals := 29 } : Room) #[(.ref a)] [a] h (fun v h' => ∃ b : Addr, v = some (.ref b) ∧ h.size ≤ b ∧ Exa Z h' a "java/util/ArrayList" ∧ Fld Z h' a "java/util/AbstractList" "modCount" "I" (.int (1 : Int32)) ∧ Fld Z h' a "java/util/ArrayList" "elementData" "[Ljava/lang/Object;" (.ref b) ∧ Fld Z h' a "java/util/ArrayList" "size" "I" (.int (0 : Int32)) ∧ Exa Z h' b "[Ljava/lang/Object;" ∧ Av Z h' b (.object "java/lang/Object") [.null, .null, .null, .null, .null, .null, .null, .null, .null, .null] ∧ OvA Z h' b "java/lang/Object") := by
  refine MetW.of (Ls := #[.val (.ref a)]) (a0 := a0) (by first | (simp [plainName, overriddenIn]; done) | decide +kernel) (fun m => by first | (simp [entryFrame, mkF, argsToLocals, Value.category]; done) | rfl) (own_EW hw) (fun q => nomatch q) (fun p_ e_ s_ m_ below_ meth_ c_ hs0 C => ?_)
  refine Go.know (fun hX _ hM => ?_)
  refine g_aloadN C dG_0 rfl rfl ?_
  refine g_aloadN C dG_1 rfl rfl ?_
  refine g_getfield (host := "") C dG_2 (Or.inl (hw _ (List.mem_of_getElem? (i := 57) rfl))) Via.refl F2 ?_
  refine g_iconst (1 : Int32) C dG_5 (by decide) ?_
  refine g_iadd (1 : Int32) C dG_6 (by decide) ?_
  refine g_invokeprivate [(.int (1 : Int32))] [] 0 C dG_7 (hw _ (List.mem_of_getElem? (i := 69) rfl)) (hw _ (List.mem_of_getElem? (i := 70) rfl)) (hw _ (List.mem_of_getElem? (i := 72) rfl)) (hw _ (List.mem_of_getElem? (i := 71) rfl)) (hw _ (List.mem_of_getElem? (i := 28) rfl)) (hw _ (List.mem_of_getElem? (i := 73) rfl)) (by decide) E (m_grow1 l Z a0 hw S0 hz0 SD SE Ld Le MI a _ E F0 F1 F2 AD) (lenOf pd8 rfl) rfl rfl (Nat.le_of_ble_eq_true rfl) (by decide) (by decide) (by decide) (by decide) (allS (List.mem_of_getElem? (i := 0) rfl) all0) (fun v10 h11 L12 q13 K14 => ?_)
  obtain ⟨b1, rfl, g2, f3, f4, f5, f6, f7, f8, f9⟩ := q13
  show Go _ _ _ _ _ _ _ _ _ _ _ _ _ _ _ _ _ _ _ _ _ _ (mkF _ 10 #[.val (.ref a)] [(.ref b1)])
  exact g_retA C dG_10 rfl rfl ⟨b1, rfl, Nat.le_trans (Nat.le_refl _) g2, f3, f4, f5, f6, f7, f8, f9⟩ (by decide) (by decide)
theorem dH_0 : decode jdk_38_method_24_code 0 = .ok (.iload_n 3, 1) := by decide +kernel
theorem dH_1 : decode jdk_38_method_24_code 1 = .ok (.aload_n 2, 1) := by decide +kernel
theorem dH_2 : decode jdk_38_method_24_code 2 = .ok (.arraylength, 1) := by decide +kernel
theorem dH_3 : decode jdk_38_method_24_code 3 = .ok (.if_icmp .ne 8, 3) := by decide +kernel
theorem dH_6 : decode jdk_38_method_24_code 6 = .ok (.aload_n 0, 1) := by decide +kernel
theorem dH_7 : decode jdk_38_method_24_code 7 = .ok (.invokevirtual 129, 3) := by decide +kernel
theorem dH_10 : decode jdk_38_method_24_code 10 = .ok (.astore_n 2, 1) := by decide +kernel
theorem dH_11 : decode jdk_38_method_24_code 11 = .ok (.aload_n 2, 1) := by decide +kernel
theorem dH_12 : decode jdk_38_method_24_code 12 = .ok (.iload_n 3, 1) := by decide +kernel
theorem dH_13 : decode jdk_38_method_24_code 13 = .ok (.aload_n 1, 1) := by decide +kernel
theorem dH_14 : decode jdk_38_method_24_code 14 = .ok (.aastore, 1) := by decide +kernel
theorem dH_15 : decode jdk_38_method_24_code 15 = .ok (.aload_n 0, 1) := by decide +kernel
theorem dH_16 : decode jdk_38_method_24_code 16 = .ok (.iload_n 3, 1) := by decide +kernel
theorem dH_17 : decode jdk_38_method_24_code 17 = .ok (.iconst 1, 1) := by decide +kernel
theorem dH_18 : decode jdk_38_method_24_code 18 = .ok (.iadd, 1) := by decide +kernel
theorem dH_19 : decode jdk_38_method_24_code 19 = .ok (.putfield 48, 3) := by decide +kernel
theorem dH_22 : decode jdk_38_method_24_code 22 = .ok (.return_, 1) := by decide +kernel
set_option maxRecDepth 65536 in
set_option maxHeartbeats 80000000 in
theorem m_add3_0 (l : Launch) (Z : State) (a0 : Array Value) {z0 : Int32} (hw : ∀ d ∈ tables_1, d.before a0 Z = true) (S0 : Sta Z Z.heap "java/lang/String" "COMPACT_STRINGS" "Z" (.int z0)) (hz0 : ¬ z0 = 0) {dc em mir : Addr} (SD : Sta Z Z.heap "java/util/ArrayList" "DEFAULTCAPACITY_EMPTY_ELEMENTDATA" "[Ljava/lang/Object;" (.ref dc)) (SE : Sta Z Z.heap "java/util/ImmutableCollections" "EMPTY" "Ljava/lang/Object;" (.ref em)) (Ld : dc < Z.heap.size) (Le : em < Z.heap.size) (MI : MirC Z "[Ljava/lang/Object;" mir) (a x : Addr) (h : Heap) (E : Exa Z h a "java/util/ArrayList") (F0 : Fld Z h a "java/util/AbstractList" "modCount" "I" (.int (1 : Int32))) (F1 : Fld Z h a "java/util/ArrayList" "elementData" "[Ljava/lang/Object;" (.ref dc)) (F2 : Fld Z h a "java/util/ArrayList" "size" "I" (.int (0 : Int32))) (X : Exa Z h x "java/lang/String") (AD : Av Z h dc (.object "java/lang/Object") []) :
    MetW true l Z [("java/lang/String", 7)] (⟨"java/util/ArrayList", "add", "(Ljava/lang/Object;[Ljava/lang/Object;I)V"⟩ : MethodName) jdk_38_method_24_code 4 none [] ({ frames := 3, cells := 1, slots := 10, locals := 41 } : Room) #[(.ref a), (.ref x), (.ref dc), (.int (0 : Int32))] [a] h (fun v h' => v = none ∧ ∃ b : Addr, h.size ≤ b ∧ Exa Z h' a "java/util/ArrayList" ∧ Fld Z h' a "java/util/AbstractList" "modCount" "I" (.int (1 : Int32)) ∧ Fld Z h' a "java/util/ArrayList" "elementData" "[Ljava/lang/Object;" (.ref b) ∧ Fld Z h' a "java/util/ArrayList" "size" "I" (.int (1 : Int32)) ∧ Exa Z h' b "[Ljava/lang/Object;" ∧ Av Z h' b (.object "java/lang/Object") [(.ref x), .null, .null, .null, .null, .null, .null, .null, .null, .null] ∧ OvA Z h' b "java/lang/Object") := by
  refine MetW.of (Ls := #[.val (.ref a), .val (.ref x), .val (.ref dc), .val (.int (0 : Int32))]) (a0 := a0) (by first | (simp [plainName, overriddenIn]; done) | decide +kernel) (fun m => by first | (simp [entryFrame, mkF, argsToLocals, Value.category]; done) | rfl) (own_EW hw) (fun q => nomatch q) (fun p_ e_ s_ m_ below_ meth_ c_ hs0 C => ?_)
  refine Go.know (fun hX _ hM => ?_)
  refine g_iloadN C dH_0 rfl ?_
  refine g_aloadN C dH_1 rfl rfl ?_
  refine g_alen C dH_2 AD (z := (0 : Int32)) rfl ?_
  refine g_icmpF C dH_3 (show (0 : Int32) = (0 : Int32) by decide) ?_
  refine g_aloadN C dH_6 rfl rfl ?_
  refine g_invokeprivate [] [] 0 C dH_7 (hw _ (List.mem_of_getElem? (i := 64) rfl)) (hw _ (List.mem_of_getElem? (i := 65) rfl)) (hw _ (List.mem_of_getElem? (i := 67) rfl)) (hw _ (List.mem_of_getElem? (i := 66) rfl)) (hw _ (List.mem_of_getElem? (i := 28) rfl)) (hw _ (List.mem_of_getElem? (i := 68) rfl)) (by decide) E (m_grow l Z a0 hw S0 hz0 SD SE Ld Le MI a _ E F0 F1 F2 AD) (lenOf pd9 rfl) rfl rfl (Nat.le_of_ble_eq_true rfl) (by decide) (by decide) (by decide) (by decide) (allS (List.mem_of_getElem? (i := 0) rfl) all0) (fun v10 h11 L12 q13 K14 => ?_)
  obtain ⟨b1, rfl, g2, f3, f4, f5, f6, f7, f8, f9⟩ := q13
  show Go _ _ _ _ _ _ _ _ _ _ _ _ _ _ _ _ _ _ _ _ _ _ (mkF _ 10 #[.val (.ref a), .val (.ref x), .val (.ref dc), .val (.int (0 : Int32))] [(.ref b1)])
  refine Go.take f7 (by decide) (by decide) (Nat.le_trans hX.1 (Nat.le_trans (Nat.le_refl _) g2)) (by rw [hs0]; exact (Nat.le_trans (Nat.le_refl _) g2)) ?_
  refine g_astoreN #[.val (.ref a), .val (.ref x), .val (.ref b1), .val (.int (0 : Int32))] C dH_10 rfl rfl ?_
  refine g_aloadN C dH_11 rfl rfl ?_
  refine g_iloadN C dH_12 rfl ?_
  refine g_aloadN C dH_13 rfl rfl ?_
  have f19 := (X.keep K14)
  refine g_aastore 0 C dH_14 f8 rfl rfl (Sto.ofAv f8 f9 (Ins.of_exa f19 (hw _ (List.mem_of_getElem? (i := 80) rfl)))) (by decide) (by decide) (Nat.le_of_ble_eq_true rfl) (List.mem_of_getElem? (i := 0) rfl) (fun h15 K16 z17 f18 => ?_)
  have f20 : Av Z h15 b1 (.object "java/lang/Object") [(.ref x), .null, .null, .null, .null, .null, .null, .null, .null, .null] := f18
  refine g_aloadN C dH_15 rfl rfl ?_
  refine g_iloadN C dH_16 rfl ?_
  refine g_iconst (1 : Int32) C dH_17 (by decide) ?_
  refine g_iadd (1 : Int32) C dH_18 (by decide) ?_
  have f21 := (f6.keep K16 (ninS (Nat.ne_of_lt (Nat.lt_of_lt_of_le E.lt g2)) nin0))
  have f22 := (f3.keep K16)
  have f23 := (f4.keep K16 (ninS (Nat.ne_of_lt (Nat.lt_of_lt_of_le E.lt g2)) nin0))
  have f24 := (f5.keep K16 (ninS (Nat.ne_of_lt (Nat.lt_of_lt_of_le E.lt g2)) nin0))
  refine g_putfield (host := "") C dH_19 (Or.inl (hw _ (List.mem_of_getElem? (i := 57) rfl))) Via.refl f21 f22 (Or.inl (hw _ (List.mem_of_getElem? (i := 58) rfl))) (hw _ (List.mem_of_getElem? (i := 27) rfl)) (ty := .int) (by decide) rfl rfl (List.mem_of_getElem? (i := 1) rfl) (fun h25 W26 K27 => ?_)
  have f28 := Fld.same W26 f21
  have f29 := Fld.other W26 f23 (Or.inr (slot_ne (Or.inl (hw _ (List.mem_of_getElem? (i := 46) rfl))) (Or.inl (hw _ (List.mem_of_getElem? (i := 58) rfl))) (by decide) (t := .int) (t' := .int) (by decide) (by decide)))
  have f30 := Fld.other W26 f24 (Or.inr (slot_ne (Or.inl (hw _ (List.mem_of_getElem? (i := 49) rfl))) (Or.inl (hw _ (List.mem_of_getElem? (i := 58) rfl))) (by decide) (t := (.array (.object "java/lang/Object"))) (t' := .int) (by decide) (by decide)))
  have f31 := (f22.keep K27)
  have f32 := ((f7.keep K16).keep K27)
  have f33 := (f20.keep K27 (ninS (Nat.ne_of_gt (Nat.lt_of_lt_of_le E.lt g2)) nin0))
  have f34 := ((f9.keep K16).keep K27)
  exact g_retU C dH_22 ⟨rfl, b1, Nat.le_trans (Nat.le_refl _) g2, f31, f29, f30, f28, f32, f33, f34⟩ (by decide) (by decide)
set_option maxRecDepth 65536 in
set_option maxHeartbeats 80000000 in
theorem m_add3_1 (l : Launch) (Z : State) (a0 : Array Value) {z0 : Int32} (hw : ∀ d ∈ tables_1, d.before a0 Z = true) (S0 : Sta Z Z.heap "java/lang/String" "COMPACT_STRINGS" "Z" (.int z0)) (hz0 : ¬ z0 = 0) {dc em mir : Addr} (SD : Sta Z Z.heap "java/util/ArrayList" "DEFAULTCAPACITY_EMPTY_ELEMENTDATA" "[Ljava/lang/Object;" (.ref dc)) (SE : Sta Z Z.heap "java/util/ImmutableCollections" "EMPTY" "Ljava/lang/Object;" (.ref em)) (Ld : dc < Z.heap.size) (Le : em < Z.heap.size) (MI : MirC Z "[Ljava/lang/Object;" mir) (a x : Addr) (b : Addr) (r1 : Addr) (h : Heap) (E : Exa Z h a "java/util/ArrayList") (F0 : Fld Z h a "java/util/AbstractList" "modCount" "I" (.int (2 : Int32))) (F1 : Fld Z h a "java/util/ArrayList" "elementData" "[Ljava/lang/Object;" (.ref b)) (F2 : Fld Z h a "java/util/ArrayList" "size" "I" (.int (1 : Int32))) (X : Exa Z h x "java/lang/String") (Eb : Exa Z h b "[Ljava/lang/Object;") (A : Av Z h b (.object "java/lang/Object") [(.ref r1), .null, .null, .null, .null, .null, .null, .null, .null, .null]) (O : OvA Z h b "java/lang/Object") (hab : a ≠ b) :
    MetW true l Z [("java/lang/String", 7)] (⟨"java/util/ArrayList", "add", "(Ljava/lang/Object;[Ljava/lang/Object;I)V"⟩ : MethodName) jdk_38_method_24_code 4 none [] ({ frames := 0, cells := 0, slots := 0, locals := 0 } : Room) #[(.ref a), (.ref x), (.ref b), (.int (1 : Int32))] [a, b] h (fun v h' => v = none ∧ Exa Z h' a "java/util/ArrayList" ∧ Fld Z h' a "java/util/AbstractList" "modCount" "I" (.int (2 : Int32)) ∧ Fld Z h' a "java/util/ArrayList" "elementData" "[Ljava/lang/Object;" (.ref b) ∧ Fld Z h' a "java/util/ArrayList" "size" "I" (.int (2 : Int32)) ∧ Exa Z h' b "[Ljava/lang/Object;" ∧ Av Z h' b (.object "java/lang/Object") [(.ref r1), (.ref x), .null, .null, .null, .null, .null, .null, .null, .null] ∧ OvA Z h' b "java/lang/Object") := by
  refine MetW.of (Ls := #[.val (.ref a), .val (.ref x), .val (.ref b), .val (.int (1 : Int32))]) (a0 := a0) (by first | (simp [plainName, overriddenIn]; done) | decide +kernel) (fun m => by first | (simp [entryFrame, mkF, argsToLocals, Value.category]; done) | rfl) (own_EW hw) (fun q => nomatch q) (fun p_ e_ s_ m_ below_ meth_ c_ hs0 C => ?_)
  refine Go.know (fun hX _ hM => ?_)
  refine g_iloadN C dH_0 rfl ?_
  refine g_aloadN C dH_1 rfl rfl ?_
  refine g_alen C dH_2 A (z := (10 : Int32)) rfl ?_
  refine g_icmpT 11 C dH_3 (show ¬ (1 : Int32) = (10 : Int32) by decide) (by decide) (by decide) ?_
  refine g_aloadN C dH_11 rfl rfl ?_
  refine g_iloadN C dH_12 rfl ?_
  refine g_aloadN C dH_13 rfl rfl ?_
  refine g_aastore 1 C dH_14 A rfl rfl (Sto.ofAv A O (Ins.of_exa X (hw _ (List.mem_of_getElem? (i := 80) rfl)))) (by decide) (by decide) (Nat.le_of_ble_eq_true rfl) (List.mem_of_getElem? (i := 1) rfl) (fun h1 K2 z3 f4 => ?_)
  have f5 : Av Z h1 b (.object "java/lang/Object") [(.ref r1), (.ref x), .null, .null, .null, .null, .null, .null, .null, .null] := f4
  refine g_aloadN C dH_15 rfl rfl ?_
  refine g_iloadN C dH_16 rfl ?_
  refine g_iconst (1 : Int32) C dH_17 (by decide) ?_
  refine g_iadd (2 : Int32) C dH_18 (by decide) ?_
  have f6 := (F2.keep K2 (ninS hab nin0))
  have f7 := (E.keep K2)
  have f8 := (F0.keep K2 (ninS hab nin0))
  have f9 := (F1.keep K2 (ninS hab nin0))
  refine g_putfield (host := "") C dH_19 (Or.inl (hw _ (List.mem_of_getElem? (i := 57) rfl))) Via.refl f6 f7 (Or.inl (hw _ (List.mem_of_getElem? (i := 58) rfl))) (hw _ (List.mem_of_getElem? (i := 27) rfl)) (ty := .int) (by decide) rfl rfl (List.mem_of_getElem? (i := 0) rfl) (fun h10 W11 K12 => ?_)
  have f13 := Fld.same W11 f6
  have f14 := Fld.other W11 f8 (Or.inr (slot_ne (Or.inl (hw _ (List.mem_of_getElem? (i := 46) rfl))) (Or.inl (hw _ (List.mem_of_getElem? (i := 58) rfl))) (by decide) (t := .int) (t' := .int) (by decide) (by decide)))
  have f15 := Fld.other W11 f9 (Or.inr (slot_ne (Or.inl (hw _ (List.mem_of_getElem? (i := 49) rfl))) (Or.inl (hw _ (List.mem_of_getElem? (i := 58) rfl))) (by decide) (t := (.array (.object "java/lang/Object"))) (t' := .int) (by decide) (by decide)))
  have f16 := (f7.keep K12)
  have f17 := ((Eb.keep K2).keep K12)
  have f18 := (f5.keep K12 (ninS (Ne.symm hab) nin0))
  have f19 := ((O.keep K2).keep K12)
  exact g_retU C dH_22 ⟨rfl, f16, f14, f15, f13, f17, f18, f19⟩ (by decide) (by decide)
set_option maxRecDepth 65536 in
set_option maxHeartbeats 80000000 in
theorem m_add3_2 (l : Launch) (Z : State) (a0 : Array Value) {z0 : Int32} (hw : ∀ d ∈ tables_1, d.before a0 Z = true) (S0 : Sta Z Z.heap "java/lang/String" "COMPACT_STRINGS" "Z" (.int z0)) (hz0 : ¬ z0 = 0) {dc em mir : Addr} (SD : Sta Z Z.heap "java/util/ArrayList" "DEFAULTCAPACITY_EMPTY_ELEMENTDATA" "[Ljava/lang/Object;" (.ref dc)) (SE : Sta Z Z.heap "java/util/ImmutableCollections" "EMPTY" "Ljava/lang/Object;" (.ref em)) (Ld : dc < Z.heap.size) (Le : em < Z.heap.size) (MI : MirC Z "[Ljava/lang/Object;" mir) (a x : Addr) (b : Addr) (r1 r2 : Addr) (h : Heap) (E : Exa Z h a "java/util/ArrayList") (F0 : Fld Z h a "java/util/AbstractList" "modCount" "I" (.int (3 : Int32))) (F1 : Fld Z h a "java/util/ArrayList" "elementData" "[Ljava/lang/Object;" (.ref b)) (F2 : Fld Z h a "java/util/ArrayList" "size" "I" (.int (2 : Int32))) (X : Exa Z h x "java/lang/String") (Eb : Exa Z h b "[Ljava/lang/Object;") (A : Av Z h b (.object "java/lang/Object") [(.ref r1), (.ref r2), .null, .null, .null, .null, .null, .null, .null, .null]) (O : OvA Z h b "java/lang/Object") (hab : a ≠ b) :
    MetW true l Z [("java/lang/String", 7)] (⟨"java/util/ArrayList", "add", "(Ljava/lang/Object;[Ljava/lang/Object;I)V"⟩ : MethodName) jdk_38_method_24_code 4 none [] ({ frames := 0, cells := 0, slots := 0, locals := 0 } : Room) #[(.ref a), (.ref x), (.ref b), (.int (2 : Int32))] [a, b] h (fun v h' => v = none ∧ Exa Z h' a "java/util/ArrayList" ∧ Fld Z h' a "java/util/AbstractList" "modCount" "I" (.int (3 : Int32)) ∧ Fld Z h' a "java/util/ArrayList" "elementData" "[Ljava/lang/Object;" (.ref b) ∧ Fld Z h' a "java/util/ArrayList" "size" "I" (.int (3 : Int32)) ∧ Exa Z h' b "[Ljava/lang/Object;" ∧ Av Z h' b (.object "java/lang/Object") [(.ref r1), (.ref r2), (.ref x), .null, .null, .null, .null, .null, .null, .null] ∧ OvA Z h' b "java/lang/Object") := by
  refine MetW.of (Ls := #[.val (.ref a), .val (.ref x), .val (.ref b), .val (.int (2 : Int32))]) (a0 := a0) (by first | (simp [plainName, overriddenIn]; done) | decide +kernel) (fun m => by first | (simp [entryFrame, mkF, argsToLocals, Value.category]; done) | rfl) (own_EW hw) (fun q => nomatch q) (fun p_ e_ s_ m_ below_ meth_ c_ hs0 C => ?_)
  refine Go.know (fun hX _ hM => ?_)
  refine g_iloadN C dH_0 rfl ?_
  refine g_aloadN C dH_1 rfl rfl ?_
  refine g_alen C dH_2 A (z := (10 : Int32)) rfl ?_
  refine g_icmpT 11 C dH_3 (show ¬ (2 : Int32) = (10 : Int32) by decide) (by decide) (by decide) ?_
  refine g_aloadN C dH_11 rfl rfl ?_
  refine g_iloadN C dH_12 rfl ?_
  refine g_aloadN C dH_13 rfl rfl ?_
  refine g_aastore 2 C dH_14 A rfl rfl (Sto.ofAv A O (Ins.of_exa X (hw _ (List.mem_of_getElem? (i := 80) rfl)))) (by decide) (by decide) (Nat.le_of_ble_eq_true rfl) (List.mem_of_getElem? (i := 1) rfl) (fun h1 K2 z3 f4 => ?_)
  have f5 : Av Z h1 b (.object "java/lang/Object") [(.ref r1), (.ref r2), (.ref x), .null, .null, .null, .null, .null, .null, .null] := f4
  refine g_aloadN C dH_15 rfl rfl ?_
  refine g_iloadN C dH_16 rfl ?_
  refine g_iconst (1 : Int32) C dH_17 (by decide) ?_
  refine g_iadd (3 : Int32) C dH_18 (by decide) ?_
  have f6 := (F2.keep K2 (ninS hab nin0))
  have f7 := (E.keep K2)
  have f8 := (F0.keep K2 (ninS hab nin0))
  have f9 := (F1.keep K2 (ninS hab nin0))
  refine g_putfield (host := "") C dH_19 (Or.inl (hw _ (List.mem_of_getElem? (i := 57) rfl))) Via.refl f6 f7 (Or.inl (hw _ (List.mem_of_getElem? (i := 58) rfl))) (hw _ (List.mem_of_getElem? (i := 27) rfl)) (ty := .int) (by decide) rfl rfl (List.mem_of_getElem? (i := 0) rfl) (fun h10 W11 K12 => ?_)
  have f13 := Fld.same W11 f6
  have f14 := Fld.other W11 f8 (Or.inr (slot_ne (Or.inl (hw _ (List.mem_of_getElem? (i := 46) rfl))) (Or.inl (hw _ (List.mem_of_getElem? (i := 58) rfl))) (by decide) (t := .int) (t' := .int) (by decide) (by decide)))
  have f15 := Fld.other W11 f9 (Or.inr (slot_ne (Or.inl (hw _ (List.mem_of_getElem? (i := 49) rfl))) (Or.inl (hw _ (List.mem_of_getElem? (i := 58) rfl))) (by decide) (t := (.array (.object "java/lang/Object"))) (t' := .int) (by decide) (by decide)))
  have f16 := (f7.keep K12)
  have f17 := ((Eb.keep K2).keep K12)
  have f18 := (f5.keep K12 (ninS (Ne.symm hab) nin0))
  have f19 := ((O.keep K2).keep K12)
  exact g_retU C dH_22 ⟨rfl, f16, f14, f15, f13, f17, f18, f19⟩ (by decide) (by decide)
set_option maxRecDepth 65536 in
set_option maxHeartbeats 80000000 in
theorem m_add3_3 (l : Launch) (Z : State) (a0 : Array Value) {z0 : Int32} (hw : ∀ d ∈ tables_1, d.before a0 Z = true) (S0 : Sta Z Z.heap "java/lang/String" "COMPACT_STRINGS" "Z" (.int z0)) (hz0 : ¬ z0 = 0) {dc em mir : Addr} (SD : Sta Z Z.heap "java/util/ArrayList" "DEFAULTCAPACITY_EMPTY_ELEMENTDATA" "[Ljava/lang/Object;" (.ref dc)) (SE : Sta Z Z.heap "java/util/ImmutableCollections" "EMPTY" "Ljava/lang/Object;" (.ref em)) (Ld : dc < Z.heap.size) (Le : em < Z.heap.size) (MI : MirC Z "[Ljava/lang/Object;" mir) (a x : Addr) (b : Addr) (r1 r2 r3 : Addr) (h : Heap) (E : Exa Z h a "java/util/ArrayList") (F0 : Fld Z h a "java/util/AbstractList" "modCount" "I" (.int (4 : Int32))) (F1 : Fld Z h a "java/util/ArrayList" "elementData" "[Ljava/lang/Object;" (.ref b)) (F2 : Fld Z h a "java/util/ArrayList" "size" "I" (.int (3 : Int32))) (X : Exa Z h x "java/lang/String") (Eb : Exa Z h b "[Ljava/lang/Object;") (A : Av Z h b (.object "java/lang/Object") [(.ref r1), (.ref r2), (.ref r3), .null, .null, .null, .null, .null, .null, .null]) (O : OvA Z h b "java/lang/Object") (hab : a ≠ b) :
    MetW true l Z [("java/lang/String", 7)] (⟨"java/util/ArrayList", "add", "(Ljava/lang/Object;[Ljava/lang/Object;I)V"⟩ : MethodName) jdk_38_method_24_code 4 none [] ({ frames := 0, cells := 0, slots := 0, locals := 0 } : Room) #[(.ref a), (.ref x), (.ref b), (.int (3 : Int32))] [a, b] h (fun v h' => v = none ∧ Exa Z h' a "java/util/ArrayList" ∧ Fld Z h' a "java/util/AbstractList" "modCount" "I" (.int (4 : Int32)) ∧ Fld Z h' a "java/util/ArrayList" "elementData" "[Ljava/lang/Object;" (.ref b) ∧ Fld Z h' a "java/util/ArrayList" "size" "I" (.int (4 : Int32)) ∧ Exa Z h' b "[Ljava/lang/Object;" ∧ Av Z h' b (.object "java/lang/Object") [(.ref r1), (.ref r2), (.ref r3), (.ref x), .null, .null, .null, .null, .null, .null] ∧ OvA Z h' b "java/lang/Object") := by
  refine MetW.of (Ls := #[.val (.ref a), .val (.ref x), .val (.ref b), .val (.int (3 : Int32))]) (a0 := a0) (by first | (simp [plainName, overriddenIn]; done) | decide +kernel) (fun m => by first | (simp [entryFrame, mkF, argsToLocals, Value.category]; done) | rfl) (own_EW hw) (fun q => nomatch q) (fun p_ e_ s_ m_ below_ meth_ c_ hs0 C => ?_)
  refine Go.know (fun hX _ hM => ?_)
  refine g_iloadN C dH_0 rfl ?_
  refine g_aloadN C dH_1 rfl rfl ?_
  refine g_alen C dH_2 A (z := (10 : Int32)) rfl ?_
  refine g_icmpT 11 C dH_3 (show ¬ (3 : Int32) = (10 : Int32) by decide) (by decide) (by decide) ?_
  refine g_aloadN C dH_11 rfl rfl ?_
  refine g_iloadN C dH_12 rfl ?_
  refine g_aloadN C dH_13 rfl rfl ?_
  refine g_aastore 3 C dH_14 A rfl rfl (Sto.ofAv A O (Ins.of_exa X (hw _ (List.mem_of_getElem? (i := 80) rfl)))) (by decide) (by decide) (Nat.le_of_ble_eq_true rfl) (List.mem_of_getElem? (i := 1) rfl) (fun h1 K2 z3 f4 => ?_)
  have f5 : Av Z h1 b (.object "java/lang/Object") [(.ref r1), (.ref r2), (.ref r3), (.ref x), .null, .null, .null, .null, .null, .null] := f4
  refine g_aloadN C dH_15 rfl rfl ?_
  refine g_iloadN C dH_16 rfl ?_
  refine g_iconst (1 : Int32) C dH_17 (by decide) ?_
  refine g_iadd (4 : Int32) C dH_18 (by decide) ?_
  have f6 := (F2.keep K2 (ninS hab nin0))
  have f7 := (E.keep K2)
  have f8 := (F0.keep K2 (ninS hab nin0))
  have f9 := (F1.keep K2 (ninS hab nin0))
  refine g_putfield (host := "") C dH_19 (Or.inl (hw _ (List.mem_of_getElem? (i := 57) rfl))) Via.refl f6 f7 (Or.inl (hw _ (List.mem_of_getElem? (i := 58) rfl))) (hw _ (List.mem_of_getElem? (i := 27) rfl)) (ty := .int) (by decide) rfl rfl (List.mem_of_getElem? (i := 0) rfl) (fun h10 W11 K12 => ?_)
  have f13 := Fld.same W11 f6
  have f14 := Fld.other W11 f8 (Or.inr (slot_ne (Or.inl (hw _ (List.mem_of_getElem? (i := 46) rfl))) (Or.inl (hw _ (List.mem_of_getElem? (i := 58) rfl))) (by decide) (t := .int) (t' := .int) (by decide) (by decide)))
  have f15 := Fld.other W11 f9 (Or.inr (slot_ne (Or.inl (hw _ (List.mem_of_getElem? (i := 49) rfl))) (Or.inl (hw _ (List.mem_of_getElem? (i := 58) rfl))) (by decide) (t := (.array (.object "java/lang/Object"))) (t' := .int) (by decide) (by decide)))
  have f16 := (f7.keep K12)
  have f17 := ((Eb.keep K2).keep K12)
  have f18 := (f5.keep K12 (ninS (Ne.symm hab) nin0))
  have f19 := ((O.keep K2).keep K12)
  exact g_retU C dH_22 ⟨rfl, f16, f14, f15, f13, f17, f18, f19⟩ (by decide) (by decide)
theorem dI_0 : decode jdk_38_method_25_code 0 = .ok (.aload_n 0, 1) := by decide +kernel
theorem dI_1 : decode jdk_38_method_25_code 1 = .ok (.dup, 1) := by decide +kernel
theorem dI_2 : decode jdk_38_method_25_code 2 = .ok (.getfield 63, 3) := by decide +kernel
theorem dI_5 : decode jdk_38_method_25_code 5 = .ok (.iconst 1, 1) := by decide +kernel
theorem dI_6 : decode jdk_38_method_25_code 6 = .ok (.iadd, 1) := by decide +kernel
theorem dI_7 : decode jdk_38_method_25_code 7 = .ok (.putfield 63, 3) := by decide +kernel
theorem dI_10 : decode jdk_38_method_25_code 10 = .ok (.aload_n 0, 1) := by decide +kernel
theorem dI_11 : decode jdk_38_method_25_code 11 = .ok (.aload_n 1, 1) := by decide +kernel
theorem dI_12 : decode jdk_38_method_25_code 12 = .ok (.aload_n 0, 1) := by decide +kernel
theorem dI_13 : decode jdk_38_method_25_code 13 = .ok (.getfield 9, 3) := by decide +kernel
theorem dI_16 : decode jdk_38_method_25_code 16 = .ok (.aload_n 0, 1) := by decide +kernel
theorem dI_17 : decode jdk_38_method_25_code 17 = .ok (.getfield 48, 3) := by decide +kernel
theorem dI_20 : decode jdk_38_method_25_code 20 = .ok (.invokevirtual 131, 3) := by decide +kernel
theorem dI_23 : decode jdk_38_method_25_code 23 = .ok (.iconst 1, 1) := by decide +kernel
theorem dI_24 : decode jdk_38_method_25_code 24 = .ok (.ireturn, 1) := by decide +kernel
set_option maxRecDepth 65536 in
set_option maxHeartbeats 80000000 in
theorem m_add_0 (l : Launch) (Z : State) (a0 : Array Value) {z0 : Int32} (hw : ∀ d ∈ tables_1, d.before a0 Z = true) (S0 : Sta Z Z.heap "java/lang/String" "COMPACT_STRINGS" "Z" (.int z0)) (hz0 : ¬ z0 = 0) {dc em mir : Addr} (SD : Sta Z Z.heap "java/util/ArrayList" "DEFAULTCAPACITY_EMPTY_ELEMENTDATA" "[Ljava/lang/Object;" (.ref dc)) (SE : Sta Z Z.heap "java/util/ImmutableCollections" "EMPTY" "Ljava/lang/Object;" (.ref em)) (Ld : dc < Z.heap.size) (Le : em < Z.heap.size) (MI : MirC Z "[Ljava/lang/Object;" mir) (a x : Addr) (h : Heap) (E : Exa Z h a "java/util/ArrayList") (F0 : Fld Z h a "java/util/AbstractList" "modCount" "I" (.int (0 : Int32))) (F1 : Fld Z h a "java/util/ArrayList" "elementData" "[Ljava/lang/Object;" (.ref dc)) (F2 : Fld Z h a "java/util/ArrayList" "size" "I" (.int (0 : Int32))) (X : Exa Z h x "java/lang/String") (AD : Av Z h dc (.object "java/lang/Object") []) :
    MetW true l Z [("java/lang/String", 7)] (⟨"java/util/ArrayList", "add", "(Ljava/lang/Object;)Z"⟩ : MethodName) jdk_38_method_25_code 2 (Option.some Jvm.ClassFile.FieldType.boolean) [] ({ frames := 4, cells := 1, slots := 10, locals := 56 } : Room) #[(.ref a), (.ref x)] [a] h (fun v h' => v = some (.int (1 : Int32)) ∧ ∃ b : Addr, h.size ≤ b ∧ Exa Z h' a "java/util/ArrayList" ∧ Fld Z h' a "java/util/AbstractList" "modCount" "I" (.int (1 : Int32)) ∧ Fld Z h' a "java/util/ArrayList" "elementData" "[Ljava/lang/Object;" (.ref b) ∧ Fld Z h' a "java/util/ArrayList" "size" "I" (.int (1 : Int32)) ∧ Exa Z h' b "[Ljava/lang/Object;" ∧ Av Z h' b (.object "java/lang/Object") [(.ref x), .null, .null, .null, .null, .null, .null, .null, .null, .null] ∧ OvA Z h' b "java/lang/Object") := by
  refine MetW.of (Ls := #[.val (.ref a), .val (.ref x)]) (a0 := a0) (by first | (simp [plainName, overriddenIn]; done) | decide +kernel) (fun m => by first | (simp [entryFrame, mkF, argsToLocals, Value.category]; done) | rfl) (own_EW hw) (fun q => nomatch q) (fun p_ e_ s_ m_ below_ meth_ c_ hs0 C => ?_)
  refine Go.know (fun hX _ hM => ?_)
  refine g_aloadN C dI_0 rfl rfl ?_
  refine g_dup C dI_1 rfl ?_
  refine g_getfield (host := "") C dI_2 (Or.inl (hw _ (List.mem_of_getElem? (i := 55) rfl))) (Via.of (hw _ (List.mem_of_getElem? (i := 56) rfl))) F0 ?_
  refine g_iconst (1 : Int32) C dI_5 (by decide) ?_
  refine g_iadd (1 : Int32) C dI_6 (by decide) ?_
  refine g_putfield (host := "") C dI_7 (Or.inl (hw _ (List.mem_of_getElem? (i := 55) rfl))) (Via.of (hw _ (List.mem_of_getElem? (i := 56) rfl))) F0 E (Or.inl (hw _ (List.mem_of_getElem? (i := 46) rfl))) (hw _ (List.mem_of_getElem? (i := 27) rfl)) (ty := .int) (by decide) rfl rfl (List.mem_of_getElem? (i := 0) rfl) (fun h1 W2 K3 => ?_)
  have f4 := Fld.same W2 F0
  have f5 := Fld.other W2 F1 (Or.inr (slot_ne (Or.inl (hw _ (List.mem_of_getElem? (i := 49) rfl))) (Or.inl (hw _ (List.mem_of_getElem? (i := 46) rfl))) (by decide) (t := (.array (.object "java/lang/Object"))) (t' := .int) (by decide) (by decide)))
  have f6 := Fld.other W2 F2 (Or.inr (slot_ne (Or.inl (hw _ (List.mem_of_getElem? (i := 58) rfl))) (Or.inl (hw _ (List.mem_of_getElem? (i := 46) rfl))) (by decide) (t := .int) (t' := .int) (by decide) (by decide)))
  refine g_aloadN C dI_10 rfl rfl ?_
  refine g_aloadN C dI_11 rfl rfl ?_
  refine g_aloadN C dI_12 rfl rfl ?_
  refine g_getfield (host := "") C dI_13 (Or.inl (hw _ (List.mem_of_getElem? (i := 48) rfl))) Via.refl f5 ?_
  refine g_aloadN C dI_16 rfl rfl ?_
  refine g_getfield (host := "") C dI_17 (Or.inl (hw _ (List.mem_of_getElem? (i := 57) rfl))) Via.refl f6 ?_
  have f14 := (E.keep K3)
  have f15 := (X.keep K3)
  have f16 := (AD.keep K3 (ninS (Nat.ne_of_lt (Nat.lt_of_lt_of_le Ld (hM _ (List.mem_of_getElem? (i := 0) rfl)).2)) nin0))
  refine g_invokeprivate [(.ref x), (.ref dc), (.int (0 : Int32))] [] 0 C dI_20 (hw _ (List.mem_of_getElem? (i := 59) rfl)) (hw _ (List.mem_of_getElem? (i := 60) rfl)) (hw _ (List.mem_of_getElem? (i := 62) rfl)) (hw _ (List.mem_of_getElem? (i := 61) rfl)) (hw _ (List.mem_of_getElem? (i := 28) rfl)) (hw _ (List.mem_of_getElem? (i := 63) rfl)) (by decide) f14 (m_add3_0 l Z a0 hw S0 hz0 SD SE Ld Le MI a x _ f14 f4 f5 f6 f15 f16) (lenOf pd10 rfl) rfl rfl (Nat.le_of_ble_eq_true rfl) (by decide) (by decide) (by decide) (by decide) (allS (List.mem_of_getElem? (i := 0) rfl) all0) (fun v19 h20 L21 q22 K23 => ?_)
  obtain ⟨rfl, b17, g18, f7, f8, f9, f10, f11, f12, f13⟩ := q22
  refine Go.take f11 (by decide) (by decide) (Nat.le_trans hX.1 (Nat.le_trans K3.1 g18)) (by rw [hs0]; exact (Nat.le_trans K3.1 g18)) ?_
  show Go _ _ _ _ _ _ _ _ _ _ _ _ _ _ _ _ _ _ _ _ _ _ (mkF _ 23 #[.val (.ref a), .val (.ref x)] [])
  refine g_iconst (1 : Int32) C dI_23 (by decide) ?_
  exact g_retN C dI_24 (by simp) ⟨rfl, b17, Nat.le_trans K3.1 g18, f7, f8, f9, f10, f11, f12, f13⟩ (by decide) (by decide)
set_option maxRecDepth 65536 in
set_option maxHeartbeats 80000000 in
theorem m_add_1 (l : Launch) (Z : State) (a0 : Array Value) {z0 : Int32} (hw : ∀ d ∈ tables_1, d.before a0 Z = true) (S0 : Sta Z Z.heap "java/lang/String" "COMPACT_STRINGS" "Z" (.int z0)) (hz0 : ¬ z0 = 0) {dc em mir : Addr} (SD : Sta Z Z.heap "java/util/ArrayList" "DEFAULTCAPACITY_EMPTY_ELEMENTDATA" "[Ljava/lang/Object;" (.ref dc)) (SE : Sta Z Z.heap "java/util/ImmutableCollections" "EMPTY" "Ljava/lang/Object;" (.ref em)) (Ld : dc < Z.heap.size) (Le : em < Z.heap.size) (MI : MirC Z "[Ljava/lang/Object;" mir) (a x : Addr) (b : Addr) (r1 : Addr) (h : Heap) (E : Exa Z h a "java/util/ArrayList") (F0 : Fld Z h a "java/util/AbstractList" "modCount" "I" (.int (1 : Int32))) (F1 : Fld Z h a "java/util/ArrayList" "elementData" "[Ljava/lang/Object;" (.ref b)) (F2 : Fld Z h a "java/util/ArrayList" "size" "I" (.int (1 : Int32))) (X : Exa Z h x "java/lang/String") (Eb : Exa Z h b "[Ljava/lang/Object;") (A : Av Z h b (.object "java/lang/Object") [(.ref r1), .null, .null, .null, .null, .null, .null, .null, .null, .null]) (O : OvA Z h b "java/lang/Object") (hab : a ≠ b) :
    MetW true l Z [("java/lang/String", 7)] (⟨"java/util/ArrayList", "add", "(Ljava/lang/Object;)Z"⟩ : MethodName) jdk_38_method_25_code 2 (Option.some Jvm.ClassFile.FieldType.boolean) [] ({ frames := 1, cells := 0, slots := 0, locals := 15 } : Room) #[(.ref a), (.ref x)] [a, b] h (fun v h' => v = some (.int (1 : Int32)) ∧ Exa Z h' a "java/util/ArrayList" ∧ Fld Z h' a "java/util/AbstractList" "modCount" "I" (.int (2 : Int32)) ∧ Fld Z h' a "java/util/ArrayList" "elementData" "[Ljava/lang/Object;" (.ref b) ∧ Fld Z h' a "java/util/ArrayList" "size" "I" (.int (2 : Int32)) ∧ Exa Z h' b "[Ljava/lang/Object;" ∧ Av Z h' b (.object "java/lang/Object") [(.ref r1), (.ref x), .null, .null, .null, .null, .null, .null, .null, .null] ∧ OvA Z h' b "java/lang/Object") := by
  refine MetW.of (Ls := #[.val (.ref a), .val (.ref x)]) (a0 := a0) (by first | (simp [plainName, overriddenIn]; done) | decide +kernel) (fun m => by first | (simp [entryFrame, mkF, argsToLocals, Value.category]; done) | rfl) (own_EW hw) (fun q => nomatch q) (fun p_ e_ s_ m_ below_ meth_ c_ hs0 C => ?_)
  refine Go.know (fun hX _ hM => ?_)
  refine g_aloadN C dI_0 rfl rfl ?_
  refine g_dup C dI_1 rfl ?_
  refine g_getfield (host := "") C dI_2 (Or.inl (hw _ (List.mem_of_getElem? (i := 55) rfl))) (Via.of (hw _ (List.mem_of_getElem? (i := 56) rfl))) F0 ?_
  refine g_iconst (1 : Int32) C dI_5 (by decide) ?_
  refine g_iadd (2 : Int32) C dI_6 (by decide) ?_
  refine g_putfield (host := "") C dI_7 (Or.inl (hw _ (List.mem_of_getElem? (i := 55) rfl))) (Via.of (hw _ (List.mem_of_getElem? (i := 56) rfl))) F0 E (Or.inl (hw _ (List.mem_of_getElem? (i := 46) rfl))) (hw _ (List.mem_of_getElem? (i := 27) rfl)) (ty := .int) (by decide) rfl rfl (List.mem_of_getElem? (i := 0) rfl) (fun h1 W2 K3 => ?_)
  have f4 := Fld.same W2 F0
  have f5 := Fld.other W2 F1 (Or.inr (slot_ne (Or.inl (hw _ (List.mem_of_getElem? (i := 49) rfl))) (Or.inl (hw _ (List.mem_of_getElem? (i := 46) rfl))) (by decide) (t := (.array (.object "java/lang/Object"))) (t' := .int) (by decide) (by decide)))
  have f6 := Fld.other W2 F2 (Or.inr (slot_ne (Or.inl (hw _ (List.mem_of_getElem? (i := 58) rfl))) (Or.inl (hw _ (List.mem_of_getElem? (i := 46) rfl))) (by decide) (t := .int) (t' := .int) (by decide) (by decide)))
  refine g_aloadN C dI_10 rfl rfl ?_
  refine g_aloadN C dI_11 rfl rfl ?_
  refine g_aloadN C dI_12 rfl rfl ?_
  refine g_getfield (host := "") C dI_13 (Or.inl (hw _ (List.mem_of_getElem? (i := 48) rfl))) Via.refl f5 ?_
  refine g_aloadN C dI_16 rfl rfl ?_
  refine g_getfield (host := "") C dI_17 (Or.inl (hw _ (List.mem_of_getElem? (i := 57) rfl))) Via.refl f6 ?_
  have f14 := (E.keep K3)
  have f15 := (X.keep K3)
  have f16 := (Eb.keep K3)
  have f17 := (A.keep K3 (ninS (Ne.symm hab) nin0))
  have f18 := (O.keep K3)
  refine g_invokeprivate [(.ref x), (.ref b), (.int (1 : Int32))] [] 0 C dI_20 (hw _ (List.mem_of_getElem? (i := 59) rfl)) (hw _ (List.mem_of_getElem? (i := 60) rfl)) (hw _ (List.mem_of_getElem? (i := 62) rfl)) (hw _ (List.mem_of_getElem? (i := 61) rfl)) (hw _ (List.mem_of_getElem? (i := 28) rfl)) (hw _ (List.mem_of_getElem? (i := 63) rfl)) (by decide) f14 (m_add3_1 l Z a0 hw S0 hz0 SD SE Ld Le MI a x b _ _ f14 f4 f5 f6 f15 f16 f17 f18 hab) (lenOf pd10 rfl) rfl rfl (Nat.le_of_ble_eq_true rfl) (by decide) (by decide) (by decide) (by decide) (allS (List.mem_of_getElem? (i := 0) rfl) (allS (List.mem_of_getElem? (i := 1) rfl) all0)) (fun v19 h20 L21 q22 K23 => ?_)
  obtain ⟨rfl, f7, f8, f9, f10, f11, f12, f13⟩ := q22
  show Go _ _ _ _ _ _ _ _ _ _ _ _ _ _ _ _ _ _ _ _ _ _ (mkF _ 23 #[.val (.ref a), .val (.ref x)] [])
  refine g_iconst (1 : Int32) C dI_23 (by decide) ?_
  exact g_retN C dI_24 (by simp) ⟨rfl, f7, f8, f9, f10, f11, f12, f13⟩ (by decide) (by decide)
set_option maxRecDepth 65536 in
set_option maxHeartbeats 80000000 in
theorem m_add_2 (l : Launch) (Z : State) (a0 : Array Value) {z0 : Int32} (hw : ∀ d ∈ tables_1, d.before a0 Z = true) (S0 : Sta Z Z.heap "java/lang/String" "COMPACT_STRINGS" "Z" (.int z0)) (hz0 : ¬ z0 = 0) {dc em mir : Addr} (SD : Sta Z Z.heap "java/util/ArrayList" "DEFAULTCAPACITY_EMPTY_ELEMENTDATA" "[Ljava/lang/Object;" (.ref dc)) (SE : Sta Z Z.heap "java/util/ImmutableCollections" "EMPTY" "Ljava/lang/Object;" (.ref em)) (Ld : dc < Z.heap.size) (Le : em < Z.heap.size) (MI : MirC Z "[Ljava/lang/Object;" mir) (a x : Addr) (b : Addr) (r1 r2 : Addr) (h : Heap) (E : Exa Z h a "java/util/ArrayList") (F0 : Fld Z h a "java/util/AbstractList" "modCount" "I" (.int (2 : Int32))) (F1 : Fld Z h a "java/util/ArrayList" "elementData" "[Ljava/lang/Object;" (.ref b)) (F2 : Fld Z h a "java/util/ArrayList" "size" "I" (.int (2 : Int32))) (X : Exa Z h x "java/lang/String") (Eb : Exa Z h b "[Ljava/lang/Object;") (A : Av Z h b (.object "java/lang/Object") [(.ref r1), (.ref r2), .null, .null, .null, .null, .null, .null, .null, .null]) (O : OvA Z h b "java/lang/Object") (hab : a ≠ b) :
    MetW true l Z [("java/lang/String", 7)] (⟨"java/util/ArrayList", "add", "(Ljava/lang/Object;)Z"⟩ : MethodName) jdk_38_method_25_code 2 (Option.some Jvm.ClassFile.FieldType.boolean) [] ({ frames := 1, cells := 0, slots := 0, locals := 15 } : Room) #[(.ref a), (.ref x)] [a, b] h (fun v h' => v = some (.int (1 : Int32)) ∧ Exa Z h' a "java/util/ArrayList" ∧ Fld Z h' a "java/util/AbstractList" "modCount" "I" (.int (3 : Int32)) ∧ Fld Z h' a "java/util/ArrayList" "elementData" "[Ljava/lang/Object;" (.ref b) ∧ Fld Z h' a "java/util/ArrayList" "size" "I" (.int (3 : Int32)) ∧ Exa Z h' b "[Ljava/lang/Object;" ∧ Av Z h' b (.object "java/lang/Object") [(.ref r1), (.ref r2), (.ref x), .null, .null, .null, .null, .null, .null, .null] ∧ OvA Z h' b "java/lang/Object") := by
  refine MetW.of (Ls := #[.val (.ref a), .val (.ref x)]) (a0 := a0) (by first | (simp [plainName, overriddenIn]; done) | decide +kernel) (fun m => by first | (simp [entryFrame, mkF, argsToLocals, Value.category]; done) | rfl) (own_EW hw) (fun q => nomatch q) (fun p_ e_ s_ m_ below_ meth_ c_ hs0 C => ?_)
  refine Go.know (fun hX _ hM => ?_)
  refine g_aloadN C dI_0 rfl rfl ?_
  refine g_dup C dI_1 rfl ?_
  refine g_getfield (host := "") C dI_2 (Or.inl (hw _ (List.mem_of_getElem? (i := 55) rfl))) (Via.of (hw _ (List.mem_of_getElem? (i := 56) rfl))) F0 ?_
  refine g_iconst (1 : Int32) C dI_5 (by decide) ?_
  refine g_iadd (3 : Int32) C dI_6 (by decide) ?_
  refine g_putfield (host := "") C dI_7 (Or.inl (hw _ (List.mem_of_getElem? (i := 55) rfl))) (Via.of (hw _ (List.mem_of_getElem? (i := 56) rfl))) F0 E (Or.inl (hw _ (List.mem_of_getElem? (i := 46) rfl))) (hw _ (List.mem_of_getElem? (i := 27) rfl)) (ty := .int) (by decide) rfl rfl (List.mem_of_getElem? (i := 0) rfl) (fun h1 W2 K3 => ?_)
  have f4 := Fld.same W2 F0
  have f5 := Fld.other W2 F1 (Or.inr (slot_ne (Or.inl (hw _ (List.mem_of_getElem? (i := 49) rfl))) (Or.inl (hw _ (List.mem_of_getElem? (i := 46) rfl))) (by decide) (t := (.array (.object "java/lang/Object"))) (t' := .int) (by decide) (by decide)))
  have f6 := Fld.other W2 F2 (Or.inr (slot_ne (Or.inl (hw _ (List.mem_of_getElem? (i := 58) rfl))) (Or.inl (hw _ (List.mem_of_getElem? (i := 46) rfl))) (by decide) (t := .int) (t' := .int) (by decide) (by decide)))
  refine g_aloadN C dI_10 rfl rfl ?_
  refine g_aloadN C dI_11 rfl rfl ?_
  refine g_aloadN C dI_12 rfl rfl ?_
  refine g_getfield (host := "") C dI_13 (Or.inl (hw _ (List.mem_of_getElem? (i := 48) rfl))) Via.refl f5 ?_
  refine g_aloadN C dI_16 rfl rfl ?_
  refine g_getfield (host := "") C dI_17 (Or.inl (hw _ (List.mem_of_getElem? (i := 57) rfl))) Via.refl f6 ?_
  have f14 := (E.keep K3)
  have f15 := (X.keep K3)
  have f16 := (Eb.keep K3)
  have f17 := (A.keep K3 (ninS (Ne.symm hab) nin0))
  have f18 := (O.keep K3)
  refine g_invokeprivate [(.ref x), (.ref b), (.int (2 : Int32))] [] 0 C dI_20 (hw _ (List.mem_of_getElem? (i := 59) rfl)) (hw _ (List.mem_of_getElem? (i := 60) rfl)) (hw _ (List.mem_of_getElem? (i := 62) rfl)) (hw _ (List.mem_of_getElem? (i := 61) rfl)) (hw _ (List.mem_of_getElem? (i := 28) rfl)) (hw _ (List.mem_of_getElem? (i := 63) rfl)) (by decide) f14 (m_add3_2 l Z a0 hw S0 hz0 SD SE Ld Le MI a x b _ _ _ f14 f4 f5 f6 f15 f16 f17 f18 hab) (lenOf pd10 rfl) rfl rfl (Nat.le_of_ble_eq_true rfl) (by decide) (by decide) (by decide) (by decide) (allS (List.mem_of_getElem? (i := 0) rfl) (allS (List.mem_of_getElem? (i := 1) rfl) all0)) (fun v19 h20 L21 q22 K23 => ?_)
  obtain ⟨rfl, f7, f8, f9, f10, f11, f12, f13⟩ := q22
  show Go _ _ _ _ _ _ _ _ _ _ _ _ _ _ _ _ _ _ _ _ _ _ (mkF _ 23 #[.val (.ref a), .val (.ref x)] [])
  refine g_iconst (1 : Int32) C dI_23 (by decide) ?_
  exact g_retN C dI_24 (by simp) ⟨rfl, f7, f8, f9, f10, f11, f12, f13⟩ (by decide) (by decide)
set_option maxRecDepth 65536 in
set_option maxHeartbeats 80000000 in
theorem m_add_3 (l : Launch) (Z : State) (a0 : Array Value) {z0 : Int32} (hw : ∀ d ∈ tables_1, d.before a0 Z = true) (S0 : Sta Z Z.heap "java/lang/String" "COMPACT_STRINGS" "Z" (.int z0)) (hz0 : ¬ z0 = 0) {dc em mir : Addr} (SD : Sta Z Z.heap "java/util/ArrayList" "DEFAULTCAPACITY_EMPTY_ELEMENTDATA" "[Ljava/lang/Object;" (.ref dc)) (SE : Sta Z Z.heap "java/util/ImmutableCollections" "EMPTY" "Ljava/lang/Object;" (.ref em)) (Ld : dc < Z.heap.size) (Le : em < Z.heap.size) (MI : MirC Z "[Ljava/lang/Object;" mir) (a x : Addr) (b : Addr) (r1 r2 r3 : Addr) (h : Heap) (E : Exa Z h a "java/util/ArrayList") (F0 : Fld Z h a "java/util/AbstractList" "modCount" "I" (.int (3 : Int32))) (F1 : Fld Z h a "java/util/ArrayList" "elementData" "[Ljava/lang/Object;" (.ref b)) (F2 : Fld Z h a "java/util/ArrayList" "size" "I" (.int (3 : Int32))) (X : Exa Z h x "java/lang/String") (Eb : Exa Z h b "[Ljava/lang/Object;") (A : Av Z h b (.object "java/lang/Object") [(.ref r1), (.ref r2), (.ref r3), .null, .null, .null, .null, .null, .null, .null]) (O : OvA Z h b "java/lang/Object") (hab : a ≠ b) :
    MetW true l Z [("java/lang/String", 7)] (⟨"java/util/ArrayList", "add", "(Ljava/lang/Object;)Z"⟩ : MethodName) jdk_38_method_25_code 2 (Option.some Jvm.ClassFile.FieldType.boolean) [] ({ frames := 1, cells := 0, slots := 0, locals := 15 } : Room) #[(.ref a), (.ref x)] [a, b] h (fun v h' => v = some (.int (1 : Int32)) ∧ Exa Z h' a "java/util/ArrayList" ∧ Fld Z h' a "java/util/AbstractList" "modCount" "I" (.int (4 : Int32)) ∧ Fld Z h' a "java/util/ArrayList" "elementData" "[Ljava/lang/Object;" (.ref b) ∧ Fld Z h' a "java/util/ArrayList" "size" "I" (.int (4 : Int32)) ∧ Exa Z h' b "[Ljava/lang/Object;" ∧ Av Z h' b (.object "java/lang/Object") [(.ref r1), (.ref r2), (.ref r3), (.ref x), .null, .null, .null, .null, .null, .null] ∧ OvA Z h' b "java/lang/Object") := by
  refine MetW.of (Ls := #[.val (.ref a), .val (.ref x)]) (a0 := a0) (by first | (simp [plainName, overriddenIn]; done) | decide +kernel) (fun m => by first | (simp [entryFrame, mkF, argsToLocals, Value.category]; done) | rfl) (own_EW hw) (fun q => nomatch q) (fun p_ e_ s_ m_ below_ meth_ c_ hs0 C => ?_)
  refine Go.know (fun hX _ hM => ?_)
  refine g_aloadN C dI_0 rfl rfl ?_
  refine g_dup C dI_1 rfl ?_
  refine g_getfield (host := "") C dI_2 (Or.inl (hw _ (List.mem_of_getElem? (i := 55) rfl))) (Via.of (hw _ (List.mem_of_getElem? (i := 56) rfl))) F0 ?_
  refine g_iconst (1 : Int32) C dI_5 (by decide) ?_
  refine g_iadd (4 : Int32) C dI_6 (by decide) ?_
  refine g_putfield (host := "") C dI_7 (Or.inl (hw _ (List.mem_of_getElem? (i := 55) rfl))) (Via.of (hw _ (List.mem_of_getElem? (i := 56) rfl))) F0 E (Or.inl (hw _ (List.mem_of_getElem? (i := 46) rfl))) (hw _ (List.mem_of_getElem? (i := 27) rfl)) (ty := .int) (by decide) rfl rfl (List.mem_of_getElem? (i := 0) rfl) (fun h1 W2 K3 => ?_)
  have f4 := Fld.same W2 F0
  have f5 := Fld.other W2 F1 (Or.inr (slot_ne (Or.inl (hw _ (List.mem_of_getElem? (i := 49) rfl))) (Or.inl (hw _ (List.mem_of_getElem? (i := 46) rfl))) (by decide) (t := (.array (.object "java/lang/Object"))) (t' := .int) (by decide) (by decide)))
  have f6 := Fld.other W2 F2 (Or.inr (slot_ne (Or.inl (hw _ (List.mem_of_getElem? (i := 58) rfl))) (Or.inl (hw _ (List.mem_of_getElem? (i := 46) rfl))) (by decide) (t := .int) (t' := .int) (by decide) (by decide)))
  refine g_aloadN C dI_10 rfl rfl ?_
  refine g_aloadN C dI_11 rfl rfl ?_
  refine g_aloadN C dI_12 rfl rfl ?_
  refine g_getfield (host := "") C dI_13 (Or.inl (hw _ (List.mem_of_getElem? (i := 48) rfl))) Via.refl f5 ?_
  refine g_aloadN C dI_16 rfl rfl ?_
  refine g_getfield (host := "") C dI_17 (Or.inl (hw _ (List.mem_of_getElem? (i := 57) rfl))) Via.refl f6 ?_
  have f14 := (E.keep K3)
  have f15 := (X.keep K3)
  have f16 := (Eb.keep K3)
  have f17 := (A.keep K3 (ninS (Ne.symm hab) nin0))
  have f18 := (O.keep K3)
  refine g_invokeprivate [(.ref x), (.ref b), (.int (3 : Int32))] [] 0 C dI_20 (hw _ (List.mem_of_getElem? (i := 59) rfl)) (hw _ (List.mem_of_getElem? (i := 60) rfl)) (hw _ (List.mem_of_getElem? (i := 62) rfl)) (hw _ (List.mem_of_getElem? (i := 61) rfl)) (hw _ (List.mem_of_getElem? (i := 28) rfl)) (hw _ (List.mem_of_getElem? (i := 63) rfl)) (by decide) f14 (m_add3_3 l Z a0 hw S0 hz0 SD SE Ld Le MI a x b _ _ _ _ f14 f4 f5 f6 f15 f16 f17 f18 hab) (lenOf pd10 rfl) rfl rfl (Nat.le_of_ble_eq_true rfl) (by decide) (by decide) (by decide) (by decide) (allS (List.mem_of_getElem? (i := 0) rfl) (allS (List.mem_of_getElem? (i := 1) rfl) all0)) (fun v19 h20 L21 q22 K23 => ?_)
  obtain ⟨rfl, f7, f8, f9, f10, f11, f12, f13⟩ := q22
  show Go _ _ _ _ _ _ _ _ _ _ _ _ _ _ _ _ _ _ _ _ _ _ (mkF _ 23 #[.val (.ref a), .val (.ref x)] [])
  refine g_iconst (1 : Int32) C dI_23 (by decide) ?_
  exact g_retN C dI_24 (by simp) ⟨rfl, f7, f8, f9, f10, f11, f12, f13⟩ (by decide) (by decide)
theorem dJ_0 : decode jdk_38_method_9_code 0 = .ok (.aload_n 0, 1) := by decide +kernel
theorem dJ_1 : decode jdk_38_method_9_code 1 = .ok (.getfield 48, 3) := by decide +kernel
theorem dJ_4 : decode jdk_38_method_9_code 4 = .ok (.ifCond .ne 7, 3) := by decide +kernel
theorem dJ_11 : decode jdk_38_method_9_code 11 = .ok (.iconst 0, 1) := by decide +kernel
theorem dJ_12 : decode jdk_38_method_9_code 12 = .ok (.ireturn, 1) := by decide +kernel
set_option maxRecDepth 65536 in
set_option maxHeartbeats 80000000 in
theorem m_isEmpty1 (l : Launch) (Z : State) (a0 : Array Value) {z0 : Int32} (hw : ∀ d ∈ tables_1, d.before a0 Z = true) (S0 : Sta Z Z.heap "java/lang/String" "COMPACT_STRINGS" "Z" (.int z0)) (hz0 : ¬ z0 = 0) {dc em mir : Addr} (SD : Sta Z Z.heap "java/util/ArrayList" "DEFAULTCAPACITY_EMPTY_ELEMENTDATA" "[Ljava/lang/Object;" (.ref dc)) (SE : Sta Z Z.heap "java/util/ImmutableCollections" "EMPTY" "Ljava/lang/Object;" (.ref em)) (Ld : dc < Z.heap.size) (Le : em < Z.heap.size) (MI : MirC Z "[Ljava/lang/Object;" mir) (a : Addr) (h : Heap) (F : Fld Z h a "java/util/ArrayList" "size" "I" (.int (1 : Int32))) :
    MetW true l Z [("java/lang/String", 7)] (⟨"java/util/ArrayList", "isEmpty", "()Z"⟩ : MethodName) jdk_38_method_9_code 1 (Option.some Jvm.ClassFile.FieldType.boolean) [] ({ frames := 0, cells := 0, slots := 0, locals := 0 } : Room) #[(.ref a)] [] h (fun v h' => v = some (.int (0 : Int32))) := by
  refine MetW.of (Ls := #[.val (.ref a)]) (a0 := a0) (by first | (simp [plainName, overriddenIn]; done) | decide +kernel) (fun m => by first | (simp [entryFrame, mkF, argsToLocals, Value.category]; done) | rfl) (own_EW hw) (fun q => nomatch q) (fun p_ e_ s_ m_ below_ meth_ c_ hs0 C => ?_)
  refine g_aloadN C dJ_0 rfl rfl ?_
  refine g_getfield (host := "") C dJ_1 (Or.inl (hw _ (List.mem_of_getElem? (i := 57) rfl))) Via.refl F ?_
  refine g_ifT 11 C dJ_4 (show ¬ (1 : Int32) = (0 : Int32) by decide) (by decide) (by decide) ?_
  refine g_iconst (0 : Int32) C dJ_11 (by decide) ?_
  exact g_retN C dJ_12 (by simp) rfl (by decide) (by decide)
set_option maxRecDepth 65536 in
set_option maxHeartbeats 80000000 in
theorem m_isEmpty2 (l : Launch) (Z : State) (a0 : Array Value) {z0 : Int32} (hw : ∀ d ∈ tables_1, d.before a0 Z = true) (S0 : Sta Z Z.heap "java/lang/String" "COMPACT_STRINGS" "Z" (.int z0)) (hz0 : ¬ z0 = 0) {dc em mir : Addr} (SD : Sta Z Z.heap "java/util/ArrayList" "DEFAULTCAPACITY_EMPTY_ELEMENTDATA" "[Ljava/lang/Object;" (.ref dc)) (SE : Sta Z Z.heap "java/util/ImmutableCollections" "EMPTY" "Ljava/lang/Object;" (.ref em)) (Ld : dc < Z.heap.size) (Le : em < Z.heap.size) (MI : MirC Z "[Ljava/lang/Object;" mir) (a : Addr) (h : Heap) (F : Fld Z h a "java/util/ArrayList" "size" "I" (.int (2 : Int32))) :
    MetW true l Z [("java/lang/String", 7)] (⟨"java/util/ArrayList", "isEmpty", "()Z"⟩ : MethodName) jdk_38_method_9_code 1 (Option.some Jvm.ClassFile.FieldType.boolean) [] ({ frames := 0, cells := 0, slots := 0, locals := 0 } : Room) #[(.ref a)] [] h (fun v h' => v = some (.int (0 : Int32))) := by
  refine MetW.of (Ls := #[.val (.ref a)]) (a0 := a0) (by first | (simp [plainName, overriddenIn]; done) | decide +kernel) (fun m => by first | (simp [entryFrame, mkF, argsToLocals, Value.category]; done) | rfl) (own_EW hw) (fun q => nomatch q) (fun p_ e_ s_ m_ below_ meth_ c_ hs0 C => ?_)
  refine g_aloadN C dJ_0 rfl rfl ?_
  refine g_getfield (host := "") C dJ_1 (Or.inl (hw _ (List.mem_of_getElem? (i := 57) rfl))) Via.refl F ?_
  refine g_ifT 11 C dJ_4 (show ¬ (2 : Int32) = (0 : Int32) by decide) (by decide) (by decide) ?_
  refine g_iconst (0 : Int32) C dJ_11 (by decide) ?_
  exact g_retN C dJ_12 (by simp) rfl (by decide) (by decide)
set_option maxRecDepth 65536 in
set_option maxHeartbeats 80000000 in
theorem m_isEmpty3 (l : Launch) (Z : State) (a0 : Array Value) {z0 : Int32} (hw : ∀ d ∈ tables_1, d.before a0 Z = true) (S0 : Sta Z Z.heap "java/lang/String" "COMPACT_STRINGS" "Z" (.int z0)) (hz0 : ¬ z0 = 0) {dc em mir : Addr} (SD : Sta Z Z.heap "java/util/ArrayList" "DEFAULTCAPACITY_EMPTY_ELEMENTDATA" "[Ljava/lang/Object;" (.ref dc)) (SE : Sta Z Z.heap "java/util/ImmutableCollections" "EMPTY" "Ljava/lang/Object;" (.ref em)) (Ld : dc < Z.heap.size) (Le : em < Z.heap.size) (MI : MirC Z "[Ljava/lang/Object;" mir) (a : Addr) (h : Heap) (F : Fld Z h a "java/util/ArrayList" "size" "I" (.int (3 : Int32))) :
    MetW true l Z [("java/lang/String", 7)] (⟨"java/util/ArrayList", "isEmpty", "()Z"⟩ : MethodName) jdk_38_method_9_code 1 (Option.some Jvm.ClassFile.FieldType.boolean) [] ({ frames := 0, cells := 0, slots := 0, locals := 0 } : Room) #[(.ref a)] [] h (fun v h' => v = some (.int (0 : Int32))) := by
  refine MetW.of (Ls := #[.val (.ref a)]) (a0 := a0) (by first | (simp [plainName, overriddenIn]; done) | decide +kernel) (fun m => by first | (simp [entryFrame, mkF, argsToLocals, Value.category]; done) | rfl) (own_EW hw) (fun q => nomatch q) (fun p_ e_ s_ m_ below_ meth_ c_ hs0 C => ?_)
  refine g_aloadN C dJ_0 rfl rfl ?_
  refine g_getfield (host := "") C dJ_1 (Or.inl (hw _ (List.mem_of_getElem? (i := 57) rfl))) Via.refl F ?_
  refine g_ifT 11 C dJ_4 (show ¬ (3 : Int32) = (0 : Int32) by decide) (by decide) (by decide) ?_
  refine g_iconst (0 : Int32) C dJ_11 (by decide) ?_
  exact g_retN C dJ_12 (by simp) rfl (by decide) (by decide)
theorem dK_0 : decode jdk_65_method_120_code 0 = .ok (.aload_n 2, 1) := by decide +kernel
theorem dK_1 : decode jdk_65_method_120_code 1 = .ok (.ldc 110, 2) := by decide +kernel
theorem dK_3 : decode jdk_65_method_120_code 3 = .ok (.if_acmp .ne 10, 3) := by decide +kernel
theorem dK_6 : decode jdk_65_method_120_code 6 = .ok (.iload_n 1, 1) := by decide +kernel
theorem dK_7 : decode jdk_65_method_120_code 7 = .ok (.anewarray 2, 3) := by decide +kernel
theorem dK_10 : decode jdk_65_method_120_code 10 = .ok (.goto 14, 3) := by decide +kernel
theorem dK_24 : decode jdk_65_method_120_code 24 = .ok (.astore_n 3, 1) := by decide +kernel
theorem dK_25 : decode jdk_65_method_120_code 25 = .ok (.aload_n 0, 1) := by decide +kernel
theorem dK_26 : decode jdk_65_method_120_code 26 = .ok (.iconst 0, 1) := by decide +kernel
theorem dK_27 : decode jdk_65_method_120_code 27 = .ok (.aload_n 3, 1) := by decide +kernel
theorem dK_28 : decode jdk_65_method_120_code 28 = .ok (.iconst 0, 1) := by decide +kernel
theorem dK_29 : decode jdk_65_method_120_code 29 = .ok (.aload_n 0, 1) := by decide +kernel
theorem dK_30 : decode jdk_65_method_120_code 30 = .ok (.arraylength, 1) := by decide +kernel
theorem dK_31 : decode jdk_65_method_120_code 31 = .ok (.iload_n 1, 1) := by decide +kernel
theorem dK_32 : decode jdk_65_method_120_code 32 = .ok (.invokestatic 304, 3) := by decide +kernel
theorem dK_35 : decode jdk_65_method_120_code 35 = .ok (.invokestatic 150, 3) := by decide +kernel
theorem dK_38 : decode jdk_65_method_120_code 38 = .ok (.aload_n 3, 1) := by decide +kernel
theorem dK_39 : decode jdk_65_method_120_code 39 = .ok (.areturn, 1) := by decide +kernel
set_option maxRecDepth 65536 in
set_option maxHeartbeats 80000000 in
theorem m_copy3_1 (l : Launch) (Z : State) (a0 : Array Value) {z0 : Int32} (hw : ∀ d ∈ tables_1, d.before a0 Z = true) (S0 : Sta Z Z.heap "java/lang/String" "COMPACT_STRINGS" "Z" (.int z0)) (hz0 : ¬ z0 = 0) {dc em mir : Addr} (SD : Sta Z Z.heap "java/util/ArrayList" "DEFAULTCAPACITY_EMPTY_ELEMENTDATA" "[Ljava/lang/Object;" (.ref dc)) (SE : Sta Z Z.heap "java/util/ImmutableCollections" "EMPTY" "Ljava/lang/Object;" (.ref em)) (Ld : dc < Z.heap.size) (Le : em < Z.heap.size) (MI : MirC Z "[Ljava/lang/Object;" mir) (b : Addr) (r1 : Addr) (h : Heap) (Eb : Exa Z h b "[Ljava/lang/Object;") (A : Av Z h b (.object "java/lang/Object") [(.ref r1), .null, .null, .null, .null, .null, .null, .null, .null, .null]) (X1 : Exa Z h r1 "java/lang/String") :
    MetW true l Z [("java/lang/String", 7)] (⟨"java/util/Arrays", "copyOf", "([Ljava/lang/Object;ILjava/lang/Class;)[Ljava/lang/Object;"⟩ : MethodName) jdk_65_method_120_code 4 (Option.some (Jvm.ClassFile.FieldType.array (Jvm.ClassFile.FieldType.object "java/lang/Object"))) [] ({ frames := 1, cells := 1, slots := 1, locals := 24 } : Room) #[(.ref b), (.int (1 : Int32)), (.ref mir)] [] h (fun v h' => ∃ d : Addr, v = some (.ref d) ∧ h.size ≤ d ∧ Exa Z h' d "[Ljava/lang/Object;" ∧ Av Z h' d (.object "java/lang/Object") [(.ref r1)] ∧ OvA Z h' d "java/lang/Object") := by
  refine MetW.of (Ls := #[.val (.ref b), .val (.int (1 : Int32)), .val (.ref mir), .unset]) (a0 := a0) (by first | (simp [plainName, overriddenIn]; done) | decide +kernel) (fun m => by first | (simp [entryFrame, mkF, argsToLocals, Value.category]; done) | rfl) (own_EW hw) (fun q => nomatch q) (fun p_ e_ s_ m_ below_ meth_ c_ hs0 C => ?_)
  refine Go.know (fun hX _ hM => ?_)
  refine g_aloadN C dK_0 rfl rfl ?_
  refine g_ldcClass C dK_1 (hw _ (List.mem_of_getElem? (i := 137) rfl)) MI ?_
  refine g_acmpF C dK_3 rfl rfl rfl ?_
  refine g_iloadN C dK_6 rfl ?_
  refine g_anewarray_ (ad := "[Ljava/lang/Object;") 1 [.null] C dK_7 (hw _ (List.mem_of_getElem? (i := 138) rfl)) (hw _ (List.mem_of_getElem? (i := 79) rfl)) (by decide) (by decide) (by decide) (by decide) (by decide) (by decide) (by decide) (fun a1 h2 e3 E4 l5 f6 f7 f8 => ?_)
  have K9 := keep_ext E4
  have f8 : OvA Z h2 a1 "java/lang/Object" := f8
  refine g_goto 24 C dK_10 (by decide) (by decide) ?_
  refine g_astoreN #[.val (.ref b), .val (.int (1 : Int32)), .val (.ref mir), .val (.ref a1)] C dK_24 rfl rfl ?_
  refine g_aloadN C dK_25 rfl rfl ?_
  refine g_iconst (0 : Int32) C dK_26 (by decide) ?_
  refine g_aloadN C dK_27 rfl rfl ?_
  refine g_iconst (0 : Int32) C dK_28 (by decide) ?_
  refine g_aloadN C dK_29 rfl rfl ?_
  have f10 := (A.keep K9 nin0)
  refine g_alen C dK_30 f10 (z := (10 : Int32)) rfl ?_
  refine g_iloadN C dK_31 rfl ?_
  refine g_invokestatic [(.int (10 : Int32)), (.int (1 : Int32))] [(.int (0 : Int32)), (.ref a1), (.int (0 : Int32)), (.ref b)] 4 C dK_32 (hw _ (List.mem_of_getElem? (i := 139) rfl)) (hw _ (List.mem_of_getElem? (i := 140) rfl)) (hw _ (List.mem_of_getElem? (i := 76) rfl)) (hw _ (List.mem_of_getElem? (i := 141) rfl)) (by decide) (m_min1 l Z a0 hw S0 hz0 SD SE Ld Le MI _) (lenOf pd7 rfl) rfl rfl (Nat.le_of_ble_eq_true rfl) (by decide) (by decide) (by decide) (by decide) all0 (fun v11 h12 L13 q14 K15 => ?_)
  obtain rfl := q14
  show Go _ _ _ _ _ _ _ _ _ _ _ _ _ _ _ _ _ _ _ _ _ _ (mkF _ 35 #[.val (.ref b), .val (.int (1 : Int32)), .val (.ref mir), .val (.ref a1)] [(.int (1 : Int32)), (.int (0 : Int32)), (.ref a1), (.int (0 : Int32)), (.ref b)])
  have f16 := (f10.keep K15 nin0)
  have f17 := (f7.keep K15 nin0)
  have f18 := (f8.keep K15)
  have f19 := ((X1.keep K9).keep K15)
  refine g_arraycopy [(.ref r1)] [(.ref r1)] C dK_35 (hw _ (List.mem_of_getElem? (i := 142) rfl)) (hw _ (List.mem_of_getElem? (i := 145) rfl)) (hw _ (List.mem_of_getElem? (i := 143) rfl)) (hw _ (List.mem_of_getElem? (i := 144) rfl)) f16 f17 (Or.inr ⟨rfl, rfl, ⟨Sto.ofAv f17 f18 (Ins.of_exa f19 (hw _ (List.mem_of_getElem? (i := 80) rfl))), trivial⟩⟩) (by decide) (by decide) (by decide) (Nat.le_of_ble_eq_true rfl) (Nat.le_of_ble_eq_true rfl) rfl rfl (List.mem_of_getElem? (i := 0) rfl) rfl (by decide) (Nat.le_of_ble_eq_true rfl) (fun h20 L21 K22 f23 => ?_)
  show Go _ _ _ _ _ _ _ _ _ _ _ _ _ _ _ _ _ _ _ _ _ _ (mkF _ 38 #[.val (.ref b), .val (.int (1 : Int32)), .val (.ref mir), .val (.ref a1)] [])
  refine g_aloadN C dK_38 rfl rfl ?_
  have f24 := ((f6.keep K15).keep K22)
  have f25 := (f18.keep K22)
  exact g_retA C dK_39 rfl rfl ⟨a1, rfl, Nat.le_trans (Nat.le_refl _) (Nat.le_of_eq e3.symm), f24, f23, f25⟩ (by decide) (by decide)
theorem dL_0 : decode jdk_65_method_119_code 0 = .ok (.aload_n 0, 1) := by decide +kernel
theorem dL_1 : decode jdk_65_method_119_code 1 = .ok (.iload_n 1, 1) := by decide +kernel
theorem dL_2 : decode jdk_65_method_119_code 2 = .ok (.aload_n 0, 1) := by decide +kernel
theorem dL_3 : decode jdk_65_method_119_code 3 = .ok (.invokevirtual 86, 3) := by decide +kernel
theorem dL_6 : decode jdk_65_method_119_code 6 = .ok (.invokestatic 300, 3) := by decide +kernel
theorem dL_9 : decode jdk_65_method_119_code 9 = .ok (.areturn, 1) := by decide +kernel
set_option maxRecDepth 65536 in
set_option maxHeartbeats 80000000 in
theorem m_copy2_1 (l : Launch) (Z : State) (a0 : Array Value) {z0 : Int32} (hw : ∀ d ∈ tables_1, d.before a0 Z = true) (S0 : Sta Z Z.heap "java/lang/String" "COMPACT_STRINGS" "Z" (.int z0)) (hz0 : ¬ z0 = 0) {dc em mir : Addr} (SD : Sta Z Z.heap "java/util/ArrayList" "DEFAULTCAPACITY_EMPTY_ELEMENTDATA" "[Ljava/lang/Object;" (.ref dc)) (SE : Sta Z Z.heap "java/util/ImmutableCollections" "EMPTY" "Ljava/lang/Object;" (.ref em)) (Ld : dc < Z.heap.size) (Le : em < Z.heap.size) (MI : MirC Z "[Ljava/lang/Object;" mir) (b : Addr) (r1 : Addr) (h : Heap) (Eb : Exa Z h b "[Ljava/lang/Object;") (A : Av Z h b (.object "java/lang/Object") [(.ref r1), .null, .null, .null, .null, .null, .null, .null, .null, .null]) (X1 : Exa Z h r1 "java/lang/String") :
    MetW true l Z [("java/lang/String", 7)] (⟨"java/util/Arrays", "copyOf", "([Ljava/lang/Object;I)[Ljava/lang/Object;"⟩ : MethodName) jdk_65_method_119_code 2 (Option.some (Jvm.ClassFile.FieldType.array (Jvm.ClassFile.FieldType.object "java/lang/Object"))) [] ({ frames := 2, cells := 1, slots := 1, locals := 39 } : Room) #[(.ref b), (.int (1 : Int32))] [] h (fun v h' => ∃ d : Addr, v = some (.ref d) ∧ h.size ≤ d ∧ Exa Z h' d "[Ljava/lang/Object;" ∧ Av Z h' d (.object "java/lang/Object") [(.ref r1)] ∧ OvA Z h' d "java/lang/Object") := by
  refine MetW.of (Ls := #[.val (.ref b), .val (.int (1 : Int32))]) (a0 := a0) (by first | (simp [plainName, overriddenIn]; done) | decide +kernel) (fun m => by first | (simp [entryFrame, mkF, argsToLocals, Value.category]; done) | rfl) (own_EW hw) (fun q => nomatch q) (fun p_ e_ s_ m_ below_ meth_ c_ hs0 C => ?_)
  refine Go.know (fun hX _ hM => ?_)
  refine g_aloadN C dL_0 rfl rfl ?_
  refine g_iloadN C dL_1 rfl ?_
  refine g_aloadN C dL_2 rfl rfl ?_
  refine g_getClass C dL_3 (hw _ (List.mem_of_getElem? (i := 128) rfl)) (hw _ (List.mem_of_getElem? (i := 129) rfl)) (hw _ (List.mem_of_getElem? (i := 131) rfl)) (hw _ (List.mem_of_getElem? (i := 130) rfl)) (hw _ (List.mem_of_getElem? (i := 132) rfl)) Eb MI rfl (by decide) (Nat.le_of_ble_eq_true rfl) ?_
  show Go _ _ _ _ _ _ _ _ _ _ _ _ _ _ _ _ _ _ _ _ _ _ (mkF _ 6 #[.val (.ref b), .val (.int (1 : Int32))] [(.ref mir), (.int (1 : Int32)), (.ref b)])
  refine g_invokestatic [(.ref b), (.int (1 : Int32)), (.ref mir)] [] 0 C dL_6 (hw _ (List.mem_of_getElem? (i := 134) rfl)) (hw _ (List.mem_of_getElem? (i := 135) rfl)) (hw _ (List.mem_of_getElem? (i := 126) rfl)) (hw _ (List.mem_of_getElem? (i := 136) rfl)) (by decide) (m_copy3_1 l Z a0 hw S0 hz0 SD SE Ld Le MI _ _ _ Eb A X1) (lenOf pd11 rfl) rfl rfl (Nat.le_of_ble_eq_true rfl) (by decide) (by decide) (by decide) (by decide) all0 (fun v6 h7 L8 q9 K10 => ?_)
  obtain ⟨d1, rfl, g2, f3, f4, f5⟩ := q9
  show Go _ _ _ _ _ _ _ _ _ _ _ _ _ _ _ _ _ _ _ _ _ _ (mkF _ 9 #[.val (.ref b), .val (.int (1 : Int32))] [(.ref d1)])
  exact g_retA C dL_9 rfl rfl ⟨d1, rfl, Nat.le_trans (Nat.le_refl _) g2, f3, f4, f5⟩ (by decide) (by decide)
theorem dM_0 : decode jdk_38_method_16_code 0 = .ok (.aload_n 0, 1) := by decide +kernel
theorem dM_1 : decode jdk_38_method_16_code 1 = .ok (.getfield 9, 3) := by decide +kernel
theorem dM_4 : decode jdk_38_method_16_code 4 = .ok (.aload_n 0, 1) := by decide +kernel
theorem dM_5 : decode jdk_38_method_16_code 5 = .ok (.getfield 48, 3) := by decide +kernel
theorem dM_8 : decode jdk_38_method_16_code 8 = .ok (.invokestatic 66, 3) := by decide +kernel
theorem dM_11 : decode jdk_38_method_16_code 11 = .ok (.areturn, 1) := by decide +kernel
set_option maxRecDepth 65536 in
set_option maxHeartbeats 80000000 in
theorem m_toArray1 (l : Launch) (Z : State) (a0 : Array Value) {z0 : Int32} (hw : ∀ d ∈ tables_1, d.before a0 Z = true) (S0 : Sta Z Z.heap "java/lang/String" "COMPACT_STRINGS" "Z" (.int z0)) (hz0 : ¬ z0 = 0) {dc em mir : Addr} (SD : Sta Z Z.heap "java/util/ArrayList" "DEFAULTCAPACITY_EMPTY_ELEMENTDATA" "[Ljava/lang/Object;" (.ref dc)) (SE : Sta Z Z.heap "java/util/ImmutableCollections" "EMPTY" "Ljava/lang/Object;" (.ref em)) (Ld : dc < Z.heap.size) (Le : em < Z.heap.size) (MI : MirC Z "[Ljava/lang/Object;" mir) (a b : Addr) (r1 : Addr) (h : Heap) (E : Exa Z h a "java/util/ArrayList") (F0 : Fld Z h a "java/util/AbstractList" "modCount" "I" (.int (1 : Int32))) (F1 : Fld Z h a "java/util/ArrayList" "elementData" "[Ljava/lang/Object;" (.ref b)) (F2 : Fld Z h a "java/util/ArrayList" "size" "I" (.int (1 : Int32))) (Eb : Exa Z h b "[Ljava/lang/Object;") (A : Av Z h b (.object "java/lang/Object") [(.ref r1), .null, .null, .null, .null, .null, .null, .null, .null, .null]) (X1 : Exa Z h r1 "java/lang/String") :
    MetW true l Z [("java/lang/String", 7)] (⟨"java/util/ArrayList", "toArray", "()[Ljava/lang/Object;"⟩ : MethodName) jdk_38_method_16_code 1 (Option.some (Jvm.ClassFile.FieldType.array (Jvm.ClassFile.FieldType.object "java/lang/Object"))) [] ({ frames := 3, cells := 1, slots := 1, locals := 52 } : Room) #[(.ref a)] [] h (fun v h' => ∃ d : Addr, v = some (.ref d) ∧ h.size ≤ d ∧ Exa Z h' d "[Ljava/lang/Object;" ∧ Av Z h' d (.object "java/lang/Object") [(.ref r1)] ∧ OvA Z h' d "java/lang/Object") := by
  refine MetW.of (Ls := #[.val (.ref a)]) (a0 := a0) (by first | (simp [plainName, overriddenIn]; done) | decide +kernel) (fun m => by first | (simp [entryFrame, mkF, argsToLocals, Value.category]; done) | rfl) (own_EW hw) (fun q => nomatch q) (fun p_ e_ s_ m_ below_ meth_ c_ hs0 C => ?_)
  refine Go.know (fun hX _ hM => ?_)
  refine g_aloadN C dM_0 rfl rfl ?_
  refine g_getfield (host := "") C dM_1 (Or.inl (hw _ (List.mem_of_getElem? (i := 48) rfl))) Via.refl F1 ?_
  refine g_aloadN C dM_4 rfl rfl ?_
  refine g_getfield (host := "") C dM_5 (Or.inl (hw _ (List.mem_of_getElem? (i := 57) rfl))) Via.refl F2 ?_
  refine g_invokestatic [(.ref b), (.int (1 : Int32))] [] 0 C dM_8 (hw _ (List.mem_of_getElem? (i := 124) rfl)) (hw _ (List.mem_of_getElem? (i := 125) rfl)) (hw _ (List.mem_of_getElem? (i := 126) rfl)) (hw _ (List.mem_of_getElem? (i := 127) rfl)) (by decide) (m_copy2_1 l Z a0 hw S0 hz0 SD SE Ld Le MI _ _ _ Eb A X1) (lenOf pd12 rfl) rfl rfl (Nat.le_of_ble_eq_true rfl) (by decide) (by decide) (by decide) (by decide) all0 (fun v6 h7 L8 q9 K10 => ?_)
  obtain ⟨d1, rfl, g2, f3, f4, f5⟩ := q9
  show Go _ _ _ _ _ _ _ _ _ _ _ _ _ _ _ _ _ _ _ _ _ _ (mkF _ 11 #[.val (.ref a)] [(.ref d1)])
  exact g_retA C dM_11 rfl rfl ⟨d1, rfl, Nat.le_trans (Nat.le_refl _) g2, f3, f4, f5⟩ (by decide) (by decide)
set_option maxRecDepth 65536 in
set_option maxHeartbeats 80000000 in
theorem m_copy3_2 (l : Launch) (Z : State) (a0 : Array Value) {z0 : Int32} (hw : ∀ d ∈ tables_1, d.before a0 Z = true) (S0 : Sta Z Z.heap "java/lang/String" "COMPACT_STRINGS" "Z" (.int z0)) (hz0 : ¬ z0 = 0) {dc em mir : Addr} (SD : Sta Z Z.heap "java/util/ArrayList" "DEFAULTCAPACITY_EMPTY_ELEMENTDATA" "[Ljava/lang/Object;" (.ref dc)) (SE : Sta Z Z.heap "java/util/ImmutableCollections" "EMPTY" "Ljava/lang/Object;" (.ref em)) (Ld : dc < Z.heap.size) (Le : em < Z.heap.size) (MI : MirC Z "[Ljava/lang/Object;" mir) (b : Addr) (r1 r2 : Addr) (h : Heap) (Eb : Exa Z h b "[Ljava/lang/Object;") (A : Av Z h b (.object "java/lang/Object") [(.ref r1), (.ref r2), .null, .null, .null, .null, .null, .null, .null, .null]) (X1 : Exa Z h r1 "java/lang/String") (X2 : Exa Z h r2 "java/lang/String") :
    MetW true l Z [("java/lang/String", 7)] (⟨"java/util/Arrays", "copyOf", "([Ljava/lang/Object;ILjava/lang/Class;)[Ljava/lang/Object;"⟩ : MethodName) jdk_65_method_120_code 4 (Option.some (Jvm.ClassFile.FieldType.array (Jvm.ClassFile.FieldType.object "java/lang/Object"))) [] ({ frames := 1, cells := 1, slots := 2, locals := 24 } : Room) #[(.ref b), (.int (2 : Int32)), (.ref mir)] [] h (fun v h' => ∃ d : Addr, v = some (.ref d) ∧ h.size ≤ d ∧ Exa Z h' d "[Ljava/lang/Object;" ∧ Av Z h' d (.object "java/lang/Object") [(.ref r1), (.ref r2)] ∧ OvA Z h' d "java/lang/Object") := by
  refine MetW.of (Ls := #[.val (.ref b), .val (.int (2 : Int32)), .val (.ref mir), .unset]) (a0 := a0) (by first | (simp [plainName, overriddenIn]; done) | decide +kernel) (fun m => by first | (simp [entryFrame, mkF, argsToLocals, Value.category]; done) | rfl) (own_EW hw) (fun q => nomatch q) (fun p_ e_ s_ m_ below_ meth_ c_ hs0 C => ?_)
  refine Go.know (fun hX _ hM => ?_)
  refine g_aloadN C dK_0 rfl rfl ?_
  refine g_ldcClass C dK_1 (hw _ (List.mem_of_getElem? (i := 137) rfl)) MI ?_
  refine g_acmpF C dK_3 rfl rfl rfl ?_
  refine g_iloadN C dK_6 rfl ?_
  refine g_anewarray_ (ad := "[Ljava/lang/Object;") 2 [.null, .null] C dK_7 (hw _ (List.mem_of_getElem? (i := 138) rfl)) (hw _ (List.mem_of_getElem? (i := 79) rfl)) (by decide) (by decide) (by decide) (by decide) (by decide) (by decide) (by decide) (fun a1 h2 e3 E4 l5 f6 f7 f8 => ?_)
  have K9 := keep_ext E4
  have f8 : OvA Z h2 a1 "java/lang/Object" := f8
  refine g_goto 24 C dK_10 (by decide) (by decide) ?_
  refine g_astoreN #[.val (.ref b), .val (.int (2 : Int32)), .val (.ref mir), .val (.ref a1)] C dK_24 rfl rfl ?_
  refine g_aloadN C dK_25 rfl rfl ?_
  refine g_iconst (0 : Int32) C dK_26 (by decide) ?_
  refine g_aloadN C dK_27 rfl rfl ?_
  refine g_iconst (0 : Int32) C dK_28 (by decide) ?_
  refine g_aloadN C dK_29 rfl rfl ?_
  have f10 := (A.keep K9 nin0)
  refine g_alen C dK_30 f10 (z := (10 : Int32)) rfl ?_
  refine g_iloadN C dK_31 rfl ?_
  refine g_invokestatic [(.int (10 : Int32)), (.int (2 : Int32))] [(.int (0 : Int32)), (.ref a1), (.int (0 : Int32)), (.ref b)] 4 C dK_32 (hw _ (List.mem_of_getElem? (i := 139) rfl)) (hw _ (List.mem_of_getElem? (i := 140) rfl)) (hw _ (List.mem_of_getElem? (i := 76) rfl)) (hw _ (List.mem_of_getElem? (i := 141) rfl)) (by decide) (m_min2 l Z a0 hw S0 hz0 SD SE Ld Le MI _) (lenOf pd7 rfl) rfl rfl (Nat.le_of_ble_eq_true rfl) (by decide) (by decide) (by decide) (by decide) all0 (fun v11 h12 L13 q14 K15 => ?_)
  obtain rfl := q14
  show Go _ _ _ _ _ _ _ _ _ _ _ _ _ _ _ _ _ _ _ _ _ _ (mkF _ 35 #[.val (.ref b), .val (.int (2 : Int32)), .val (.ref mir), .val (.ref a1)] [(.int (2 : Int32)), (.int (0 : Int32)), (.ref a1), (.int (0 : Int32)), (.ref b)])
  have f16 := (f10.keep K15 nin0)
  have f17 := (f7.keep K15 nin0)
  have f18 := (f8.keep K15)
  have f19 := ((X2.keep K9).keep K15)
  have f20 := ((X1.keep K9).keep K15)
  refine g_arraycopy [(.ref r1), (.ref r2)] [(.ref r1), (.ref r2)] C dK_35 (hw _ (List.mem_of_getElem? (i := 142) rfl)) (hw _ (List.mem_of_getElem? (i := 145) rfl)) (hw _ (List.mem_of_getElem? (i := 143) rfl)) (hw _ (List.mem_of_getElem? (i := 144) rfl)) f16 f17 (Or.inr ⟨rfl, rfl, ⟨Sto.ofAv f17 f18 (Ins.of_exa f20 (hw _ (List.mem_of_getElem? (i := 80) rfl))), ⟨Sto.ofAv f17 f18 (Ins.of_exa f19 (hw _ (List.mem_of_getElem? (i := 80) rfl))), trivial⟩⟩⟩) (by decide) (by decide) (by decide) (Nat.le_of_ble_eq_true rfl) (Nat.le_of_ble_eq_true rfl) rfl rfl (List.mem_of_getElem? (i := 0) rfl) rfl (by decide) (Nat.le_of_ble_eq_true rfl) (fun h21 L22 K23 f24 => ?_)
  show Go _ _ _ _ _ _ _ _ _ _ _ _ _ _ _ _ _ _ _ _ _ _ (mkF _ 38 #[.val (.ref b), .val (.int (2 : Int32)), .val (.ref mir), .val (.ref a1)] [])
  refine g_aloadN C dK_38 rfl rfl ?_
  have f25 := ((f6.keep K15).keep K23)
  have f26 := (f18.keep K23)
  exact g_retA C dK_39 rfl rfl ⟨a1, rfl, Nat.le_trans (Nat.le_refl _) (Nat.le_of_eq e3.symm), f25, f24, f26⟩ (by decide) (by decide)
set_option maxRecDepth 65536 in
set_option maxHeartbeats 80000000 in
theorem m_copy2_2 (l : Launch) (Z : State) (a0 : Array Value) {z0 : Int32} (hw : ∀ d ∈ tables_1, d.before a0 Z = true) (S0 : Sta Z Z.heap "java/lang/String" "COMPACT_STRINGS" "Z" (.int z0)) (hz0 : ¬ z0 = 0) {dc em mir : Addr} (SD : Sta Z Z.heap "java/util/ArrayList" "DEFAULTCAPACITY_EMPTY_ELEMENTDATA" "[Ljava/lang/Object;" (.ref dc)) (SE : Sta Z Z.heap "java/util/ImmutableCollections" "EMPTY" "Ljava/lang/Object;" (.ref em)) (Ld : dc < Z.heap.size) (Le : em < Z.heap.size) (MI : MirC Z "[Ljava/lang/Object;" mir) (b : Addr) (r1 r2 : Addr) (h : Heap) (Eb : Exa Z h b "[Ljava/lang/Object;") (A : Av Z h b (.object "java/lang/Object") [(.ref r1), (.ref r2), .null, .null, .null, .null, .null, .null, .null, .null]) (X1 : Exa Z h r1 "java/lang/String") (X2 : Exa Z h r2 "java/lang/String") :
    MetW true l Z [("java/lang/String", 7)] (⟨"java/util/Arrays", "copyOf", "([Ljava/lang/Object;I)[Ljava/lang/Object;"⟩ : MethodName) jdk_65_method_119_code 2 (Option.some (Jvm.ClassFile.FieldType.array (Jvm.ClassFile.FieldType.object "java/lang/Object"))) [] ({ frames := 2, cells := 1, slots := 2, locals := 39 } : Room) #[(.ref b), (.int (2 : Int32))] [] h (fun v h' => ∃ d : Addr, v = some (.ref d) ∧ h.size ≤ d ∧ Exa Z h' d "[Ljava/lang/Object;" ∧ Av Z h' d (.object "java/lang/Object") [(.ref r1), (.ref r2)] ∧ OvA Z h' d "java/lang/Object") := by
  refine MetW.of (Ls := #[.val (.ref b), .val (.int (2 : Int32))]) (a0 := a0) (by first | (simp [plainName, overriddenIn]; done) | decide +kernel) (fun m => by first | (simp [entryFrame, mkF, argsToLocals, Value.category]; done) | rfl) (own_EW hw) (fun q => nomatch q) (fun p_ e_ s_ m_ below_ meth_ c_ hs0 C => ?_)
  refine Go.know (fun hX _ hM => ?_)
  refine g_aloadN C dL_0 rfl rfl ?_
  refine g_iloadN C dL_1 rfl ?_
  refine g_aloadN C dL_2 rfl rfl ?_
  refine g_getClass C dL_3 (hw _ (List.mem_of_getElem? (i := 128) rfl)) (hw _ (List.mem_of_getElem? (i := 129) rfl)) (hw _ (List.mem_of_getElem? (i := 131) rfl)) (hw _ (List.mem_of_getElem? (i := 130) rfl)) (hw _ (List.mem_of_getElem? (i := 132) rfl)) Eb MI rfl (by decide) (Nat.le_of_ble_eq_true rfl) ?_
  show Go _ _ _ _ _ _ _ _ _ _ _ _ _ _ _ _ _ _ _ _ _ _ (mkF _ 6 #[.val (.ref b), .val (.int (2 : Int32))] [(.ref mir), (.int (2 : Int32)), (.ref b)])
  refine g_invokestatic [(.ref b), (.int (2 : Int32)), (.ref mir)] [] 0 C dL_6 (hw _ (List.mem_of_getElem? (i := 134) rfl)) (hw _ (List.mem_of_getElem? (i := 135) rfl)) (hw _ (List.mem_of_getElem? (i := 126) rfl)) (hw _ (List.mem_of_getElem? (i := 136) rfl)) (by decide) (m_copy3_2 l Z a0 hw S0 hz0 SD SE Ld Le MI _ _ _ _ Eb A X1 X2) (lenOf pd11 rfl) rfl rfl (Nat.le_of_ble_eq_true rfl) (by decide) (by decide) (by decide) (by decide) all0 (fun v6 h7 L8 q9 K10 => ?_)
  obtain ⟨d1, rfl, g2, f3, f4, f5⟩ := q9
  show Go _ _ _ _ _ _ _ _ _ _ _ _ _ _ _ _ _ _ _ _ _ _ (mkF _ 9 #[.val (.ref b), .val (.int (2 : Int32))] [(.ref d1)])
  exact g_retA C dL_9 rfl rfl ⟨d1, rfl, Nat.le_trans (Nat.le_refl _) g2, f3, f4, f5⟩ (by decide) (by decide)
set_option maxRecDepth 65536 in
set_option maxHeartbeats 80000000 in
theorem m_toArray2 (l : Launch) (Z : State) (a0 : Array Value) {z0 : Int32} (hw : ∀ d ∈ tables_1, d.before a0 Z = true) (S0 : Sta Z Z.heap "java/lang/String" "COMPACT_STRINGS" "Z" (.int z0)) (hz0 : ¬ z0 = 0) {dc em mir : Addr} (SD : Sta Z Z.heap "java/util/ArrayList" "DEFAULTCAPACITY_EMPTY_ELEMENTDATA" "[Ljava/lang/Object;" (.ref dc)) (SE : Sta Z Z.heap "java/util/ImmutableCollections" "EMPTY" "Ljava/lang/Object;" (.ref em)) (Ld : dc < Z.heap.size) (Le : em < Z.heap.size) (MI : MirC Z "[Ljava/lang/Object;" mir) (a b : Addr) (r1 r2 : Addr) (h : Heap) (E : Exa Z h a "java/util/ArrayList") (F0 : Fld Z h a "java/util/AbstractList" "modCount" "I" (.int (2 : Int32))) (F1 : Fld Z h a "java/util/ArrayList" "elementData" "[Ljava/lang/Object;" (.ref b)) (F2 : Fld Z h a "java/util/ArrayList" "size" "I" (.int (2 : Int32))) (Eb : Exa Z h b "[Ljava/lang/Object;") (A : Av Z h b (.object "java/lang/Object") [(.ref r1), (.ref r2), .null, .null, .null, .null, .null, .null, .null, .null]) (X1 : Exa Z h r1 "java/lang/String") (X2 : Exa Z h r2 "java/lang/String") :
    MetW true l Z [("java/lang/String", 7)] (⟨"java/util/ArrayList", "toArray", "()[Ljava/lang/Object;"⟩ : MethodName) jdk_38_method_16_code 1 (Option.some (Jvm.ClassFile.FieldType.array (Jvm.ClassFile.FieldType.object "java/lang/Object"))) [] ({ frames := 3, cells := 1, slots := 2, locals := 52 } : Room) #[(.ref a)] [] h (fun v h' => ∃ d : Addr, v = some (.ref d) ∧ h.size ≤ d ∧ Exa Z h' d "[Ljava/lang/Object;" ∧ Av Z h' d (.object "java/lang/Object") [(.ref r1), (.ref r2)] ∧ OvA Z h' d "java/lang/Object") := by
  refine MetW.of (Ls := #[.val (.ref a)]) (a0 := a0) (by first | (simp [plainName, overriddenIn]; done) | decide +kernel) (fun m => by first | (simp [entryFrame, mkF, argsToLocals, Value.category]; done) | rfl) (own_EW hw) (fun q => nomatch q) (fun p_ e_ s_ m_ below_ meth_ c_ hs0 C => ?_)
  refine Go.know (fun hX _ hM => ?_)
  refine g_aloadN C dM_0 rfl rfl ?_
  refine g_getfield (host := "") C dM_1 (Or.inl (hw _ (List.mem_of_getElem? (i := 48) rfl))) Via.refl F1 ?_
  refine g_aloadN C dM_4 rfl rfl ?_
  refine g_getfield (host := "") C dM_5 (Or.inl (hw _ (List.mem_of_getElem? (i := 57) rfl))) Via.refl F2 ?_
  refine g_invokestatic [(.ref b), (.int (2 : Int32))] [] 0 C dM_8 (hw _ (List.mem_of_getElem? (i := 124) rfl)) (hw _ (List.mem_of_getElem? (i := 125) rfl)) (hw _ (List.mem_of_getElem? (i := 126) rfl)) (hw _ (List.mem_of_getElem? (i := 127) rfl)) (by decide) (m_copy2_2 l Z a0 hw S0 hz0 SD SE Ld Le MI _ _ _ _ Eb A X1 X2) (lenOf pd12 rfl) rfl rfl (Nat.le_of_ble_eq_true rfl) (by decide) (by decide) (by decide) (by decide) all0 (fun v6 h7 L8 q9 K10 => ?_)
  obtain ⟨d1, rfl, g2, f3, f4, f5⟩ := q9
  show Go _ _ _ _ _ _ _ _ _ _ _ _ _ _ _ _ _ _ _ _ _ _ (mkF _ 11 #[.val (.ref a)] [(.ref d1)])
  exact g_retA C dM_11 rfl rfl ⟨d1, rfl, Nat.le_trans (Nat.le_refl _) g2, f3, f4, f5⟩ (by decide) (by decide)
set_option maxRecDepth 65536 in
set_option maxHeartbeats 80000000 in
theorem m_copy3_3 (l : Launch) (Z : State) (a0 : Array Value) {z0 : Int32} (hw : ∀ d ∈ tables_1, d.before a0 Z = true) (S0 : Sta Z Z.heap "java/lang/String" "COMPACT_STRINGS" "Z" (.int z0)) (hz0 : ¬ z0 = 0) {dc em mir : Addr} (SD : Sta Z Z.heap "java/util/ArrayList" "DEFAULTCAPACITY_EMPTY_ELEMENTDATA" "[Ljava/lang/Object;" (.ref dc)) (SE : Sta Z Z.heap "java/util/ImmutableCollections" "EMPTY" "Ljava/lang/Object;" (.ref em)) (Ld : dc < Z.heap.size) (Le : em < Z.heap.size) (MI : MirC Z "[Ljava/lang/Object;" mir) (b : Addr) (r1 r2 r3 : Addr) (h : Heap) (Eb : Exa Z h b "[Ljava/lang/Object;") (A : Av Z h b (.object "java/lang/Object") [(.ref r1), (.ref r2), (.ref r3), .null, .null, .null, .null, .null, .null, .null]) (X1 : Exa Z h r1 "java/lang/String") (X2 : Exa Z h r2 "java/lang/String") (X3 : Exa Z h r3 "java/lang/String") :
    MetW true l Z [("java/lang/String", 7)] (⟨"java/util/Arrays", "copyOf", "([Ljava/lang/Object;ILjava/lang/Class;)[Ljava/lang/Object;"⟩ : MethodName) jdk_65_method_120_code 4 (Option.some (Jvm.ClassFile.FieldType.array (Jvm.ClassFile.FieldType.object "java/lang/Object"))) [] ({ frames := 1, cells := 1, slots := 3, locals := 24 } : Room) #[(.ref b), (.int (3 : Int32)), (.ref mir)] [] h (fun v h' => ∃ d : Addr, v = some (.ref d) ∧ h.size ≤ d ∧ Exa Z h' d "[Ljava/lang/Object;" ∧ Av Z h' d (.object "java/lang/Object") [(.ref r1), (.ref r2), (.ref r3)] ∧ OvA Z h' d "java/lang/Object") := by
  refine MetW.of (Ls := #[.val (.ref b), .val (.int (3 : Int32)), .val (.ref mir), .unset]) (a0 := a0) (by first | (simp [plainName, overriddenIn]; done) | decide +kernel) (fun m => by first | (simp [entryFrame, mkF, argsToLocals, Value.category]; done) | rfl) (own_EW hw) (fun q => nomatch q) (fun p_ e_ s_ m_ below_ meth_ c_ hs0 C => ?_)
  refine Go.know (fun hX _ hM => ?_)
  refine g_aloadN C dK_0 rfl rfl ?_
  refine g_ldcClass C dK_1 (hw _ (List.mem_of_getElem? (i := 137) rfl)) MI ?_
  refine g_acmpF C dK_3 rfl rfl rfl ?_
  refine g_iloadN C dK_6 rfl ?_
  refine g_anewarray_ (ad := "[Ljava/lang/Object;") 3 [.null, .null, .null] C dK_7 (hw _ (List.mem_of_getElem? (i := 138) rfl)) (hw _ (List.mem_of_getElem? (i := 79) rfl)) (by decide) (by decide) (by decide) (by decide) (by decide) (by decide) (by decide) (fun a1 h2 e3 E4 l5 f6 f7 f8 => ?_)
  have K9 := keep_ext E4
  have f8 : OvA Z h2 a1 "java/lang/Object" := f8
  refine g_goto 24 C dK_10 (by decide) (by decide) ?_
  refine g_astoreN #[.val (.ref b), .val (.int (3 : Int32)), .val (.ref mir), .val (.ref a1)] C dK_24 rfl rfl ?_
  refine g_aloadN C dK_25 rfl rfl ?_
  refine g_iconst (0 : Int32) C dK_26 (by decide) ?_
  refine g_aloadN C dK_27 rfl rfl ?_
  refine g_iconst (0 : Int32) C dK_28 (by decide) ?_
  refine g_aloadN C dK_29 rfl rfl ?_
  have f10 := (A.keep K9 nin0)
  refine g_alen C dK_30 f10 (z := (10 : Int32)) rfl ?_
  refine g_iloadN C dK_31 rfl ?_
  refine g_invokestatic [(.int (10 : Int32)), (.int (3 : Int32))] [(.int (0 : Int32)), (.ref a1), (.int (0 : Int32)), (.ref b)] 4 C dK_32 (hw _ (List.mem_of_getElem? (i := 139) rfl)) (hw _ (List.mem_of_getElem? (i := 140) rfl)) (hw _ (List.mem_of_getElem? (i := 76) rfl)) (hw _ (List.mem_of_getElem? (i := 141) rfl)) (by decide) (m_min3 l Z a0 hw S0 hz0 SD SE Ld Le MI _) (lenOf pd7 rfl) rfl rfl (Nat.le_of_ble_eq_true rfl) (by decide) (by decide) (by decide) (by decide) all0 (fun v11 h12 L13 q14 K15 => ?_)
  obtain rfl := q14
  show Go _ _ _ _ _ _ _ _ _ _ _ _ _ _ _ _ _ _ _ _ _ _ (mkF _ 35 #[.val (.ref b), .val (.int (3 : Int32)), .val (.ref mir), .val (.ref a1)] [(.int (3 : Int32)), (.int (0 : Int32)), (.ref a1), (.int (0 : Int32)), (.ref b)])
  have f16 := (f10.keep K15 nin0)
  have f17 := (f7.keep K15 nin0)
  have f18 := (f8.keep K15)
  have f19 := ((X3.keep K9).keep K15)
  have f20 := ((X2.keep K9).keep K15)
  have f21 := ((X1.keep K9).keep K15)
  refine g_arraycopy [(.ref r1), (.ref r2), (.ref r3)] [(.ref r1), (.ref r2), (.ref r3)] C dK_35 (hw _ (List.mem_of_getElem? (i := 142) rfl)) (hw _ (List.mem_of_getElem? (i := 145) rfl)) (hw _ (List.mem_of_getElem? (i := 143) rfl)) (hw _ (List.mem_of_getElem? (i := 144) rfl)) f16 f17 (Or.inr ⟨rfl, rfl, ⟨Sto.ofAv f17 f18 (Ins.of_exa f21 (hw _ (List.mem_of_getElem? (i := 80) rfl))), ⟨Sto.ofAv f17 f18 (Ins.of_exa f20 (hw _ (List.mem_of_getElem? (i := 80) rfl))), ⟨Sto.ofAv f17 f18 (Ins.of_exa f19 (hw _ (List.mem_of_getElem? (i := 80) rfl))), trivial⟩⟩⟩⟩) (by decide) (by decide) (by decide) (Nat.le_of_ble_eq_true rfl) (Nat.le_of_ble_eq_true rfl) rfl rfl (List.mem_of_getElem? (i := 0) rfl) rfl (by decide) (Nat.le_of_ble_eq_true rfl) (fun h22 L23 K24 f25 => ?_)
  show Go _ _ _ _ _ _ _ _ _ _ _ _ _ _ _ _ _ _ _ _ _ _ (mkF _ 38 #[.val (.ref b), .val (.int (3 : Int32)), .val (.ref mir), .val (.ref a1)] [])
  refine g_aloadN C dK_38 rfl rfl ?_
  have f26 := ((f6.keep K15).keep K24)
  have f27 := (f18.keep K24)
  exact g_retA C dK_39 rfl rfl ⟨a1, rfl, Nat.le_trans (Nat.le_refl _) (Nat.le_of_eq e3.symm), f26, f25, f27⟩ (by decide) (by decide)
set_option maxRecDepth 65536 in
set_option maxHeartbeats 80000000 in
theorem m_copy2_3 (l : Launch) (Z : State) (a0 : Array Value) {z0 : Int32} (hw : ∀ d ∈ tables_1, d.before a0 Z = true) (S0 : Sta Z Z.heap "java/lang/String" "COMPACT_STRINGS" "Z" (.int z0)) (hz0 : ¬ z0 = 0) {dc em mir : Addr} (SD : Sta Z Z.heap "java/util/ArrayList" "DEFAULTCAPACITY_EMPTY_ELEMENTDATA" "[Ljava/lang/Object;" (.ref dc)) (SE : Sta Z Z.heap "java/util/ImmutableCollections" "EMPTY" "Ljava/lang/Object;" (.ref em)) (Ld : dc < Z.heap.size) (Le : em < Z.heap.size) (MI : MirC Z "[Ljava/lang/Object;" mir) (b : Addr) (r1 r2 r3 : Addr) (h : Heap) (Eb : Exa Z h b "[Ljava/lang/Object;") (A : Av Z h b (.object "java/lang/Object") [(.ref r1), (.ref r2), (.ref r3), .null, .null, .null, .null, .null, .null, .null]) (X1 : Exa Z h r1 "java/lang/String") (X2 : Exa Z h r2 "java/lang/String") (X3 : Exa Z h r3 "java/lang/String") :
    MetW true l Z [("java/lang/String", 7)] (⟨"java/util/Arrays", "copyOf", "([Ljava/lang/Object;I)[Ljava/lang/Object;"⟩ : MethodName) jdk_65_method_119_code 2 (Option.some (Jvm.ClassFile.FieldType.array (Jvm.ClassFile.FieldType.object "java/lang/Object"))) [] ({ frames := 2, cells := 1, slots := 3, locals := 39 } : Room) #[(.ref b), (.int (3 : Int32))] [] h (fun v h' => ∃ d : Addr, v = some (.ref d) ∧ h.size ≤ d ∧ Exa Z h' d "[Ljava/lang/Object;" ∧ Av Z h' d (.object "java/lang/Object") [(.ref r1), (.ref r2), (.ref r3)] ∧ OvA Z h' d "java/lang/Object") := by
  refine MetW.of (Ls := #[.val (.ref b), .val (.int (3 : Int32))]) (a0 := a0) (by first | (simp [plainName, overriddenIn]; done) | decide +kernel) (fun m => by first | (simp [entryFrame, mkF, argsToLocals, Value.category]; done) | rfl) (own_EW hw) (fun q => nomatch q) (fun p_ e_ s_ m_ below_ meth_ c_ hs0 C => ?_)
  refine Go.know (fun hX _ hM => ?_)
  refine g_aloadN C dL_0 rfl rfl ?_
  refine g_iloadN C dL_1 rfl ?_
  refine g_aloadN C dL_2 rfl rfl ?_
  refine g_getClass C dL_3 (hw _ (List.mem_of_getElem? (i := 128) rfl)) (hw _ (List.mem_of_getElem? (i := 129) rfl)) (hw _ (List.mem_of_getElem? (i := 131) rfl)) (hw _ (List.mem_of_getElem? (i := 130) rfl)) (hw _ (List.mem_of_getElem? (i := 132) rfl)) Eb MI rfl (by decide) (Nat.le_of_ble_eq_true rfl) ?_
  show Go _ _ _ _ _ _ _ _ _ _ _ _ _ _ _ _ _ _ _ _ _ _ (mkF _ 6 #[.val (.ref b), .val (.int (3 : Int32))] [(.ref mir), (.int (3 : Int32)), (.ref b)])
  refine g_invokestatic [(.ref b), (.int (3 : Int32)), (.ref mir)] [] 0 C dL_6 (hw _ (List.mem_of_getElem? (i := 134) rfl)) (hw _ (List.mem_of_getElem? (i := 135) rfl)) (hw _ (List.mem_of_getElem? (i := 126) rfl)) (hw _ (List.mem_of_getElem? (i := 136) rfl)) (by decide) (m_copy3_3 l Z a0 hw S0 hz0 SD SE Ld Le MI _ _ _ _ _ Eb A X1 X2 X3) (lenOf pd11 rfl) rfl rfl (Nat.le_of_ble_eq_true rfl) (by decide) (by decide) (by decide) (by decide) all0 (fun v6 h7 L8 q9 K10 => ?_)
  obtain ⟨d1, rfl, g2, f3, f4, f5⟩ := q9
  show Go _ _ _ _ _ _ _ _ _ _ _ _ _ _ _ _ _ _ _ _ _ _ (mkF _ 9 #[.val (.ref b), .val (.int (3 : Int32))] [(.ref d1)])
  exact g_retA C dL_9 rfl rfl ⟨d1, rfl, Nat.le_trans (Nat.le_refl _) g2, f3, f4, f5⟩ (by decide) (by decide)
set_option maxRecDepth 65536 in
set_option maxHeartbeats 80000000 in
theorem m_toArray3 (l : Launch) (Z : State) (a0 : Array Value) {z0 : Int32} (hw : ∀ d ∈ tables_1, d.before a0 Z = true) (S0 : Sta Z Z.heap "java/lang/String" "COMPACT_STRINGS" "Z" (.int z0)) (hz0 : ¬ z0 = 0) {dc em mir : Addr} (SD : Sta Z Z.heap "java/util/ArrayList" "DEFAULTCAPACITY_EMPTY_ELEMENTDATA" "[Ljava/lang/Object;" (.ref dc)) (SE : Sta Z Z.heap "java/util/ImmutableCollections" "EMPTY" "Ljava/lang/Object;" (.ref em)) (Ld : dc < Z.heap.size) (Le : em < Z.heap.size) (MI : MirC Z "[Ljava/lang/Object;" mir) (a b : Addr) (r1 r2 r3 : Addr) (h : Heap) (E : Exa Z h a "java/util/ArrayList") (F0 : Fld Z h a "java/util/AbstractList" "modCount" "I" (.int (3 : Int32))) (F1 : Fld Z h a "java/util/ArrayList" "elementData" "[Ljava/lang/Object;" (.ref b)) (F2 : Fld Z h a "java/util/ArrayList" "size" "I" (.int (3 : Int32))) (Eb : Exa Z h b "[Ljava/lang/Object;") (A : Av Z h b (.object "java/lang/Object") [(.ref r1), (.ref r2), (.ref r3), .null, .null, .null, .null, .null, .null, .null]) (X1 : Exa Z h r1 "java/lang/String") (X2 : Exa Z h r2 "java/lang/String") (X3 : Exa Z h r3 "java/lang/String") :
    MetW true l Z [("java/lang/String", 7)] (⟨"java/util/ArrayList", "toArray", "()[Ljava/lang/Object;"⟩ : MethodName) jdk_38_method_16_code 1 (Option.some (Jvm.ClassFile.FieldType.array (Jvm.ClassFile.FieldType.object "java/lang/Object"))) [] ({ frames := 3, cells := 1, slots := 3, locals := 52 } : Room) #[(.ref a)] [] h (fun v h' => ∃ d : Addr, v = some (.ref d) ∧ h.size ≤ d ∧ Exa Z h' d "[Ljava/lang/Object;" ∧ Av Z h' d (.object "java/lang/Object") [(.ref r1), (.ref r2), (.ref r3)] ∧ OvA Z h' d "java/lang/Object") := by
  refine MetW.of (Ls := #[.val (.ref a)]) (a0 := a0) (by first | (simp [plainName, overriddenIn]; done) | decide +kernel) (fun m => by first | (simp [entryFrame, mkF, argsToLocals, Value.category]; done) | rfl) (own_EW hw) (fun q => nomatch q) (fun p_ e_ s_ m_ below_ meth_ c_ hs0 C => ?_)
  refine Go.know (fun hX _ hM => ?_)
  refine g_aloadN C dM_0 rfl rfl ?_
  refine g_getfield (host := "") C dM_1 (Or.inl (hw _ (List.mem_of_getElem? (i := 48) rfl))) Via.refl F1 ?_
  refine g_aloadN C dM_4 rfl rfl ?_
  refine g_getfield (host := "") C dM_5 (Or.inl (hw _ (List.mem_of_getElem? (i := 57) rfl))) Via.refl F2 ?_
  refine g_invokestatic [(.ref b), (.int (3 : Int32))] [] 0 C dM_8 (hw _ (List.mem_of_getElem? (i := 124) rfl)) (hw _ (List.mem_of_getElem? (i := 125) rfl)) (hw _ (List.mem_of_getElem? (i := 126) rfl)) (hw _ (List.mem_of_getElem? (i := 127) rfl)) (by decide) (m_copy2_3 l Z a0 hw S0 hz0 SD SE Ld Le MI _ _ _ _ _ Eb A X1 X2 X3) (lenOf pd12 rfl) rfl rfl (Nat.le_of_ble_eq_true rfl) (by decide) (by decide) (by decide) (by decide) all0 (fun v6 h7 L8 q9 K10 => ?_)
  obtain ⟨d1, rfl, g2, f3, f4, f5⟩ := q9
  show Go _ _ _ _ _ _ _ _ _ _ _ _ _ _ _ _ _ _ _ _ _ _ (mkF _ 11 #[.val (.ref a)] [(.ref d1)])
  exact g_retA C dM_11 rfl rfl ⟨d1, rfl, Nat.le_trans (Nat.le_refl _) g2, f3, f4, f5⟩ (by decide) (by decide)
theorem dN_0 : decode jdk_31_method_10_code 0 = .ok (.aload_n 0, 1) := by decide +kernel
theorem dN_1 : decode jdk_31_method_10_code 1 = .ok (.ifnonnull 11, 3) := by decide +kernel
theorem dN_12 : decode jdk_31_method_10_code 12 = .ok (.aload_n 0, 1) := by decide +kernel
theorem dN_13 : decode jdk_31_method_10_code 13 = .ok (.areturn, 1) := by decide +kernel
set_option maxRecDepth 65536 in
set_option maxHeartbeats 80000000 in
theorem m_req (l : Launch) (Z : State) (a0 : Array Value) {z0 : Int32} (hw : ∀ d ∈ tables_1, d.before a0 Z = true) (S0 : Sta Z Z.heap "java/lang/String" "COMPACT_STRINGS" "Z" (.int z0)) (hz0 : ¬ z0 = 0) {dc em mir : Addr} (SD : Sta Z Z.heap "java/util/ArrayList" "DEFAULTCAPACITY_EMPTY_ELEMENTDATA" "[Ljava/lang/Object;" (.ref dc)) (SE : Sta Z Z.heap "java/util/ImmutableCollections" "EMPTY" "Ljava/lang/Object;" (.ref em)) (Ld : dc < Z.heap.size) (Le : em < Z.heap.size) (MI : MirC Z "[Ljava/lang/Object;" mir) (x : Addr) (h : Heap) :
    MetW true l Z [("java/lang/String", 7)] (⟨"java/util/Objects", "requireNonNull", "(Ljava/lang/Object;)Ljava/lang/Object;"⟩ : MethodName) jdk_31_method_10_code 1 (Option.some (Jvm.ClassFile.FieldType.object "java/lang/Object")) [] ({ frames := 0, cells := 0, slots := 0, locals := 0 } : Room) #[(.ref x)] [] h (fun v h' => v = some (.ref x)) := by
  refine MetW.of (Ls := #[.val (.ref x)]) (a0 := a0) (by first | (simp [plainName, overriddenIn]; done) | decide +kernel) (fun m => by first | (simp [entryFrame, mkF, argsToLocals, Value.category]; done) | rfl) (own_EW hw) (fun q => nomatch q) (fun p_ e_ s_ m_ below_ meth_ c_ hs0 C => ?_)
  refine g_aloadN C dN_0 rfl rfl ?_
  refine g_ifnonnullT 12 C dN_1 (by decide) (by decide) ?_
  refine g_aloadN C dN_12 rfl rfl ?_
  exact g_retA C dN_13 rfl rfl rfl (by decide) (by decide)
theorem dO1_0 : decode jdk_44_method_1_code 0 = .ok (.aload_n 0, 1) := by decide +kernel
theorem dO1_1 : decode jdk_44_method_1_code 1 = .ok (.invokespecial 1, 3) := by decide +kernel
theorem dO1_4 : decode jdk_44_method_1_code 4 = .ok (.aload_n 0, 1) := by decide +kernel
theorem dO1_5 : decode jdk_44_method_1_code 5 = .ok (.aload_n 1, 1) := by decide +kernel
theorem dO1_6 : decode jdk_44_method_1_code 6 = .ok (.invokestatic 7, 3) := by decide +kernel
theorem dO1_9 : decode jdk_44_method_1_code 9 = .ok (.putfield 13, 3) := by decide +kernel
theorem dO1_12 : decode jdk_44_method_1_code 12 = .ok (.aload_n 0, 1) := by decide +kernel
theorem dO1_13 : decode jdk_44_method_1_code 13 = .ok (.getstatic 19, 3) := by decide +kernel
theorem dO1_16 : decode jdk_44_method_1_code 16 = .ok (.putfield 24, 3) := by decide +kernel
theorem dO1_19 : decode jdk_44_method_1_code 19 = .ok (.return_, 1) := by decide +kernel
set_option maxRecDepth 65536 in
set_option maxHeartbeats 80000000 in
theorem m_l12_1 (l : Launch) (Z : State) (a0 : Array Value) {z0 : Int32} (hw : ∀ d ∈ tables_1, d.before a0 Z = true) (S0 : Sta Z Z.heap "java/lang/String" "COMPACT_STRINGS" "Z" (.int z0)) (hz0 : ¬ z0 = 0) {dc em mir : Addr} (SD : Sta Z Z.heap "java/util/ArrayList" "DEFAULTCAPACITY_EMPTY_ELEMENTDATA" "[Ljava/lang/Object;" (.ref dc)) (SE : Sta Z Z.heap "java/util/ImmutableCollections" "EMPTY" "Ljava/lang/Object;" (.ref em)) (Ld : dc < Z.heap.size) (Le : em < Z.heap.size) (MI : MirC Z "[Ljava/lang/Object;" mir) (a : Addr) (r1 : Addr) (h : Heap) (E : Exa Z h a "java/util/ImmutableCollections$List12") (F0 : Fld Z h a "java/util/ImmutableCollections$List12" "e0" "Ljava/lang/Object;" .null) (F1 : Fld Z h a "java/util/ImmutableCollections$List12" "e1" "Ljava/lang/Object;" .null) :
    MetW true l Z [("java/lang/String", 7)] (⟨"java/util/ImmutableCollections$List12", "<init>", "(Ljava/lang/Object;)V"⟩ : MethodName) jdk_44_method_1_code 2 none [] ({ frames := 4, cells := 0, slots := 0, locals := 48 } : Room) #[(.ref a), (.ref r1)] [a] h (fun v h' => v = none ∧ Exa Z h' a "java/util/ImmutableCollections$List12" ∧ Fld Z h' a "java/util/ImmutableCollections$List12" "e0" "Ljava/lang/Object;" (.ref r1) ∧ Fld Z h' a "java/util/ImmutableCollections$List12" "e1" "Ljava/lang/Object;" (.ref em)) := by
  refine MetW.of (Ls := #[.val (.ref a), .val (.ref r1)]) (a0 := a0) (by first | (simp [plainName, overriddenIn]; done) | decide +kernel) (fun m => by first | (simp [entryFrame, mkF, argsToLocals, Value.category]; done) | rfl) (own_EW hw) (fun q => nomatch q) (fun p_ e_ s_ m_ below_ meth_ c_ hs0 C => ?_)
  refine Go.know (fun hX _ hM => ?_)
  refine g_aloadN C dO1_0 rfl rfl ?_
  refine g_invokespecial [] [] 0 C dO1_1 rfl (hw _ (List.mem_of_getElem? (i := 156) rfl)) (hw _ (List.mem_of_getElem? (i := 157) rfl)) (hw _ (List.mem_of_getElem? (i := 160) rfl)) (hw _ (List.mem_of_getElem? (i := 161) rfl)) (by decide) (m_ail l Z a0 hw S0 hz0 SD SE Ld Le MI _ _) (lenOf pd6 rfl) rfl rfl (Nat.le_of_ble_eq_true rfl) (by decide) (by decide) (by decide) (by decide) all0 (fun v1 h2 L3 q4 K5 => ?_)
  obtain rfl := q4
  show Go _ _ _ _ _ _ _ _ _ _ _ _ _ _ _ _ _ _ _ _ _ _ (mkF _ 4 #[.val (.ref a), .val (.ref r1)] [])
  refine g_aloadN C dO1_4 rfl rfl ?_
  refine g_aloadN C dO1_5 rfl rfl ?_
  refine g_invokestatic [(.ref r1)] [(.ref a)] 1 C dO1_6 (hw _ (List.mem_of_getElem? (i := 170) rfl)) (hw _ (List.mem_of_getElem? (i := 171) rfl)) (hw _ (List.mem_of_getElem? (i := 172) rfl)) (hw _ (List.mem_of_getElem? (i := 173) rfl)) (by decide) (m_req l Z a0 hw S0 hz0 SD SE Ld Le MI _ _) (lenOf pd13 rfl) rfl rfl (Nat.le_of_ble_eq_true rfl) (by decide) (by decide) (by decide) (by decide) all0 (fun v6 h7 L8 q9 K10 => ?_)
  obtain rfl := q9
  show Go _ _ _ _ _ _ _ _ _ _ _ _ _ _ _ _ _ _ _ _ _ _ (mkF _ 9 #[.val (.ref a), .val (.ref r1)] [(.ref r1), (.ref a)])
  have f11 := ((F0.keep K5 nin0).keep K10 nin0)
  have f12 := ((E.keep K5).keep K10)
  have f13 := ((F1.keep K5 nin0).keep K10 nin0)
  refine g_putfield (host := "") C dO1_9 (Or.inl (hw _ (List.mem_of_getElem? (i := 174) rfl))) Via.refl f11 f12 (Or.inr ⟨(hw _ (List.mem_of_getElem? (i := 175) rfl)), rfl, rfl⟩) (hw _ (List.mem_of_getElem? (i := 150) rfl)) (ty := (.object "java/lang/Object")) (by decide) rfl rfl (List.mem_of_getElem? (i := 0) rfl) (fun h14 W15 K16 => ?_)
  have f17 := Fld.same W15 f11
  have f18 := Fld.other W15 f13 (Or.inr (slot_ne (Or.inr (hw _ (List.mem_of_getElem? (i := 178) rfl))) (Or.inr (hw _ (List.mem_of_getElem? (i := 175) rfl))) (by decide) (t := (.object "java/lang/Object")) (t' := (.object "java/lang/Object")) (by decide) (by decide)))
  refine g_aloadN C dO1_12 rfl rfl ?_
  refine g_getstatic C dO1_13 (Or.inr (hw _ (List.mem_of_getElem? (i := 176) rfl))) Via.refl SE ?_
  have f19 := (f12.keep K16)
  refine g_putfield (host := "") C dO1_16 (Or.inl (hw _ (List.mem_of_getElem? (i := 177) rfl))) Via.refl f18 f19 (Or.inr ⟨(hw _ (List.mem_of_getElem? (i := 178) rfl)), rfl, rfl⟩) (hw _ (List.mem_of_getElem? (i := 150) rfl)) (ty := (.object "java/lang/Object")) (by decide) rfl rfl (List.mem_of_getElem? (i := 0) rfl) (fun h20 W21 K22 => ?_)
  have f23 := Fld.same W21 f18
  have f24 := Fld.other W21 f17 (Or.inr (slot_ne (Or.inr (hw _ (List.mem_of_getElem? (i := 175) rfl))) (Or.inr (hw _ (List.mem_of_getElem? (i := 178) rfl))) (by decide) (t := (.object "java/lang/Object")) (t' := (.object "java/lang/Object")) (by decide) (by decide)))
  have f25 := (f19.keep K22)
  exact g_retU C dO1_19 ⟨rfl, f25, f24, f23⟩ (by decide) (by decide)
theorem dO2_0 : decode jdk_44_method_2_code 0 = .ok (.aload_n 0, 1) := by decide +kernel
theorem dO2_1 : decode jdk_44_method_2_code 1 = .ok (.invokespecial 1, 3) := by decide +kernel
theorem dO2_4 : decode jdk_44_method_2_code 4 = .ok (.aload_n 0, 1) := by decide +kernel
theorem dO2_5 : decode jdk_44_method_2_code 5 = .ok (.aload_n 1, 1) := by decide +kernel
theorem dO2_6 : decode jdk_44_method_2_code 6 = .ok (.invokestatic 7, 3) := by decide +kernel
theorem dO2_9 : decode jdk_44_method_2_code 9 = .ok (.putfield 13, 3) := by decide +kernel
theorem dO2_12 : decode jdk_44_method_2_code 12 = .ok (.aload_n 0, 1) := by decide +kernel
theorem dO2_13 : decode jdk_44_method_2_code 13 = .ok (.aload_n 2, 1) := by decide +kernel
theorem dO2_14 : decode jdk_44_method_2_code 14 = .ok (.invokestatic 7, 3) := by decide +kernel
theorem dO2_17 : decode jdk_44_method_2_code 17 = .ok (.putfield 24, 3) := by decide +kernel
theorem dO2_20 : decode jdk_44_method_2_code 20 = .ok (.return_, 1) := by decide +kernel
set_option maxRecDepth 65536 in
set_option maxHeartbeats 80000000 in
theorem m_l12_2 (l : Launch) (Z : State) (a0 : Array Value) {z0 : Int32} (hw : ∀ d ∈ tables_1, d.before a0 Z = true) (S0 : Sta Z Z.heap "java/lang/String" "COMPACT_STRINGS" "Z" (.int z0)) (hz0 : ¬ z0 = 0) {dc em mir : Addr} (SD : Sta Z Z.heap "java/util/ArrayList" "DEFAULTCAPACITY_EMPTY_ELEMENTDATA" "[Ljava/lang/Object;" (.ref dc)) (SE : Sta Z Z.heap "java/util/ImmutableCollections" "EMPTY" "Ljava/lang/Object;" (.ref em)) (Ld : dc < Z.heap.size) (Le : em < Z.heap.size) (MI : MirC Z "[Ljava/lang/Object;" mir) (a : Addr) (r1 r2 : Addr) (h : Heap) (E : Exa Z h a "java/util/ImmutableCollections$List12") (F0 : Fld Z h a "java/util/ImmutableCollections$List12" "e0" "Ljava/lang/Object;" .null) (F1 : Fld Z h a "java/util/ImmutableCollections$List12" "e1" "Ljava/lang/Object;" .null) :
    MetW true l Z [("java/lang/String", 7)] (⟨"java/util/ImmutableCollections$List12", "<init>", "(Ljava/lang/Object;Ljava/lang/Object;)V"⟩ : MethodName) jdk_44_method_2_code 3 none [] ({ frames := 4, cells := 0, slots := 0, locals := 48 } : Room) #[(.ref a), (.ref r1), (.ref r2)] [a] h (fun v h' => v = none ∧ Exa Z h' a "java/util/ImmutableCollections$List12" ∧ Fld Z h' a "java/util/ImmutableCollections$List12" "e0" "Ljava/lang/Object;" (.ref r1) ∧ Fld Z h' a "java/util/ImmutableCollections$List12" "e1" "Ljava/lang/Object;" (.ref r2)) := by
  refine MetW.of (Ls := #[.val (.ref a), .val (.ref r1), .val (.ref r2)]) (a0 := a0) (by first | (simp [plainName, overriddenIn]; done) | decide +kernel) (fun m => by first | (simp [entryFrame, mkF, argsToLocals, Value.category]; done) | rfl) (own_EW hw) (fun q => nomatch q) (fun p_ e_ s_ m_ below_ meth_ c_ hs0 C => ?_)
  refine Go.know (fun hX _ hM => ?_)
  refine g_aloadN C dO2_0 rfl rfl ?_
  refine g_invokespecial [] [] 0 C dO2_1 rfl (hw _ (List.mem_of_getElem? (i := 156) rfl)) (hw _ (List.mem_of_getElem? (i := 157) rfl)) (hw _ (List.mem_of_getElem? (i := 160) rfl)) (hw _ (List.mem_of_getElem? (i := 161) rfl)) (by decide) (m_ail l Z a0 hw S0 hz0 SD SE Ld Le MI _ _) (lenOf pd6 rfl) rfl rfl (Nat.le_of_ble_eq_true rfl) (by decide) (by decide) (by decide) (by decide) all0 (fun v1 h2 L3 q4 K5 => ?_)
  obtain rfl := q4
  show Go _ _ _ _ _ _ _ _ _ _ _ _ _ _ _ _ _ _ _ _ _ _ (mkF _ 4 #[.val (.ref a), .val (.ref r1), .val (.ref r2)] [])
  refine g_aloadN C dO2_4 rfl rfl ?_
  refine g_aloadN C dO2_5 rfl rfl ?_
  refine g_invokestatic [(.ref r1)] [(.ref a)] 1 C dO2_6 (hw _ (List.mem_of_getElem? (i := 170) rfl)) (hw _ (List.mem_of_getElem? (i := 171) rfl)) (hw _ (List.mem_of_getElem? (i := 172) rfl)) (hw _ (List.mem_of_getElem? (i := 173) rfl)) (by decide) (m_req l Z a0 hw S0 hz0 SD SE Ld Le MI _ _) (lenOf pd13 rfl) rfl rfl (Nat.le_of_ble_eq_true rfl) (by decide) (by decide) (by decide) (by decide) all0 (fun v6 h7 L8 q9 K10 => ?_)
  obtain rfl := q9
  show Go _ _ _ _ _ _ _ _ _ _ _ _ _ _ _ _ _ _ _ _ _ _ (mkF _ 9 #[.val (.ref a), .val (.ref r1), .val (.ref r2)] [(.ref r1), (.ref a)])
  have f11 := ((F0.keep K5 nin0).keep K10 nin0)
  have f12 := ((E.keep K5).keep K10)
  have f13 := ((F1.keep K5 nin0).keep K10 nin0)
  refine g_putfield (host := "") C dO2_9 (Or.inl (hw _ (List.mem_of_getElem? (i := 174) rfl))) Via.refl f11 f12 (Or.inr ⟨(hw _ (List.mem_of_getElem? (i := 175) rfl)), rfl, rfl⟩) (hw _ (List.mem_of_getElem? (i := 150) rfl)) (ty := (.object "java/lang/Object")) (by decide) rfl rfl (List.mem_of_getElem? (i := 0) rfl) (fun h14 W15 K16 => ?_)
  have f17 := Fld.same W15 f11
  have f18 := Fld.other W15 f13 (Or.inr (slot_ne (Or.inr (hw _ (List.mem_of_getElem? (i := 178) rfl))) (Or.inr (hw _ (List.mem_of_getElem? (i := 175) rfl))) (by decide) (t := (.object "java/lang/Object")) (t' := (.object "java/lang/Object")) (by decide) (by decide)))
  refine g_aloadN C dO2_12 rfl rfl ?_
  refine g_aloadN C dO2_13 rfl rfl ?_
  refine g_invokestatic [(.ref r2)] [(.ref a)] 1 C dO2_14 (hw _ (List.mem_of_getElem? (i := 170) rfl)) (hw _ (List.mem_of_getElem? (i := 171) rfl)) (hw _ (List.mem_of_getElem? (i := 172) rfl)) (hw _ (List.mem_of_getElem? (i := 173) rfl)) (by decide) (m_req l Z a0 hw S0 hz0 SD SE Ld Le MI _ _) (lenOf pd13 rfl) rfl rfl (Nat.le_of_ble_eq_true rfl) (by decide) (by decide) (by decide) (by decide) all0 (fun v19 h20 L21 q22 K23 => ?_)
  obtain rfl := q22
  show Go _ _ _ _ _ _ _ _ _ _ _ _ _ _ _ _ _ _ _ _ _ _ (mkF _ 17 #[.val (.ref a), .val (.ref r1), .val (.ref r2)] [(.ref r2), (.ref a)])
  have f24 := (f18.keep K23 nin0)
  have f25 := ((f12.keep K16).keep K23)
  have f26 := (f17.keep K23 nin0)
  refine g_putfield (host := "") C dO2_17 (Or.inl (hw _ (List.mem_of_getElem? (i := 177) rfl))) Via.refl f24 f25 (Or.inr ⟨(hw _ (List.mem_of_getElem? (i := 178) rfl)), rfl, rfl⟩) (hw _ (List.mem_of_getElem? (i := 150) rfl)) (ty := (.object "java/lang/Object")) (by decide) rfl rfl (List.mem_of_getElem? (i := 0) rfl) (fun h27 W28 K29 => ?_)
  have f30 := Fld.same W28 f24
  have f31 := Fld.other W28 f26 (Or.inr (slot_ne (Or.inr (hw _ (List.mem_of_getElem? (i := 175) rfl))) (Or.inr (hw _ (List.mem_of_getElem? (i := 178) rfl))) (by decide) (t := (.object "java/lang/Object")) (t' := (.object "java/lang/Object")) (by decide) (by decide)))
  have f32 := (f25.keep K29)
  exact g_retU C dO2_20 ⟨rfl, f32, f31, f30⟩ (by decide) (by decide)
theorem dP_0 : decode jdk_45_method_1_code 0 = .ok (.aload_n 0, 1) := by decide +kernel
theorem dP_1 : decode jdk_45_method_1_code 1 = .ok (.invokespecial 1, 3) := by decide +kernel
theorem dP_4 : decode jdk_45_method_1_code 4 = .ok (.aload_n 0, 1) := by decide +kernel
theorem dP_5 : decode jdk_45_method_1_code 5 = .ok (.aload_n 1, 1) := by decide +kernel
theorem dP_6 : decode jdk_45_method_1_code 6 = .ok (.putfield 7, 3) := by decide +kernel
theorem dP_9 : decode jdk_45_method_1_code 9 = .ok (.aload_n 0, 1) := by decide +kernel
theorem dP_10 : decode jdk_45_method_1_code 10 = .ok (.iload_n 2, 1) := by decide +kernel
theorem dP_11 : decode jdk_45_method_1_code 11 = .ok (.putfield 13, 3) := by decide +kernel
theorem dP_14 : decode jdk_45_method_1_code 14 = .ok (.return_, 1) := by decide +kernel
set_option maxRecDepth 65536 in
set_option maxHeartbeats 80000000 in
theorem m_lnInit (l : Launch) (Z : State) (a0 : Array Value) {z0 : Int32} (hw : ∀ d ∈ tables_1, d.before a0 Z = true) (S0 : Sta Z Z.heap "java/lang/String" "COMPACT_STRINGS" "Z" (.int z0)) (hz0 : ¬ z0 = 0) {dc em mir : Addr} (SD : Sta Z Z.heap "java/util/ArrayList" "DEFAULTCAPACITY_EMPTY_ELEMENTDATA" "[Ljava/lang/Object;" (.ref dc)) (SE : Sta Z Z.heap "java/util/ImmutableCollections" "EMPTY" "Ljava/lang/Object;" (.ref em)) (Ld : dc < Z.heap.size) (Le : em < Z.heap.size) (MI : MirC Z "[Ljava/lang/Object;" mir) (a u : Addr) (h : Heap) (E : Exa Z h a "java/util/ImmutableCollections$ListN") (F0 : Fld Z h a "java/util/ImmutableCollections$ListN" "elements" "[Ljava/lang/Object;" .null) (F1 : Fld Z h a "java/util/ImmutableCollections$ListN" "allowNulls" "Z" (.int (0 : Int32))) :
    MetW true l Z [("java/lang/String", 7)] (⟨"java/util/ImmutableCollections$ListN", "<init>", "([Ljava/lang/Object;Z)V"⟩ : MethodName) jdk_45_method_1_code 3 none [] ({ frames := 4, cells := 0, slots := 0, locals := 48 } : Room) #[(.ref a), (.ref u), (.int (0 : Int32))] [a] h (fun v h' => v = none ∧ Exa Z h' a "java/util/ImmutableCollections$ListN" ∧ Fld Z h' a "java/util/ImmutableCollections$ListN" "elements" "[Ljava/lang/Object;" (.ref u)) := by
  refine MetW.of (Ls := #[.val (.ref a), .val (.ref u), .val (.int (0 : Int32))]) (a0 := a0) (by first | (simp [plainName, overriddenIn]; done) | decide +kernel) (fun m => by first | (simp [entryFrame, mkF, argsToLocals, Value.category]; done) | rfl) (own_EW hw) (fun q => nomatch q) (fun p_ e_ s_ m_ below_ meth_ c_ hs0 C => ?_)
  refine Go.know (fun hX _ hM => ?_)
  refine g_aloadN C dP_0 rfl rfl ?_
  refine g_invokespecial [] [] 0 C dP_1 rfl (hw _ (List.mem_of_getElem? (i := 245) rfl)) (hw _ (List.mem_of_getElem? (i := 157) rfl)) (hw _ (List.mem_of_getElem? (i := 160) rfl)) (hw _ (List.mem_of_getElem? (i := 161) rfl)) (by decide) (m_ail l Z a0 hw S0 hz0 SD SE Ld Le MI _ _) (lenOf pd6 rfl) rfl rfl (Nat.le_of_ble_eq_true rfl) (by decide) (by decide) (by decide) (by decide) all0 (fun v1 h2 L3 q4 K5 => ?_)
  obtain rfl := q4
  show Go _ _ _ _ _ _ _ _ _ _ _ _ _ _ _ _ _ _ _ _ _ _ (mkF _ 4 #[.val (.ref a), .val (.ref u), .val (.int (0 : Int32))] [])
  refine g_aloadN C dP_4 rfl rfl ?_
  refine g_aloadN C dP_5 rfl rfl ?_
  have f6 := (F0.keep K5 nin0)
  have f7 := (E.keep K5)
  have f8 := (F1.keep K5 nin0)
  refine g_putfield (host := "") C dP_6 (Or.inl (hw _ (List.mem_of_getElem? (i := 249) rfl))) Via.refl f6 f7 (Or.inr ⟨(hw _ (List.mem_of_getElem? (i := 250) rfl)), rfl, rfl⟩) (hw _ (List.mem_of_getElem? (i := 239) rfl)) (ty := (.array (.object "java/lang/Object"))) (by decide) rfl rfl (List.mem_of_getElem? (i := 0) rfl) (fun h9 W10 K11 => ?_)
  have f12 := Fld.same W10 f6
  have f13 := Fld.other W10 f8 (Or.inr (slot_ne (Or.inr (hw _ (List.mem_of_getElem? (i := 252) rfl))) (Or.inr (hw _ (List.mem_of_getElem? (i := 250) rfl))) (by decide) (t := .boolean) (t' := (.array (.object "java/lang/Object"))) (by decide) (by decide)))
  refine g_aloadN C dP_9 rfl rfl ?_
  refine g_iloadN C dP_10 rfl ?_
  have f14 := (f7.keep K11)
  refine g_putfield (host := "") C dP_11 (Or.inl (hw _ (List.mem_of_getElem? (i := 251) rfl))) Via.refl f13 f14 (Or.inr ⟨(hw _ (List.mem_of_getElem? (i := 252) rfl)), rfl, rfl⟩) (hw _ (List.mem_of_getElem? (i := 239) rfl)) (ty := .boolean) (by decide) rfl rfl (List.mem_of_getElem? (i := 0) rfl) (fun h15 W16 K17 => ?_)
  have f18 := Fld.same W16 f13
  have f19 := Fld.other W16 f12 (Or.inr (slot_ne (Or.inr (hw _ (List.mem_of_getElem? (i := 250) rfl))) (Or.inr (hw _ (List.mem_of_getElem? (i := 252) rfl))) (by decide) (t := (.array (.object "java/lang/Object"))) (t' := .boolean) (by decide) (by decide)))
  have f20 := (f14.keep K17)
  exact g_retU C dP_14 ⟨rfl, f20, f19⟩ (by decide) (by decide)
theorem dQ_0 : decode jdk_56_method_4_code 0 = .ok (.aload_n 0, 1) := by decide +kernel
theorem dQ_1 : decode jdk_56_method_4_code 1 = .ok (.arraylength, 1) := by decide +kernel
theorem dQ_2 : decode jdk_56_method_4_code 2 = .ok (.anewarray 2, 3) := by decide +kernel
theorem dQ_5 : decode jdk_56_method_4_code 5 = .ok (.astore_n 1, 1) := by decide +kernel
theorem dQ_6 : decode jdk_56_method_4_code 6 = .ok (.iconst 0, 1) := by decide +kernel
theorem dQ_7 : decode jdk_56_method_4_code 7 = .ok (.istore_n 2, 1) := by decide +kernel
theorem dQ_8 : decode jdk_56_method_4_code 8 = .ok (.iload_n 2, 1) := by decide +kernel
theorem dQ_9 : decode jdk_56_method_4_code 9 = .ok (.aload_n 0, 1) := by decide +kernel
theorem dQ_10 : decode jdk_56_method_4_code 10 = .ok (.arraylength, 1) := by decide +kernel
theorem dQ_11 : decode jdk_56_method_4_code 11 = .ok (.if_icmp .ge 18, 3) := by decide +kernel
theorem dQ_14 : decode jdk_56_method_4_code 14 = .ok (.aload_n 1, 1) := by decide +kernel
theorem dQ_15 : decode jdk_56_method_4_code 15 = .ok (.iload_n 2, 1) := by decide +kernel
theorem dQ_16 : decode jdk_56_method_4_code 16 = .ok (.aload_n 0, 1) := by decide +kernel
theorem dQ_17 : decode jdk_56_method_4_code 17 = .ok (.iload_n 2, 1) := by decide +kernel
theorem dQ_18 : decode jdk_56_method_4_code 18 = .ok (.aaload, 1) := by decide +kernel
theorem dQ_19 : decode jdk_56_method_4_code 19 = .ok (.invokestatic 37, 3) := by decide +kernel
theorem dQ_22 : decode jdk_56_method_4_code 22 = .ok (.aastore, 1) := by decide +kernel
theorem dQ_23 : decode jdk_56_method_4_code 23 = .ok (.iinc 2 1, 3) := by decide +kernel
theorem dQ_26 : decode jdk_56_method_4_code 26 = .ok (.goto (-18), 3) := by decide +kernel
theorem dQ_29 : decode jdk_56_method_4_code 29 = .ok (.new 12, 3) := by decide +kernel
theorem dQ_32 : decode jdk_56_method_4_code 32 = .ok (.dup, 1) := by decide +kernel
theorem dQ_33 : decode jdk_56_method_4_code 33 = .ok (.aload_n 1, 1) := by decide +kernel
theorem dQ_34 : decode jdk_56_method_4_code 34 = .ok (.iconst 0, 1) := by decide +kernel
theorem dQ_35 : decode jdk_56_method_4_code 35 = .ok (.invokespecial 43, 3) := by decide +kernel
theorem dQ_38 : decode jdk_56_method_4_code 38 = .ok (.areturn, 1) := by decide +kernel
set_option maxRecDepth 65536 in
set_option maxHeartbeats 80000000 in
theorem m_lfa (l : Launch) (Z : State) (a0 : Array Value) {z0 : Int32} (hw : ∀ d ∈ tables_1, d.before a0 Z = true) (S0 : Sta Z Z.heap "java/lang/String" "COMPACT_STRINGS" "Z" (.int z0)) (hz0 : ¬ z0 = 0) {dc em mir : Addr} (SD : Sta Z Z.heap "java/util/ArrayList" "DEFAULTCAPACITY_EMPTY_ELEMENTDATA" "[Ljava/lang/Object;" (.ref dc)) (SE : Sta Z Z.heap "java/util/ImmutableCollections" "EMPTY" "Ljava/lang/Object;" (.ref em)) (Ld : dc < Z.heap.size) (Le : em < Z.heap.size) (MI : MirC Z "[Ljava/lang/Object;" mir) (d : Addr) (r1 r2 r3 : Addr) (h : Heap) (A : Av Z h d (.object "java/lang/Object") [(.ref r1), (.ref r2), (.ref r3)]) (X1 : Exa Z h r1 "java/lang/String") (X2 : Exa Z h r2 "java/lang/String") (X3 : Exa Z h r3 "java/lang/String") :
    MetW true l Z [("java/lang/String", 7)] (⟨"java/util/ImmutableCollections", "listFromArray", "([Ljava/lang/Object;)Ljava/util/List;"⟩ : MethodName) jdk_56_method_4_code 3 (Option.some (Jvm.ClassFile.FieldType.object "java/util/List")) [] ({ frames := 5, cells := 2, slots := 5, locals := 63 } : Room) #[(.ref d)] [] h (fun v h' => ∃ q u : Addr, v = some (.ref q) ∧ h.size ≤ q ∧ h.size ≤ u ∧ Exa Z h' q "java/util/ImmutableCollections$ListN" ∧ Fld Z h' q "java/util/ImmutableCollections$ListN" "elements" "[Ljava/lang/Object;" (.ref u) ∧ Av Z h' u (.object "java/lang/Object") [.ref r1, .ref r2, .ref r3]) := by
  refine MetW.of (Ls := #[.val (.ref d), .unset, .unset]) (a0 := a0) (by first | (simp [plainName, overriddenIn]; done) | decide +kernel) (fun m => by first | (simp [entryFrame, mkF, argsToLocals, Value.category]; done) | rfl) (own_EW hw) (fun q => nomatch q) (fun p_ e_ s_ m_ below_ meth_ c_ hs0 C => ?_)
  refine Go.know (fun hX _ hM => ?_)
  refine g_aloadN C dQ_0 rfl rfl ?_
  refine g_alen C dQ_1 A (z := (3 : Int32)) rfl ?_
  refine g_anewarray_ (ad := "[Ljava/lang/Object;") 3 [.null, .null, .null] C dQ_2 (hw _ (List.mem_of_getElem? (i := 237) rfl)) (hw _ (List.mem_of_getElem? (i := 79) rfl)) (by decide) (by decide) (by decide) (by decide) (by decide) (by decide) (by decide) (fun a1 h2 e3 E4 l5 f6 f7 f8 => ?_)
  have K9 := keep_ext E4
  have f8 : OvA Z h2 a1 "java/lang/Object" := f8
  refine g_astoreN #[.val (.ref d), .val (.ref a1), .unset] C dQ_5 rfl rfl ?_
  refine g_iconst (0 : Int32) C dQ_6 (by decide) ?_
  refine g_istoreN #[.val (.ref d), .val (.ref a1), .val (.int (0 : Int32))] C dQ_7 rfl ?_
  refine g_iloadN C dQ_8 rfl ?_
  refine g_aloadN C dQ_9 rfl rfl ?_
  have f10 := (A.keep K9 nin0)
  refine g_alen C dQ_10 f10 (z := (3 : Int32)) rfl ?_
  refine g_icmpF C dQ_11 (show (0 : Int32) < (3 : Int32) by decide) ?_
  refine g_aloadN C dQ_14 rfl rfl ?_
  refine g_iloadN C dQ_15 rfl ?_
  refine g_aloadN C dQ_16 rfl rfl ?_
  refine g_iloadN C dQ_17 rfl ?_
  refine g_aaload 0 C dQ_18 f10 rfl (by decide) (by decide) rfl ?_
  refine g_invokestatic [(.ref r1)] [(.int (0 : Int32)), (.ref a1)] 2 C dQ_19 (hw _ (List.mem_of_getElem? (i := 238) rfl)) (hw _ (List.mem_of_getElem? (i := 171) rfl)) (hw _ (List.mem_of_getElem? (i := 172) rfl)) (hw _ (List.mem_of_getElem? (i := 173) rfl)) (by decide) (m_req l Z a0 hw S0 hz0 SD SE Ld Le MI _ _) (lenOf pd13 rfl) rfl rfl (Nat.le_of_ble_eq_true rfl) (by decide) (by decide) (by decide) (by decide) all0 (fun v11 h12 L13 q14 K15 => ?_)
  obtain rfl := q14
  show Go _ _ _ _ _ _ _ _ _ _ _ _ _ _ _ _ _ _ _ _ _ _ (mkF _ 22 #[.val (.ref d), .val (.ref a1), .val (.int (0 : Int32))] [(.ref r1), (.int (0 : Int32)), (.ref a1)])
  have f16 := (f7.keep K15 nin0)
  have f21 := (f8.keep K15)
  have f22 := ((X1.keep K9).keep K15)
  refine g_aastore 0 C dQ_22 f16 rfl rfl (Sto.ofAv f16 f21 (Ins.of_exa f22 (hw _ (List.mem_of_getElem? (i := 80) rfl)))) (by decide) (by decide) (Nat.le_of_ble_eq_true rfl) (List.mem_of_getElem? (i := 0) rfl) (fun h17 K18 z19 f20 => ?_)
  have f23 : Av Z h17 a1 (.object "java/lang/Object") [(.ref r1), .null, .null] := f20
  refine g_iinc (1 : Int32) #[.val (.ref d), .val (.ref a1), .val (.int (1 : Int32))] C dQ_23 rfl (by decide) rfl ?_
  refine g_goto 8 C dQ_26 (by decide) (by decide) ?_
  refine g_iloadN C dQ_8 rfl ?_
  refine g_aloadN C dQ_9 rfl rfl ?_
  have f24 := ((f10.keep K15 nin0).keep K18 (ninS (Nat.ne_of_lt (Nat.lt_of_lt_of_le A.lt (Nat.le_of_eq e3.symm))) nin0))
  refine g_alen C dQ_10 f24 (z := (3 : Int32)) rfl ?_
  refine g_icmpF C dQ_11 (show (1 : Int32) < (3 : Int32) by decide) ?_
  refine g_aloadN C dQ_14 rfl rfl ?_
  refine g_iloadN C dQ_15 rfl ?_
  refine g_aloadN C dQ_16 rfl rfl ?_
  refine g_iloadN C dQ_17 rfl ?_
  refine g_aaload 1 C dQ_18 f24 rfl (by decide) (by decide) rfl ?_
  refine g_invokestatic [(.ref r2)] [(.int (1 : Int32)), (.ref a1)] 2 C dQ_19 (hw _ (List.mem_of_getElem? (i := 238) rfl)) (hw _ (List.mem_of_getElem? (i := 171) rfl)) (hw _ (List.mem_of_getElem? (i := 172) rfl)) (hw _ (List.mem_of_getElem? (i := 173) rfl)) (by decide) (m_req l Z a0 hw S0 hz0 SD SE Ld Le MI _ _) (lenOf pd13 rfl) rfl rfl (Nat.le_of_ble_eq_true rfl) (by decide) (by decide) (by decide) (by decide) all0 (fun v25 h26 L27 q28 K29 => ?_)
  obtain rfl := q28
  show Go _ _ _ _ _ _ _ _ _ _ _ _ _ _ _ _ _ _ _ _ _ _ (mkF _ 22 #[.val (.ref d), .val (.ref a1), .val (.int (1 : Int32))] [(.ref r2), (.int (1 : Int32)), (.ref a1)])
  have f30 := (f23.keep K29 nin0)
  have f35 := ((f21.keep K18).keep K29)
  have f36 := ((((X2.keep K9).keep K15).keep K18).keep K29)
  refine g_aastore 1 C dQ_22 f30 rfl rfl (Sto.ofAv f30 f35 (Ins.of_exa f36 (hw _ (List.mem_of_getElem? (i := 80) rfl)))) (by decide) (by decide) (Nat.le_of_ble_eq_true rfl) (List.mem_of_getElem? (i := 0) rfl) (fun h31 K32 z33 f34 => ?_)
  have f37 : Av Z h31 a1 (.object "java/lang/Object") [(.ref r1), (.ref r2), .null] := f34
  refine g_iinc (2 : Int32) #[.val (.ref d), .val (.ref a1), .val (.int (2 : Int32))] C dQ_23 rfl (by decide) rfl ?_
  refine g_goto 8 C dQ_26 (by decide) (by decide) ?_
  refine g_iloadN C dQ_8 rfl ?_
  refine g_aloadN C dQ_9 rfl rfl ?_
  have f38 := ((f24.keep K29 nin0).keep K32 (ninS (Nat.ne_of_lt (Nat.lt_of_lt_of_le A.lt (Nat.le_of_eq e3.symm))) nin0))
  refine g_alen C dQ_10 f38 (z := (3 : Int32)) rfl ?_
  refine g_icmpF C dQ_11 (show (2 : Int32) < (3 : Int32) by decide) ?_
  refine g_aloadN C dQ_14 rfl rfl ?_
  refine g_iloadN C dQ_15 rfl ?_
  refine g_aloadN C dQ_16 rfl rfl ?_
  refine g_iloadN C dQ_17 rfl ?_
  refine g_aaload 2 C dQ_18 f38 rfl (by decide) (by decide) rfl ?_
  refine g_invokestatic [(.ref r3)] [(.int (2 : Int32)), (.ref a1)] 2 C dQ_19 (hw _ (List.mem_of_getElem? (i := 238) rfl)) (hw _ (List.mem_of_getElem? (i := 171) rfl)) (hw _ (List.mem_of_getElem? (i := 172) rfl)) (hw _ (List.mem_of_getElem? (i := 173) rfl)) (by decide) (m_req l Z a0 hw S0 hz0 SD SE Ld Le MI _ _) (lenOf pd13 rfl) rfl rfl (Nat.le_of_ble_eq_true rfl) (by decide) (by decide) (by decide) (by decide) all0 (fun v39 h40 L41 q42 K43 => ?_)
  obtain rfl := q42
  show Go _ _ _ _ _ _ _ _ _ _ _ _ _ _ _ _ _ _ _ _ _ _ (mkF _ 22 #[.val (.ref d), .val (.ref a1), .val (.int (2 : Int32))] [(.ref r3), (.int (2 : Int32)), (.ref a1)])
  have f44 := (f37.keep K43 nin0)
  have f49 := ((f35.keep K32).keep K43)
  have f50 := ((((((X3.keep K9).keep K15).keep K18).keep K29).keep K32).keep K43)
  refine g_aastore 2 C dQ_22 f44 rfl rfl (Sto.ofAv f44 f49 (Ins.of_exa f50 (hw _ (List.mem_of_getElem? (i := 80) rfl)))) (by decide) (by decide) (Nat.le_of_ble_eq_true rfl) (List.mem_of_getElem? (i := 0) rfl) (fun h45 K46 z47 f48 => ?_)
  have f51 : Av Z h45 a1 (.object "java/lang/Object") [(.ref r1), (.ref r2), (.ref r3)] := f48
  refine g_iinc (3 : Int32) #[.val (.ref d), .val (.ref a1), .val (.int (3 : Int32))] C dQ_23 rfl (by decide) rfl ?_
  refine g_goto 8 C dQ_26 (by decide) (by decide) ?_
  refine g_iloadN C dQ_8 rfl ?_
  refine g_aloadN C dQ_9 rfl rfl ?_
  have f52 := ((f38.keep K43 nin0).keep K46 (ninS (Nat.ne_of_lt (Nat.lt_of_lt_of_le A.lt (Nat.le_of_eq e3.symm))) nin0))
  refine g_alen C dQ_10 f52 (z := (3 : Int32)) rfl ?_
  refine g_icmpT 29 C dQ_11 (show ¬ (3 : Int32) < (3 : Int32) by decide) (by decide) (by decide) ?_
  refine g_new_ C dQ_29 (hw _ (List.mem_of_getElem? (i := 110) rfl)) (hw _ (List.mem_of_getElem? (i := 239) rfl)) (hw _ (List.mem_of_getElem? (i := 240) rfl)) (by decide) (by decide) (fun a53 h54 e55 E56 l57 f58 D59 => ?_)
  have K60 := keep_ext E56
  have f61 : Fld Z h54 a53 "java/util/ImmutableCollections$ListN" "elements" "[Ljava/lang/Object;" .null := D59 (Or.inr (hw _ (List.mem_of_getElem? (i := 250) rfl))) (ty := (.array (.object "java/lang/Object"))) (by decide)
  have f62 : Fld Z h54 a53 "java/util/ImmutableCollections$ListN" "allowNulls" "Z" (.int (0 : Int32)) := D59 (Or.inr (hw _ (List.mem_of_getElem? (i := 252) rfl))) (ty := .boolean) (by decide)
  refine g_dup C dQ_32 rfl ?_
  refine g_aloadN C dQ_33 rfl rfl ?_
  refine g_iconst (0 : Int32) C dQ_34 (by decide) ?_
  refine g_invokespecialNest [(.ref a1), (.int (0 : Int32))] [(.ref a53)] 1 C dQ_35 rfl (hw _ (List.mem_of_getElem? (i := 241) rfl)) (hw _ (List.mem_of_getElem? (i := 242) rfl)) (hw _ (List.mem_of_getElem? (i := 240) rfl)) (hw _ (List.mem_of_getElem? (i := 244) rfl)) (by decide) (m_lnInit l Z a0 hw S0 hz0 SD SE Ld Le MI a53 a1 _ f58 f61 f62) (lenOf pd14 rfl) rfl rfl (Nat.le_of_ble_eq_true rfl) (by decide) (by decide) (by decide) (by decide) (allS (List.mem_of_getElem? (i := 0) rfl) all0) (fun v65 h66 L67 q68 K69 => ?_)
  obtain ⟨rfl, f63, f64⟩ := q68
  show Go _ _ _ _ _ _ _ _ _ _ _ _ _ _ _ _ _ _ _ _ _ _ (mkF _ 38 #[.val (.ref d), .val (.ref a1), .val (.int (3 : Int32))] [(.ref a53)])
  have f70 := ((f51.keep K60 nin0).keep K69 (ninS (Nat.ne_of_lt (Nat.lt_of_lt_of_le (Nat.lt_of_lt_of_le l5 (Nat.le_trans (Nat.le_trans (Nat.le_trans (Nat.le_trans (Nat.le_trans K15.1 K18.1) K29.1) K32.1) K43.1) K46.1)) (Nat.le_of_eq e55.symm))) nin0))
  exact g_retA C dQ_38 rfl rfl ⟨a53, a1, rfl, Nat.le_trans (Nat.le_trans (Nat.le_trans (Nat.le_trans (Nat.le_trans (Nat.le_trans (Nat.le_trans K9.1 K15.1) K18.1) K29.1) K32.1) K43.1) K46.1) (Nat.le_of_eq e55.symm), Nat.le_trans (Nat.le_refl _) (Nat.le_of_eq e3.symm), f63, f64, f70⟩ (by decide) (by decide)
theorem dR_0 : decode jdk_40_method_47_code 0 = .ok (.aload_n 0, 1) := by decide +kernel
theorem dR_1 : decode jdk_40_method_47_code 1 = .ok (.arraylength, 1) := by decide +kernel
theorem dR_2 : decode jdk_40_method_47_code 2 = .ok (.tableswitch 57 0 2 #[26, 32, 43], 26) := by decide +kernel
theorem dR_34 : decode jdk_40_method_47_code 34 = .ok (.new 96, 3) := by decide +kernel
theorem dR_37 : decode jdk_40_method_47_code 37 = .ok (.dup, 1) := by decide +kernel
theorem dR_38 : decode jdk_40_method_47_code 38 = .ok (.aload_n 0, 1) := by decide +kernel
theorem dR_39 : decode jdk_40_method_47_code 39 = .ok (.iconst 0, 1) := by decide +kernel
theorem dR_40 : decode jdk_40_method_47_code 40 = .ok (.aaload, 1) := by decide +kernel
theorem dR_41 : decode jdk_40_method_47_code 41 = .ok (.invokespecial 98, 3) := by decide +kernel
theorem dR_44 : decode jdk_40_method_47_code 44 = .ok (.areturn, 1) := by decide +kernel
set_option maxRecDepth 65536 in
set_option maxHeartbeats 80000000 in
theorem m_of1 (l : Launch) (Z : State) (a0 : Array Value) {z0 : Int32} (hw : ∀ d ∈ tables_1, d.before a0 Z = true) (S0 : Sta Z Z.heap "java/lang/String" "COMPACT_STRINGS" "Z" (.int z0)) (hz0 : ¬ z0 = 0) {dc em mir : Addr} (SD : Sta Z Z.heap "java/util/ArrayList" "DEFAULTCAPACITY_EMPTY_ELEMENTDATA" "[Ljava/lang/Object;" (.ref dc)) (SE : Sta Z Z.heap "java/util/ImmutableCollections" "EMPTY" "Ljava/lang/Object;" (.ref em)) (Ld : dc < Z.heap.size) (Le : em < Z.heap.size) (MI : MirC Z "[Ljava/lang/Object;" mir) (d : Addr) (r1 : Addr) (h : Heap) (A : Av Z h d (.object "java/lang/Object") [(.ref r1)]) (X1 : Exa Z h r1 "java/lang/String") :
    MetW true l Z [("java/lang/String", 7)] (⟨"java/util/List", "of", "([Ljava/lang/Object;)Ljava/util/List;"⟩ : MethodName) jdk_40_method_47_code 2 (Option.some (Jvm.ClassFile.FieldType.object "java/util/List")) [] ({ frames := 5, cells := 1, slots := 2, locals := 62 } : Room) #[(.ref d)] [] h (fun v h' => ∃ q : Addr, v = some (.ref q) ∧ h.size ≤ q ∧ Exa Z h' q "java/util/ImmutableCollections$List12" ∧ Fld Z h' q "java/util/ImmutableCollections$List12" "e0" "Ljava/lang/Object;" (.ref r1) ∧ Fld Z h' q "java/util/ImmutableCollections$List12" "e1" "Ljava/lang/Object;" (.ref em)) := by
  refine MetW.of (Ls := #[.val (.ref d), .unset]) (a0 := a0) (by first | (simp [plainName, overriddenIn]; done) | decide +kernel) (fun m => by first | (simp [entryFrame, mkF, argsToLocals, Value.category]; done) | rfl) (own_EW hw) (fun q => nomatch q) (fun p_ e_ s_ m_ below_ meth_ c_ hs0 C => ?_)
  refine Go.know (fun hX _ hM => ?_)
  refine g_aloadN C dR_0 rfl rfl ?_
  refine g_alen C dR_1 A (z := (1 : Int32)) rfl ?_
  refine g_tswIn 34 C dR_2 (by decide) rfl (by decide) (by decide) ?_
  refine g_new_ C dR_34 (hw _ (List.mem_of_getElem? (i := 149) rfl)) (hw _ (List.mem_of_getElem? (i := 150) rfl)) (hw _ (List.mem_of_getElem? (i := 151) rfl)) (by decide) (by decide) (fun a1 h2 e3 E4 l5 f6 D7 => ?_)
  have K8 := keep_ext E4
  have f9 : Fld Z h2 a1 "java/util/ImmutableCollections$List12" "e0" "Ljava/lang/Object;" .null := D7 (Or.inr (hw _ (List.mem_of_getElem? (i := 175) rfl))) (ty := (.object "java/lang/Object")) (by decide)
  have f10 : Fld Z h2 a1 "java/util/ImmutableCollections$List12" "e1" "Ljava/lang/Object;" .null := D7 (Or.inr (hw _ (List.mem_of_getElem? (i := 178) rfl))) (ty := (.object "java/lang/Object")) (by decide)
  refine g_dup C dR_37 rfl ?_
  refine g_aloadN C dR_38 rfl rfl ?_
  refine g_iconst (0 : Int32) C dR_39 (by decide) ?_
  have f11 := (A.keep K8 nin0)
  refine g_aaload 0 C dR_40 f11 rfl (by decide) (by decide) rfl ?_
  refine g_invokespecial [(.ref r1)] [(.ref a1)] 1 C dR_41 rfl (hw _ (List.mem_of_getElem? (i := 152) rfl)) (hw _ (List.mem_of_getElem? (i := 153) rfl)) (hw _ (List.mem_of_getElem? (i := 151) rfl)) (hw _ (List.mem_of_getElem? (i := 155) rfl)) (by decide) (m_l12_1 l Z a0 hw S0 hz0 SD SE Ld Le MI a1 r1 _ f6 f9 f10) (lenOf pd15 rfl) rfl rfl (Nat.le_of_ble_eq_true rfl) (by decide) (by decide) (by decide) (by decide) (allS (List.mem_of_getElem? (i := 0) rfl) all0) (fun v15 h16 L17 q18 K19 => ?_)
  obtain ⟨rfl, f12, f13, f14⟩ := q18
  show Go _ _ _ _ _ _ _ _ _ _ _ _ _ _ _ _ _ _ _ _ _ _ (mkF _ 44 #[.val (.ref d), .unset] [(.ref a1)])
  exact g_retA C dR_44 rfl rfl ⟨a1, rfl, Nat.le_trans (Nat.le_refl _) (Nat.le_of_eq e3.symm), f12, f13, f14⟩ (by decide) (by decide)
theorem dR_45 : decode jdk_40_method_47_code 45 = .ok (.new 96, 3) := by decide +kernel
theorem dR_48 : decode jdk_40_method_47_code 48 = .ok (.dup, 1) := by decide +kernel
theorem dR_49 : decode jdk_40_method_47_code 49 = .ok (.aload_n 0, 1) := by decide +kernel
theorem dR_50 : decode jdk_40_method_47_code 50 = .ok (.iconst 0, 1) := by decide +kernel
theorem dR_51 : decode jdk_40_method_47_code 51 = .ok (.aaload, 1) := by decide +kernel
theorem dR_52 : decode jdk_40_method_47_code 52 = .ok (.aload_n 0, 1) := by decide +kernel
theorem dR_53 : decode jdk_40_method_47_code 53 = .ok (.iconst 1, 1) := by decide +kernel
theorem dR_54 : decode jdk_40_method_47_code 54 = .ok (.aaload, 1) := by decide +kernel
theorem dR_55 : decode jdk_40_method_47_code 55 = .ok (.invokespecial 100, 3) := by decide +kernel
theorem dR_58 : decode jdk_40_method_47_code 58 = .ok (.areturn, 1) := by decide +kernel
set_option maxRecDepth 65536 in
set_option maxHeartbeats 80000000 in
theorem m_of2 (l : Launch) (Z : State) (a0 : Array Value) {z0 : Int32} (hw : ∀ d ∈ tables_1, d.before a0 Z = true) (S0 : Sta Z Z.heap "java/lang/String" "COMPACT_STRINGS" "Z" (.int z0)) (hz0 : ¬ z0 = 0) {dc em mir : Addr} (SD : Sta Z Z.heap "java/util/ArrayList" "DEFAULTCAPACITY_EMPTY_ELEMENTDATA" "[Ljava/lang/Object;" (.ref dc)) (SE : Sta Z Z.heap "java/util/ImmutableCollections" "EMPTY" "Ljava/lang/Object;" (.ref em)) (Ld : dc < Z.heap.size) (Le : em < Z.heap.size) (MI : MirC Z "[Ljava/lang/Object;" mir) (d : Addr) (r1 r2 : Addr) (h : Heap) (A : Av Z h d (.object "java/lang/Object") [(.ref r1), (.ref r2)]) (X1 : Exa Z h r1 "java/lang/String") (X2 : Exa Z h r2 "java/lang/String") :
    MetW true l Z [("java/lang/String", 7)] (⟨"java/util/List", "of", "([Ljava/lang/Object;)Ljava/util/List;"⟩ : MethodName) jdk_40_method_47_code 2 (Option.some (Jvm.ClassFile.FieldType.object "java/util/List")) [] ({ frames := 5, cells := 1, slots := 2, locals := 63 } : Room) #[(.ref d)] [] h (fun v h' => ∃ q : Addr, v = some (.ref q) ∧ h.size ≤ q ∧ Exa Z h' q "java/util/ImmutableCollections$List12" ∧ Fld Z h' q "java/util/ImmutableCollections$List12" "e0" "Ljava/lang/Object;" (.ref r1) ∧ Fld Z h' q "java/util/ImmutableCollections$List12" "e1" "Ljava/lang/Object;" (.ref r2)) := by
  refine MetW.of (Ls := #[.val (.ref d), .unset]) (a0 := a0) (by first | (simp [plainName, overriddenIn]; done) | decide +kernel) (fun m => by first | (simp [entryFrame, mkF, argsToLocals, Value.category]; done) | rfl) (own_EW hw) (fun q => nomatch q) (fun p_ e_ s_ m_ below_ meth_ c_ hs0 C => ?_)
  refine Go.know (fun hX _ hM => ?_)
  refine g_aloadN C dR_0 rfl rfl ?_
  refine g_alen C dR_1 A (z := (2 : Int32)) rfl ?_
  refine g_tswIn 45 C dR_2 (by decide) rfl (by decide) (by decide) ?_
  refine g_new_ C dR_45 (hw _ (List.mem_of_getElem? (i := 149) rfl)) (hw _ (List.mem_of_getElem? (i := 150) rfl)) (hw _ (List.mem_of_getElem? (i := 151) rfl)) (by decide) (by decide) (fun a1 h2 e3 E4 l5 f6 D7 => ?_)
  have K8 := keep_ext E4
  have f9 : Fld Z h2 a1 "java/util/ImmutableCollections$List12" "e0" "Ljava/lang/Object;" .null := D7 (Or.inr (hw _ (List.mem_of_getElem? (i := 175) rfl))) (ty := (.object "java/lang/Object")) (by decide)
  have f10 : Fld Z h2 a1 "java/util/ImmutableCollections$List12" "e1" "Ljava/lang/Object;" .null := D7 (Or.inr (hw _ (List.mem_of_getElem? (i := 178) rfl))) (ty := (.object "java/lang/Object")) (by decide)
  refine g_dup C dR_48 rfl ?_
  refine g_aloadN C dR_49 rfl rfl ?_
  refine g_iconst (0 : Int32) C dR_50 (by decide) ?_
  have f11 := (A.keep K8 nin0)
  refine g_aaload 0 C dR_51 f11 rfl (by decide) (by decide) rfl ?_
  refine g_aloadN C dR_52 rfl rfl ?_
  refine g_iconst (1 : Int32) C dR_53 (by decide) ?_
  refine g_aaload 1 C dR_54 f11 rfl (by decide) (by decide) rfl ?_
  refine g_invokespecial [(.ref r1), (.ref r2)] [(.ref a1)] 1 C dR_55 rfl (hw _ (List.mem_of_getElem? (i := 264) rfl)) (hw _ (List.mem_of_getElem? (i := 265) rfl)) (hw _ (List.mem_of_getElem? (i := 151) rfl)) (hw _ (List.mem_of_getElem? (i := 266) rfl)) (by decide) (m_l12_2 l Z a0 hw S0 hz0 SD SE Ld Le MI a1 r1 r2 _ f6 f9 f10) (lenOf pd16 rfl) rfl rfl (Nat.le_of_ble_eq_true rfl) (by decide) (by decide) (by decide) (by decide) (allS (List.mem_of_getElem? (i := 0) rfl) all0) (fun v15 h16 L17 q18 K19 => ?_)
  obtain ⟨rfl, f12, f13, f14⟩ := q18
  show Go _ _ _ _ _ _ _ _ _ _ _ _ _ _ _ _ _ _ _ _ _ _ (mkF _ 58 #[.val (.ref d), .unset] [(.ref a1)])
  exact g_retA C dR_58 rfl rfl ⟨a1, rfl, Nat.le_trans (Nat.le_refl _) (Nat.le_of_eq e3.symm), f12, f13, f14⟩ (by decide) (by decide)
theorem dR_59 : decode jdk_40_method_47_code 59 = .ok (.aload_n 0, 1) := by decide +kernel
theorem dR_60 : decode jdk_40_method_47_code 60 = .ok (.invokestatic 109, 3) := by decide +kernel
theorem dR_63 : decode jdk_40_method_47_code 63 = .ok (.areturn, 1) := by decide +kernel
set_option maxRecDepth 65536 in
set_option maxHeartbeats 80000000 in
theorem m_of3 (l : Launch) (Z : State) (a0 : Array Value) {z0 : Int32} (hw : ∀ d ∈ tables_1, d.before a0 Z = true) (S0 : Sta Z Z.heap "java/lang/String" "COMPACT_STRINGS" "Z" (.int z0)) (hz0 : ¬ z0 = 0) {dc em mir : Addr} (SD : Sta Z Z.heap "java/util/ArrayList" "DEFAULTCAPACITY_EMPTY_ELEMENTDATA" "[Ljava/lang/Object;" (.ref dc)) (SE : Sta Z Z.heap "java/util/ImmutableCollections" "EMPTY" "Ljava/lang/Object;" (.ref em)) (Ld : dc < Z.heap.size) (Le : em < Z.heap.size) (MI : MirC Z "[Ljava/lang/Object;" mir) (d : Addr) (r1 r2 r3 : Addr) (h : Heap) (A : Av Z h d (.object "java/lang/Object") [(.ref r1), (.ref r2), (.ref r3)]) (X1 : Exa Z h r1 "java/lang/String") (X2 : Exa Z h r2 "java/lang/String") (X3 : Exa Z h r3 "java/lang/String") :
    MetW true l Z [("java/lang/String", 7)] (⟨"java/util/List", "of", "([Ljava/lang/Object;)Ljava/util/List;"⟩ : MethodName) jdk_40_method_47_code 2 (Option.some (Jvm.ClassFile.FieldType.object "java/util/List")) [] ({ frames := 6, cells := 2, slots := 5, locals := 77 } : Room) #[(.ref d)] [] h (fun v h' => ∃ q u : Addr, v = some (.ref q) ∧ h.size ≤ q ∧ h.size ≤ u ∧ Exa Z h' q "java/util/ImmutableCollections$ListN" ∧ Fld Z h' q "java/util/ImmutableCollections$ListN" "elements" "[Ljava/lang/Object;" (.ref u) ∧ Av Z h' u (.object "java/lang/Object") [.ref r1, .ref r2, .ref r3]) := by
  refine MetW.of (Ls := #[.val (.ref d), .unset]) (a0 := a0) (by first | (simp [plainName, overriddenIn]; done) | decide +kernel) (fun m => by first | (simp [entryFrame, mkF, argsToLocals, Value.category]; done) | rfl) (own_EW hw) (fun q => nomatch q) (fun p_ e_ s_ m_ below_ meth_ c_ hs0 C => ?_)
  refine Go.know (fun hX _ hM => ?_)
  refine g_aloadN C dR_0 rfl rfl ?_
  refine g_alen C dR_1 A (z := (3 : Int32)) rfl ?_
  refine g_tswOut 59 C dR_2 (by decide) (by decide) (by decide) ?_
  refine g_aloadN C dR_59 rfl rfl ?_
  refine g_invokestatic [(.ref d)] [] 0 C dR_60 (hw _ (List.mem_of_getElem? (i := 234) rfl)) (hw _ (List.mem_of_getElem? (i := 235) rfl)) (hw _ (List.mem_of_getElem? (i := 103) rfl)) (hw _ (List.mem_of_getElem? (i := 236) rfl)) (by decide) (m_lfa l Z a0 hw S0 hz0 SD SE Ld Le MI _ _ _ _ _ A X1 X2 X3) (lenOf pd17 rfl) rfl rfl (Nat.le_of_ble_eq_true rfl) (by decide) (by decide) (by decide) (by decide) all0 (fun v8 h9 L10 q11 K12 => ?_)
  obtain ⟨q1, u6, rfl, g2, g7, f3, f4, f5⟩ := q11
  show Go _ _ _ _ _ _ _ _ _ _ _ _ _ _ _ _ _ _ _ _ _ _ (mkF _ 63 #[.val (.ref d), .unset] [(.ref q1)])
  exact g_retA C dR_63 rfl rfl ⟨q1, u6, rfl, Nat.le_trans (Nat.le_refl _) g2, Nat.le_trans (Nat.le_refl _) g7, f3, f4, f5⟩ (by decide) (by decide)
theorem dS_0 : decode jdk_56_method_3_code 0 = .ok (.aload_n 0, 1) := by decide +kernel
theorem dS_1 : decode jdk_56_method_3_code 1 = .ok (.instanceof 10, 3) := by decide +kernel
theorem dS_4 : decode jdk_56_method_3_code 4 = .ok (.ifCond .ne 22, 3) := by decide +kernel
theorem dS_7 : decode jdk_56_method_3_code 7 = .ok (.aload_n 0, 1) := by decide +kernel
theorem dS_8 : decode jdk_56_method_3_code 8 = .ok (.instanceof 12, 3) := by decide +kernel
theorem dS_11 : decode jdk_56_method_3_code 11 = .ok (.ifCond .eq 20, 3) := by decide +kernel
theorem dS_31 : decode jdk_56_method_3_code 31 = .ok (.aload_n 0, 1) := by decide +kernel
theorem dS_32 : decode jdk_56_method_3_code 32 = .ok (.invokeinterface 20 1, 5) := by decide +kernel
theorem dS_37 : decode jdk_56_method_3_code 37 = .ok (.ifCond .eq 7, 3) := by decide +kernel
theorem dS_44 : decode jdk_56_method_3_code 44 = .ok (.aload_n 0, 1) := by decide +kernel
theorem dS_45 : decode jdk_56_method_3_code 45 = .ok (.invokeinterface 30 1, 5) := by decide +kernel
theorem dS_50 : decode jdk_56_method_3_code 50 = .ok (.invokestatic 34, 3) := by decide +kernel
theorem dS_53 : decode jdk_56_method_3_code 53 = .ok (.areturn, 1) := by decide +kernel
set_option maxRecDepth 65536 in
set_option maxHeartbeats 80000000 in
theorem m_listCopy1 (l : Launch) (Z : State) (a0 : Array Value) {z0 : Int32} (hw : ∀ d ∈ tables_1, d.before a0 Z = true) (S0 : Sta Z Z.heap "java/lang/String" "COMPACT_STRINGS" "Z" (.int z0)) (hz0 : ¬ z0 = 0) {dc em mir : Addr} (SD : Sta Z Z.heap "java/util/ArrayList" "DEFAULTCAPACITY_EMPTY_ELEMENTDATA" "[Ljava/lang/Object;" (.ref dc)) (SE : Sta Z Z.heap "java/util/ImmutableCollections" "EMPTY" "Ljava/lang/Object;" (.ref em)) (Ld : dc < Z.heap.size) (Le : em < Z.heap.size) (MI : MirC Z "[Ljava/lang/Object;" mir) (a b : Addr) (r1 : Addr) (h : Heap) (E : Exa Z h a "java/util/ArrayList") (F0 : Fld Z h a "java/util/AbstractList" "modCount" "I" (.int (1 : Int32))) (F1 : Fld Z h a "java/util/ArrayList" "elementData" "[Ljava/lang/Object;" (.ref b)) (F2 : Fld Z h a "java/util/ArrayList" "size" "I" (.int (1 : Int32))) (Eb : Exa Z h b "[Ljava/lang/Object;") (A : Av Z h b (.object "java/lang/Object") [(.ref r1), .null, .null, .null, .null, .null, .null, .null, .null, .null]) (X1 : Exa Z h r1 "java/lang/String") :
    MetW true l Z [("java/lang/String", 7)] (⟨"java/util/ImmutableCollections", "listCopy", "(Ljava/util/Collection;)Ljava/util/List;"⟩ : MethodName) jdk_56_method_3_code 2 (Option.some (Jvm.ClassFile.FieldType.object "java/util/List")) [] ({ frames := 6, cells := 2, slots := 3, locals := 75 } : Room) #[(.ref a)] [] h (fun v h' => ∃ q : Addr, v = some (.ref q) ∧ h.size ≤ q ∧ Exa Z h' q "java/util/ImmutableCollections$List12" ∧ Fld Z h' q "java/util/ImmutableCollections$List12" "e0" "Ljava/lang/Object;" (.ref r1) ∧ Fld Z h' q "java/util/ImmutableCollections$List12" "e1" "Ljava/lang/Object;" (.ref em)) := by
  refine MetW.of (Ls := #[.val (.ref a), .unset]) (a0 := a0) (by first | (simp [plainName, overriddenIn]; done) | decide +kernel) (fun m => by first | (simp [entryFrame, mkF, argsToLocals, Value.category]; done) | rfl) (own_EW hw) (fun q => nomatch q) (fun p_ e_ s_ m_ below_ meth_ c_ hs0 C => ?_)
  refine Go.know (fun hX _ hM => ?_)
  refine g_aloadN C dS_0 rfl rfl ?_
  refine g_instNo C dS_1 (hw _ (List.mem_of_getElem? (i := 105) rfl)) (ins_no (t := ["java/util/AbstractList", "java/util/AbstractCollection", "java/lang/Object"]) E (fun d hd => hw d ((by decide +kernel : ∀ d ∈ Cond.chainWords ["java/util/ArrayList", "java/util/AbstractList", "java/util/AbstractCollection", "java/lang/Object"], d ∈ tables_1) d hd)) (hw _ (List.mem_of_getElem? (i := 150) rfl)) (by decide)) E ?_
  refine g_ifF C dS_4 (show (0 : Int32) = (0 : Int32) by decide) ?_
  refine g_aloadN C dS_7 rfl rfl ?_
  refine g_instNo C dS_8 (hw _ (List.mem_of_getElem? (i := 110) rfl)) (ins_no (t := ["java/util/AbstractList", "java/util/AbstractCollection", "java/lang/Object"]) E (fun d hd => hw d ((by decide +kernel : ∀ d ∈ Cond.chainWords ["java/util/ArrayList", "java/util/AbstractList", "java/util/AbstractCollection", "java/lang/Object"], d ∈ tables_1) d hd)) (hw _ (List.mem_of_getElem? (i := 239) rfl)) (by decide)) E ?_
  refine g_ifT 31 C dS_11 (show (0 : Int32) = (0 : Int32) by decide) (by decide) (by decide) ?_
  refine g_aloadN C dS_31 rfl rfl ?_
  refine g_invokeinterface [] [] 0 C dS_32 (hw _ (List.mem_of_getElem? (i := 111) rfl)) (hw _ (List.mem_of_getElem? (i := 112) rfl)) (hw _ (List.mem_of_getElem? (i := 113) rfl)) (hw _ (List.mem_of_getElem? (i := 114) rfl)) (hw _ (List.mem_of_getElem? (i := 92) rfl)) (hw _ (List.mem_of_getElem? (i := 93) rfl)) (hw _ (List.mem_of_getElem? (i := 94) rfl)) (hw _ (List.mem_of_getElem? (i := 115) rfl)) (hw _ (List.mem_of_getElem? (i := 28) rfl)) (hw _ (List.mem_of_getElem? (i := 96) rfl)) (by decide) E (m_isEmpty1 l Z a0 hw S0 hz0 SD SE Ld Le MI _ _ F2) (lenOf pd18 rfl) rfl rfl (Nat.le_of_ble_eq_true rfl) (by decide) (by decide) (by decide) (by decide) all0 (fun v1 h2 L3 q4 K5 => ?_)
  obtain rfl := q4
  show Go _ _ _ _ _ _ _ _ _ _ _ _ _ _ _ _ _ _ _ _ _ _ (mkF _ 37 #[.val (.ref a), .unset] [(.int (0 : Int32))])
  refine g_ifT 44 C dS_37 (show (0 : Int32) = (0 : Int32) by decide) (by decide) (by decide) ?_
  refine g_aloadN C dS_44 rfl rfl ?_
  have f11 := (E.keep K5)
  have f12 := (F0.keep K5 nin0)
  have f13 := (F1.keep K5 nin0)
  have f14 := (F2.keep K5 nin0)
  have f15 := (Eb.keep K5)
  have f16 := (A.keep K5 nin0)
  have f17 := (X1.keep K5)
  refine g_invokeinterface [] [] 0 C dS_45 (hw _ (List.mem_of_getElem? (i := 116) rfl)) (hw _ (List.mem_of_getElem? (i := 117) rfl)) (hw _ (List.mem_of_getElem? (i := 118) rfl)) (hw _ (List.mem_of_getElem? (i := 119) rfl)) (hw _ (List.mem_of_getElem? (i := 120) rfl)) (hw _ (List.mem_of_getElem? (i := 121) rfl)) (hw _ (List.mem_of_getElem? (i := 122) rfl)) (hw _ (List.mem_of_getElem? (i := 115) rfl)) (hw _ (List.mem_of_getElem? (i := 28) rfl)) (hw _ (List.mem_of_getElem? (i := 123) rfl)) (by decide) f11 (m_toArray1 l Z a0 hw S0 hz0 SD SE Ld Le MI _ _ _ _ f11 f12 f13 f14 f15 f16 f17) (lenOf pd9 rfl) rfl rfl (Nat.le_of_ble_eq_true rfl) (by decide) (by decide) (by decide) (by decide) all0 (fun v18 h19 L20 q21 K22 => ?_)
  obtain ⟨d6, rfl, g7, f8, f9, f10⟩ := q21
  show Go _ _ _ _ _ _ _ _ _ _ _ _ _ _ _ _ _ _ _ _ _ _ (mkF _ 50 #[.val (.ref a), .unset] [(.ref d6)])
  have f30 := (f17.keep K22)
  refine g_invokestatic [(.ref d6)] [] 0 C dS_50 (hw _ (List.mem_of_getElem? (i := 146) rfl)) (hw _ (List.mem_of_getElem? (i := 147) rfl)) (hw _ (List.mem_of_getElem? (i := 99) rfl)) (hw _ (List.mem_of_getElem? (i := 148) rfl)) (by decide) (m_of1 l Z a0 hw S0 hz0 SD SE Ld Le MI _ _ _ f9 f30) (lenOf pd17 rfl) rfl rfl (Nat.le_of_ble_eq_true rfl) (by decide) (by decide) (by decide) (by decide) all0 (fun v31 h32 L33 q34 K35 => ?_)
  obtain ⟨q23, rfl, g24, f25, f26, f27⟩ := q34
  show Go _ _ _ _ _ _ _ _ _ _ _ _ _ _ _ _ _ _ _ _ _ _ (mkF _ 53 #[.val (.ref a), .unset] [(.ref q23)])
  exact g_retA C dS_53 rfl rfl ⟨q23, rfl, Nat.le_trans (Nat.le_trans K5.1 K22.1) g24, f25, f26, f27⟩ (by decide) (by decide)
theorem dT_0 : decode jdk_40_method_48_code 0 = .ok (.aload_n 0, 1) := by decide +kernel
theorem dT_1 : decode jdk_40_method_48_code 1 = .ok (.invokestatic 112, 3) := by decide +kernel
theorem dT_4 : decode jdk_40_method_48_code 4 = .ok (.areturn, 1) := by decide +kernel
set_option maxRecDepth 65536 in
set_option maxHeartbeats 80000000 in
theorem m_copyOf1 (l : Launch) (Z : State) (a0 : Array Value) {z0 : Int32} (hw : ∀ d ∈ tables_1, d.before a0 Z = true) (S0 : Sta Z Z.heap "java/lang/String" "COMPACT_STRINGS" "Z" (.int z0)) (hz0 : ¬ z0 = 0) {dc em mir : Addr} (SD : Sta Z Z.heap "java/util/ArrayList" "DEFAULTCAPACITY_EMPTY_ELEMENTDATA" "[Ljava/lang/Object;" (.ref dc)) (SE : Sta Z Z.heap "java/util/ImmutableCollections" "EMPTY" "Ljava/lang/Object;" (.ref em)) (Ld : dc < Z.heap.size) (Le : em < Z.heap.size) (MI : MirC Z "[Ljava/lang/Object;" mir) (a b : Addr) (r1 : Addr) (h : Heap) (E : Exa Z h a "java/util/ArrayList") (F0 : Fld Z h a "java/util/AbstractList" "modCount" "I" (.int (1 : Int32))) (F1 : Fld Z h a "java/util/ArrayList" "elementData" "[Ljava/lang/Object;" (.ref b)) (F2 : Fld Z h a "java/util/ArrayList" "size" "I" (.int (1 : Int32))) (Eb : Exa Z h b "[Ljava/lang/Object;") (A : Av Z h b (.object "java/lang/Object") [(.ref r1), .null, .null, .null, .null, .null, .null, .null, .null, .null]) (X1 : Exa Z h r1 "java/lang/String") :
    MetW true l Z [("java/lang/String", 7)] (⟨"java/util/List", "copyOf", "(Ljava/util/Collection;)Ljava/util/List;"⟩ : MethodName) jdk_40_method_48_code 1 (Option.some (Jvm.ClassFile.FieldType.object "java/util/List")) [] ({ frames := 7, cells := 2, slots := 3, locals := 88 } : Room) #[(.ref a)] [] h (fun v h' => ∃ q : Addr, v = some (.ref q) ∧ h.size ≤ q ∧ Exa Z h' q "java/util/ImmutableCollections$List12" ∧ Fld Z h' q "java/util/ImmutableCollections$List12" "e0" "Ljava/lang/Object;" (.ref r1) ∧ Fld Z h' q "java/util/ImmutableCollections$List12" "e1" "Ljava/lang/Object;" (.ref em)) := by
  refine MetW.of (Ls := #[.val (.ref a)]) (a0 := a0) (by first | (simp [plainName, overriddenIn]; done) | decide +kernel) (fun m => by first | (simp [entryFrame, mkF, argsToLocals, Value.category]; done) | rfl) (own_EW hw) (fun q => nomatch q) (fun p_ e_ s_ m_ below_ meth_ c_ hs0 C => ?_)
  refine Go.know (fun hX _ hM => ?_)
  refine g_aloadN C dT_0 rfl rfl ?_
  refine g_invokestatic [(.ref a)] [] 0 C dT_1 (hw _ (List.mem_of_getElem? (i := 101) rfl)) (hw _ (List.mem_of_getElem? (i := 102) rfl)) (hw _ (List.mem_of_getElem? (i := 103) rfl)) (hw _ (List.mem_of_getElem? (i := 104) rfl)) (by decide) (m_listCopy1 l Z a0 hw S0 hz0 SD SE Ld Le MI _ _ _ _ E F0 F1 F2 Eb A X1) (lenOf pd19 rfl) rfl rfl (Nat.le_of_ble_eq_true rfl) (by decide) (by decide) (by decide) (by decide) all0 (fun v8 h9 L10 q11 K12 => ?_)
  obtain ⟨q1, rfl, g2, f3, f4, f5⟩ := q11
  show Go _ _ _ _ _ _ _ _ _ _ _ _ _ _ _ _ _ _ _ _ _ _ (mkF _ 4 #[.val (.ref a)] [(.ref q1)])
  exact g_retA C dT_4 rfl rfl ⟨q1, rfl, Nat.le_trans (Nat.le_refl _) g2, f3, f4, f5⟩ (by decide) (by decide)
theorem dU_0 : decode prog_14_method_1_code 0 = .ok (.aload_n 0, 1) := by decide +kernel
theorem dU_1 : decode prog_14_method_1_code 1 = .ok (.invokespecial 1, 3) := by decide +kernel
theorem dU_4 : decode prog_14_method_1_code 4 = .ok (.aload_n 1, 1) := by decide +kernel
theorem dU_5 : decode prog_14_method_1_code 5 = .ok (.invokeinterface 7 1, 5) := by decide +kernel
theorem dU_10 : decode prog_14_method_1_code 10 = .ok (.ifCond .eq 13, 3) := by decide +kernel
theorem dU_23 : decode prog_14_method_1_code 23 = .ok (.aload_n 0, 1) := by decide +kernel
theorem dU_24 : decode prog_14_method_1_code 24 = .ok (.aload_n 1, 1) := by decide +kernel
theorem dU_25 : decode prog_14_method_1_code 25 = .ok (.invokestatic 20, 3) := by decide +kernel
theorem dU_28 : decode prog_14_method_1_code 28 = .ok (.putfield 24, 3) := by decide +kernel
theorem dU_31 : decode prog_14_method_1_code 31 = .ok (.return_, 1) := by decide +kernel
set_option maxRecDepth 65536 in
set_option maxHeartbeats 80000000 in
theorem m_hInit1 (l : Launch) (Z : State) (a0 : Array Value) {z0 : Int32} (hw : ∀ d ∈ tables_1, d.before a0 Z = true) (S0 : Sta Z Z.heap "java/lang/String" "COMPACT_STRINGS" "Z" (.int z0)) (hz0 : ¬ z0 = 0) {dc em mir : Addr} (SD : Sta Z Z.heap "java/util/ArrayList" "DEFAULTCAPACITY_EMPTY_ELEMENTDATA" "[Ljava/lang/Object;" (.ref dc)) (SE : Sta Z Z.heap "java/util/ImmutableCollections" "EMPTY" "Ljava/lang/Object;" (.ref em)) (Ld : dc < Z.heap.size) (Le : em < Z.heap.size) (MI : MirC Z "[Ljava/lang/Object;" mir) (o : Addr) (a b : Addr) (r1 : Addr) (h : Heap) (E : Exa Z h a "java/util/ArrayList") (F0 : Fld Z h a "java/util/AbstractList" "modCount" "I" (.int (1 : Int32))) (F1 : Fld Z h a "java/util/ArrayList" "elementData" "[Ljava/lang/Object;" (.ref b)) (F2 : Fld Z h a "java/util/ArrayList" "size" "I" (.int (1 : Int32))) (Eb : Exa Z h b "[Ljava/lang/Object;") (A : Av Z h b (.object "java/lang/Object") [(.ref r1), .null, .null, .null, .null, .null, .null, .null, .null, .null]) (X1 : Exa Z h r1 "java/lang/String") (Eo : Exa Z h o "com/example/warm_suite/warmsuite/core/engine/Holder") (Fo : Fld Z h o "com/example/warm_suite/warmsuite/core/engine/Holder" "path" "Ljava/util/List;" .null) :
    MetW true l Z [("java/lang/String", 7)] (⟨"com/example/warm_suite/warmsuite/core/engine/Holder", "<init>", "(Ljava/util/List;)V"⟩ : MethodName) prog_14_method_1_code 2 none [] ({ frames := 8, cells := 2, slots := 3, locals := 101 } : Room) #[(.ref o), (.ref a)] [o] h (fun v h' => v = none ∧ ∃ q : Addr, h.size ≤ q ∧ Exa Z h' o "com/example/warm_suite/warmsuite/core/engine/Holder" ∧ Fld Z h' o "com/example/warm_suite/warmsuite/core/engine/Holder" "path" "Ljava/util/List;" (.ref q) ∧ Exa Z h' q "java/util/ImmutableCollections$List12" ∧ Fld Z h' q "java/util/ImmutableCollections$List12" "e0" "Ljava/lang/Object;" (.ref r1) ∧ Fld Z h' q "java/util/ImmutableCollections$List12" "e1" "Ljava/lang/Object;" (.ref em)) := by
  refine MetW.of (Ls := #[.val (.ref o), .val (.ref a)]) (a0 := a0) (by first | (simp [plainName, overriddenIn]; done) | decide +kernel) (fun m => by first | (simp [entryFrame, mkF, argsToLocals, Value.category]; done) | rfl) (own_EW hw) (fun q => nomatch q) (fun p_ e_ s_ m_ below_ meth_ c_ hs0 C => ?_)
  refine Go.know (fun hX _ hM => ?_)
  refine g_aloadN C dU_0 rfl rfl ?_
  refine g_objInit C dU_1 (hw _ (List.mem_of_getElem? (i := 87) rfl)) (hw _ (List.mem_of_getElem? (i := 16) rfl)) (hw _ (List.mem_of_getElem? (i := 17) rfl)) rfl (by decide) (Nat.le_of_ble_eq_true rfl) ?_
  refine g_aloadN C dU_4 rfl rfl ?_
  refine g_invokeinterface [] [] 0 C dU_5 (hw _ (List.mem_of_getElem? (i := 88) rfl)) (hw _ (List.mem_of_getElem? (i := 89) rfl)) (hw _ (List.mem_of_getElem? (i := 90) rfl)) (hw _ (List.mem_of_getElem? (i := 91) rfl)) (hw _ (List.mem_of_getElem? (i := 92) rfl)) (hw _ (List.mem_of_getElem? (i := 93) rfl)) (hw _ (List.mem_of_getElem? (i := 94) rfl)) (hw _ (List.mem_of_getElem? (i := 95) rfl)) (hw _ (List.mem_of_getElem? (i := 28) rfl)) (hw _ (List.mem_of_getElem? (i := 96) rfl)) (by decide) E (m_isEmpty1 l Z a0 hw S0 hz0 SD SE Ld Le MI _ _ F2) (lenOf pd18 rfl) rfl rfl (Nat.le_of_ble_eq_true rfl) (by decide) (by decide) (by decide) (by decide) all0 (fun v1 h2 L3 q4 K5 => ?_)
  obtain rfl := q4
  show Go _ _ _ _ _ _ _ _ _ _ _ _ _ _ _ _ _ _ _ _ _ _ (mkF _ 10 #[.val (.ref o), .val (.ref a)] [(.int (0 : Int32))])
  refine g_ifT 23 C dU_10 (show (0 : Int32) = (0 : Int32) by decide) (by decide) (by decide) ?_
  refine g_aloadN C dU_23 rfl rfl ?_
  refine g_aloadN C dU_24 rfl rfl ?_
  have f13 := (E.keep K5)
  have f14 := (F0.keep K5 nin0)
  have f15 := (F1.keep K5 nin0)
  have f16 := (F2.keep K5 nin0)
  have f17 := (Eb.keep K5)
  have f18 := (A.keep K5 nin0)
  have f19 := (X1.keep K5)
  refine g_invokestatic [(.ref a)] [(.ref o)] 1 C dU_25 (hw _ (List.mem_of_getElem? (i := 97) rfl)) (hw _ (List.mem_of_getElem? (i := 98) rfl)) (hw _ (List.mem_of_getElem? (i := 99) rfl)) (hw _ (List.mem_of_getElem? (i := 100) rfl)) (by decide) (m_copyOf1 l Z a0 hw S0 hz0 SD SE Ld Le MI _ _ _ _ f13 f14 f15 f16 f17 f18 f19) (lenOf pd19 rfl) rfl rfl (Nat.le_of_ble_eq_true rfl) (by decide) (by decide) (by decide) (by decide) all0 (fun v20 h21 L22 q23 K24 => ?_)
  obtain ⟨q6, rfl, g7, f8, f9, f10⟩ := q23
  show Go _ _ _ _ _ _ _ _ _ _ _ _ _ _ _ _ _ _ _ _ _ _ (mkF _ 28 #[.val (.ref o), .val (.ref a)] [(.ref q6), (.ref o)])
  have f25 := ((Fo.keep K5 nin0).keep K24 nin0)
  have f26 := ((Eo.keep K5).keep K24)
  refine g_putfield (host := "") C dU_28 (Or.inl (hw _ (List.mem_of_getElem? (i := 179) rfl))) Via.refl f25 f26 (Or.inr ⟨(hw _ (List.mem_of_getElem? (i := 180) rfl)), rfl, rfl⟩) (hw _ (List.mem_of_getElem? (i := 82) rfl)) (ty := (.object "java/util/List")) (by decide) rfl rfl (List.mem_of_getElem? (i := 0) rfl) (fun h27 W28 K29 => ?_)
  have f30 := Fld.same W28 f25
  have f31 := (f26.keep K29)
  have f32 := (f8.keep K29)
  have f33 := (f9.keep K29 (ninS (Nat.ne_of_gt (Nat.lt_of_lt_of_le (Nat.lt_of_lt_of_le Eo.lt K5.1) g7)) nin0))
  have f34 := (f10.keep K29 (ninS (Nat.ne_of_gt (Nat.lt_of_lt_of_le (Nat.lt_of_lt_of_le Eo.lt K5.1) g7)) nin0))
  exact g_retU C dU_31 ⟨rfl, q6, Nat.le_trans K5.1 g7, f31, f30, f32, f33, f34⟩ (by decide) (by decide)
set_option maxRecDepth 65536 in
set_option maxHeartbeats 80000000 in
theorem m_listCopy2 (l : Launch) (Z : State) (a0 : Array Value) {z0 : Int32} (hw : ∀ d ∈ tables_1, d.before a0 Z = true) (S0 : Sta Z Z.heap "java/lang/String" "COMPACT_STRINGS" "Z" (.int z0)) (hz0 : ¬ z0 = 0) {dc em mir : Addr} (SD : Sta Z Z.heap "java/util/ArrayList" "DEFAULTCAPACITY_EMPTY_ELEMENTDATA" "[Ljava/lang/Object;" (.ref dc)) (SE : Sta Z Z.heap "java/util/ImmutableCollections" "EMPTY" "Ljava/lang/Object;" (.ref em)) (Ld : dc < Z.heap.size) (Le : em < Z.heap.size) (MI : MirC Z "[Ljava/lang/Object;" mir) (a b : Addr) (r1 r2 : Addr) (h : Heap) (E : Exa Z h a "java/util/ArrayList") (F0 : Fld Z h a "java/util/AbstractList" "modCount" "I" (.int (2 : Int32))) (F1 : Fld Z h a "java/util/ArrayList" "elementData" "[Ljava/lang/Object;" (.ref b)) (F2 : Fld Z h a "java/util/ArrayList" "size" "I" (.int (2 : Int32))) (Eb : Exa Z h b "[Ljava/lang/Object;") (A : Av Z h b (.object "java/lang/Object") [(.ref r1), (.ref r2), .null, .null, .null, .null, .null, .null, .null, .null]) (X1 : Exa Z h r1 "java/lang/String") (X2 : Exa Z h r2 "java/lang/String") :
    MetW true l Z [("java/lang/String", 7)] (⟨"java/util/ImmutableCollections", "listCopy", "(Ljava/util/Collection;)Ljava/util/List;"⟩ : MethodName) jdk_56_method_3_code 2 (Option.some (Jvm.ClassFile.FieldType.object "java/util/List")) [] ({ frames := 6, cells := 2, slots := 4, locals := 76 } : Room) #[(.ref a)] [] h (fun v h' => ∃ q : Addr, v = some (.ref q) ∧ h.size ≤ q ∧ Exa Z h' q "java/util/ImmutableCollections$List12" ∧ Fld Z h' q "java/util/ImmutableCollections$List12" "e0" "Ljava/lang/Object;" (.ref r1) ∧ Fld Z h' q "java/util/ImmutableCollections$List12" "e1" "Ljava/lang/Object;" (.ref r2)) := by
  refine MetW.of (Ls := #[.val (.ref a), .unset]) (a0 := a0) (by first | (simp [plainName, overriddenIn]; done) | decide +kernel) (fun m => by first | (simp [entryFrame, mkF, argsToLocals, Value.category]; done) | rfl) (own_EW hw) (fun q => nomatch q) (fun p_ e_ s_ m_ below_ meth_ c_ hs0 C => ?_)
  refine Go.know (fun hX _ hM => ?_)
  refine g_aloadN C dS_0 rfl rfl ?_
  refine g_instNo C dS_1 (hw _ (List.mem_of_getElem? (i := 105) rfl)) (ins_no (t := ["java/util/AbstractList", "java/util/AbstractCollection", "java/lang/Object"]) E (fun d hd => hw d ((by decide +kernel : ∀ d ∈ Cond.chainWords ["java/util/ArrayList", "java/util/AbstractList", "java/util/AbstractCollection", "java/lang/Object"], d ∈ tables_1) d hd)) (hw _ (List.mem_of_getElem? (i := 150) rfl)) (by decide)) E ?_
  refine g_ifF C dS_4 (show (0 : Int32) = (0 : Int32) by decide) ?_
  refine g_aloadN C dS_7 rfl rfl ?_
  refine g_instNo C dS_8 (hw _ (List.mem_of_getElem? (i := 110) rfl)) (ins_no (t := ["java/util/AbstractList", "java/util/AbstractCollection", "java/lang/Object"]) E (fun d hd => hw d ((by decide +kernel : ∀ d ∈ Cond.chainWords ["java/util/ArrayList", "java/util/AbstractList", "java/util/AbstractCollection", "java/lang/Object"], d ∈ tables_1) d hd)) (hw _ (List.mem_of_getElem? (i := 239) rfl)) (by decide)) E ?_
  refine g_ifT 31 C dS_11 (show (0 : Int32) = (0 : Int32) by decide) (by decide) (by decide) ?_
  refine g_aloadN C dS_31 rfl rfl ?_
  refine g_invokeinterface [] [] 0 C dS_32 (hw _ (List.mem_of_getElem? (i := 111) rfl)) (hw _ (List.mem_of_getElem? (i := 112) rfl)) (hw _ (List.mem_of_getElem? (i := 113) rfl)) (hw _ (List.mem_of_getElem? (i := 114) rfl)) (hw _ (List.mem_of_getElem? (i := 92) rfl)) (hw _ (List.mem_of_getElem? (i := 93) rfl)) (hw _ (List.mem_of_getElem? (i := 94) rfl)) (hw _ (List.mem_of_getElem? (i := 115) rfl)) (hw _ (List.mem_of_getElem? (i := 28) rfl)) (hw _ (List.mem_of_getElem? (i := 96) rfl)) (by decide) E (m_isEmpty2 l Z a0 hw S0 hz0 SD SE Ld Le MI _ _ F2) (lenOf pd18 rfl) rfl rfl (Nat.le_of_ble_eq_true rfl) (by decide) (by decide) (by decide) (by decide) all0 (fun v1 h2 L3 q4 K5 => ?_)
  obtain rfl := q4
  show Go _ _ _ _ _ _ _ _ _ _ _ _ _ _ _ _ _ _ _ _ _ _ (mkF _ 37 #[.val (.ref a), .unset] [(.int (0 : Int32))])
  refine g_ifT 44 C dS_37 (show (0 : Int32) = (0 : Int32) by decide) (by decide) (by decide) ?_
  refine g_aloadN C dS_44 rfl rfl ?_
  have f11 := (E.keep K5)
  have f12 := (F0.keep K5 nin0)
  have f13 := (F1.keep K5 nin0)
  have f14 := (F2.keep K5 nin0)
  have f15 := (Eb.keep K5)
  have f16 := (A.keep K5 nin0)
  have f17 := (X1.keep K5)
  have f18 := (X2.keep K5)
  refine g_invokeinterface [] [] 0 C dS_45 (hw _ (List.mem_of_getElem? (i := 116) rfl)) (hw _ (List.mem_of_getElem? (i := 117) rfl)) (hw _ (List.mem_of_getElem? (i := 118) rfl)) (hw _ (List.mem_of_getElem? (i := 119) rfl)) (hw _ (List.mem_of_getElem? (i := 120) rfl)) (hw _ (List.mem_of_getElem? (i := 121) rfl)) (hw _ (List.mem_of_getElem? (i := 122) rfl)) (hw _ (List.mem_of_getElem? (i := 115) rfl)) (hw _ (List.mem_of_getElem? (i := 28) rfl)) (hw _ (List.mem_of_getElem? (i := 123) rfl)) (by decide) f11 (m_toArray2 l Z a0 hw S0 hz0 SD SE Ld Le MI _ _ _ _ _ f11 f12 f13 f14 f15 f16 f17 f18) (lenOf pd9 rfl) rfl rfl (Nat.le_of_ble_eq_true rfl) (by decide) (by decide) (by decide) (by decide) all0 (fun v19 h20 L21 q22 K23 => ?_)
  obtain ⟨d6, rfl, g7, f8, f9, f10⟩ := q22
  show Go _ _ _ _ _ _ _ _ _ _ _ _ _ _ _ _ _ _ _ _ _ _ (mkF _ 50 #[.val (.ref a), .unset] [(.ref d6)])
  have f31 := (f17.keep K23)
  have f32 := (f18.keep K23)
  refine g_invokestatic [(.ref d6)] [] 0 C dS_50 (hw _ (List.mem_of_getElem? (i := 146) rfl)) (hw _ (List.mem_of_getElem? (i := 147) rfl)) (hw _ (List.mem_of_getElem? (i := 99) rfl)) (hw _ (List.mem_of_getElem? (i := 148) rfl)) (by decide) (m_of2 l Z a0 hw S0 hz0 SD SE Ld Le MI _ _ _ _ f9 f31 f32) (lenOf pd17 rfl) rfl rfl (Nat.le_of_ble_eq_true rfl) (by decide) (by decide) (by decide) (by decide) all0 (fun v33 h34 L35 q36 K37 => ?_)
  obtain ⟨q24, rfl, g25, f26, f27, f28⟩ := q36
  show Go _ _ _ _ _ _ _ _ _ _ _ _ _ _ _ _ _ _ _ _ _ _ (mkF _ 53 #[.val (.ref a), .unset] [(.ref q24)])
  exact g_retA C dS_53 rfl rfl ⟨q24, rfl, Nat.le_trans (Nat.le_trans K5.1 K23.1) g25, f26, f27, f28⟩ (by decide) (by decide)
set_option maxRecDepth 65536 in
set_option maxHeartbeats 80000000 in
theorem m_copyOf2 (l : Launch) (Z : State) (a0 : Array Value) {z0 : Int32} (hw : ∀ d ∈ tables_1, d.before a0 Z = true) (S0 : Sta Z Z.heap "java/lang/String" "COMPACT_STRINGS" "Z" (.int z0)) (hz0 : ¬ z0 = 0) {dc em mir : Addr} (SD : Sta Z Z.heap "java/util/ArrayList" "DEFAULTCAPACITY_EMPTY_ELEMENTDATA" "[Ljava/lang/Object;" (.ref dc)) (SE : Sta Z Z.heap "java/util/ImmutableCollections" "EMPTY" "Ljava/lang/Object;" (.ref em)) (Ld : dc < Z.heap.size) (Le : em < Z.heap.size) (MI : MirC Z "[Ljava/lang/Object;" mir) (a b : Addr) (r1 r2 : Addr) (h : Heap) (E : Exa Z h a "java/util/ArrayList") (F0 : Fld Z h a "java/util/AbstractList" "modCount" "I" (.int (2 : Int32))) (F1 : Fld Z h a "java/util/ArrayList" "elementData" "[Ljava/lang/Object;" (.ref b)) (F2 : Fld Z h a "java/util/ArrayList" "size" "I" (.int (2 : Int32))) (Eb : Exa Z h b "[Ljava/lang/Object;") (A : Av Z h b (.object "java/lang/Object") [(.ref r1), (.ref r2), .null, .null, .null, .null, .null, .null, .null, .null]) (X1 : Exa Z h r1 "java/lang/String") (X2 : Exa Z h r2 "java/lang/String") :
    MetW true l Z [("java/lang/String", 7)] (⟨"java/util/List", "copyOf", "(Ljava/util/Collection;)Ljava/util/List;"⟩ : MethodName) jdk_40_method_48_code 1 (Option.some (Jvm.ClassFile.FieldType.object "java/util/List")) [] ({ frames := 7, cells := 2, slots := 4, locals := 89 } : Room) #[(.ref a)] [] h (fun v h' => ∃ q : Addr, v = some (.ref q) ∧ h.size ≤ q ∧ Exa Z h' q "java/util/ImmutableCollections$List12" ∧ Fld Z h' q "java/util/ImmutableCollections$List12" "e0" "Ljava/lang/Object;" (.ref r1) ∧ Fld Z h' q "java/util/ImmutableCollections$List12" "e1" "Ljava/lang/Object;" (.ref r2)) := by
  refine MetW.of (Ls := #[.val (.ref a)]) (a0 := a0) (by first | (simp [plainName, overriddenIn]; done) | decide +kernel) (fun m => by first | (simp [entryFrame, mkF, argsToLocals, Value.category]; done) | rfl) (own_EW hw) (fun q => nomatch q) (fun p_ e_ s_ m_ below_ meth_ c_ hs0 C => ?_)
  refine Go.know (fun hX _ hM => ?_)
  refine g_aloadN C dT_0 rfl rfl ?_
  refine g_invokestatic [(.ref a)] [] 0 C dT_1 (hw _ (List.mem_of_getElem? (i := 101) rfl)) (hw _ (List.mem_of_getElem? (i := 102) rfl)) (hw _ (List.mem_of_getElem? (i := 103) rfl)) (hw _ (List.mem_of_getElem? (i := 104) rfl)) (by decide) (m_listCopy2 l Z a0 hw S0 hz0 SD SE Ld Le MI _ _ _ _ _ E F0 F1 F2 Eb A X1 X2) (lenOf pd19 rfl) rfl rfl (Nat.le_of_ble_eq_true rfl) (by decide) (by decide) (by decide) (by decide) all0 (fun v8 h9 L10 q11 K12 => ?_)
  obtain ⟨q1, rfl, g2, f3, f4, f5⟩ := q11
  show Go _ _ _ _ _ _ _ _ _ _ _ _ _ _ _ _ _ _ _ _ _ _ (mkF _ 4 #[.val (.ref a)] [(.ref q1)])
  exact g_retA C dT_4 rfl rfl ⟨q1, rfl, Nat.le_trans (Nat.le_refl _) g2, f3, f4, f5⟩ (by decide) (by decide)
set_option maxRecDepth 65536 in
set_option maxHeartbeats 80000000 in
theorem m_hInit2 (l : Launch) (Z : State) (a0 : Array Value) {z0 : Int32} (hw : ∀ d ∈ tables_1, d.before a0 Z = true) (S0 : Sta Z Z.heap "java/lang/String" "COMPACT_STRINGS" "Z" (.int z0)) (hz0 : ¬ z0 = 0) {dc em mir : Addr} (SD : Sta Z Z.heap "java/util/ArrayList" "DEFAULTCAPACITY_EMPTY_ELEMENTDATA" "[Ljava/lang/Object;" (.ref dc)) (SE : Sta Z Z.heap "java/util/ImmutableCollections" "EMPTY" "Ljava/lang/Object;" (.ref em)) (Ld : dc < Z.heap.size) (Le : em < Z.heap.size) (MI : MirC Z "[Ljava/lang/Object;" mir) (o : Addr) (a b : Addr) (r1 r2 : Addr) (h : Heap) (E : Exa Z h a "java/util/ArrayList") (F0 : Fld Z h a "java/util/AbstractList" "modCount" "I" (.int (2 : Int32))) (F1 : Fld Z h a "java/util/ArrayList" "elementData" "[Ljava/lang/Object;" (.ref b)) (F2 : Fld Z h a "java/util/ArrayList" "size" "I" (.int (2 : Int32))) (Eb : Exa Z h b "[Ljava/lang/Object;") (A : Av Z h b (.object "java/lang/Object") [(.ref r1), (.ref r2), .null, .null, .null, .null, .null, .null, .null, .null]) (X1 : Exa Z h r1 "java/lang/String") (X2 : Exa Z h r2 "java/lang/String") (Eo : Exa Z h o "com/example/warm_suite/warmsuite/core/engine/Holder") (Fo : Fld Z h o "com/example/warm_suite/warmsuite/core/engine/Holder" "path" "Ljava/util/List;" .null) :
    MetW true l Z [("java/lang/String", 7)] (⟨"com/example/warm_suite/warmsuite/core/engine/Holder", "<init>", "(Ljava/util/List;)V"⟩ : MethodName) prog_14_method_1_code 2 none [] ({ frames := 8, cells := 2, slots := 4, locals := 102 } : Room) #[(.ref o), (.ref a)] [o] h (fun v h' => v = none ∧ ∃ q : Addr, h.size ≤ q ∧ Exa Z h' o "com/example/warm_suite/warmsuite/core/engine/Holder" ∧ Fld Z h' o "com/example/warm_suite/warmsuite/core/engine/Holder" "path" "Ljava/util/List;" (.ref q) ∧ Exa Z h' q "java/util/ImmutableCollections$List12" ∧ Fld Z h' q "java/util/ImmutableCollections$List12" "e0" "Ljava/lang/Object;" (.ref r1) ∧ Fld Z h' q "java/util/ImmutableCollections$List12" "e1" "Ljava/lang/Object;" (.ref r2)) := by
  refine MetW.of (Ls := #[.val (.ref o), .val (.ref a)]) (a0 := a0) (by first | (simp [plainName, overriddenIn]; done) | decide +kernel) (fun m => by first | (simp [entryFrame, mkF, argsToLocals, Value.category]; done) | rfl) (own_EW hw) (fun q => nomatch q) (fun p_ e_ s_ m_ below_ meth_ c_ hs0 C => ?_)
  refine Go.know (fun hX _ hM => ?_)
  refine g_aloadN C dU_0 rfl rfl ?_
  refine g_objInit C dU_1 (hw _ (List.mem_of_getElem? (i := 87) rfl)) (hw _ (List.mem_of_getElem? (i := 16) rfl)) (hw _ (List.mem_of_getElem? (i := 17) rfl)) rfl (by decide) (Nat.le_of_ble_eq_true rfl) ?_
  refine g_aloadN C dU_4 rfl rfl ?_
  refine g_invokeinterface [] [] 0 C dU_5 (hw _ (List.mem_of_getElem? (i := 88) rfl)) (hw _ (List.mem_of_getElem? (i := 89) rfl)) (hw _ (List.mem_of_getElem? (i := 90) rfl)) (hw _ (List.mem_of_getElem? (i := 91) rfl)) (hw _ (List.mem_of_getElem? (i := 92) rfl)) (hw _ (List.mem_of_getElem? (i := 93) rfl)) (hw _ (List.mem_of_getElem? (i := 94) rfl)) (hw _ (List.mem_of_getElem? (i := 95) rfl)) (hw _ (List.mem_of_getElem? (i := 28) rfl)) (hw _ (List.mem_of_getElem? (i := 96) rfl)) (by decide) E (m_isEmpty2 l Z a0 hw S0 hz0 SD SE Ld Le MI _ _ F2) (lenOf pd18 rfl) rfl rfl (Nat.le_of_ble_eq_true rfl) (by decide) (by decide) (by decide) (by decide) all0 (fun v1 h2 L3 q4 K5 => ?_)
  obtain rfl := q4
  show Go _ _ _ _ _ _ _ _ _ _ _ _ _ _ _ _ _ _ _ _ _ _ (mkF _ 10 #[.val (.ref o), .val (.ref a)] [(.int (0 : Int32))])
  refine g_ifT 23 C dU_10 (show (0 : Int32) = (0 : Int32) by decide) (by decide) (by decide) ?_
  refine g_aloadN C dU_23 rfl rfl ?_
  refine g_aloadN C dU_24 rfl rfl ?_
  have f13 := (E.keep K5)
  have f14 := (F0.keep K5 nin0)
  have f15 := (F1.keep K5 nin0)
  have f16 := (F2.keep K5 nin0)
  have f17 := (Eb.keep K5)
  have f18 := (A.keep K5 nin0)
  have f19 := (X1.keep K5)
  have f20 := (X2.keep K5)
  refine g_invokestatic [(.ref a)] [(.ref o)] 1 C dU_25 (hw _ (List.mem_of_getElem? (i := 97) rfl)) (hw _ (List.mem_of_getElem? (i := 98) rfl)) (hw _ (List.mem_of_getElem? (i := 99) rfl)) (hw _ (List.mem_of_getElem? (i := 100) rfl)) (by decide) (m_copyOf2 l Z a0 hw S0 hz0 SD SE Ld Le MI _ _ _ _ _ f13 f14 f15 f16 f17 f18 f19 f20) (lenOf pd19 rfl) rfl rfl (Nat.le_of_ble_eq_true rfl) (by decide) (by decide) (by decide) (by decide) all0 (fun v21 h22 L23 q24 K25 => ?_)
  obtain ⟨q6, rfl, g7, f8, f9, f10⟩ := q24
  show Go _ _ _ _ _ _ _ _ _ _ _ _ _ _ _ _ _ _ _ _ _ _ (mkF _ 28 #[.val (.ref o), .val (.ref a)] [(.ref q6), (.ref o)])
  have f26 := ((Fo.keep K5 nin0).keep K25 nin0)
  have f27 := ((Eo.keep K5).keep K25)
  refine g_putfield (host := "") C dU_28 (Or.inl (hw _ (List.mem_of_getElem? (i := 179) rfl))) Via.refl f26 f27 (Or.inr ⟨(hw _ (List.mem_of_getElem? (i := 180) rfl)), rfl, rfl⟩) (hw _ (List.mem_of_getElem? (i := 82) rfl)) (ty := (.object "java/util/List")) (by decide) rfl rfl (List.mem_of_getElem? (i := 0) rfl) (fun h28 W29 K30 => ?_)
  have f31 := Fld.same W29 f26
  have f32 := (f27.keep K30)
  have f33 := (f8.keep K30)
  have f34 := (f9.keep K30 (ninS (Nat.ne_of_gt (Nat.lt_of_lt_of_le (Nat.lt_of_lt_of_le Eo.lt K5.1) g7)) nin0))
  have f35 := (f10.keep K30 (ninS (Nat.ne_of_gt (Nat.lt_of_lt_of_le (Nat.lt_of_lt_of_le Eo.lt K5.1) g7)) nin0))
  exact g_retU C dU_31 ⟨rfl, q6, Nat.le_trans K5.1 g7, f32, f31, f33, f34, f35⟩ (by decide) (by decide)
set_option maxRecDepth 65536 in
set_option maxHeartbeats 80000000 in
theorem m_listCopy3 (l : Launch) (Z : State) (a0 : Array Value) {z0 : Int32} (hw : ∀ d ∈ tables_1, d.before a0 Z = true) (S0 : Sta Z Z.heap "java/lang/String" "COMPACT_STRINGS" "Z" (.int z0)) (hz0 : ¬ z0 = 0) {dc em mir : Addr} (SD : Sta Z Z.heap "java/util/ArrayList" "DEFAULTCAPACITY_EMPTY_ELEMENTDATA" "[Ljava/lang/Object;" (.ref dc)) (SE : Sta Z Z.heap "java/util/ImmutableCollections" "EMPTY" "Ljava/lang/Object;" (.ref em)) (Ld : dc < Z.heap.size) (Le : em < Z.heap.size) (MI : MirC Z "[Ljava/lang/Object;" mir) (a b : Addr) (r1 r2 r3 : Addr) (h : Heap) (E : Exa Z h a "java/util/ArrayList") (F0 : Fld Z h a "java/util/AbstractList" "modCount" "I" (.int (3 : Int32))) (F1 : Fld Z h a "java/util/ArrayList" "elementData" "[Ljava/lang/Object;" (.ref b)) (F2 : Fld Z h a "java/util/ArrayList" "size" "I" (.int (3 : Int32))) (Eb : Exa Z h b "[Ljava/lang/Object;") (A : Av Z h b (.object "java/lang/Object") [(.ref r1), (.ref r2), (.ref r3), .null, .null, .null, .null, .null, .null, .null]) (X1 : Exa Z h r1 "java/lang/String") (X2 : Exa Z h r2 "java/lang/String") (X3 : Exa Z h r3 "java/lang/String") :
    MetW true l Z [("java/lang/String", 7)] (⟨"java/util/ImmutableCollections", "listCopy", "(Ljava/util/Collection;)Ljava/util/List;"⟩ : MethodName) jdk_56_method_3_code 2 (Option.some (Jvm.ClassFile.FieldType.object "java/util/List")) [] ({ frames := 7, cells := 3, slots := 8, locals := 90 } : Room) #[(.ref a)] [] h (fun v h' => ∃ q u : Addr, v = some (.ref q) ∧ h.size ≤ q ∧ h.size ≤ u ∧ Exa Z h' q "java/util/ImmutableCollections$ListN" ∧ Fld Z h' q "java/util/ImmutableCollections$ListN" "elements" "[Ljava/lang/Object;" (.ref u) ∧ Av Z h' u (.object "java/lang/Object") [.ref r1, .ref r2, .ref r3]) := by
  refine MetW.of (Ls := #[.val (.ref a), .unset]) (a0 := a0) (by first | (simp [plainName, overriddenIn]; done) | decide +kernel) (fun m => by first | (simp [entryFrame, mkF, argsToLocals, Value.category]; done) | rfl) (own_EW hw) (fun q => nomatch q) (fun p_ e_ s_ m_ below_ meth_ c_ hs0 C => ?_)
  refine Go.know (fun hX _ hM => ?_)
  refine g_aloadN C dS_0 rfl rfl ?_
  refine g_instNo C dS_1 (hw _ (List.mem_of_getElem? (i := 105) rfl)) (ins_no (t := ["java/util/AbstractList", "java/util/AbstractCollection", "java/lang/Object"]) E (fun d hd => hw d ((by decide +kernel : ∀ d ∈ Cond.chainWords ["java/util/ArrayList", "java/util/AbstractList", "java/util/AbstractCollection", "java/lang/Object"], d ∈ tables_1) d hd)) (hw _ (List.mem_of_getElem? (i := 150) rfl)) (by decide)) E ?_
  refine g_ifF C dS_4 (show (0 : Int32) = (0 : Int32) by decide) ?_
  refine g_aloadN C dS_7 rfl rfl ?_
  refine g_instNo C dS_8 (hw _ (List.mem_of_getElem? (i := 110) rfl)) (ins_no (t := ["java/util/AbstractList", "java/util/AbstractCollection", "java/lang/Object"]) E (fun d hd => hw d ((by decide +kernel : ∀ d ∈ Cond.chainWords ["java/util/ArrayList", "java/util/AbstractList", "java/util/AbstractCollection", "java/lang/Object"], d ∈ tables_1) d hd)) (hw _ (List.mem_of_getElem? (i := 239) rfl)) (by decide)) E ?_
  refine g_ifT 31 C dS_11 (show (0 : Int32) = (0 : Int32) by decide) (by decide) (by decide) ?_
  refine g_aloadN C dS_31 rfl rfl ?_
  refine g_invokeinterface [] [] 0 C dS_32 (hw _ (List.mem_of_getElem? (i := 111) rfl)) (hw _ (List.mem_of_getElem? (i := 112) rfl)) (hw _ (List.mem_of_getElem? (i := 113) rfl)) (hw _ (List.mem_of_getElem? (i := 114) rfl)) (hw _ (List.mem_of_getElem? (i := 92) rfl)) (hw _ (List.mem_of_getElem? (i := 93) rfl)) (hw _ (List.mem_of_getElem? (i := 94) rfl)) (hw _ (List.mem_of_getElem? (i := 115) rfl)) (hw _ (List.mem_of_getElem? (i := 28) rfl)) (hw _ (List.mem_of_getElem? (i := 96) rfl)) (by decide) E (m_isEmpty3 l Z a0 hw S0 hz0 SD SE Ld Le MI _ _ F2) (lenOf pd18 rfl) rfl rfl (Nat.le_of_ble_eq_true rfl) (by decide) (by decide) (by decide) (by decide) all0 (fun v1 h2 L3 q4 K5 => ?_)
  obtain rfl := q4
  show Go _ _ _ _ _ _ _ _ _ _ _ _ _ _ _ _ _ _ _ _ _ _ (mkF _ 37 #[.val (.ref a), .unset] [(.int (0 : Int32))])
  refine g_ifT 44 C dS_37 (show (0 : Int32) = (0 : Int32) by decide) (by decide) (by decide) ?_
  refine g_aloadN C dS_44 rfl rfl ?_
  have f11 := (E.keep K5)
  have f12 := (F0.keep K5 nin0)
  have f13 := (F1.keep K5 nin0)
  have f14 := (F2.keep K5 nin0)
  have f15 := (Eb.keep K5)
  have f16 := (A.keep K5 nin0)
  have f17 := (X1.keep K5)
  have f18 := (X2.keep K5)
  have f19 := (X3.keep K5)
  refine g_invokeinterface [] [] 0 C dS_45 (hw _ (List.mem_of_getElem? (i := 116) rfl)) (hw _ (List.mem_of_getElem? (i := 117) rfl)) (hw _ (List.mem_of_getElem? (i := 118) rfl)) (hw _ (List.mem_of_getElem? (i := 119) rfl)) (hw _ (List.mem_of_getElem? (i := 120) rfl)) (hw _ (List.mem_of_getElem? (i := 121) rfl)) (hw _ (List.mem_of_getElem? (i := 122) rfl)) (hw _ (List.mem_of_getElem? (i := 115) rfl)) (hw _ (List.mem_of_getElem? (i := 28) rfl)) (hw _ (List.mem_of_getElem? (i := 123) rfl)) (by decide) f11 (m_toArray3 l Z a0 hw S0 hz0 SD SE Ld Le MI _ _ _ _ _ _ f11 f12 f13 f14 f15 f16 f17 f18 f19) (lenOf pd9 rfl) rfl rfl (Nat.le_of_ble_eq_true rfl) (by decide) (by decide) (by decide) (by decide) all0 (fun v20 h21 L22 q23 K24 => ?_)
  obtain ⟨d6, rfl, g7, f8, f9, f10⟩ := q23
  show Go _ _ _ _ _ _ _ _ _ _ _ _ _ _ _ _ _ _ _ _ _ _ (mkF _ 50 #[.val (.ref a), .unset] [(.ref d6)])
  have f32 := (f17.keep K24)
  have f33 := (f18.keep K24)
  have f34 := (f19.keep K24)
  refine g_invokestatic [(.ref d6)] [] 0 C dS_50 (hw _ (List.mem_of_getElem? (i := 146) rfl)) (hw _ (List.mem_of_getElem? (i := 147) rfl)) (hw _ (List.mem_of_getElem? (i := 99) rfl)) (hw _ (List.mem_of_getElem? (i := 148) rfl)) (by decide) (m_of3 l Z a0 hw S0 hz0 SD SE Ld Le MI _ _ _ _ _ f9 f32 f33 f34) (lenOf pd17 rfl) rfl rfl (Nat.le_of_ble_eq_true rfl) (by decide) (by decide) (by decide) (by decide) all0 (fun v35 h36 L37 q38 K39 => ?_)
  obtain ⟨q25, u30, rfl, g26, g31, f27, f28, f29⟩ := q38
  show Go _ _ _ _ _ _ _ _ _ _ _ _ _ _ _ _ _ _ _ _ _ _ (mkF _ 53 #[.val (.ref a), .unset] [(.ref q25)])
  exact g_retA C dS_53 rfl rfl ⟨q25, u30, rfl, Nat.le_trans (Nat.le_trans K5.1 K24.1) g26, Nat.le_trans (Nat.le_trans K5.1 K24.1) g31, f27, f28, f29⟩ (by decide) (by decide)
set_option maxRecDepth 65536 in
set_option maxHeartbeats 80000000 in
theorem m_copyOf3 (l : Launch) (Z : State) (a0 : Array Value) {z0 : Int32} (hw : ∀ d ∈ tables_1, d.before a0 Z = true) (S0 : Sta Z Z.heap "java/lang/String" "COMPACT_STRINGS" "Z" (.int z0)) (hz0 : ¬ z0 = 0) {dc em mir : Addr} (SD : Sta Z Z.heap "java/util/ArrayList" "DEFAULTCAPACITY_EMPTY_ELEMENTDATA" "[Ljava/lang/Object;" (.ref dc)) (SE : Sta Z Z.heap "java/util/ImmutableCollections" "EMPTY" "Ljava/lang/Object;" (.ref em)) (Ld : dc < Z.heap.size) (Le : em < Z.heap.size) (MI : MirC Z "[Ljava/lang/Object;" mir) (a b : Addr) (r1 r2 r3 : Addr) (h : Heap) (E : Exa Z h a "java/util/ArrayList") (F0 : Fld Z h a "java/util/AbstractList" "modCount" "I" (.int (3 : Int32))) (F1 : Fld Z h a "java/util/ArrayList" "elementData" "[Ljava/lang/Object;" (.ref b)) (F2 : Fld Z h a "java/util/ArrayList" "size" "I" (.int (3 : Int32))) (Eb : Exa Z h b "[Ljava/lang/Object;") (A : Av Z h b (.object "java/lang/Object") [(.ref r1), (.ref r2), (.ref r3), .null, .null, .null, .null, .null, .null, .null]) (X1 : Exa Z h r1 "java/lang/String") (X2 : Exa Z h r2 "java/lang/String") (X3 : Exa Z h r3 "java/lang/String") :
    MetW true l Z [("java/lang/String", 7)] (⟨"java/util/List", "copyOf", "(Ljava/util/Collection;)Ljava/util/List;"⟩ : MethodName) jdk_40_method_48_code 1 (Option.some (Jvm.ClassFile.FieldType.object "java/util/List")) [] ({ frames := 8, cells := 3, slots := 8, locals := 103 } : Room) #[(.ref a)] [] h (fun v h' => ∃ q u : Addr, v = some (.ref q) ∧ h.size ≤ q ∧ h.size ≤ u ∧ Exa Z h' q "java/util/ImmutableCollections$ListN" ∧ Fld Z h' q "java/util/ImmutableCollections$ListN" "elements" "[Ljava/lang/Object;" (.ref u) ∧ Av Z h' u (.object "java/lang/Object") [.ref r1, .ref r2, .ref r3]) := by
  refine MetW.of (Ls := #[.val (.ref a)]) (a0 := a0) (by first | (simp [plainName, overriddenIn]; done) | decide +kernel) (fun m => by first | (simp [entryFrame, mkF, argsToLocals, Value.category]; done) | rfl) (own_EW hw) (fun q => nomatch q) (fun p_ e_ s_ m_ below_ meth_ c_ hs0 C => ?_)
  refine Go.know (fun hX _ hM => ?_)
  refine g_aloadN C dT_0 rfl rfl ?_
  refine g_invokestatic [(.ref a)] [] 0 C dT_1 (hw _ (List.mem_of_getElem? (i := 101) rfl)) (hw _ (List.mem_of_getElem? (i := 102) rfl)) (hw _ (List.mem_of_getElem? (i := 103) rfl)) (hw _ (List.mem_of_getElem? (i := 104) rfl)) (by decide) (m_listCopy3 l Z a0 hw S0 hz0 SD SE Ld Le MI _ _ _ _ _ _ E F0 F1 F2 Eb A X1 X2 X3) (lenOf pd19 rfl) rfl rfl (Nat.le_of_ble_eq_true rfl) (by decide) (by decide) (by decide) (by decide) all0 (fun v8 h9 L10 q11 K12 => ?_)
  obtain ⟨q1, u6, rfl, g2, g7, f3, f4, f5⟩ := q11
  show Go _ _ _ _ _ _ _ _ _ _ _ _ _ _ _ _ _ _ _ _ _ _ (mkF _ 4 #[.val (.ref a)] [(.ref q1)])
  exact g_retA C dT_4 rfl rfl ⟨q1, u6, rfl, Nat.le_trans (Nat.le_refl _) g2, Nat.le_trans (Nat.le_refl _) g7, f3, f4, f5⟩ (by decide) (by decide)
set_option maxRecDepth 65536 in
set_option maxHeartbeats 80000000 in
theorem m_hInit3 (l : Launch) (Z : State) (a0 : Array Value) {z0 : Int32} (hw : ∀ d ∈ tables_1, d.before a0 Z = true) (S0 : Sta Z Z.heap "java/lang/String" "COMPACT_STRINGS" "Z" (.int z0)) (hz0 : ¬ z0 = 0) {dc em mir : Addr} (SD : Sta Z Z.heap "java/util/ArrayList" "DEFAULTCAPACITY_EMPTY_ELEMENTDATA" "[Ljava/lang/Object;" (.ref dc)) (SE : Sta Z Z.heap "java/util/ImmutableCollections" "EMPTY" "Ljava/lang/Object;" (.ref em)) (Ld : dc < Z.heap.size) (Le : em < Z.heap.size) (MI : MirC Z "[Ljava/lang/Object;" mir) (o : Addr) (a b : Addr) (r1 r2 r3 : Addr) (h : Heap) (E : Exa Z h a "java/util/ArrayList") (F0 : Fld Z h a "java/util/AbstractList" "modCount" "I" (.int (3 : Int32))) (F1 : Fld Z h a "java/util/ArrayList" "elementData" "[Ljava/lang/Object;" (.ref b)) (F2 : Fld Z h a "java/util/ArrayList" "size" "I" (.int (3 : Int32))) (Eb : Exa Z h b "[Ljava/lang/Object;") (A : Av Z h b (.object "java/lang/Object") [(.ref r1), (.ref r2), (.ref r3), .null, .null, .null, .null, .null, .null, .null]) (X1 : Exa Z h r1 "java/lang/String") (X2 : Exa Z h r2 "java/lang/String") (X3 : Exa Z h r3 "java/lang/String") (Eo : Exa Z h o "com/example/warm_suite/warmsuite/core/engine/Holder") (Fo : Fld Z h o "com/example/warm_suite/warmsuite/core/engine/Holder" "path" "Ljava/util/List;" .null) :
    MetW true l Z [("java/lang/String", 7)] (⟨"com/example/warm_suite/warmsuite/core/engine/Holder", "<init>", "(Ljava/util/List;)V"⟩ : MethodName) prog_14_method_1_code 2 none [] ({ frames := 9, cells := 3, slots := 8, locals := 116 } : Room) #[(.ref o), (.ref a)] [o] h (fun v h' => v = none ∧ ∃ q u : Addr, h.size ≤ q ∧ h.size ≤ u ∧ Exa Z h' o "com/example/warm_suite/warmsuite/core/engine/Holder" ∧ Fld Z h' o "com/example/warm_suite/warmsuite/core/engine/Holder" "path" "Ljava/util/List;" (.ref q) ∧ Exa Z h' q "java/util/ImmutableCollections$ListN" ∧ Fld Z h' q "java/util/ImmutableCollections$ListN" "elements" "[Ljava/lang/Object;" (.ref u) ∧ Av Z h' u (.object "java/lang/Object") [.ref r1, .ref r2, .ref r3]) := by
  refine MetW.of (Ls := #[.val (.ref o), .val (.ref a)]) (a0 := a0) (by first | (simp [plainName, overriddenIn]; done) | decide +kernel) (fun m => by first | (simp [entryFrame, mkF, argsToLocals, Value.category]; done) | rfl) (own_EW hw) (fun q => nomatch q) (fun p_ e_ s_ m_ below_ meth_ c_ hs0 C => ?_)
  refine Go.know (fun hX _ hM => ?_)
  refine g_aloadN C dU_0 rfl rfl ?_
  refine g_objInit C dU_1 (hw _ (List.mem_of_getElem? (i := 87) rfl)) (hw _ (List.mem_of_getElem? (i := 16) rfl)) (hw _ (List.mem_of_getElem? (i := 17) rfl)) rfl (by decide) (Nat.le_of_ble_eq_true rfl) ?_
  refine g_aloadN C dU_4 rfl rfl ?_
  refine g_invokeinterface [] [] 0 C dU_5 (hw _ (List.mem_of_getElem? (i := 88) rfl)) (hw _ (List.mem_of_getElem? (i := 89) rfl)) (hw _ (List.mem_of_getElem? (i := 90) rfl)) (hw _ (List.mem_of_getElem? (i := 91) rfl)) (hw _ (List.mem_of_getElem? (i := 92) rfl)) (hw _ (List.mem_of_getElem? (i := 93) rfl)) (hw _ (List.mem_of_getElem? (i := 94) rfl)) (hw _ (List.mem_of_getElem? (i := 95) rfl)) (hw _ (List.mem_of_getElem? (i := 28) rfl)) (hw _ (List.mem_of_getElem? (i := 96) rfl)) (by decide) E (m_isEmpty3 l Z a0 hw S0 hz0 SD SE Ld Le MI _ _ F2) (lenOf pd18 rfl) rfl rfl (Nat.le_of_ble_eq_true rfl) (by decide) (by decide) (by decide) (by decide) all0 (fun v1 h2 L3 q4 K5 => ?_)
  obtain rfl := q4
  show Go _ _ _ _ _ _ _ _ _ _ _ _ _ _ _ _ _ _ _ _ _ _ (mkF _ 10 #[.val (.ref o), .val (.ref a)] [(.int (0 : Int32))])
  refine g_ifT 23 C dU_10 (show (0 : Int32) = (0 : Int32) by decide) (by decide) (by decide) ?_
  refine g_aloadN C dU_23 rfl rfl ?_
  refine g_aloadN C dU_24 rfl rfl ?_
  have f13 := (E.keep K5)
  have f14 := (F0.keep K5 nin0)
  have f15 := (F1.keep K5 nin0)
  have f16 := (F2.keep K5 nin0)
  have f17 := (Eb.keep K5)
  have f18 := (A.keep K5 nin0)
  have f19 := (X1.keep K5)
  have f20 := (X2.keep K5)
  have f21 := (X3.keep K5)
  refine g_invokestatic [(.ref a)] [(.ref o)] 1 C dU_25 (hw _ (List.mem_of_getElem? (i := 97) rfl)) (hw _ (List.mem_of_getElem? (i := 98) rfl)) (hw _ (List.mem_of_getElem? (i := 99) rfl)) (hw _ (List.mem_of_getElem? (i := 100) rfl)) (by decide) (m_copyOf3 l Z a0 hw S0 hz0 SD SE Ld Le MI _ _ _ _ _ _ f13 f14 f15 f16 f17 f18 f19 f20 f21) (lenOf pd19 rfl) rfl rfl (Nat.le_of_ble_eq_true rfl) (by decide) (by decide) (by decide) (by decide) all0 (fun v22 h23 L24 q25 K26 => ?_)
  obtain ⟨q6, u11, rfl, g7, g12, f8, f9, f10⟩ := q25
  show Go _ _ _ _ _ _ _ _ _ _ _ _ _ _ _ _ _ _ _ _ _ _ (mkF _ 28 #[.val (.ref o), .val (.ref a)] [(.ref q6), (.ref o)])
  have f27 := ((Fo.keep K5 nin0).keep K26 nin0)
  have f28 := ((Eo.keep K5).keep K26)
  refine g_putfield (host := "") C dU_28 (Or.inl (hw _ (List.mem_of_getElem? (i := 179) rfl))) Via.refl f27 f28 (Or.inr ⟨(hw _ (List.mem_of_getElem? (i := 180) rfl)), rfl, rfl⟩) (hw _ (List.mem_of_getElem? (i := 82) rfl)) (ty := (.object "java/util/List")) (by decide) rfl rfl (List.mem_of_getElem? (i := 0) rfl) (fun h29 W30 K31 => ?_)
  have f32 := Fld.same W30 f27
  have f33 := (f28.keep K31)
  have f34 := (f8.keep K31)
  have f35 := (f9.keep K31 (ninS (Nat.ne_of_gt (Nat.lt_of_lt_of_le (Nat.lt_of_lt_of_le Eo.lt K5.1) g7)) nin0))
  have f36 := (f10.keep K31 (ninS (Nat.ne_of_gt (Nat.lt_of_lt_of_le (Nat.lt_of_lt_of_le Eo.lt K5.1) g12)) nin0))
  exact g_retU C dU_31 ⟨rfl, q6, u11, Nat.le_trans K5.1 g7, Nat.le_trans K5.1 g12, f33, f32, f34, f35, f36⟩ (by decide) (by decide)
theorem dZ1_0 : decode jdk_44_method_3_code 0 = .ok (.aload_n 0, 1) := by decide +kernel
theorem dZ1_1 : decode jdk_44_method_3_code 1 = .ok (.getfield 24, 3) := by decide +kernel
theorem dZ1_4 : decode jdk_44_method_3_code 4 = .ok (.getstatic 19, 3) := by decide +kernel
theorem dZ1_7 : decode jdk_44_method_3_code 7 = .ok (.if_acmp .eq 7, 3) := by decide +kernel
theorem dZ1_14 : decode jdk_44_method_3_code 14 = .ok (.iconst 1, 1) := by decide +kernel
theorem dZ1_15 : decode jdk_44_method_3_code 15 = .ok (.ireturn, 1) := by decide +kernel
set_option maxRecDepth 65536 in
set_option maxHeartbeats 80000000 in
theorem m_size1 (l : Launch) (Z : State) (a0 : Array Value) {z0 : Int32} (hw : ∀ d ∈ tables_1, d.before a0 Z = true) (S0 : Sta Z Z.heap "java/lang/String" "COMPACT_STRINGS" "Z" (.int z0)) (hz0 : ¬ z0 = 0) {dc em mir : Addr} (SD : Sta Z Z.heap "java/util/ArrayList" "DEFAULTCAPACITY_EMPTY_ELEMENTDATA" "[Ljava/lang/Object;" (.ref dc)) (SE : Sta Z Z.heap "java/util/ImmutableCollections" "EMPTY" "Ljava/lang/Object;" (.ref em)) (Ld : dc < Z.heap.size) (Le : em < Z.heap.size) (MI : MirC Z "[Ljava/lang/Object;" mir) (q : Addr) (r1 : Addr) (h : Heap) (E : Exa Z h q "java/util/ImmutableCollections$List12") (G0 : Fld Z h q "java/util/ImmutableCollections$List12" "e0" "Ljava/lang/Object;" (.ref r1)) (G1 : Fld Z h q "java/util/ImmutableCollections$List12" "e1" "Ljava/lang/Object;" (.ref em)) :
    MetW true l Z [("java/lang/String", 7)] (⟨"java/util/ImmutableCollections$List12", "size", "()I"⟩ : MethodName) jdk_44_method_3_code 1 (Option.some Jvm.ClassFile.FieldType.int) [] ({ frames := 0, cells := 0, slots := 0, locals := 0 } : Room) #[(.ref q)] [] h (fun v h' => v = some (.int (1 : Int32))) := by
  refine MetW.of (Ls := #[.val (.ref q)]) (a0 := a0) (by first | (simp [plainName, overriddenIn]; done) | decide +kernel) (fun m => by first | (simp [entryFrame, mkF, argsToLocals, Value.category]; done) | rfl) (own_EW hw) (fun q => nomatch q) (fun p_ e_ s_ m_ below_ meth_ c_ hs0 C => ?_)
  refine g_aloadN C dZ1_0 rfl rfl ?_
  refine g_getfield (host := "") C dZ1_1 (Or.inl (hw _ (List.mem_of_getElem? (i := 177) rfl))) Via.refl G1 ?_
  refine g_getstatic C dZ1_4 (Or.inr (hw _ (List.mem_of_getElem? (i := 176) rfl))) Via.refl SE ?_
  refine g_acmpT 14 C dZ1_7 rfl rfl rfl (by decide) (by decide) ?_
  refine g_iconst (1 : Int32) C dZ1_14 (by decide) ?_
  exact g_retI C dZ1_15 rfl (by decide) (by decide)
theorem dW1_0 : decode jdk_44_method_5_code 0 = .ok (.iload_n 1, 1) := by decide +kernel
theorem dW1_1 : decode jdk_44_method_5_code 1 = .ok (.ifCond .ne 8, 3) := by decide +kernel
theorem dW1_4 : decode jdk_44_method_5_code 4 = .ok (.aload_n 0, 1) := by decide +kernel
theorem dW1_5 : decode jdk_44_method_5_code 5 = .ok (.getfield 13, 3) := by decide +kernel
theorem dW1_8 : decode jdk_44_method_5_code 8 = .ok (.areturn, 1) := by decide +kernel
set_option maxRecDepth 65536 in
set_option maxHeartbeats 80000000 in
theorem m_get1 (l : Launch) (Z : State) (a0 : Array Value) {z0 : Int32} (hw : ∀ d ∈ tables_1, d.before a0 Z = true) (S0 : Sta Z Z.heap "java/lang/String" "COMPACT_STRINGS" "Z" (.int z0)) (hz0 : ¬ z0 = 0) {dc em mir : Addr} (SD : Sta Z Z.heap "java/util/ArrayList" "DEFAULTCAPACITY_EMPTY_ELEMENTDATA" "[Ljava/lang/Object;" (.ref dc)) (SE : Sta Z Z.heap "java/util/ImmutableCollections" "EMPTY" "Ljava/lang/Object;" (.ref em)) (Ld : dc < Z.heap.size) (Le : em < Z.heap.size) (MI : MirC Z "[Ljava/lang/Object;" mir) (q : Addr) (r1 : Addr) (h : Heap) (E : Exa Z h q "java/util/ImmutableCollections$List12") (G0 : Fld Z h q "java/util/ImmutableCollections$List12" "e0" "Ljava/lang/Object;" (.ref r1)) (G1 : Fld Z h q "java/util/ImmutableCollections$List12" "e1" "Ljava/lang/Object;" (.ref em)) :
    MetW true l Z [("java/lang/String", 7)] (⟨"java/util/ImmutableCollections$List12", "get", "(I)Ljava/lang/Object;"⟩ : MethodName) jdk_44_method_5_code 2 (Option.some (Jvm.ClassFile.FieldType.object "java/lang/Object")) [] ({ frames := 0, cells := 0, slots := 0, locals := 0 } : Room) #[(.ref q), (.int (0 : Int32))] [] h (fun v h' => v = some (.ref r1)) := by
  refine MetW.of (Ls := #[.val (.ref q), .val (.int (0 : Int32))]) (a0 := a0) (by first | (simp [plainName, overriddenIn]; done) | decide +kernel) (fun m => by first | (simp [entryFrame, mkF, argsToLocals, Value.category]; done) | rfl) (own_EW hw) (fun q => nomatch q) (fun p_ e_ s_ m_ below_ meth_ c_ hs0 C => ?_)
  refine g_iloadN C dW1_0 rfl ?_
  refine g_ifF C dW1_1 (show (0 : Int32) = (0 : Int32) by decide) ?_
  refine g_aloadN C dW1_4 rfl rfl ?_
  refine g_getfield (host := "") C dW1_5 (Or.inl (hw _ (List.mem_of_getElem? (i := 174) rfl))) Via.refl G0 ?_
  exact g_retA C dW1_8 rfl rfl rfl (by decide) (by decide)
theorem dX_0 : decode prog_14_method_3_code 0 = .ok (.aload_n 0, 1) := by decide +kernel
theorem dX_1 : decode prog_14_method_3_code 1 = .ok (.getfield 24, 3) := by decide +kernel
theorem dX_4 : decode prog_14_method_3_code 4 = .ok (.aload_n 0, 1) := by decide +kernel
theorem dX_5 : decode prog_14_method_3_code 5 = .ok (.getfield 24, 3) := by decide +kernel
theorem dX_8 : decode prog_14_method_3_code 8 = .ok (.invokeinterface 30 1, 5) := by decide +kernel
theorem dX_13 : decode prog_14_method_3_code 13 = .ok (.iconst 1, 1) := by decide +kernel
theorem dX_14 : decode prog_14_method_3_code 14 = .ok (.isub, 1) := by decide +kernel
theorem dX_15 : decode prog_14_method_3_code 15 = .ok (.invokeinterface 42 2, 5) := by decide +kernel
theorem dX_20 : decode prog_14_method_3_code 20 = .ok (.checkcast 46, 3) := by decide +kernel
theorem dX_23 : decode prog_14_method_3_code 23 = .ok (.areturn, 1) := by decide +kernel
set_option maxRecDepth 65536 in
set_option maxHeartbeats 80000000 in
theorem m_toString1 (l : Launch) (Z : State) (a0 : Array Value) {z0 : Int32} (hw : ∀ d ∈ tables_1, d.before a0 Z = true) (S0 : Sta Z Z.heap "java/lang/String" "COMPACT_STRINGS" "Z" (.int z0)) (hz0 : ¬ z0 = 0) {dc em mir : Addr} (SD : Sta Z Z.heap "java/util/ArrayList" "DEFAULTCAPACITY_EMPTY_ELEMENTDATA" "[Ljava/lang/Object;" (.ref dc)) (SE : Sta Z Z.heap "java/util/ImmutableCollections" "EMPTY" "Ljava/lang/Object;" (.ref em)) (Ld : dc < Z.heap.size) (Le : em < Z.heap.size) (MI : MirC Z "[Ljava/lang/Object;" mir) (o : Addr) (q : Addr) (r1 : Addr) (h : Heap) (E : Exa Z h q "java/util/ImmutableCollections$List12") (G0 : Fld Z h q "java/util/ImmutableCollections$List12" "e0" "Ljava/lang/Object;" (.ref r1)) (G1 : Fld Z h q "java/util/ImmutableCollections$List12" "e1" "Ljava/lang/Object;" (.ref em)) (Fo : Fld Z h o "com/example/warm_suite/warmsuite/core/engine/Holder" "path" "Ljava/util/List;" (.ref q)) (Xn : Exa Z h r1 "java/lang/String") :
    MetW true l Z [("java/lang/String", 7)] (⟨"com/example/warm_suite/warmsuite/core/engine/Holder", "toString", "()Ljava/lang/String;"⟩ : MethodName) prog_14_method_3_code 1 (Option.some (Jvm.ClassFile.FieldType.object "java/lang/String")) [] ({ frames := 1, cells := 0, slots := 0, locals := 13 } : Room) #[(.ref o)] [] h (fun v h' => v = some (.ref r1)) := by
  refine MetW.of (Ls := #[.val (.ref o)]) (a0 := a0) (by first | (simp [plainName, overriddenIn]; done) | decide +kernel) (fun m => by first | (simp [entryFrame, mkF, argsToLocals, Value.category]; done) | rfl) (own_EW hw) (fun q => nomatch q) (fun p_ e_ s_ m_ below_ meth_ c_ hs0 C => ?_)
  refine g_aloadN C dX_0 rfl rfl ?_
  refine g_getfield (host := "") C dX_1 (Or.inl (hw _ (List.mem_of_getElem? (i := 179) rfl))) Via.refl Fo ?_
  refine g_aloadN C dX_4 rfl rfl ?_
  refine g_getfield (host := "") C dX_5 (Or.inl (hw _ (List.mem_of_getElem? (i := 179) rfl))) Via.refl Fo ?_
  refine g_invokeinterface [] [(.ref q)] 1 C dX_8 (hw _ (List.mem_of_getElem? (i := 186) rfl)) (hw _ (List.mem_of_getElem? (i := 187) rfl)) (hw _ (List.mem_of_getElem? (i := 188) rfl)) (hw _ (List.mem_of_getElem? (i := 189) rfl)) (hw _ (List.mem_of_getElem? (i := 190) rfl)) (hw _ (List.mem_of_getElem? (i := 191) rfl)) (hw _ (List.mem_of_getElem? (i := 192) rfl)) (hw _ (List.mem_of_getElem? (i := 193) rfl)) (hw _ (List.mem_of_getElem? (i := 151) rfl)) (hw _ (List.mem_of_getElem? (i := 194) rfl)) (by decide) E (m_size1 l Z a0 hw S0 hz0 SD SE Ld Le MI _ _ _ E G0 G1) (lenOf pd20 rfl) rfl rfl (Nat.le_of_ble_eq_true rfl) (by decide) (by decide) (by decide) (by decide) all0 (fun v1 h2 L3 q4 K5 => ?_)
  obtain rfl := q4
  show Go _ _ _ _ _ _ _ _ _ _ _ _ _ _ _ _ _ _ _ _ _ _ (mkF _ 13 #[.val (.ref o)] [(.int (1 : Int32)), (.ref q)])
  refine g_iconst (1 : Int32) C dX_13 (by decide) ?_
  refine g_isub (0 : Int32) C dX_14 (by decide) ?_
  have f6 := (E.keep K5)
  have f7 := (G0.keep K5 nin0)
  have f8 := (G1.keep K5 nin0)
  refine g_invokeinterface [(.int (0 : Int32))] [] 0 C dX_15 (hw _ (List.mem_of_getElem? (i := 195) rfl)) (hw _ (List.mem_of_getElem? (i := 196) rfl)) (hw _ (List.mem_of_getElem? (i := 197) rfl)) (hw _ (List.mem_of_getElem? (i := 198) rfl)) (hw _ (List.mem_of_getElem? (i := 199) rfl)) (hw _ (List.mem_of_getElem? (i := 200) rfl)) (hw _ (List.mem_of_getElem? (i := 201) rfl)) (hw _ (List.mem_of_getElem? (i := 193) rfl)) (hw _ (List.mem_of_getElem? (i := 151) rfl)) (hw _ (List.mem_of_getElem? (i := 202) rfl)) (by decide) f6 (m_get1 l Z a0 hw S0 hz0 SD SE Ld Le MI _ _ _ f6 f7 f8) (lenOf pd21 rfl) rfl rfl (Nat.le_of_ble_eq_true rfl) (by decide) (by decide) (by decide) (by decide) all0 (fun v9 h10 L11 q12 K13 => ?_)
  obtain rfl := q12
  show Go _ _ _ _ _ _ _ _ _ _ _ _ _ _ _ _ _ _ _ _ _ _ (mkF _ 20 #[.val (.ref o)] [(.ref r1)])
  have f14 := ((Xn.keep K5).keep K13)
  refine g_castY C dX_20 (hw _ (List.mem_of_getElem? (i := 203) rfl)) (Ins.self f14) ?_
  exact g_retA C dX_23 rfl rfl rfl (by decide) (by decide)
theorem dZ2_0 : decode jdk_44_method_3_code 0 = .ok (.aload_n 0, 1) := by decide +kernel
theorem dZ2_1 : decode jdk_44_method_3_code 1 = .ok (.getfield 24, 3) := by decide +kernel
theorem dZ2_4 : decode jdk_44_method_3_code 4 = .ok (.getstatic 19, 3) := by decide +kernel
theorem dZ2_7 : decode jdk_44_method_3_code 7 = .ok (.if_acmp .eq 7, 3) := by decide +kernel
theorem dZ2_10 : decode jdk_44_method_3_code 10 = .ok (.iconst 2, 1) := by decide +kernel
theorem dZ2_11 : decode jdk_44_method_3_code 11 = .ok (.goto 4, 3) := by decide +kernel
theorem dZ2_15 : decode jdk_44_method_3_code 15 = .ok (.ireturn, 1) := by decide +kernel
set_option maxRecDepth 65536 in
set_option maxHeartbeats 80000000 in
theorem m_size2 (l : Launch) (Z : State) (a0 : Array Value) {z0 : Int32} (hw : ∀ d ∈ tables_1, d.before a0 Z = true) (S0 : Sta Z Z.heap "java/lang/String" "COMPACT_STRINGS" "Z" (.int z0)) (hz0 : ¬ z0 = 0) {dc em mir : Addr} (SD : Sta Z Z.heap "java/util/ArrayList" "DEFAULTCAPACITY_EMPTY_ELEMENTDATA" "[Ljava/lang/Object;" (.ref dc)) (SE : Sta Z Z.heap "java/util/ImmutableCollections" "EMPTY" "Ljava/lang/Object;" (.ref em)) (Ld : dc < Z.heap.size) (Le : em < Z.heap.size) (MI : MirC Z "[Ljava/lang/Object;" mir) (q : Addr) (r1 r2 : Addr) (h : Heap) (E : Exa Z h q "java/util/ImmutableCollections$List12") (G0 : Fld Z h q "java/util/ImmutableCollections$List12" "e0" "Ljava/lang/Object;" (.ref r1)) (G1 : Fld Z h q "java/util/ImmutableCollections$List12" "e1" "Ljava/lang/Object;" (.ref r2)) (hne : r2 ≠ em) :
    MetW true l Z [("java/lang/String", 7)] (⟨"java/util/ImmutableCollections$List12", "size", "()I"⟩ : MethodName) jdk_44_method_3_code 1 (Option.some Jvm.ClassFile.FieldType.int) [] ({ frames := 0, cells := 0, slots := 0, locals := 0 } : Room) #[(.ref q)] [] h (fun v h' => v = some (.int (2 : Int32))) := by
  refine MetW.of (Ls := #[.val (.ref q)]) (a0 := a0) (by first | (simp [plainName, overriddenIn]; done) | decide +kernel) (fun m => by first | (simp [entryFrame, mkF, argsToLocals, Value.category]; done) | rfl) (own_EW hw) (fun q => nomatch q) (fun p_ e_ s_ m_ below_ meth_ c_ hs0 C => ?_)
  refine g_aloadN C dZ2_0 rfl rfl ?_
  refine g_getfield (host := "") C dZ2_1 (Or.inl (hw _ (List.mem_of_getElem? (i := 177) rfl))) Via.refl G1 ?_
  refine g_getstatic C dZ2_4 (Or.inr (hw _ (List.mem_of_getElem? (i := 176) rfl))) Via.refl SE ?_
  refine g_acmpF C dZ2_7 rfl rfl (fun q => hne (by cases q; rfl)) ?_
  refine g_iconst (2 : Int32) C dZ2_10 (by decide) ?_
  refine g_goto 15 C dZ2_11 (by decide) (by decide) ?_
  exact g_retI C dZ2_15 rfl (by decide) (by decide)
theorem dW2_0 : decode jdk_44_method_5_code 0 = .ok (.iload_n 1, 1) := by decide +kernel
theorem dW2_1 : decode jdk_44_method_5_code 1 = .ok (.ifCond .ne 8, 3) := by decide +kernel
theorem dW2_9 : decode jdk_44_method_5_code 9 = .ok (.iload_n 1, 1) := by decide +kernel
theorem dW2_10 : decode jdk_44_method_5_code 10 = .ok (.iconst 1, 1) := by decide +kernel
theorem dW2_11 : decode jdk_44_method_5_code 11 = .ok (.if_icmp .ne 18, 3) := by decide +kernel
theorem dW2_14 : decode jdk_44_method_5_code 14 = .ok (.aload_n 0, 1) := by decide +kernel
theorem dW2_15 : decode jdk_44_method_5_code 15 = .ok (.getfield 24, 3) := by decide +kernel
theorem dW2_18 : decode jdk_44_method_5_code 18 = .ok (.getstatic 19, 3) := by decide +kernel
theorem dW2_21 : decode jdk_44_method_5_code 21 = .ok (.if_acmp .eq 8, 3) := by decide +kernel
theorem dW2_24 : decode jdk_44_method_5_code 24 = .ok (.aload_n 0, 1) := by decide +kernel
theorem dW2_25 : decode jdk_44_method_5_code 25 = .ok (.getfield 24, 3) := by decide +kernel
theorem dW2_28 : decode jdk_44_method_5_code 28 = .ok (.areturn, 1) := by decide +kernel
set_option maxRecDepth 65536 in
set_option maxHeartbeats 80000000 in
theorem m_get2 (l : Launch) (Z : State) (a0 : Array Value) {z0 : Int32} (hw : ∀ d ∈ tables_1, d.before a0 Z = true) (S0 : Sta Z Z.heap "java/lang/String" "COMPACT_STRINGS" "Z" (.int z0)) (hz0 : ¬ z0 = 0) {dc em mir : Addr} (SD : Sta Z Z.heap "java/util/ArrayList" "DEFAULTCAPACITY_EMPTY_ELEMENTDATA" "[Ljava/lang/Object;" (.ref dc)) (SE : Sta Z Z.heap "java/util/ImmutableCollections" "EMPTY" "Ljava/lang/Object;" (.ref em)) (Ld : dc < Z.heap.size) (Le : em < Z.heap.size) (MI : MirC Z "[Ljava/lang/Object;" mir) (q : Addr) (r1 r2 : Addr) (h : Heap) (E : Exa Z h q "java/util/ImmutableCollections$List12") (G0 : Fld Z h q "java/util/ImmutableCollections$List12" "e0" "Ljava/lang/Object;" (.ref r1)) (G1 : Fld Z h q "java/util/ImmutableCollections$List12" "e1" "Ljava/lang/Object;" (.ref r2)) (hne : r2 ≠ em) :
    MetW true l Z [("java/lang/String", 7)] (⟨"java/util/ImmutableCollections$List12", "get", "(I)Ljava/lang/Object;"⟩ : MethodName) jdk_44_method_5_code 2 (Option.some (Jvm.ClassFile.FieldType.object "java/lang/Object")) [] ({ frames := 0, cells := 0, slots := 0, locals := 0 } : Room) #[(.ref q), (.int (1 : Int32))] [] h (fun v h' => v = some (.ref r2)) := by
  refine MetW.of (Ls := #[.val (.ref q), .val (.int (1 : Int32))]) (a0 := a0) (by first | (simp [plainName, overriddenIn]; done) | decide +kernel) (fun m => by first | (simp [entryFrame, mkF, argsToLocals, Value.category]; done) | rfl) (own_EW hw) (fun q => nomatch q) (fun p_ e_ s_ m_ below_ meth_ c_ hs0 C => ?_)
  refine g_iloadN C dW2_0 rfl ?_
  refine g_ifT 9 C dW2_1 (show ¬ (1 : Int32) = (0 : Int32) by decide) (by decide) (by decide) ?_
  refine g_iloadN C dW2_9 rfl ?_
  refine g_iconst (1 : Int32) C dW2_10 (by decide) ?_
  refine g_icmpF C dW2_11 (show (1 : Int32) = (1 : Int32) by decide) ?_
  refine g_aloadN C dW2_14 rfl rfl ?_
  refine g_getfield (host := "") C dW2_15 (Or.inl (hw _ (List.mem_of_getElem? (i := 177) rfl))) Via.refl G1 ?_
  refine g_getstatic C dW2_18 (Or.inr (hw _ (List.mem_of_getElem? (i := 176) rfl))) Via.refl SE ?_
  refine g_acmpF C dW2_21 rfl rfl (fun q => hne (by cases q; rfl)) ?_
  refine g_aloadN C dW2_24 rfl rfl ?_
  refine g_getfield (host := "") C dW2_25 (Or.inl (hw _ (List.mem_of_getElem? (i := 177) rfl))) Via.refl G1 ?_
  exact g_retA C dW2_28 rfl rfl rfl (by decide) (by decide)
set_option maxRecDepth 65536 in
set_option maxHeartbeats 80000000 in
theorem m_toString2 (l : Launch) (Z : State) (a0 : Array Value) {z0 : Int32} (hw : ∀ d ∈ tables_1, d.before a0 Z = true) (S0 : Sta Z Z.heap "java/lang/String" "COMPACT_STRINGS" "Z" (.int z0)) (hz0 : ¬ z0 = 0) {dc em mir : Addr} (SD : Sta Z Z.heap "java/util/ArrayList" "DEFAULTCAPACITY_EMPTY_ELEMENTDATA" "[Ljava/lang/Object;" (.ref dc)) (SE : Sta Z Z.heap "java/util/ImmutableCollections" "EMPTY" "Ljava/lang/Object;" (.ref em)) (Ld : dc < Z.heap.size) (Le : em < Z.heap.size) (MI : MirC Z "[Ljava/lang/Object;" mir) (o : Addr) (q : Addr) (r1 r2 : Addr) (h : Heap) (E : Exa Z h q "java/util/ImmutableCollections$List12") (G0 : Fld Z h q "java/util/ImmutableCollections$List12" "e0" "Ljava/lang/Object;" (.ref r1)) (G1 : Fld Z h q "java/util/ImmutableCollections$List12" "e1" "Ljava/lang/Object;" (.ref r2)) (hne : r2 ≠ em) (Fo : Fld Z h o "com/example/warm_suite/warmsuite/core/engine/Holder" "path" "Ljava/util/List;" (.ref q)) (Xn : Exa Z h r2 "java/lang/String") :
    MetW true l Z [("java/lang/String", 7)] (⟨"com/example/warm_suite/warmsuite/core/engine/Holder", "toString", "()Ljava/lang/String;"⟩ : MethodName) prog_14_method_3_code 1 (Option.some (Jvm.ClassFile.FieldType.object "java/lang/String")) [] ({ frames := 1, cells := 0, slots := 0, locals := 13 } : Room) #[(.ref o)] [] h (fun v h' => v = some (.ref r2)) := by
  refine MetW.of (Ls := #[.val (.ref o)]) (a0 := a0) (by first | (simp [plainName, overriddenIn]; done) | decide +kernel) (fun m => by first | (simp [entryFrame, mkF, argsToLocals, Value.category]; done) | rfl) (own_EW hw) (fun q => nomatch q) (fun p_ e_ s_ m_ below_ meth_ c_ hs0 C => ?_)
  refine g_aloadN C dX_0 rfl rfl ?_
  refine g_getfield (host := "") C dX_1 (Or.inl (hw _ (List.mem_of_getElem? (i := 179) rfl))) Via.refl Fo ?_
  refine g_aloadN C dX_4 rfl rfl ?_
  refine g_getfield (host := "") C dX_5 (Or.inl (hw _ (List.mem_of_getElem? (i := 179) rfl))) Via.refl Fo ?_
  refine g_invokeinterface [] [(.ref q)] 1 C dX_8 (hw _ (List.mem_of_getElem? (i := 186) rfl)) (hw _ (List.mem_of_getElem? (i := 187) rfl)) (hw _ (List.mem_of_getElem? (i := 188) rfl)) (hw _ (List.mem_of_getElem? (i := 189) rfl)) (hw _ (List.mem_of_getElem? (i := 190) rfl)) (hw _ (List.mem_of_getElem? (i := 191) rfl)) (hw _ (List.mem_of_getElem? (i := 192) rfl)) (hw _ (List.mem_of_getElem? (i := 193) rfl)) (hw _ (List.mem_of_getElem? (i := 151) rfl)) (hw _ (List.mem_of_getElem? (i := 194) rfl)) (by decide) E (m_size2 l Z a0 hw S0 hz0 SD SE Ld Le MI _ _ _ _ E G0 G1 hne) (lenOf pd20 rfl) rfl rfl (Nat.le_of_ble_eq_true rfl) (by decide) (by decide) (by decide) (by decide) all0 (fun v1 h2 L3 q4 K5 => ?_)
  obtain rfl := q4
  show Go _ _ _ _ _ _ _ _ _ _ _ _ _ _ _ _ _ _ _ _ _ _ (mkF _ 13 #[.val (.ref o)] [(.int (2 : Int32)), (.ref q)])
  refine g_iconst (1 : Int32) C dX_13 (by decide) ?_
  refine g_isub (1 : Int32) C dX_14 (by decide) ?_
  have f6 := (E.keep K5)
  have f7 := (G0.keep K5 nin0)
  have f8 := (G1.keep K5 nin0)
  refine g_invokeinterface [(.int (1 : Int32))] [] 0 C dX_15 (hw _ (List.mem_of_getElem? (i := 195) rfl)) (hw _ (List.mem_of_getElem? (i := 196) rfl)) (hw _ (List.mem_of_getElem? (i := 197) rfl)) (hw _ (List.mem_of_getElem? (i := 198) rfl)) (hw _ (List.mem_of_getElem? (i := 199) rfl)) (hw _ (List.mem_of_getElem? (i := 200) rfl)) (hw _ (List.mem_of_getElem? (i := 201) rfl)) (hw _ (List.mem_of_getElem? (i := 193) rfl)) (hw _ (List.mem_of_getElem? (i := 151) rfl)) (hw _ (List.mem_of_getElem? (i := 202) rfl)) (by decide) f6 (m_get2 l Z a0 hw S0 hz0 SD SE Ld Le MI _ _ _ _ f6 f7 f8 hne) (lenOf pd21 rfl) rfl rfl (Nat.le_of_ble_eq_true rfl) (by decide) (by decide) (by decide) (by decide) all0 (fun v9 h10 L11 q12 K13 => ?_)
  obtain rfl := q12
  show Go _ _ _ _ _ _ _ _ _ _ _ _ _ _ _ _ _ _ _ _ _ _ (mkF _ 20 #[.val (.ref o)] [(.ref r2)])
  have f14 := ((Xn.keep K5).keep K13)
  refine g_castY C dX_20 (hw _ (List.mem_of_getElem? (i := 203) rfl)) (Ins.self f14) ?_
  exact g_retA C dX_23 rfl rfl rfl (by decide) (by decide)
theorem dZ3_0 : decode jdk_45_method_3_code 0 = .ok (.aload_n 0, 1) := by decide +kernel
theorem dZ3_1 : decode jdk_45_method_3_code 1 = .ok (.getfield 7, 3) := by decide +kernel
theorem dZ3_4 : decode jdk_45_method_3_code 4 = .ok (.arraylength, 1) := by decide +kernel
theorem dZ3_5 : decode jdk_45_method_3_code 5 = .ok (.ireturn, 1) := by decide +kernel
set_option maxRecDepth 65536 in
set_option maxHeartbeats 80000000 in
theorem m_size3 (l : Launch) (Z : State) (a0 : Array Value) {z0 : Int32} (hw : ∀ d ∈ tables_1, d.before a0 Z = true) (S0 : Sta Z Z.heap "java/lang/String" "COMPACT_STRINGS" "Z" (.int z0)) (hz0 : ¬ z0 = 0) {dc em mir : Addr} (SD : Sta Z Z.heap "java/util/ArrayList" "DEFAULTCAPACITY_EMPTY_ELEMENTDATA" "[Ljava/lang/Object;" (.ref dc)) (SE : Sta Z Z.heap "java/util/ImmutableCollections" "EMPTY" "Ljava/lang/Object;" (.ref em)) (Ld : dc < Z.heap.size) (Le : em < Z.heap.size) (MI : MirC Z "[Ljava/lang/Object;" mir) (u : Addr) (q : Addr) (r1 r2 r3 : Addr) (h : Heap) (E : Exa Z h q "java/util/ImmutableCollections$ListN") (G0 : Fld Z h q "java/util/ImmutableCollections$ListN" "elements" "[Ljava/lang/Object;" (.ref u)) (G1 : Av Z h u (.object "java/lang/Object") [.ref r1, .ref r2, .ref r3]) :
    MetW true l Z [("java/lang/String", 7)] (⟨"java/util/ImmutableCollections$ListN", "size", "()I"⟩ : MethodName) jdk_45_method_3_code 1 (Option.some Jvm.ClassFile.FieldType.int) [] ({ frames := 0, cells := 0, slots := 0, locals := 0 } : Room) #[(.ref q)] [] h (fun v h' => v = some (.int (3 : Int32))) := by
  refine MetW.of (Ls := #[.val (.ref q)]) (a0 := a0) (by first | (simp [plainName, overriddenIn]; done) | decide +kernel) (fun m => by first | (simp [entryFrame, mkF, argsToLocals, Value.category]; done) | rfl) (own_EW hw) (fun q => nomatch q) (fun p_ e_ s_ m_ below_ meth_ c_ hs0 C => ?_)
  refine g_aloadN C dZ3_0 rfl rfl ?_
  refine g_getfield (host := "") C dZ3_1 (Or.inl (hw _ (List.mem_of_getElem? (i := 249) rfl))) Via.refl G0 ?_
  refine g_alen C dZ3_4 G1 (z := (3 : Int32)) rfl ?_
  exact g_retI C dZ3_5 rfl (by decide) (by decide)
theorem dW3_0 : decode jdk_45_method_4_code 0 = .ok (.aload_n 0, 1) := by decide +kernel
theorem dW3_1 : decode jdk_45_method_4_code 1 = .ok (.getfield 7, 3) := by decide +kernel
theorem dW3_4 : decode jdk_45_method_4_code 4 = .ok (.iload_n 1, 1) := by decide +kernel
theorem dW3_5 : decode jdk_45_method_4_code 5 = .ok (.aaload, 1) := by decide +kernel
theorem dW3_6 : decode jdk_45_method_4_code 6 = .ok (.areturn, 1) := by decide +kernel
set_option maxRecDepth 65536 in
set_option maxHeartbeats 80000000 in
theorem m_get3 (l : Launch) (Z : State) (a0 : Array Value) {z0 : Int32} (hw : ∀ d ∈ tables_1, d.before a0 Z = true) (S0 : Sta Z Z.heap "java/lang/String" "COMPACT_STRINGS" "Z" (.int z0)) (hz0 : ¬ z0 = 0) {dc em mir : Addr} (SD : Sta Z Z.heap "java/util/ArrayList" "DEFAULTCAPACITY_EMPTY_ELEMENTDATA" "[Ljava/lang/Object;" (.ref dc)) (SE : Sta Z Z.heap "java/util/ImmutableCollections" "EMPTY" "Ljava/lang/Object;" (.ref em)) (Ld : dc < Z.heap.size) (Le : em < Z.heap.size) (MI : MirC Z "[Ljava/lang/Object;" mir) (u : Addr) (q : Addr) (r1 r2 r3 : Addr) (h : Heap) (E : Exa Z h q "java/util/ImmutableCollections$ListN") (G0 : Fld Z h q "java/util/ImmutableCollections$ListN" "elements" "[Ljava/lang/Object;" (.ref u)) (G1 : Av Z h u (.object "java/lang/Object") [.ref r1, .ref r2, .ref r3]) :
    MetW true l Z [("java/lang/String", 7)] (⟨"java/util/ImmutableCollections$ListN", "get", "(I)Ljava/lang/Object;"⟩ : MethodName) jdk_45_method_4_code 2 (Option.some (Jvm.ClassFile.FieldType.object "java/lang/Object")) [] ({ frames := 0, cells := 0, slots := 0, locals := 0 } : Room) #[(.ref q), (.int (2 : Int32))] [] h (fun v h' => v = some (.ref r3)) := by
  refine MetW.of (Ls := #[.val (.ref q), .val (.int (2 : Int32))]) (a0 := a0) (by first | (simp [plainName, overriddenIn]; done) | decide +kernel) (fun m => by first | (simp [entryFrame, mkF, argsToLocals, Value.category]; done) | rfl) (own_EW hw) (fun q => nomatch q) (fun p_ e_ s_ m_ below_ meth_ c_ hs0 C => ?_)
  refine g_aloadN C dW3_0 rfl rfl ?_
  refine g_getfield (host := "") C dW3_1 (Or.inl (hw _ (List.mem_of_getElem? (i := 249) rfl))) Via.refl G0 ?_
  refine g_iloadN C dW3_4 rfl ?_
  refine g_aaload 2 C dW3_5 G1 rfl (by decide) (by decide) rfl ?_
  exact g_retA C dW3_6 rfl rfl rfl (by decide) (by decide)
set_option maxRecDepth 65536 in
set_option maxHeartbeats 80000000 in
theorem m_toString3 (l : Launch) (Z : State) (a0 : Array Value) {z0 : Int32} (hw : ∀ d ∈ tables_1, d.before a0 Z = true) (S0 : Sta Z Z.heap "java/lang/String" "COMPACT_STRINGS" "Z" (.int z0)) (hz0 : ¬ z0 = 0) {dc em mir : Addr} (SD : Sta Z Z.heap "java/util/ArrayList" "DEFAULTCAPACITY_EMPTY_ELEMENTDATA" "[Ljava/lang/Object;" (.ref dc)) (SE : Sta Z Z.heap "java/util/ImmutableCollections" "EMPTY" "Ljava/lang/Object;" (.ref em)) (Ld : dc < Z.heap.size) (Le : em < Z.heap.size) (MI : MirC Z "[Ljava/lang/Object;" mir) (o : Addr) (u : Addr) (q : Addr) (r1 r2 r3 : Addr) (h : Heap) (E : Exa Z h q "java/util/ImmutableCollections$ListN") (G0 : Fld Z h q "java/util/ImmutableCollections$ListN" "elements" "[Ljava/lang/Object;" (.ref u)) (G1 : Av Z h u (.object "java/lang/Object") [.ref r1, .ref r2, .ref r3]) (Fo : Fld Z h o "com/example/warm_suite/warmsuite/core/engine/Holder" "path" "Ljava/util/List;" (.ref q)) (Xn : Exa Z h r3 "java/lang/String") :
    MetW true l Z [("java/lang/String", 7)] (⟨"com/example/warm_suite/warmsuite/core/engine/Holder", "toString", "()Ljava/lang/String;"⟩ : MethodName) prog_14_method_3_code 1 (Option.some (Jvm.ClassFile.FieldType.object "java/lang/String")) [] ({ frames := 1, cells := 0, slots := 0, locals := 13 } : Room) #[(.ref o)] [] h (fun v h' => v = some (.ref r3)) := by
  refine MetW.of (Ls := #[.val (.ref o)]) (a0 := a0) (by first | (simp [plainName, overriddenIn]; done) | decide +kernel) (fun m => by first | (simp [entryFrame, mkF, argsToLocals, Value.category]; done) | rfl) (own_EW hw) (fun q => nomatch q) (fun p_ e_ s_ m_ below_ meth_ c_ hs0 C => ?_)
  refine g_aloadN C dX_0 rfl rfl ?_
  refine g_getfield (host := "") C dX_1 (Or.inl (hw _ (List.mem_of_getElem? (i := 179) rfl))) Via.refl Fo ?_
  refine g_aloadN C dX_4 rfl rfl ?_
  refine g_getfield (host := "") C dX_5 (Or.inl (hw _ (List.mem_of_getElem? (i := 179) rfl))) Via.refl Fo ?_
  refine g_invokeinterface [] [(.ref q)] 1 C dX_8 (hw _ (List.mem_of_getElem? (i := 186) rfl)) (hw _ (List.mem_of_getElem? (i := 187) rfl)) (hw _ (List.mem_of_getElem? (i := 188) rfl)) (hw _ (List.mem_of_getElem? (i := 253) rfl)) (hw _ (List.mem_of_getElem? (i := 254) rfl)) (hw _ (List.mem_of_getElem? (i := 255) rfl)) (hw _ (List.mem_of_getElem? (i := 256) rfl)) (hw _ (List.mem_of_getElem? (i := 257) rfl)) (hw _ (List.mem_of_getElem? (i := 240) rfl)) (hw _ (List.mem_of_getElem? (i := 258) rfl)) (by decide) E (m_size3 l Z a0 hw S0 hz0 SD SE Ld Le MI _ _ _ _ _ _ E G0 G1) (lenOf pd20 rfl) rfl rfl (Nat.le_of_ble_eq_true rfl) (by decide) (by decide) (by decide) (by decide) all0 (fun v1 h2 L3 q4 K5 => ?_)
  obtain rfl := q4
  show Go _ _ _ _ _ _ _ _ _ _ _ _ _ _ _ _ _ _ _ _ _ _ (mkF _ 13 #[.val (.ref o)] [(.int (3 : Int32)), (.ref q)])
  refine g_iconst (1 : Int32) C dX_13 (by decide) ?_
  refine g_isub (2 : Int32) C dX_14 (by decide) ?_
  have f6 := (E.keep K5)
  have f7 := (G0.keep K5 nin0)
  have f8 := (G1.keep K5 nin0)
  refine g_invokeinterface [(.int (2 : Int32))] [] 0 C dX_15 (hw _ (List.mem_of_getElem? (i := 195) rfl)) (hw _ (List.mem_of_getElem? (i := 196) rfl)) (hw _ (List.mem_of_getElem? (i := 197) rfl)) (hw _ (List.mem_of_getElem? (i := 259) rfl)) (hw _ (List.mem_of_getElem? (i := 260) rfl)) (hw _ (List.mem_of_getElem? (i := 261) rfl)) (hw _ (List.mem_of_getElem? (i := 262) rfl)) (hw _ (List.mem_of_getElem? (i := 257) rfl)) (hw _ (List.mem_of_getElem? (i := 240) rfl)) (hw _ (List.mem_of_getElem? (i := 263) rfl)) (by decide) f6 (m_get3 l Z a0 hw S0 hz0 SD SE Ld Le MI _ _ _ _ _ _ f6 f7 f8) (lenOf pd21 rfl) rfl rfl (Nat.le_of_ble_eq_true rfl) (by decide) (by decide) (by decide) (by decide) all0 (fun v9 h10 L11 q12 K13 => ?_)
  obtain rfl := q12
  show Go _ _ _ _ _ _ _ _ _ _ _ _ _ _ _ _ _ _ _ _ _ _ (mkF _ 20 #[.val (.ref o)] [(.ref r3)])
  have f14 := ((Xn.keep K5).keep K13)
  refine g_castY C dX_20 (hw _ (List.mem_of_getElem? (i := 203) rfl)) (Ins.self f14) ?_
  exact g_retA C dX_23 rfl rfl rfl (by decide) (by decide)
theorem dY_0 : decode jdk_42_method_66_code 0 = .ok (.aload_n 0, 1) := by decide +kernel
theorem dY_1 : decode jdk_42_method_66_code 1 = .ok (.aload_n 1, 1) := by decide +kernel
theorem dY_2 : decode jdk_42_method_66_code 2 = .ok (.if_acmp .ne 5, 3) := by decide +kernel
theorem dY_5 : decode jdk_42_method_66_code 5 = .ok (.iconst 1, 1) := by decide +kernel
theorem dY_6 : decode jdk_42_method_66_code 6 = .ok (.ireturn, 1) := by decide +kernel
set_option maxRecDepth 65536 in
set_option maxHeartbeats 80000000 in
theorem m_equals (l : Launch) (Z : State) (a0 : Array Value) {z0 : Int32} (hw : ∀ d ∈ tables_1, d.before a0 Z = true) (S0 : Sta Z Z.heap "java/lang/String" "COMPACT_STRINGS" "Z" (.int z0)) (hz0 : ¬ z0 = 0) {dc em mir : Addr} (SD : Sta Z Z.heap "java/util/ArrayList" "DEFAULTCAPACITY_EMPTY_ELEMENTDATA" "[Ljava/lang/Object;" (.ref dc)) (SE : Sta Z Z.heap "java/util/ImmutableCollections" "EMPTY" "Ljava/lang/Object;" (.ref em)) (Ld : dc < Z.heap.size) (Le : em < Z.heap.size) (MI : MirC Z "[Ljava/lang/Object;" mir) (a : Addr) (h : Heap) :
    MetW true l Z [("java/lang/String", 7)] (⟨"java/lang/String", "equals", "(Ljava/lang/Object;)Z"⟩ : MethodName) jdk_42_method_66_code 3 (Option.some Jvm.ClassFile.FieldType.boolean) [] ({ frames := 0, cells := 0, slots := 0, locals := 0 } : Room) #[(.ref a), (.ref a)] [] h (fun v h' => v = some (.int (1 : Int32))) := by
  refine MetW.of (Ls := #[.val (.ref a), .val (.ref a), .unset]) (a0 := a0) (by first | (simp [plainName, overriddenIn]; done) | decide +kernel) (fun m => by first | (simp [entryFrame, mkF, argsToLocals, Value.category]; done) | rfl) (own_EW hw) (fun q => nomatch q) (fun p_ e_ s_ m_ below_ meth_ c_ hs0 C => ?_)
  refine g_aloadN C dY_0 rfl rfl ?_
  refine g_aloadN C dY_1 rfl rfl ?_
  refine g_acmpF C dY_2 rfl rfl rfl ?_
  refine g_iconst (1 : Int32) C dY_5 (by decide) ?_
  exact g_retN C dY_6 (by simp) rfl (by decide) (by decide)
set_option maxRecDepth 65536 in
set_option maxHeartbeats 80000000 in
theorem m_law (l : Launch) (Z : State) (a0 : Array Value) {z0 : Int32} (hw : ∀ d ∈ tables_1, d.before a0 Z = true) (S0 : Sta Z Z.heap "java/lang/String" "COMPACT_STRINGS" "Z" (.int z0)) (hz0 : ¬ z0 = 0) {dc em mir : Addr} (SD : Sta Z Z.heap "java/util/ArrayList" "DEFAULTCAPACITY_EMPTY_ELEMENTDATA" "[Ljava/lang/Object;" (.ref dc)) (SE : Sta Z Z.heap "java/util/ImmutableCollections" "EMPTY" "Ljava/lang/Object;" (.ref em)) (Ld : dc < Z.heap.size) (Le : em < Z.heap.size) (MI : MirC Z "[Ljava/lang/Object;" mir) (p0 : Int32) (p1 : Int32) (p2 : Int32) (p3 : Int32) (p4 : Int32) (h : Heap) (AD : Av Z Z.heap dc (.object "java/lang/Object") []) :
    MetW true l Z [("java/lang/String", 7)] x code maxLocals ret tables_1 room_1 #[.int p0, .int p1, .int p2, .int p3, .int p4] [] h (fun v _ => v = some (.int (1 : Int32))) := by
  refine MetW.of (y := x) (Ls := #[.val (.int p0), .val (.int p1), .val (.int p2), .val (.int p3), .val (.int p4), .unset, .unset, .unset, .unset, .unset, .unset, .unset, .unset, .unset, .unset]) (a0 := a0) (by first | (simp [x, plainName, overriddenIn]; done) | decide +kernel) (fun m => by first | (simp [entryFrame, mkF, argsToLocals, Value.category, maxLocals]; done) | rfl) (own_EW hw) (fun q => nomatch q) (fun p_ e_ s_ m_ below_ meth_ c_ hs0 C => ?_)
  refine Go.know (fun hX _ hM => ?_)
  have ADh := AD.ext hX
  refine g_iloadN C at_0 rfl ?_
  refine g_invokestatic [(.int p1)] [] 0 C at_1 (hw _ (List.mem_of_getElem? (i := 0) rfl)) (hw _ (List.mem_of_getElem? (i := 1) rfl)) (hw _ (List.mem_of_getElem? (i := 2) rfl)) (hw _ (List.mem_of_getElem? (i := 3) rfl)) (by decide) (m_key l Z a0 hw S0 hz0 SD SE Ld Le MI _ _) (lenOf pd22 rfl) rfl rfl (Nat.le_of_ble_eq_true rfl) (by decide) (by decide) (by decide) (by decide) all0 (fun v4 h5 L6 q7 K8 => ?_)
  obtain ⟨s1, rfl, g2, f3⟩ := q7
  show Go _ _ _ _ _ _ _ _ _ _ _ _ _ _ _ _ _ _ _ _ _ _ (mkF _ 4 #[.val (.int p0), .val (.int p1), .val (.int p2), .val (.int p3), .val (.int p4), .unset, .unset, .unset, .unset, .unset, .unset, .unset, .unset, .unset, .unset] [(.ref s1)])
  refine g_astore #[.val (.int p0), .val (.int p1), .val (.int p2), .val (.int p3), .val (.int p4), .val (.ref s1), .unset, .unset, .unset, .unset, .unset, .unset, .unset, .unset, .unset] C at_4 rfl rfl ?_
  refine g_iloadN C at_6 rfl ?_
  refine g_invokestatic [(.int p2)] [] 0 C at_7 (hw _ (List.mem_of_getElem? (i := 0) rfl)) (hw _ (List.mem_of_getElem? (i := 1) rfl)) (hw _ (List.mem_of_getElem? (i := 2) rfl)) (hw _ (List.mem_of_getElem? (i := 3) rfl)) (by decide) (m_key l Z a0 hw S0 hz0 SD SE Ld Le MI _ _) (lenOf pd22 rfl) rfl rfl (Nat.le_of_ble_eq_true rfl) (by decide) (by decide) (by decide) (by decide) all0 (fun v12 h13 L14 q15 K16 => ?_)
  obtain ⟨s9, rfl, g10, f11⟩ := q15
  show Go _ _ _ _ _ _ _ _ _ _ _ _ _ _ _ _ _ _ _ _ _ _ (mkF _ 10 #[.val (.int p0), .val (.int p1), .val (.int p2), .val (.int p3), .val (.int p4), .val (.ref s1), .unset, .unset, .unset, .unset, .unset, .unset, .unset, .unset, .unset] [(.ref s9)])
  refine g_astore #[.val (.int p0), .val (.int p1), .val (.int p2), .val (.int p3), .val (.int p4), .val (.ref s1), .val (.ref s9), .unset, .unset, .unset, .unset, .unset, .unset, .unset, .unset] C at_10 rfl rfl ?_
  refine g_iloadN C at_12 rfl ?_
  refine g_invokestatic [(.int p3)] [] 0 C at_13 (hw _ (List.mem_of_getElem? (i := 0) rfl)) (hw _ (List.mem_of_getElem? (i := 1) rfl)) (hw _ (List.mem_of_getElem? (i := 2) rfl)) (hw _ (List.mem_of_getElem? (i := 3) rfl)) (by decide) (m_key l Z a0 hw S0 hz0 SD SE Ld Le MI _ _) (lenOf pd22 rfl) rfl rfl (Nat.le_of_ble_eq_true rfl) (by decide) (by decide) (by decide) (by decide) all0 (fun v20 h21 L22 q23 K24 => ?_)
  obtain ⟨s17, rfl, g18, f19⟩ := q23
  show Go _ _ _ _ _ _ _ _ _ _ _ _ _ _ _ _ _ _ _ _ _ _ (mkF _ 16 #[.val (.int p0), .val (.int p1), .val (.int p2), .val (.int p3), .val (.int p4), .val (.ref s1), .val (.ref s9), .unset, .unset, .unset, .unset, .unset, .unset, .unset, .unset] [(.ref s17)])
  refine g_astore #[.val (.int p0), .val (.int p1), .val (.int p2), .val (.int p3), .val (.int p4), .val (.ref s1), .val (.ref s9), .val (.ref s17), .unset, .unset, .unset, .unset, .unset, .unset, .unset] C at_16 rfl rfl ?_
  refine g_iload C at_18 rfl ?_
  refine g_invokestatic [(.int p4)] [] 0 C at_20 (hw _ (List.mem_of_getElem? (i := 0) rfl)) (hw _ (List.mem_of_getElem? (i := 1) rfl)) (hw _ (List.mem_of_getElem? (i := 2) rfl)) (hw _ (List.mem_of_getElem? (i := 3) rfl)) (by decide) (m_key l Z a0 hw S0 hz0 SD SE Ld Le MI _ _) (lenOf pd22 rfl) rfl rfl (Nat.le_of_ble_eq_true rfl) (by decide) (by decide) (by decide) (by decide) all0 (fun v28 h29 L30 q31 K32 => ?_)
  obtain ⟨s25, rfl, g26, f27⟩ := q31
  show Go _ _ _ _ _ _ _ _ _ _ _ _ _ _ _ _ _ _ _ _ _ _ (mkF _ 23 #[.val (.int p0), .val (.int p1), .val (.int p2), .val (.int p3), .val (.int p4), .val (.ref s1), .val (.ref s9), .val (.ref s17), .unset, .unset, .unset, .unset, .unset, .unset, .unset] [(.ref s25)])
  refine g_astore #[.val (.int p0), .val (.int p1), .val (.int p2), .val (.int p3), .val (.int p4), .val (.ref s1), .val (.ref s9), .val (.ref s17), .val (.ref s25), .unset, .unset, .unset, .unset, .unset, .unset] C at_23 rfl rfl ?_
  refine g_iloadN C at_25 rfl ?_
  refine g_iconst (3 : Int32) C at_26 (by decide) ?_
  refine g_iand _ C at_27 rfl ?_
  rcases own_and3 p0 with r0 | r0 | r0 | r0 <;> rw [r0]
  · skip
    refine g_iconst (3 : Int32) C at_28 (by decide) ?_
    refine g_irem (0 : Int32) C at_29 (by decide) (by decide) ?_
    refine g_iconst (1 : Int32) C at_30 (by decide) ?_
    refine g_iadd (1 : Int32) C at_31 (by decide) ?_
    refine g_istore #[.val (.int p0), .val (.int p1), .val (.int p2), .val (.int p3), .val (.int p4), .val (.ref s1), .val (.ref s9), .val (.ref s17), .val (.ref s25), .val (.int (1 : Int32)), .unset, .unset, .unset, .unset, .unset] C at_32 rfl ?_
    refine g_new_ C at_34 (hw _ (List.mem_of_getElem? (i := 26) rfl)) (hw _ (List.mem_of_getElem? (i := 27) rfl)) (hw _ (List.mem_of_getElem? (i := 28) rfl)) (by decide) (by decide) (fun a33 h34 e35 E36 l37 f38 D39 => ?_)
    have K40 := keep_ext E36
    have f41 : Fld Z h34 a33 "java/util/AbstractList" "modCount" "I" (.int (0 : Int32)) := D39 (Or.inl (hw _ (List.mem_of_getElem? (i := 46) rfl))) (ty := .int) (by decide)
    have f42 : Fld Z h34 a33 "java/util/ArrayList" "elementData" "[Ljava/lang/Object;" .null := D39 (Or.inl (hw _ (List.mem_of_getElem? (i := 49) rfl))) (ty := (.array (.object "java/lang/Object"))) (by decide)
    have f43 : Fld Z h34 a33 "java/util/ArrayList" "size" "I" (.int (0 : Int32)) := D39 (Or.inl (hw _ (List.mem_of_getElem? (i := 58) rfl))) (ty := .int) (by decide)
    refine g_dup C at_37 rfl ?_
    refine g_invokespecial [] [(.ref a33)] 1 C at_38 rfl (hw _ (List.mem_of_getElem? (i := 29) rfl)) (hw _ (List.mem_of_getElem? (i := 30) rfl)) (hw _ (List.mem_of_getElem? (i := 28) rfl)) (hw _ (List.mem_of_getElem? (i := 31) rfl)) (by decide) (m_alInit l Z a0 hw S0 hz0 SD SE Ld Le MI a33 _ f38 f41 f42 f43) (lenOf pd6 rfl) rfl rfl (Nat.le_of_ble_eq_true rfl) (by decide) (by decide) (by decide) (by decide) (allS (List.mem_of_getElem? (i := 0) rfl) all0) (fun v48 h49 L50 q51 K52 => ?_)
    obtain ⟨rfl, f44, f45, f46, f47⟩ := q51
    show Go _ _ _ _ _ _ _ _ _ _ _ _ _ _ _ _ _ _ _ _ _ _ (mkF _ 41 #[.val (.int p0), .val (.int p1), .val (.int p2), .val (.int p3), .val (.int p4), .val (.ref s1), .val (.ref s9), .val (.ref s17), .val (.ref s25), .val (.int (1 : Int32)), .unset, .unset, .unset, .unset, .unset] [(.ref a33)])
    refine g_astore #[.val (.int p0), .val (.int p1), .val (.int p2), .val (.int p3), .val (.int p4), .val (.ref s1), .val (.ref s9), .val (.ref s17), .val (.ref s25), .val (.int (1 : Int32)), .val (.ref a33), .unset, .unset, .unset, .unset] C at_41 rfl rfl ?_
    refine g_aload C at_43 rfl rfl ?_
    refine g_aload C at_45 rfl rfl ?_
    have f60 := (((((f3.keep K16).keep K24).keep K32).keep K40).keep K52)
    have f61 := ((((((ADh.keep K8 nin0).keep K16 nin0).keep K24 nin0).keep K32 nin0).keep K40 nin0).keep K52 (ninS (Nat.ne_of_lt (Nat.lt_of_lt_of_le (Nat.lt_of_lt_of_le (Nat.lt_of_lt_of_le Ld hX.1) (Nat.le_trans (Nat.le_trans (Nat.le_trans K8.1 K16.1) K24.1) K32.1)) (Nat.le_of_eq e35.symm))) nin0))
    refine g_invokevirtual [(.ref s1)] [] 0 C at_47 (hw _ (List.mem_of_getElem? (i := 50) rfl)) (hw _ (List.mem_of_getElem? (i := 51) rfl)) (hw _ (List.mem_of_getElem? (i := 53) rfl)) (hw _ (List.mem_of_getElem? (i := 52) rfl)) (hw _ (List.mem_of_getElem? (i := 28) rfl)) (hw _ (List.mem_of_getElem? (i := 54) rfl)) (fun _ hZ => notFace_of_selects (args := #[]) (mvT hZ (hw _ (List.mem_of_getElem? (i := 53) rfl)))) (by decide) f44 (m_add_0 l Z a0 hw S0 hz0 SD SE Ld Le MI a33 s1 _ f44 f45 f46 f47 f60 f61) (lenOf pd23 rfl) rfl rfl (Nat.le_of_ble_eq_true rfl) (by decide) (by decide) (by decide) (by decide) (allS (List.mem_of_getElem? (i := 0) rfl) all0) (fun v64 h65 L66 q67 K68 => ?_)
    obtain ⟨rfl, b62, g63, f53, f54, f55, f56, f57, f58, f59⟩ := q67
    refine Go.take f57 (by decide) (by decide) (Nat.le_trans hX.1 (Nat.le_trans (Nat.le_trans (Nat.le_trans (Nat.le_trans (Nat.le_trans (Nat.le_trans K8.1 K16.1) K24.1) K32.1) K40.1) K52.1) g63)) (by rw [hs0]; exact (Nat.le_trans (Nat.le_trans (Nat.le_trans (Nat.le_trans (Nat.le_trans (Nat.le_trans K8.1 K16.1) K24.1) K32.1) K40.1) K52.1) g63)) ?_
    show Go _ _ _ _ _ _ _ _ _ _ _ _ _ _ _ _ _ _ _ _ _ _ (mkF _ 50 #[.val (.int p0), .val (.int p1), .val (.int p2), .val (.int p3), .val (.int p4), .val (.ref s1), .val (.ref s9), .val (.ref s17), .val (.ref s25), .val (.int (1 : Int32)), .val (.ref a33), .unset, .unset, .unset, .unset] [(.int (1 : Int32))])
    refine g_pop C at_50 rfl ?_
    refine g_iload C at_51 rfl ?_
    refine g_iconst (2 : Int32) C at_53 (by decide) ?_
    refine g_icmpT 65 C at_54 (show (1 : Int32) < (2 : Int32) by decide) (by decide) (by decide) ?_
    refine g_iload C at_65 rfl ?_
    refine g_iconst (3 : Int32) C at_67 (by decide) ?_
    refine g_icmpT 79 C at_68 (show (1 : Int32) < (3 : Int32) by decide) (by decide) (by decide) ?_
    refine g_iload C at_79 rfl ?_
    refine g_iconst (1 : Int32) C at_81 (by decide) ?_
    refine g_icmpF C at_82 (show (1 : Int32) = (1 : Int32) by decide) ?_
    refine g_aload C at_85 rfl rfl ?_
    refine g_astore #[.val (.int p0), .val (.int p1), .val (.int p2), .val (.int p3), .val (.int p4), .val (.ref s1), .val (.ref s9), .val (.ref s17), .val (.ref s25), .val (.int (1 : Int32)), .val (.ref a33), .val (.ref s1), .unset, .unset, .unset] C at_87 rfl rfl ?_
    refine g_goto 109 C at_89 (by decide) (by decide) ?_
    refine g_new_ C at_109 (hw _ (List.mem_of_getElem? (i := 81) rfl)) (hw _ (List.mem_of_getElem? (i := 82) rfl)) (hw _ (List.mem_of_getElem? (i := 83) rfl)) (by decide) (by decide) (fun a69 h70 e71 E72 l73 f74 D75 => ?_)
    have K76 := keep_ext E72
    have f77 : Fld Z h70 a69 "com/example/warm_suite/warmsuite/core/engine/Holder" "path" "Ljava/util/List;" .null := D75 (Or.inr (hw _ (List.mem_of_getElem? (i := 180) rfl))) (ty := (.object "java/util/List")) (by decide)
    refine g_dup C at_112 rfl ?_
    refine g_aload C at_113 rfl rfl ?_
    have f87 := (f53.keep K76)
    have f88 := (f54.keep K76 nin0)
    have f89 := (f55.keep K76 nin0)
    have f90 := (f56.keep K76 nin0)
    have f91 := (f57.keep K76)
    have f92 := (f58.keep K76 nin0)
    have f93 := ((f60.keep K68).keep K76)
    refine g_invokespecial [(.ref a33)] [(.ref a69)] 1 C at_115 rfl (hw _ (List.mem_of_getElem? (i := 84) rfl)) (hw _ (List.mem_of_getElem? (i := 85) rfl)) (hw _ (List.mem_of_getElem? (i := 83) rfl)) (hw _ (List.mem_of_getElem? (i := 86) rfl)) (by decide) (m_hInit1 l Z a0 hw S0 hz0 SD SE Ld Le MI a69 a33 b62 s1 _ f87 f88 f89 f90 f91 f92 f93 f74 f77) (lenOf pd24 rfl) rfl rfl (Nat.le_of_ble_eq_true rfl) (by decide) (by decide) (by decide) (by decide) (allS (List.mem_of_getElem? (i := 0) rfl) all0) (fun v94 h95 L96 q97 K98 => ?_)
    obtain ⟨rfl, q78, g79, f80, f81, f82, f83, f84⟩ := q97
    show Go _ _ _ _ _ _ _ _ _ _ _ _ _ _ _ _ _ _ _ _ _ _ (mkF _ 118 #[.val (.int p0), .val (.int p1), .val (.int p2), .val (.int p3), .val (.int p4), .val (.ref s1), .val (.ref s9), .val (.ref s17), .val (.ref s25), .val (.int (1 : Int32)), .val (.ref a33), .val (.ref s1), .unset, .unset, .unset] [(.ref a69)])
    refine g_astore #[.val (.int p0), .val (.int p1), .val (.int p2), .val (.int p3), .val (.int p4), .val (.ref s1), .val (.ref s9), .val (.ref s17), .val (.ref s25), .val (.int (1 : Int32)), .val (.ref a33), .val (.ref s1), .val (.ref a69), .unset, .unset] C at_118 rfl rfl ?_
    refine g_aload C at_120 rfl rfl ?_
    have f99 := (f93.keep K98)
    refine g_invokevirtual [] [] 0 C at_122 (hw _ (List.mem_of_getElem? (i := 181) rfl)) (hw _ (List.mem_of_getElem? (i := 182) rfl)) (hw _ (List.mem_of_getElem? (i := 184) rfl)) (hw _ (List.mem_of_getElem? (i := 183) rfl)) (hw _ (List.mem_of_getElem? (i := 83) rfl)) (hw _ (List.mem_of_getElem? (i := 185) rfl)) (fun _ hZ => notFace_of_selects (args := #[]) (mvT hZ (hw _ (List.mem_of_getElem? (i := 184) rfl)))) (by decide) f80 (m_toString1 l Z a0 hw S0 hz0 SD SE Ld Le MI _ _ _ _ f82 f83 f84 f81 f99) (lenOf pd25 rfl) rfl rfl (Nat.le_of_ble_eq_true rfl) (by decide) (by decide) (by decide) (by decide) all0 (fun v100 h101 L102 q103 K104 => ?_)
    obtain rfl := q103
    show Go _ _ _ _ _ _ _ _ _ _ _ _ _ _ _ _ _ _ _ _ _ _ (mkF _ 125 #[.val (.int p0), .val (.int p1), .val (.int p2), .val (.int p3), .val (.int p4), .val (.ref s1), .val (.ref s9), .val (.ref s17), .val (.ref s25), .val (.int (1 : Int32)), .val (.ref a33), .val (.ref s1), .val (.ref a69), .unset, .unset] [(.ref s1)])
    refine g_astore #[.val (.int p0), .val (.int p1), .val (.int p2), .val (.int p3), .val (.int p4), .val (.ref s1), .val (.ref s9), .val (.ref s17), .val (.ref s25), .val (.int (1 : Int32)), .val (.ref a33), .val (.ref s1), .val (.ref a69), .val (.ref s1), .unset] C at_125 rfl rfl ?_
    refine g_aload C at_127 rfl rfl ?_
    refine g_aload C at_129 rfl rfl ?_
    have f112 := ((f87.keep K98).keep K104)
    have f113 := ((f88.keep K98 (ninS (Nat.ne_of_lt (Nat.lt_of_lt_of_le (Nat.lt_of_lt_of_le l37 (Nat.le_trans K52.1 K68.1)) (Nat.le_of_eq e71.symm))) nin0)).keep K104 nin0)
    have f114 := ((f89.keep K98 (ninS (Nat.ne_of_lt (Nat.lt_of_lt_of_le (Nat.lt_of_lt_of_le l37 (Nat.le_trans K52.1 K68.1)) (Nat.le_of_eq e71.symm))) nin0)).keep K104 nin0)
    have f115 := ((f90.keep K98 (ninS (Nat.ne_of_lt (Nat.lt_of_lt_of_le (Nat.lt_of_lt_of_le l37 (Nat.le_trans K52.1 K68.1)) (Nat.le_of_eq e71.symm))) nin0)).keep K104 nin0)
    have f116 := ((((((f27.keep K40).keep K52).keep K68).keep K76).keep K98).keep K104)
    have f117 := ((f91.keep K98).keep K104)
    have f118 := ((f92.keep K98 (ninS (Nat.ne_of_lt (Nat.lt_of_lt_of_le f58.lt (Nat.le_of_eq e71.symm))) nin0)).keep K104 nin0)
    have f119 := (((f59.keep K76).keep K98).keep K104)
    refine g_invokevirtual [(.ref s25)] [] 0 C at_131 (hw _ (List.mem_of_getElem? (i := 50) rfl)) (hw _ (List.mem_of_getElem? (i := 51) rfl)) (hw _ (List.mem_of_getElem? (i := 53) rfl)) (hw _ (List.mem_of_getElem? (i := 52) rfl)) (hw _ (List.mem_of_getElem? (i := 28) rfl)) (hw _ (List.mem_of_getElem? (i := 54) rfl)) (fun _ hZ => notFace_of_selects (args := #[]) (mvT hZ (hw _ (List.mem_of_getElem? (i := 53) rfl)))) (by decide) f112 (m_add_1 l Z a0 hw S0 hz0 SD SE Ld Le MI a33 s25 b62 _ _ f112 f113 f114 f115 f116 f117 f118 f119 (Nat.ne_of_lt (Nat.lt_of_lt_of_le (Nat.lt_of_lt_of_le l37 K52.1) g63))) (lenOf pd23 rfl) rfl rfl (Nat.le_of_ble_eq_true rfl) (by decide) (by decide) (by decide) (by decide) (allS (List.mem_of_getElem? (i := 2) rfl) (allS (List.mem_of_getElem? (i := 1) rfl) all0)) (fun v120 h121 L122 q123 K124 => ?_)
    obtain ⟨rfl, f105, f106, f107, f108, f109, f110, f111⟩ := q123
    show Go _ _ _ _ _ _ _ _ _ _ _ _ _ _ _ _ _ _ _ _ _ _ (mkF _ 134 #[.val (.int p0), .val (.int p1), .val (.int p2), .val (.int p3), .val (.int p4), .val (.ref s1), .val (.ref s9), .val (.ref s17), .val (.ref s25), .val (.int (1 : Int32)), .val (.ref a33), .val (.ref s1), .val (.ref a69), .val (.ref s1), .unset] [(.int (1 : Int32))])
    refine g_pop C at_134 rfl ?_
    refine g_aload C at_135 rfl rfl ?_
    have f125 := ((f82.keep K104).keep K124)
    have f126 := ((f83.keep K104 nin0).keep K124 (ninS (Nat.ne_of_gt (Nat.lt_of_lt_of_le (Nat.lt_of_lt_of_le l37 (Nat.le_trans (Nat.le_trans K52.1 K68.1) K76.1)) g79)) (ninS (Nat.ne_of_gt (Nat.lt_of_lt_of_le (Nat.lt_of_lt_of_le f58.lt K76.1) g79)) nin0)))
    have f127 := ((f84.keep K104 nin0).keep K124 (ninS (Nat.ne_of_gt (Nat.lt_of_lt_of_le (Nat.lt_of_lt_of_le l37 (Nat.le_trans (Nat.le_trans K52.1 K68.1) K76.1)) g79)) (ninS (Nat.ne_of_gt (Nat.lt_of_lt_of_le (Nat.lt_of_lt_of_le f58.lt K76.1) g79)) nin0)))
    have f128 := ((f81.keep K104 nin0).keep K124 (ninS (Nat.ne_of_gt (Nat.lt_of_lt_of_le (Nat.lt_of_lt_of_le l37 (Nat.le_trans K52.1 K68.1)) (Nat.le_of_eq e71.symm))) (ninS (Nat.ne_of_gt (Nat.lt_of_lt_of_le f58.lt (Nat.le_of_eq e71.symm))) nin0)))
    have f129 := ((f99.keep K104).keep K124)
    have f135 := ((f80.keep K104).keep K124)
    refine g_invokevirtual [] [] 0 C at_137 (hw _ (List.mem_of_getElem? (i := 181) rfl)) (hw _ (List.mem_of_getElem? (i := 182) rfl)) (hw _ (List.mem_of_getElem? (i := 184) rfl)) (hw _ (List.mem_of_getElem? (i := 183) rfl)) (hw _ (List.mem_of_getElem? (i := 83) rfl)) (hw _ (List.mem_of_getElem? (i := 185) rfl)) (fun _ hZ => notFace_of_selects (args := #[]) (mvT hZ (hw _ (List.mem_of_getElem? (i := 184) rfl)))) (by decide) f135 (m_toString1 l Z a0 hw S0 hz0 SD SE Ld Le MI _ _ _ _ f125 f126 f127 f128 f129) (lenOf pd25 rfl) rfl rfl (Nat.le_of_ble_eq_true rfl) (by decide) (by decide) (by decide) (by decide) all0 (fun v130 h131 L132 q133 K134 => ?_)
    obtain rfl := q133
    show Go _ _ _ _ _ _ _ _ _ _ _ _ _ _ _ _ _ _ _ _ _ _ (mkF _ 140 #[.val (.int p0), .val (.int p1), .val (.int p2), .val (.int p3), .val (.int p4), .val (.ref s1), .val (.ref s9), .val (.ref s17), .val (.ref s25), .val (.int (1 : Int32)), .val (.ref a33), .val (.ref s1), .val (.ref a69), .val (.ref s1), .unset] [(.ref s1)])
    refine g_astore #[.val (.int p0), .val (.int p1), .val (.int p2), .val (.int p3), .val (.int p4), .val (.ref s1), .val (.ref s9), .val (.ref s17), .val (.ref s25), .val (.int (1 : Int32)), .val (.ref a33), .val (.ref s1), .val (.ref a69), .val (.ref s1), .val (.ref s1)] C at_140 rfl rfl ?_
    refine g_aload C at_142 rfl rfl ?_
    refine g_aload C at_144 rfl rfl ?_
    have f141 := (f129.keep K134)
    refine g_invokevirtual [(.ref s1)] [] 0 C at_146 (hw _ (List.mem_of_getElem? (i := 204) rfl)) (hw _ (List.mem_of_getElem? (i := 205) rfl)) (hw _ (List.mem_of_getElem? (i := 207) rfl)) (hw _ (List.mem_of_getElem? (i := 206) rfl)) (hw _ (List.mem_of_getElem? (i := 6) rfl)) (hw _ (List.mem_of_getElem? (i := 208) rfl)) (fun _ hZ => notFace_of_selects (args := #[]) (mvT hZ (hw _ (List.mem_of_getElem? (i := 207) rfl)))) (by decide) f141 (m_equals l Z a0 hw S0 hz0 SD SE Ld Le MI _ _) (lenOf pd23 rfl) rfl rfl (Nat.le_of_ble_eq_true rfl) (by decide) (by decide) (by decide) (by decide) all0 (fun v136 h137 L138 q139 K140 => ?_)
    obtain rfl := q139
    show Go _ _ _ _ _ _ _ _ _ _ _ _ _ _ _ _ _ _ _ _ _ _ (mkF _ 149 #[.val (.int p0), .val (.int p1), .val (.int p2), .val (.int p3), .val (.int p4), .val (.ref s1), .val (.ref s9), .val (.ref s17), .val (.ref s25), .val (.int (1 : Int32)), .val (.ref a33), .val (.ref s1), .val (.ref a69), .val (.ref s1), .val (.ref s1)] [(.int (1 : Int32))])
    refine g_ifF C at_149 (show ¬ (1 : Int32) = (0 : Int32) by decide) ?_
    refine g_aload C at_152 rfl rfl ?_
    refine g_aload C at_154 rfl rfl ?_
    have f147 := (f141.keep K140)
    refine g_invokevirtual [(.ref s1)] [] 0 C at_156 (hw _ (List.mem_of_getElem? (i := 204) rfl)) (hw _ (List.mem_of_getElem? (i := 205) rfl)) (hw _ (List.mem_of_getElem? (i := 207) rfl)) (hw _ (List.mem_of_getElem? (i := 206) rfl)) (hw _ (List.mem_of_getElem? (i := 6) rfl)) (hw _ (List.mem_of_getElem? (i := 208) rfl)) (fun _ hZ => notFace_of_selects (args := #[]) (mvT hZ (hw _ (List.mem_of_getElem? (i := 207) rfl)))) (by decide) f147 (m_equals l Z a0 hw S0 hz0 SD SE Ld Le MI _ _) (lenOf pd23 rfl) rfl rfl (Nat.le_of_ble_eq_true rfl) (by decide) (by decide) (by decide) (by decide) all0 (fun v142 h143 L144 q145 K146 => ?_)
    obtain rfl := q145
    show Go _ _ _ _ _ _ _ _ _ _ _ _ _ _ _ _ _ _ _ _ _ _ (mkF _ 159 #[.val (.int p0), .val (.int p1), .val (.int p2), .val (.int p3), .val (.int p4), .val (.ref s1), .val (.ref s9), .val (.ref s17), .val (.ref s25), .val (.int (1 : Int32)), .val (.ref a33), .val (.ref s1), .val (.ref a69), .val (.ref s1), .val (.ref s1)] [(.int (1 : Int32))])
    refine g_ifF C at_159 (show ¬ (1 : Int32) = (0 : Int32) by decide) ?_
    refine g_iconst (1 : Int32) C at_162 (by decide) ?_
    refine g_goto 167 C at_163 (by decide) (by decide) ?_
    exact g_retN C at_167 (by simp) rfl (by decide) (by decide)
  · skip
    refine g_iconst (3 : Int32) C at_28 (by decide) ?_
    refine g_irem (1 : Int32) C at_29 (by decide) (by decide) ?_
    refine g_iconst (1 : Int32) C at_30 (by decide) ?_
    refine g_iadd (2 : Int32) C at_31 (by decide) ?_
    refine g_istore #[.val (.int p0), .val (.int p1), .val (.int p2), .val (.int p3), .val (.int p4), .val (.ref s1), .val (.ref s9), .val (.ref s17), .val (.ref s25), .val (.int (2 : Int32)), .unset, .unset, .unset, .unset, .unset] C at_32 rfl ?_
    refine g_new_ C at_34 (hw _ (List.mem_of_getElem? (i := 26) rfl)) (hw _ (List.mem_of_getElem? (i := 27) rfl)) (hw _ (List.mem_of_getElem? (i := 28) rfl)) (by decide) (by decide) (fun a148 h149 e150 E151 l152 f153 D154 => ?_)
    have K155 := keep_ext E151
    have f156 : Fld Z h149 a148 "java/util/AbstractList" "modCount" "I" (.int (0 : Int32)) := D154 (Or.inl (hw _ (List.mem_of_getElem? (i := 46) rfl))) (ty := .int) (by decide)
    have f157 : Fld Z h149 a148 "java/util/ArrayList" "elementData" "[Ljava/lang/Object;" .null := D154 (Or.inl (hw _ (List.mem_of_getElem? (i := 49) rfl))) (ty := (.array (.object "java/lang/Object"))) (by decide)
    have f158 : Fld Z h149 a148 "java/util/ArrayList" "size" "I" (.int (0 : Int32)) := D154 (Or.inl (hw _ (List.mem_of_getElem? (i := 58) rfl))) (ty := .int) (by decide)
    refine g_dup C at_37 rfl ?_
    refine g_invokespecial [] [(.ref a148)] 1 C at_38 rfl (hw _ (List.mem_of_getElem? (i := 29) rfl)) (hw _ (List.mem_of_getElem? (i := 30) rfl)) (hw _ (List.mem_of_getElem? (i := 28) rfl)) (hw _ (List.mem_of_getElem? (i := 31) rfl)) (by decide) (m_alInit l Z a0 hw S0 hz0 SD SE Ld Le MI a148 _ f153 f156 f157 f158) (lenOf pd6 rfl) rfl rfl (Nat.le_of_ble_eq_true rfl) (by decide) (by decide) (by decide) (by decide) (allS (List.mem_of_getElem? (i := 0) rfl) all0) (fun v163 h164 L165 q166 K167 => ?_)
    obtain ⟨rfl, f159, f160, f161, f162⟩ := q166
    show Go _ _ _ _ _ _ _ _ _ _ _ _ _ _ _ _ _ _ _ _ _ _ (mkF _ 41 #[.val (.int p0), .val (.int p1), .val (.int p2), .val (.int p3), .val (.int p4), .val (.ref s1), .val (.ref s9), .val (.ref s17), .val (.ref s25), .val (.int (2 : Int32)), .unset, .unset, .unset, .unset, .unset] [(.ref a148)])
    refine g_astore #[.val (.int p0), .val (.int p1), .val (.int p2), .val (.int p3), .val (.int p4), .val (.ref s1), .val (.ref s9), .val (.ref s17), .val (.ref s25), .val (.int (2 : Int32)), .val (.ref a148), .unset, .unset, .unset, .unset] C at_41 rfl rfl ?_
    refine g_aload C at_43 rfl rfl ?_
    refine g_aload C at_45 rfl rfl ?_
    have f175 := (((((f3.keep K16).keep K24).keep K32).keep K155).keep K167)
    have f176 := ((((((ADh.keep K8 nin0).keep K16 nin0).keep K24 nin0).keep K32 nin0).keep K155 nin0).keep K167 (ninS (Nat.ne_of_lt (Nat.lt_of_lt_of_le (Nat.lt_of_lt_of_le (Nat.lt_of_lt_of_le Ld hX.1) (Nat.le_trans (Nat.le_trans (Nat.le_trans K8.1 K16.1) K24.1) K32.1)) (Nat.le_of_eq e150.symm))) nin0))
    refine g_invokevirtual [(.ref s1)] [] 0 C at_47 (hw _ (List.mem_of_getElem? (i := 50) rfl)) (hw _ (List.mem_of_getElem? (i := 51) rfl)) (hw _ (List.mem_of_getElem? (i := 53) rfl)) (hw _ (List.mem_of_getElem? (i := 52) rfl)) (hw _ (List.mem_of_getElem? (i := 28) rfl)) (hw _ (List.mem_of_getElem? (i := 54) rfl)) (fun _ hZ => notFace_of_selects (args := #[]) (mvT hZ (hw _ (List.mem_of_getElem? (i := 53) rfl)))) (by decide) f159 (m_add_0 l Z a0 hw S0 hz0 SD SE Ld Le MI a148 s1 _ f159 f160 f161 f162 f175 f176) (lenOf pd23 rfl) rfl rfl (Nat.le_of_ble_eq_true rfl) (by decide) (by decide) (by decide) (by decide) (allS (List.mem_of_getElem? (i := 0) rfl) all0) (fun v179 h180 L181 q182 K183 => ?_)
    obtain ⟨rfl, b177, g178, f168, f169, f170, f171, f172, f173, f174⟩ := q182
    refine Go.take f172 (by decide) (by decide) (Nat.le_trans hX.1 (Nat.le_trans (Nat.le_trans (Nat.le_trans (Nat.le_trans (Nat.le_trans (Nat.le_trans K8.1 K16.1) K24.1) K32.1) K155.1) K167.1) g178)) (by rw [hs0]; exact (Nat.le_trans (Nat.le_trans (Nat.le_trans (Nat.le_trans (Nat.le_trans (Nat.le_trans K8.1 K16.1) K24.1) K32.1) K155.1) K167.1) g178)) ?_
    show Go _ _ _ _ _ _ _ _ _ _ _ _ _ _ _ _ _ _ _ _ _ _ (mkF _ 50 #[.val (.int p0), .val (.int p1), .val (.int p2), .val (.int p3), .val (.int p4), .val (.ref s1), .val (.ref s9), .val (.ref s17), .val (.ref s25), .val (.int (2 : Int32)), .val (.ref a148), .unset, .unset, .unset, .unset] [(.int (1 : Int32))])
    refine g_pop C at_50 rfl ?_
    refine g_iload C at_51 rfl ?_
    refine g_iconst (2 : Int32) C at_53 (by decide) ?_
    refine g_icmpF C at_54 (show ¬ (2 : Int32) < (2 : Int32) by decide) ?_
    refine g_aload C at_57 rfl rfl ?_
    refine g_aload C at_59 rfl rfl ?_
    have f191 := (((((f11.keep K24).keep K32).keep K155).keep K167).keep K183)
    refine g_invokevirtual [(.ref s9)] [] 0 C at_61 (hw _ (List.mem_of_getElem? (i := 50) rfl)) (hw _ (List.mem_of_getElem? (i := 51) rfl)) (hw _ (List.mem_of_getElem? (i := 53) rfl)) (hw _ (List.mem_of_getElem? (i := 52) rfl)) (hw _ (List.mem_of_getElem? (i := 28) rfl)) (hw _ (List.mem_of_getElem? (i := 54) rfl)) (fun _ hZ => notFace_of_selects (args := #[]) (mvT hZ (hw _ (List.mem_of_getElem? (i := 53) rfl)))) (by decide) f168 (m_add_1 l Z a0 hw S0 hz0 SD SE Ld Le MI a148 s9 b177 _ _ f168 f169 f170 f171 f191 f172 f173 f174 (Nat.ne_of_lt (Nat.lt_of_lt_of_le (Nat.lt_of_lt_of_le l152 K167.1) g178))) (lenOf pd23 rfl) rfl rfl (Nat.le_of_ble_eq_true rfl) (by decide) (by decide) (by decide) (by decide) (allS (List.mem_of_getElem? (i := 1) rfl) (allS (List.mem_of_getElem? (i := 0) rfl) all0)) (fun v192 h193 L194 q195 K196 => ?_)
    obtain ⟨rfl, f184, f185, f186, f187, f188, f189, f190⟩ := q195
    show Go _ _ _ _ _ _ _ _ _ _ _ _ _ _ _ _ _ _ _ _ _ _ (mkF _ 64 #[.val (.int p0), .val (.int p1), .val (.int p2), .val (.int p3), .val (.int p4), .val (.ref s1), .val (.ref s9), .val (.ref s17), .val (.ref s25), .val (.int (2 : Int32)), .val (.ref a148), .unset, .unset, .unset, .unset] [(.int (1 : Int32))])
    refine g_pop C at_64 rfl ?_
    refine g_iload C at_65 rfl ?_
    refine g_iconst (3 : Int32) C at_67 (by decide) ?_
    refine g_icmpT 79 C at_68 (show (2 : Int32) < (3 : Int32) by decide) (by decide) (by decide) ?_
    refine g_iload C at_79 rfl ?_
    refine g_iconst (1 : Int32) C at_81 (by decide) ?_
    refine g_icmpT 92 C at_82 (show ¬ (2 : Int32) = (1 : Int32) by decide) (by decide) (by decide) ?_
    refine g_iload C at_92 rfl ?_
    refine g_iconst (2 : Int32) C at_94 (by decide) ?_
    refine g_icmpF C at_95 (show (2 : Int32) = (2 : Int32) by decide) ?_
    refine g_aload C at_98 rfl rfl ?_
    refine g_astore #[.val (.int p0), .val (.int p1), .val (.int p2), .val (.int p3), .val (.int p4), .val (.ref s1), .val (.ref s9), .val (.ref s17), .val (.ref s25), .val (.int (2 : Int32)), .val (.ref a148), .val (.ref s9), .unset, .unset, .unset] C at_100 rfl rfl ?_
    refine g_goto 109 C at_102 (by decide) (by decide) ?_
    refine g_new_ C at_109 (hw _ (List.mem_of_getElem? (i := 81) rfl)) (hw _ (List.mem_of_getElem? (i := 82) rfl)) (hw _ (List.mem_of_getElem? (i := 83) rfl)) (by decide) (by decide) (fun a197 h198 e199 E200 l201 f202 D203 => ?_)
    have K204 := keep_ext E200
    have f205 : Fld Z h198 a197 "com/example/warm_suite/warmsuite/core/engine/Holder" "path" "Ljava/util/List;" .null := D203 (Or.inr (hw _ (List.mem_of_getElem? (i := 180) rfl))) (ty := (.object "java/util/List")) (by decide)
    refine g_dup C at_112 rfl ?_
    refine g_aload C at_113 rfl rfl ?_
    have f215 := (f184.keep K204)
    have f216 := (f185.keep K204 nin0)
    have f217 := (f186.keep K204 nin0)
    have f218 := (f187.keep K204 nin0)
    have f219 := (f188.keep K204)
    have f220 := (f189.keep K204 nin0)
    have f221 := (((f175.keep K183).keep K196).keep K204)
    have f222 := ((f191.keep K196).keep K204)
    refine g_invokespecial [(.ref a148)] [(.ref a197)] 1 C at_115 rfl (hw _ (List.mem_of_getElem? (i := 84) rfl)) (hw _ (List.mem_of_getElem? (i := 85) rfl)) (hw _ (List.mem_of_getElem? (i := 83) rfl)) (hw _ (List.mem_of_getElem? (i := 86) rfl)) (by decide) (m_hInit2 l Z a0 hw S0 hz0 SD SE Ld Le MI a197 a148 b177 s1 s9 _ f215 f216 f217 f218 f219 f220 f221 f222 f202 f205) (lenOf pd24 rfl) rfl rfl (Nat.le_of_ble_eq_true rfl) (by decide) (by decide) (by decide) (by decide) (allS (List.mem_of_getElem? (i := 0) rfl) all0) (fun v223 h224 L225 q226 K227 => ?_)
    obtain ⟨rfl, q206, g207, f208, f209, f210, f211, f212⟩ := q226
    show Go _ _ _ _ _ _ _ _ _ _ _ _ _ _ _ _ _ _ _ _ _ _ (mkF _ 118 #[.val (.int p0), .val (.int p1), .val (.int p2), .val (.int p3), .val (.int p4), .val (.ref s1), .val (.ref s9), .val (.ref s17), .val (.ref s25), .val (.int (2 : Int32)), .val (.ref a148), .val (.ref s9), .unset, .unset, .unset] [(.ref a197)])
    refine g_astore #[.val (.int p0), .val (.int p1), .val (.int p2), .val (.int p3), .val (.int p4), .val (.ref s1), .val (.ref s9), .val (.ref s17), .val (.ref s25), .val (.int (2 : Int32)), .val (.ref a148), .val (.ref s9), .val (.ref a197), .unset, .unset] C at_118 rfl rfl ?_
    refine g_aload C at_120 rfl rfl ?_
    have f228 := (f222.keep K227)
    refine g_invokevirtual [] [] 0 C at_122 (hw _ (List.mem_of_getElem? (i := 181) rfl)) (hw _ (List.mem_of_getElem? (i := 182) rfl)) (hw _ (List.mem_of_getElem? (i := 184) rfl)) (hw _ (List.mem_of_getElem? (i := 183) rfl)) (hw _ (List.mem_of_getElem? (i := 83) rfl)) (hw _ (List.mem_of_getElem? (i := 185) rfl)) (fun _ hZ => notFace_of_selects (args := #[]) (mvT hZ (hw _ (List.mem_of_getElem? (i := 184) rfl)))) (by decide) f208 (m_toString2 l Z a0 hw S0 hz0 SD SE Ld Le MI _ _ _ _ _ f210 f211 f212 (Nat.ne_of_gt (Nat.lt_of_lt_of_le (Nat.lt_of_lt_of_le (Nat.lt_of_lt_of_le Le hX.1) K8.1) g10)) f209 f228) (lenOf pd25 rfl) rfl rfl (Nat.le_of_ble_eq_true rfl) (by decide) (by decide) (by decide) (by decide) all0 (fun v229 h230 L231 q232 K233 => ?_)
    obtain rfl := q232
    show Go _ _ _ _ _ _ _ _ _ _ _ _ _ _ _ _ _ _ _ _ _ _ (mkF _ 125 #[.val (.int p0), .val (.int p1), .val (.int p2), .val (.int p3), .val (.int p4), .val (.ref s1), .val (.ref s9), .val (.ref s17), .val (.ref s25), .val (.int (2 : Int32)), .val (.ref a148), .val (.ref s9), .val (.ref a197), .unset, .unset] [(.ref s9)])
    refine g_astore #[.val (.int p0), .val (.int p1), .val (.int p2), .val (.int p3), .val (.int p4), .val (.ref s1), .val (.ref s9), .val (.ref s17), .val (.ref s25), .val (.int (2 : Int32)), .val (.ref a148), .val (.ref s9), .val (.ref a197), .val (.ref s9), .unset] C at_125 rfl rfl ?_
    refine g_aload C at_127 rfl rfl ?_
    refine g_aload C at_129 rfl rfl ?_
    have f241 := ((f215.keep K227).keep K233)
    have f242 := ((f216.keep K227 (ninS (Nat.ne_of_lt (Nat.lt_of_lt_of_le (Nat.lt_of_lt_of_le l152 (Nat.le_trans (Nat.le_trans K167.1 K183.1) K196.1)) (Nat.le_of_eq e199.symm))) nin0)).keep K233 nin0)
    have f243 := ((f217.keep K227 (ninS (Nat.ne_of_lt (Nat.lt_of_lt_of_le (Nat.lt_of_lt_of_le l152 (Nat.le_trans (Nat.le_trans K167.1 K183.1) K196.1)) (Nat.le_of_eq e199.symm))) nin0)).keep K233 nin0)
    have f244 := ((f218.keep K227 (ninS (Nat.ne_of_lt (Nat.lt_of_lt_of_le (Nat.lt_of_lt_of_le l152 (Nat.le_trans (Nat.le_trans K167.1 K183.1) K196.1)) (Nat.le_of_eq e199.symm))) nin0)).keep K233 nin0)
    have f245 := (((((((f27.keep K155).keep K167).keep K183).keep K196).keep K204).keep K227).keep K233)
    have f246 := ((f219.keep K227).keep K233)
    have f247 := ((f220.keep K227 (ninS (Nat.ne_of_lt (Nat.lt_of_lt_of_le (Nat.lt_of_lt_of_le f173.lt K196.1) (Nat.le_of_eq e199.symm))) nin0)).keep K233 nin0)
    have f248 := (((f190.keep K204).keep K227).keep K233)
    refine g_invokevirtual [(.ref s25)] [] 0 C at_131 (hw _ (List.mem_of_getElem? (i := 50) rfl)) (hw _ (List.mem_of_getElem? (i := 51) rfl)) (hw _ (List.mem_of_getElem? (i := 53) rfl)) (hw _ (List.mem_of_getElem? (i := 52) rfl)) (hw _ (List.mem_of_getElem? (i := 28) rfl)) (hw _ (List.mem_of_getElem? (i := 54) rfl)) (fun _ hZ => notFace_of_selects (args := #[]) (mvT hZ (hw _ (List.mem_of_getElem? (i := 53) rfl)))) (by decide) f241 (m_add_2 l Z a0 hw S0 hz0 SD SE Ld Le MI a148 s25 b177 _ _ _ f241 f242 f243 f244 f245 f246 f247 f248 (Nat.ne_of_lt (Nat.lt_of_lt_of_le (Nat.lt_of_lt_of_le l152 K167.1) g178))) (lenOf pd23 rfl) rfl rfl (Nat.le_of_ble_eq_true rfl) (by decide) (by decide) (by decide) (by decide) (allS (List.mem_of_getElem? (i := 2) rfl) (allS (List.mem_of_getElem? (i := 1) rfl) all0)) (fun v249 h250 L251 q252 K253 => ?_)
    obtain ⟨rfl, f234, f235, f236, f237, f238, f239, f240⟩ := q252
    show Go _ _ _ _ _ _ _ _ _ _ _ _ _ _ _ _ _ _ _ _ _ _ (mkF _ 134 #[.val (.int p0), .val (.int p1), .val (.int p2), .val (.int p3), .val (.int p4), .val (.ref s1), .val (.ref s9), .val (.ref s17), .val (.ref s25), .val (.int (2 : Int32)), .val (.ref a148), .val (.ref s9), .val (.ref a197), .val (.ref s9), .unset] [(.int (1 : Int32))])
    refine g_pop C at_134 rfl ?_
    refine g_aload C at_135 rfl rfl ?_
    have f254 := ((f210.keep K233).keep K253)
    have f255 := ((f211.keep K233 nin0).keep K253 (ninS (Nat.ne_of_gt (Nat.lt_of_lt_of_le (Nat.lt_of_lt_of_le l152 (Nat.le_trans (Nat.le_trans (Nat.le_trans K167.1 K183.1) K196.1) K204.1)) g207)) (ninS (Nat.ne_of_gt (Nat.lt_of_lt_of_le (Nat.lt_of_lt_of_le f173.lt (Nat.le_trans K196.1 K204.1)) g207)) nin0)))
    have f256 := ((f212.keep K233 nin0).keep K253 (ninS (Nat.ne_of_gt (Nat.lt_of_lt_of_le (Nat.lt_of_lt_of_le l152 (Nat.le_trans (Nat.le_trans (Nat.le_trans K167.1 K183.1) K196.1) K204.1)) g207)) (ninS (Nat.ne_of_gt (Nat.lt_of_lt_of_le (Nat.lt_of_lt_of_le f173.lt (Nat.le_trans K196.1 K204.1)) g207)) nin0)))
    have f257 := ((f209.keep K233 nin0).keep K253 (ninS (Nat.ne_of_gt (Nat.lt_of_lt_of_le (Nat.lt_of_lt_of_le l152 (Nat.le_trans (Nat.le_trans K167.1 K183.1) K196.1)) (Nat.le_of_eq e199.symm))) (ninS (Nat.ne_of_gt (Nat.lt_of_lt_of_le (Nat.lt_of_lt_of_le f173.lt K196.1) (Nat.le_of_eq e199.symm))) nin0)))
    have f258 := ((f228.keep K233).keep K253)
    have f264 := ((f208.keep K233).keep K253)
    refine g_invokevirtual [] [] 0 C at_137 (hw _ (List.mem_of_getElem? (i := 181) rfl)) (hw _ (List.mem_of_getElem? (i := 182) rfl)) (hw _ (List.mem_of_getElem? (i := 184) rfl)) (hw _ (List.mem_of_getElem? (i := 183) rfl)) (hw _ (List.mem_of_getElem? (i := 83) rfl)) (hw _ (List.mem_of_getElem? (i := 185) rfl)) (fun _ hZ => notFace_of_selects (args := #[]) (mvT hZ (hw _ (List.mem_of_getElem? (i := 184) rfl)))) (by decide) f264 (m_toString2 l Z a0 hw S0 hz0 SD SE Ld Le MI _ _ _ _ _ f254 f255 f256 (Nat.ne_of_gt (Nat.lt_of_lt_of_le (Nat.lt_of_lt_of_le (Nat.lt_of_lt_of_le Le hX.1) K8.1) g10)) f257 f258) (lenOf pd25 rfl) rfl rfl (Nat.le_of_ble_eq_true rfl) (by decide) (by decide) (by decide) (by decide) all0 (fun v259 h260 L261 q262 K263 => ?_)
    obtain rfl := q262
    show Go _ _ _ _ _ _ _ _ _ _ _ _ _ _ _ _ _ _ _ _ _ _ (mkF _ 140 #[.val (.int p0), .val (.int p1), .val (.int p2), .val (.int p3), .val (.int p4), .val (.ref s1), .val (.ref s9), .val (.ref s17), .val (.ref s25), .val (.int (2 : Int32)), .val (.ref a148), .val (.ref s9), .val (.ref a197), .val (.ref s9), .unset] [(.ref s9)])
    refine g_astore #[.val (.int p0), .val (.int p1), .val (.int p2), .val (.int p3), .val (.int p4), .val (.ref s1), .val (.ref s9), .val (.ref s17), .val (.ref s25), .val (.int (2 : Int32)), .val (.ref a148), .val (.ref s9), .val (.ref a197), .val (.ref s9), .val (.ref s9)] C at_140 rfl rfl ?_
    refine g_aload C at_142 rfl rfl ?_
    refine g_aload C at_144 rfl rfl ?_
    have f270 := (f258.keep K263)
    refine g_invokevirtual [(.ref s9)] [] 0 C at_146 (hw _ (List.mem_of_getElem? (i := 204) rfl)) (hw _ (List.mem_of_getElem? (i := 205) rfl)) (hw _ (List.mem_of_getElem? (i := 207) rfl)) (hw _ (List.mem_of_getElem? (i := 206) rfl)) (hw _ (List.mem_of_getElem? (i := 6) rfl)) (hw _ (List.mem_of_getElem? (i := 208) rfl)) (fun _ hZ => notFace_of_selects (args := #[]) (mvT hZ (hw _ (List.mem_of_getElem? (i := 207) rfl)))) (by decide) f270 (m_equals l Z a0 hw S0 hz0 SD SE Ld Le MI _ _) (lenOf pd23 rfl) rfl rfl (Nat.le_of_ble_eq_true rfl) (by decide) (by decide) (by decide) (by decide) all0 (fun v265 h266 L267 q268 K269 => ?_)
    obtain rfl := q268
    show Go _ _ _ _ _ _ _ _ _ _ _ _ _ _ _ _ _ _ _ _ _ _ (mkF _ 149 #[.val (.int p0), .val (.int p1), .val (.int p2), .val (.int p3), .val (.int p4), .val (.ref s1), .val (.ref s9), .val (.ref s17), .val (.ref s25), .val (.int (2 : Int32)), .val (.ref a148), .val (.ref s9), .val (.ref a197), .val (.ref s9), .val (.ref s9)] [(.int (1 : Int32))])
    refine g_ifF C at_149 (show ¬ (1 : Int32) = (0 : Int32) by decide) ?_
    refine g_aload C at_152 rfl rfl ?_
    refine g_aload C at_154 rfl rfl ?_
    have f276 := (f270.keep K269)
    refine g_invokevirtual [(.ref s9)] [] 0 C at_156 (hw _ (List.mem_of_getElem? (i := 204) rfl)) (hw _ (List.mem_of_getElem? (i := 205) rfl)) (hw _ (List.mem_of_getElem? (i := 207) rfl)) (hw _ (List.mem_of_getElem? (i := 206) rfl)) (hw _ (List.mem_of_getElem? (i := 6) rfl)) (hw _ (List.mem_of_getElem? (i := 208) rfl)) (fun _ hZ => notFace_of_selects (args := #[]) (mvT hZ (hw _ (List.mem_of_getElem? (i := 207) rfl)))) (by decide) f276 (m_equals l Z a0 hw S0 hz0 SD SE Ld Le MI _ _) (lenOf pd23 rfl) rfl rfl (Nat.le_of_ble_eq_true rfl) (by decide) (by decide) (by decide) (by decide) all0 (fun v271 h272 L273 q274 K275 => ?_)
    obtain rfl := q274
    show Go _ _ _ _ _ _ _ _ _ _ _ _ _ _ _ _ _ _ _ _ _ _ (mkF _ 159 #[.val (.int p0), .val (.int p1), .val (.int p2), .val (.int p3), .val (.int p4), .val (.ref s1), .val (.ref s9), .val (.ref s17), .val (.ref s25), .val (.int (2 : Int32)), .val (.ref a148), .val (.ref s9), .val (.ref a197), .val (.ref s9), .val (.ref s9)] [(.int (1 : Int32))])
    refine g_ifF C at_159 (show ¬ (1 : Int32) = (0 : Int32) by decide) ?_
    refine g_iconst (1 : Int32) C at_162 (by decide) ?_
    refine g_goto 167 C at_163 (by decide) (by decide) ?_
    exact g_retN C at_167 (by simp) rfl (by decide) (by decide)
  · skip
    refine g_iconst (3 : Int32) C at_28 (by decide) ?_
    refine g_irem (2 : Int32) C at_29 (by decide) (by decide) ?_
    refine g_iconst (1 : Int32) C at_30 (by decide) ?_
    refine g_iadd (3 : Int32) C at_31 (by decide) ?_
    refine g_istore #[.val (.int p0), .val (.int p1), .val (.int p2), .val (.int p3), .val (.int p4), .val (.ref s1), .val (.ref s9), .val (.ref s17), .val (.ref s25), .val (.int (3 : Int32)), .unset, .unset, .unset, .unset, .unset] C at_32 rfl ?_
    refine g_new_ C at_34 (hw _ (List.mem_of_getElem? (i := 26) rfl)) (hw _ (List.mem_of_getElem? (i := 27) rfl)) (hw _ (List.mem_of_getElem? (i := 28) rfl)) (by decide) (by decide) (fun a277 h278 e279 E280 l281 f282 D283 => ?_)
    have K284 := keep_ext E280
    have f285 : Fld Z h278 a277 "java/util/AbstractList" "modCount" "I" (.int (0 : Int32)) := D283 (Or.inl (hw _ (List.mem_of_getElem? (i := 46) rfl))) (ty := .int) (by decide)
    have f286 : Fld Z h278 a277 "java/util/ArrayList" "elementData" "[Ljava/lang/Object;" .null := D283 (Or.inl (hw _ (List.mem_of_getElem? (i := 49) rfl))) (ty := (.array (.object "java/lang/Object"))) (by decide)
    have f287 : Fld Z h278 a277 "java/util/ArrayList" "size" "I" (.int (0 : Int32)) := D283 (Or.inl (hw _ (List.mem_of_getElem? (i := 58) rfl))) (ty := .int) (by decide)
    refine g_dup C at_37 rfl ?_
    refine g_invokespecial [] [(.ref a277)] 1 C at_38 rfl (hw _ (List.mem_of_getElem? (i := 29) rfl)) (hw _ (List.mem_of_getElem? (i := 30) rfl)) (hw _ (List.mem_of_getElem? (i := 28) rfl)) (hw _ (List.mem_of_getElem? (i := 31) rfl)) (by decide) (m_alInit l Z a0 hw S0 hz0 SD SE Ld Le MI a277 _ f282 f285 f286 f287) (lenOf pd6 rfl) rfl rfl (Nat.le_of_ble_eq_true rfl) (by decide) (by decide) (by decide) (by decide) (allS (List.mem_of_getElem? (i := 0) rfl) all0) (fun v292 h293 L294 q295 K296 => ?_)
    obtain ⟨rfl, f288, f289, f290, f291⟩ := q295
    show Go _ _ _ _ _ _ _ _ _ _ _ _ _ _ _ _ _ _ _ _ _ _ (mkF _ 41 #[.val (.int p0), .val (.int p1), .val (.int p2), .val (.int p3), .val (.int p4), .val (.ref s1), .val (.ref s9), .val (.ref s17), .val (.ref s25), .val (.int (3 : Int32)), .unset, .unset, .unset, .unset, .unset] [(.ref a277)])
    refine g_astore #[.val (.int p0), .val (.int p1), .val (.int p2), .val (.int p3), .val (.int p4), .val (.ref s1), .val (.ref s9), .val (.ref s17), .val (.ref s25), .val (.int (3 : Int32)), .val (.ref a277), .unset, .unset, .unset, .unset] C at_41 rfl rfl ?_
    refine g_aload C at_43 rfl rfl ?_
    refine g_aload C at_45 rfl rfl ?_
    have f304 := (((((f3.keep K16).keep K24).keep K32).keep K284).keep K296)
    have f305 := ((((((ADh.keep K8 nin0).keep K16 nin0).keep K24 nin0).keep K32 nin0).keep K284 nin0).keep K296 (ninS (Nat.ne_of_lt (Nat.lt_of_lt_of_le (Nat.lt_of_lt_of_le (Nat.lt_of_lt_of_le Ld hX.1) (Nat.le_trans (Nat.le_trans (Nat.le_trans K8.1 K16.1) K24.1) K32.1)) (Nat.le_of_eq e279.symm))) nin0))
    refine g_invokevirtual [(.ref s1)] [] 0 C at_47 (hw _ (List.mem_of_getElem? (i := 50) rfl)) (hw _ (List.mem_of_getElem? (i := 51) rfl)) (hw _ (List.mem_of_getElem? (i := 53) rfl)) (hw _ (List.mem_of_getElem? (i := 52) rfl)) (hw _ (List.mem_of_getElem? (i := 28) rfl)) (hw _ (List.mem_of_getElem? (i := 54) rfl)) (fun _ hZ => notFace_of_selects (args := #[]) (mvT hZ (hw _ (List.mem_of_getElem? (i := 53) rfl)))) (by decide) f288 (m_add_0 l Z a0 hw S0 hz0 SD SE Ld Le MI a277 s1 _ f288 f289 f290 f291 f304 f305) (lenOf pd23 rfl) rfl rfl (Nat.le_of_ble_eq_true rfl) (by decide) (by decide) (by decide) (by decide) (allS (List.mem_of_getElem? (i := 0) rfl) all0) (fun v308 h309 L310 q311 K312 => ?_)
    obtain ⟨rfl, b306, g307, f297, f298, f299, f300, f301, f302, f303⟩ := q311
    refine Go.take f301 (by decide) (by decide) (Nat.le_trans hX.1 (Nat.le_trans (Nat.le_trans (Nat.le_trans (Nat.le_trans (Nat.le_trans (Nat.le_trans K8.1 K16.1) K24.1) K32.1) K284.1) K296.1) g307)) (by rw [hs0]; exact (Nat.le_trans (Nat.le_trans (Nat.le_trans (Nat.le_trans (Nat.le_trans (Nat.le_trans K8.1 K16.1) K24.1) K32.1) K284.1) K296.1) g307)) ?_
    show Go _ _ _ _ _ _ _ _ _ _ _ _ _ _ _ _ _ _ _ _ _ _ (mkF _ 50 #[.val (.int p0), .val (.int p1), .val (.int p2), .val (.int p3), .val (.int p4), .val (.ref s1), .val (.ref s9), .val (.ref s17), .val (.ref s25), .val (.int (3 : Int32)), .val (.ref a277), .unset, .unset, .unset, .unset] [(.int (1 : Int32))])
    refine g_pop C at_50 rfl ?_
    refine g_iload C at_51 rfl ?_
    refine g_iconst (2 : Int32) C at_53 (by decide) ?_
    refine g_icmpF C at_54 (show ¬ (3 : Int32) < (2 : Int32) by decide) ?_
    refine g_aload C at_57 rfl rfl ?_
    refine g_aload C at_59 rfl rfl ?_
    have f320 := (((((f11.keep K24).keep K32).keep K284).keep K296).keep K312)
    refine g_invokevirtual [(.ref s9)] [] 0 C at_61 (hw _ (List.mem_of_getElem? (i := 50) rfl)) (hw _ (List.mem_of_getElem? (i := 51) rfl)) (hw _ (List.mem_of_getElem? (i := 53) rfl)) (hw _ (List.mem_of_getElem? (i := 52) rfl)) (hw _ (List.mem_of_getElem? (i := 28) rfl)) (hw _ (List.mem_of_getElem? (i := 54) rfl)) (fun _ hZ => notFace_of_selects (args := #[]) (mvT hZ (hw _ (List.mem_of_getElem? (i := 53) rfl)))) (by decide) f297 (m_add_1 l Z a0 hw S0 hz0 SD SE Ld Le MI a277 s9 b306 _ _ f297 f298 f299 f300 f320 f301 f302 f303 (Nat.ne_of_lt (Nat.lt_of_lt_of_le (Nat.lt_of_lt_of_le l281 K296.1) g307))) (lenOf pd23 rfl) rfl rfl (Nat.le_of_ble_eq_true rfl) (by decide) (by decide) (by decide) (by decide) (allS (List.mem_of_getElem? (i := 1) rfl) (allS (List.mem_of_getElem? (i := 0) rfl) all0)) (fun v321 h322 L323 q324 K325 => ?_)
    obtain ⟨rfl, f313, f314, f315, f316, f317, f318, f319⟩ := q324
    show Go _ _ _ _ _ _ _ _ _ _ _ _ _ _ _ _ _ _ _ _ _ _ (mkF _ 64 #[.val (.int p0), .val (.int p1), .val (.int p2), .val (.int p3), .val (.int p4), .val (.ref s1), .val (.ref s9), .val (.ref s17), .val (.ref s25), .val (.int (3 : Int32)), .val (.ref a277), .unset, .unset, .unset, .unset] [(.int (1 : Int32))])
    refine g_pop C at_64 rfl ?_
    refine g_iload C at_65 rfl ?_
    refine g_iconst (3 : Int32) C at_67 (by decide) ?_
    refine g_icmpF C at_68 (show ¬ (3 : Int32) < (3 : Int32) by decide) ?_
    refine g_aload C at_71 rfl rfl ?_
    refine g_aload C at_73 rfl rfl ?_
    have f333 := (((((f19.keep K32).keep K284).keep K296).keep K312).keep K325)
    refine g_invokevirtual [(.ref s17)] [] 0 C at_75 (hw _ (List.mem_of_getElem? (i := 50) rfl)) (hw _ (List.mem_of_getElem? (i := 51) rfl)) (hw _ (List.mem_of_getElem? (i := 53) rfl)) (hw _ (List.mem_of_getElem? (i := 52) rfl)) (hw _ (List.mem_of_getElem? (i := 28) rfl)) (hw _ (List.mem_of_getElem? (i := 54) rfl)) (fun _ hZ => notFace_of_selects (args := #[]) (mvT hZ (hw _ (List.mem_of_getElem? (i := 53) rfl)))) (by decide) f313 (m_add_2 l Z a0 hw S0 hz0 SD SE Ld Le MI a277 s17 b306 _ _ _ f313 f314 f315 f316 f333 f317 f318 f319 (Nat.ne_of_lt (Nat.lt_of_lt_of_le (Nat.lt_of_lt_of_le l281 K296.1) g307))) (lenOf pd23 rfl) rfl rfl (Nat.le_of_ble_eq_true rfl) (by decide) (by decide) (by decide) (by decide) (allS (List.mem_of_getElem? (i := 1) rfl) (allS (List.mem_of_getElem? (i := 0) rfl) all0)) (fun v334 h335 L336 q337 K338 => ?_)
    obtain ⟨rfl, f326, f327, f328, f329, f330, f331, f332⟩ := q337
    show Go _ _ _ _ _ _ _ _ _ _ _ _ _ _ _ _ _ _ _ _ _ _ (mkF _ 78 #[.val (.int p0), .val (.int p1), .val (.int p2), .val (.int p3), .val (.int p4), .val (.ref s1), .val (.ref s9), .val (.ref s17), .val (.ref s25), .val (.int (3 : Int32)), .val (.ref a277), .unset, .unset, .unset, .unset] [(.int (1 : Int32))])
    refine g_pop C at_78 rfl ?_
    refine g_iload C at_79 rfl ?_
    refine g_iconst (1 : Int32) C at_81 (by decide) ?_
    refine g_icmpT 92 C at_82 (show ¬ (3 : Int32) = (1 : Int32) by decide) (by decide) (by decide) ?_
    refine g_iload C at_92 rfl ?_
    refine g_iconst (2 : Int32) C at_94 (by decide) ?_
    refine g_icmpT 105 C at_95 (show ¬ (3 : Int32) = (2 : Int32) by decide) (by decide) (by decide) ?_
    refine g_aload C at_105 rfl rfl ?_
    refine g_astore #[.val (.int p0), .val (.int p1), .val (.int p2), .val (.int p3), .val (.int p4), .val (.ref s1), .val (.ref s9), .val (.ref s17), .val (.ref s25), .val (.int (3 : Int32)), .val (.ref a277), .val (.ref s17), .unset, .unset, .unset] C at_107 rfl rfl ?_
    refine g_new_ C at_109 (hw _ (List.mem_of_getElem? (i := 81) rfl)) (hw _ (List.mem_of_getElem? (i := 82) rfl)) (hw _ (List.mem_of_getElem? (i := 83) rfl)) (by decide) (by decide) (fun a339 h340 e341 E342 l343 f344 D345 => ?_)
    have K346 := keep_ext E342
    have f347 : Fld Z h340 a339 "com/example/warm_suite/warmsuite/core/engine/Holder" "path" "Ljava/util/List;" .null := D345 (Or.inr (hw _ (List.mem_of_getElem? (i := 180) rfl))) (ty := (.object "java/util/List")) (by decide)
    refine g_dup C at_112 rfl ?_
    refine g_aload C at_113 rfl rfl ?_
    have f357 := (f326.keep K346)
    have f358 := (f327.keep K346 nin0)
    have f359 := (f328.keep K346 nin0)
    have f360 := (f329.keep K346 nin0)
    have f361 := (f330.keep K346)
    have f362 := (f331.keep K346 nin0)
    have f363 := ((((f304.keep K312).keep K325).keep K338).keep K346)
    have f364 := (((f320.keep K325).keep K338).keep K346)
    have f365 := ((f333.keep K338).keep K346)
    refine g_invokespecial [(.ref a277)] [(.ref a339)] 1 C at_115 rfl (hw _ (List.mem_of_getElem? (i := 84) rfl)) (hw _ (List.mem_of_getElem? (i := 85) rfl)) (hw _ (List.mem_of_getElem? (i := 83) rfl)) (hw _ (List.mem_of_getElem? (i := 86) rfl)) (by decide) (m_hInit3 l Z a0 hw S0 hz0 SD SE Ld Le MI a339 a277 b306 s1 s9 s17 _ f357 f358 f359 f360 f361 f362 f363 f364 f365 f344 f347) (lenOf pd24 rfl) rfl rfl (Nat.le_of_ble_eq_true rfl) (by decide) (by decide) (by decide) (by decide) (allS (List.mem_of_getElem? (i := 0) rfl) all0) (fun v366 h367 L368 q369 K370 => ?_)
    obtain ⟨rfl, q348, u355, g349, g356, f350, f351, f352, f353, f354⟩ := q369
    show Go _ _ _ _ _ _ _ _ _ _ _ _ _ _ _ _ _ _ _ _ _ _ (mkF _ 118 #[.val (.int p0), .val (.int p1), .val (.int p2), .val (.int p3), .val (.int p4), .val (.ref s1), .val (.ref s9), .val (.ref s17), .val (.ref s25), .val (.int (3 : Int32)), .val (.ref a277), .val (.ref s17), .unset, .unset, .unset] [(.ref a339)])
    refine g_astore #[.val (.int p0), .val (.int p1), .val (.int p2), .val (.int p3), .val (.int p4), .val (.ref s1), .val (.ref s9), .val (.ref s17), .val (.ref s25), .val (.int (3 : Int32)), .val (.ref a277), .val (.ref s17), .val (.ref a339), .unset, .unset] C at_118 rfl rfl ?_
    refine g_aload C at_120 rfl rfl ?_
    have f371 := (f365.keep K370)
    refine g_invokevirtual [] [] 0 C at_122 (hw _ (List.mem_of_getElem? (i := 181) rfl)) (hw _ (List.mem_of_getElem? (i := 182) rfl)) (hw _ (List.mem_of_getElem? (i := 184) rfl)) (hw _ (List.mem_of_getElem? (i := 183) rfl)) (hw _ (List.mem_of_getElem? (i := 83) rfl)) (hw _ (List.mem_of_getElem? (i := 185) rfl)) (fun _ hZ => notFace_of_selects (args := #[]) (mvT hZ (hw _ (List.mem_of_getElem? (i := 184) rfl)))) (by decide) f350 (m_toString3 l Z a0 hw S0 hz0 SD SE Ld Le MI _ _ _ _ _ _ _ f352 f353 f354 f351 f371) (lenOf pd25 rfl) rfl rfl (Nat.le_of_ble_eq_true rfl) (by decide) (by decide) (by decide) (by decide) all0 (fun v372 h373 L374 q375 K376 => ?_)
    obtain rfl := q375
    show Go _ _ _ _ _ _ _ _ _ _ _ _ _ _ _ _ _ _ _ _ _ _ (mkF _ 125 #[.val (.int p0), .val (.int p1), .val (.int p2), .val (.int p3), .val (.int p4), .val (.ref s1), .val (.ref s9), .val (.ref s17), .val (.ref s25), .val (.int (3 : Int32)), .val (.ref a277), .val (.ref s17), .val (.ref a339), .unset, .unset] [(.ref s17)])
    refine g_astore #[.val (.int p0), .val (.int p1), .val (.int p2), .val (.int p3), .val (.int p4), .val (.ref s1), .val (.ref s9), .val (.ref s17), .val (.ref s25), .val (.int (3 : Int32)), .val (.ref a277), .val (.ref s17), .val (.ref a339), .val (.ref s17), .unset] C at_125 rfl rfl ?_
    refine g_aload C at_127 rfl rfl ?_
    refine g_aload C at_129 rfl rfl ?_
    have f384 := ((f357.keep K370).keep K376)
    have f385 := ((f358.keep K370 (ninS (Nat.ne_of_lt (Nat.lt_of_lt_of_le (Nat.lt_of_lt_of_le l281 (Nat.le_trans (Nat.le_trans (Nat.le_trans K296.1 K312.1) K325.1) K338.1)) (Nat.le_of_eq e341.symm))) nin0)).keep K376 nin0)
    have f386 := ((f359.keep K370 (ninS (Nat.ne_of_lt (Nat.lt_of_lt_of_le (Nat.lt_of_lt_of_le l281 (Nat.le_trans (Nat.le_trans (Nat.le_trans K296.1 K312.1) K325.1) K338.1)) (Nat.le_of_eq e341.symm))) nin0)).keep K376 nin0)
    have f387 := ((f360.keep K370 (ninS (Nat.ne_of_lt (Nat.lt_of_lt_of_le (Nat.lt_of_lt_of_le l281 (Nat.le_trans (Nat.le_trans (Nat.le_trans K296.1 K312.1) K325.1) K338.1)) (Nat.le_of_eq e341.symm))) nin0)).keep K376 nin0)
    have f388 := ((((((((f27.keep K284).keep K296).keep K312).keep K325).keep K338).keep K346).keep K370).keep K376)
    have f389 := ((f361.keep K370).keep K376)
    have f390 := ((f362.keep K370 (ninS (Nat.ne_of_lt (Nat.lt_of_lt_of_le (Nat.lt_of_lt_of_le f302.lt (Nat.le_trans K325.1 K338.1)) (Nat.le_of_eq e341.symm))) nin0)).keep K376 nin0)
    have f391 := (((f332.keep K346).keep K370).keep K376)
    refine g_invokevirtual [(.ref s25)] [] 0 C at_131 (hw _ (List.mem_of_getElem? (i := 50) rfl)) (hw _ (List.mem_of_getElem? (i := 51) rfl)) (hw _ (List.mem_of_getElem? (i := 53) rfl)) (hw _ (List.mem_of_getElem? (i := 52) rfl)) (hw _ (List.mem_of_getElem? (i := 28) rfl)) (hw _ (List.mem_of_getElem? (i := 54) rfl)) (fun _ hZ => notFace_of_selects (args := #[]) (mvT hZ (hw _ (List.mem_of_getElem? (i := 53) rfl)))) (by decide) f384 (m_add_3 l Z a0 hw S0 hz0 SD SE Ld Le MI a277 s25 b306 _ _ _ _ f384 f385 f386 f387 f388 f389 f390 f391 (Nat.ne_of_lt (Nat.lt_of_lt_of_le (Nat.lt_of_lt_of_le l281 K296.1) g307))) (lenOf pd23 rfl) rfl rfl (Nat.le_of_ble_eq_true rfl) (by decide) (by decide) (by decide) (by decide) (allS (List.mem_of_getElem? (i := 2) rfl) (allS (List.mem_of_getElem? (i := 1) rfl) all0)) (fun v392 h393 L394 q395 K396 => ?_)
    obtain ⟨rfl, f377, f378, f379, f380, f381, f382, f383⟩ := q395
    show Go _ _ _ _ _ _ _ _ _ _ _ _ _ _ _ _ _ _ _ _ _ _ (mkF _ 134 #[.val (.int p0), .val (.int p1), .val (.int p2), .val (.int p3), .val (.int p4), .val (.ref s1), .val (.ref s9), .val (.ref s17), .val (.ref s25), .val (.int (3 : Int32)), .val (.ref a277), .val (.ref s17), .val (.ref a339), .val (.ref s17), .unset] [(.int (1 : Int32))])
    refine g_pop C at_134 rfl ?_
    refine g_aload C at_135 rfl rfl ?_
    have f397 := ((f352.keep K376).keep K396)
    have f398 := ((f353.keep K376 nin0).keep K396 (ninS (Nat.ne_of_gt (Nat.lt_of_lt_of_le (Nat.lt_of_lt_of_le l281 (Nat.le_trans (Nat.le_trans (Nat.le_trans (Nat.le_trans K296.1 K312.1) K325.1) K338.1) K346.1)) g349)) (ninS (Nat.ne_of_gt (Nat.lt_of_lt_of_le (Nat.lt_of_lt_of_le f302.lt (Nat.le_trans (Nat.le_trans K325.1 K338.1) K346.1)) g349)) nin0)))
    have f399 := ((f354.keep K376 nin0).keep K396 (ninS (Nat.ne_of_gt (Nat.lt_of_lt_of_le (Nat.lt_of_lt_of_le l281 (Nat.le_trans (Nat.le_trans (Nat.le_trans (Nat.le_trans K296.1 K312.1) K325.1) K338.1) K346.1)) g356)) (ninS (Nat.ne_of_gt (Nat.lt_of_lt_of_le (Nat.lt_of_lt_of_le f302.lt (Nat.le_trans (Nat.le_trans K325.1 K338.1) K346.1)) g356)) nin0)))
    have f400 := ((f351.keep K376 nin0).keep K396 (ninS (Nat.ne_of_gt (Nat.lt_of_lt_of_le (Nat.lt_of_lt_of_le l281 (Nat.le_trans (Nat.le_trans (Nat.le_trans K296.1 K312.1) K325.1) K338.1)) (Nat.le_of_eq e341.symm))) (ninS (Nat.ne_of_gt (Nat.lt_of_lt_of_le (Nat.lt_of_lt_of_le f302.lt (Nat.le_trans K325.1 K338.1)) (Nat.le_of_eq e341.symm))) nin0)))
    have f401 := ((f371.keep K376).keep K396)
    have f407 := ((f350.keep K376).keep K396)
    refine g_invokevirtual [] [] 0 C at_137 (hw _ (List.mem_of_getElem? (i := 181) rfl)) (hw _ (List.mem_of_getElem? (i := 182) rfl)) (hw _ (List.mem_of_getElem? (i := 184) rfl)) (hw _ (List.mem_of_getElem? (i := 183) rfl)) (hw _ (List.mem_of_getElem? (i := 83) rfl)) (hw _ (List.mem_of_getElem? (i := 185) rfl)) (fun _ hZ => notFace_of_selects (args := #[]) (mvT hZ (hw _ (List.mem_of_getElem? (i := 184) rfl)))) (by decide) f407 (m_toString3 l Z a0 hw S0 hz0 SD SE Ld Le MI _ _ _ _ _ _ _ f397 f398 f399 f400 f401) (lenOf pd25 rfl) rfl rfl (Nat.le_of_ble_eq_true rfl) (by decide) (by decide) (by decide) (by decide) all0 (fun v402 h403 L404 q405 K406 => ?_)
    obtain rfl := q405
    show Go _ _ _ _ _ _ _ _ _ _ _ _ _ _ _ _ _ _ _ _ _ _ (mkF _ 140 #[.val (.int p0), .val (.int p1), .val (.int p2), .val (.int p3), .val (.int p4), .val (.ref s1), .val (.ref s9), .val (.ref s17), .val (.ref s25), .val (.int (3 : Int32)), .val (.ref a277), .val (.ref s17), .val (.ref a339), .val (.ref s17), .unset] [(.ref s17)])
    refine g_astore #[.val (.int p0), .val (.int p1), .val (.int p2), .val (.int p3), .val (.int p4), .val (.ref s1), .val (.ref s9), .val (.ref s17), .val (.ref s25), .val (.int (3 : Int32)), .val (.ref a277), .val (.ref s17), .val (.ref a339), .val (.ref s17), .val (.ref s17)] C at_140 rfl rfl ?_
    refine g_aload C at_142 rfl rfl ?_
    refine g_aload C at_144 rfl rfl ?_
    have f413 := (f401.keep K406)
    refine g_invokevirtual [(.ref s17)] [] 0 C at_146 (hw _ (List.mem_of_getElem? (i := 204) rfl)) (hw _ (List.mem_of_getElem? (i := 205) rfl)) (hw _ (List.mem_of_getElem? (i := 207) rfl)) (hw _ (List.mem_of_getElem? (i := 206) rfl)) (hw _ (List.mem_of_getElem? (i := 6) rfl)) (hw _ (List.mem_of_getElem? (i := 208) rfl)) (fun _ hZ => notFace_of_selects (args := #[]) (mvT hZ (hw _ (List.mem_of_getElem? (i := 207) rfl)))) (by decide) f413 (m_equals l Z a0 hw S0 hz0 SD SE Ld Le MI _ _) (lenOf pd23 rfl) rfl rfl (Nat.le_of_ble_eq_true rfl) (by decide) (by decide) (by decide) (by decide) all0 (fun v408 h409 L410 q411 K412 => ?_)
    obtain rfl := q411
    show Go _ _ _ _ _ _ _ _ _ _ _ _ _ _ _ _ _ _ _ _ _ _ (mkF _ 149 #[.val (.int p0), .val (.int p1), .val (.int p2), .val (.int p3), .val (.int p4), .val (.ref s1), .val (.ref s9), .val (.ref s17), .val (.ref s25), .val (.int (3 : Int32)), .val (.ref a277), .val (.ref s17), .val (.ref a339), .val (.ref s17), .val (.ref s17)] [(.int (1 : Int32))])
    refine g_ifF C at_149 (show ¬ (1 : Int32) = (0 : Int32) by decide) ?_
    refine g_aload C at_152 rfl rfl ?_
    refine g_aload C at_154 rfl rfl ?_
    have f419 := (f413.keep K412)
    refine g_invokevirtual [(.ref s17)] [] 0 C at_156 (hw _ (List.mem_of_getElem? (i := 204) rfl)) (hw _ (List.mem_of_getElem? (i := 205) rfl)) (hw _ (List.mem_of_getElem? (i := 207) rfl)) (hw _ (List.mem_of_getElem? (i := 206) rfl)) (hw _ (List.mem_of_getElem? (i := 6) rfl)) (hw _ (List.mem_of_getElem? (i := 208) rfl)) (fun _ hZ => notFace_of_selects (args := #[]) (mvT hZ (hw _ (List.mem_of_getElem? (i := 207) rfl)))) (by decide) f419 (m_equals l Z a0 hw S0 hz0 SD SE Ld Le MI _ _) (lenOf pd23 rfl) rfl rfl (Nat.le_of_ble_eq_true rfl) (by decide) (by decide) (by decide) (by decide) all0 (fun v414 h415 L416 q417 K418 => ?_)
    obtain rfl := q417
    show Go _ _ _ _ _ _ _ _ _ _ _ _ _ _ _ _ _ _ _ _ _ _ (mkF _ 159 #[.val (.int p0), .val (.int p1), .val (.int p2), .val (.int p3), .val (.int p4), .val (.ref s1), .val (.ref s9), .val (.ref s17), .val (.ref s25), .val (.int (3 : Int32)), .val (.ref a277), .val (.ref s17), .val (.ref a339), .val (.ref s17), .val (.ref s17)] [(.int (1 : Int32))])
    refine g_ifF C at_159 (show ¬ (1 : Int32) = (0 : Int32) by decide) ?_
    refine g_iconst (1 : Int32) C at_162 (by decide) ?_
    refine g_goto 167 C at_163 (by decide) (by decide) ?_
    exact g_retN C at_167 (by simp) rfl (by decide) (by decide)
  · skip
    refine g_iconst (3 : Int32) C at_28 (by decide) ?_
    refine g_irem (0 : Int32) C at_29 (by decide) (by decide) ?_
    refine g_iconst (1 : Int32) C at_30 (by decide) ?_
    refine g_iadd (1 : Int32) C at_31 (by decide) ?_
    refine g_istore #[.val (.int p0), .val (.int p1), .val (.int p2), .val (.int p3), .val (.int p4), .val (.ref s1), .val (.ref s9), .val (.ref s17), .val (.ref s25), .val (.int (1 : Int32)), .unset, .unset, .unset, .unset, .unset] C at_32 rfl ?_
    refine g_new_ C at_34 (hw _ (List.mem_of_getElem? (i := 26) rfl)) (hw _ (List.mem_of_getElem? (i := 27) rfl)) (hw _ (List.mem_of_getElem? (i := 28) rfl)) (by decide) (by decide) (fun a420 h421 e422 E423 l424 f425 D426 => ?_)
    have K427 := keep_ext E423
    have f428 : Fld Z h421 a420 "java/util/AbstractList" "modCount" "I" (.int (0 : Int32)) := D426 (Or.inl (hw _ (List.mem_of_getElem? (i := 46) rfl))) (ty := .int) (by decide)
    have f429 : Fld Z h421 a420 "java/util/ArrayList" "elementData" "[Ljava/lang/Object;" .null := D426 (Or.inl (hw _ (List.mem_of_getElem? (i := 49) rfl))) (ty := (.array (.object "java/lang/Object"))) (by decide)
    have f430 : Fld Z h421 a420 "java/util/ArrayList" "size" "I" (.int (0 : Int32)) := D426 (Or.inl (hw _ (List.mem_of_getElem? (i := 58) rfl))) (ty := .int) (by decide)
    refine g_dup C at_37 rfl ?_
    refine g_invokespecial [] [(.ref a420)] 1 C at_38 rfl (hw _ (List.mem_of_getElem? (i := 29) rfl)) (hw _ (List.mem_of_getElem? (i := 30) rfl)) (hw _ (List.mem_of_getElem? (i := 28) rfl)) (hw _ (List.mem_of_getElem? (i := 31) rfl)) (by decide) (m_alInit l Z a0 hw S0 hz0 SD SE Ld Le MI a420 _ f425 f428 f429 f430) (lenOf pd6 rfl) rfl rfl (Nat.le_of_ble_eq_true rfl) (by decide) (by decide) (by decide) (by decide) (allS (List.mem_of_getElem? (i := 0) rfl) all0) (fun v435 h436 L437 q438 K439 => ?_)
    obtain ⟨rfl, f431, f432, f433, f434⟩ := q438
    show Go _ _ _ _ _ _ _ _ _ _ _ _ _ _ _ _ _ _ _ _ _ _ (mkF _ 41 #[.val (.int p0), .val (.int p1), .val (.int p2), .val (.int p3), .val (.int p4), .val (.ref s1), .val (.ref s9), .val (.ref s17), .val (.ref s25), .val (.int (1 : Int32)), .unset, .unset, .unset, .unset, .unset] [(.ref a420)])
    refine g_astore #[.val (.int p0), .val (.int p1), .val (.int p2), .val (.int p3), .val (.int p4), .val (.ref s1), .val (.ref s9), .val (.ref s17), .val (.ref s25), .val (.int (1 : Int32)), .val (.ref a420), .unset, .unset, .unset, .unset] C at_41 rfl rfl ?_
    refine g_aload C at_43 rfl rfl ?_
    refine g_aload C at_45 rfl rfl ?_
    have f447 := (((((f3.keep K16).keep K24).keep K32).keep K427).keep K439)
    have f448 := ((((((ADh.keep K8 nin0).keep K16 nin0).keep K24 nin0).keep K32 nin0).keep K427 nin0).keep K439 (ninS (Nat.ne_of_lt (Nat.lt_of_lt_of_le (Nat.lt_of_lt_of_le (Nat.lt_of_lt_of_le Ld hX.1) (Nat.le_trans (Nat.le_trans (Nat.le_trans K8.1 K16.1) K24.1) K32.1)) (Nat.le_of_eq e422.symm))) nin0))
    refine g_invokevirtual [(.ref s1)] [] 0 C at_47 (hw _ (List.mem_of_getElem? (i := 50) rfl)) (hw _ (List.mem_of_getElem? (i := 51) rfl)) (hw _ (List.mem_of_getElem? (i := 53) rfl)) (hw _ (List.mem_of_getElem? (i := 52) rfl)) (hw _ (List.mem_of_getElem? (i := 28) rfl)) (hw _ (List.mem_of_getElem? (i := 54) rfl)) (fun _ hZ => notFace_of_selects (args := #[]) (mvT hZ (hw _ (List.mem_of_getElem? (i := 53) rfl)))) (by decide) f431 (m_add_0 l Z a0 hw S0 hz0 SD SE Ld Le MI a420 s1 _ f431 f432 f433 f434 f447 f448) (lenOf pd23 rfl) rfl rfl (Nat.le_of_ble_eq_true rfl) (by decide) (by decide) (by decide) (by decide) (allS (List.mem_of_getElem? (i := 0) rfl) all0) (fun v451 h452 L453 q454 K455 => ?_)
    obtain ⟨rfl, b449, g450, f440, f441, f442, f443, f444, f445, f446⟩ := q454
    refine Go.take f444 (by decide) (by decide) (Nat.le_trans hX.1 (Nat.le_trans (Nat.le_trans (Nat.le_trans (Nat.le_trans (Nat.le_trans (Nat.le_trans K8.1 K16.1) K24.1) K32.1) K427.1) K439.1) g450)) (by rw [hs0]; exact (Nat.le_trans (Nat.le_trans (Nat.le_trans (Nat.le_trans (Nat.le_trans (Nat.le_trans K8.1 K16.1) K24.1) K32.1) K427.1) K439.1) g450)) ?_
    show Go _ _ _ _ _ _ _ _ _ _ _ _ _ _ _ _ _ _ _ _ _ _ (mkF _ 50 #[.val (.int p0), .val (.int p1), .val (.int p2), .val (.int p3), .val (.int p4), .val (.ref s1), .val (.ref s9), .val (.ref s17), .val (.ref s25), .val (.int (1 : Int32)), .val (.ref a420), .unset, .unset, .unset, .unset] [(.int (1 : Int32))])
    refine g_pop C at_50 rfl ?_
    refine g_iload C at_51 rfl ?_
    refine g_iconst (2 : Int32) C at_53 (by decide) ?_
    refine g_icmpT 65 C at_54 (show (1 : Int32) < (2 : Int32) by decide) (by decide) (by decide) ?_
    refine g_iload C at_65 rfl ?_
    refine g_iconst (3 : Int32) C at_67 (by decide) ?_
    refine g_icmpT 79 C at_68 (show (1 : Int32) < (3 : Int32) by decide) (by decide) (by decide) ?_
    refine g_iload C at_79 rfl ?_
    refine g_iconst (1 : Int32) C at_81 (by decide) ?_
    refine g_icmpF C at_82 (show (1 : Int32) = (1 : Int32) by decide) ?_
    refine g_aload C at_85 rfl rfl ?_
    refine g_astore #[.val (.int p0), .val (.int p1), .val (.int p2), .val (.int p3), .val (.int p4), .val (.ref s1), .val (.ref s9), .val (.ref s17), .val (.ref s25), .val (.int (1 : Int32)), .val (.ref a420), .val (.ref s1), .unset, .unset, .unset] C at_87 rfl rfl ?_
    refine g_goto 109 C at_89 (by decide) (by decide) ?_
    refine g_new_ C at_109 (hw _ (List.mem_of_getElem? (i := 81) rfl)) (hw _ (List.mem_of_getElem? (i := 82) rfl)) (hw _ (List.mem_of_getElem? (i := 83) rfl)) (by decide) (by decide) (fun a456 h457 e458 E459 l460 f461 D462 => ?_)
    have K463 := keep_ext E459
    have f464 : Fld Z h457 a456 "com/example/warm_suite/warmsuite/core/engine/Holder" "path" "Ljava/util/List;" .null := D462 (Or.inr (hw _ (List.mem_of_getElem? (i := 180) rfl))) (ty := (.object "java/util/List")) (by decide)
    refine g_dup C at_112 rfl ?_
    refine g_aload C at_113 rfl rfl ?_
    have f474 := (f440.keep K463)
    have f475 := (f441.keep K463 nin0)
    have f476 := (f442.keep K463 nin0)
    have f477 := (f443.keep K463 nin0)
    have f478 := (f444.keep K463)
    have f479 := (f445.keep K463 nin0)
    have f480 := ((f447.keep K455).keep K463)
    refine g_invokespecial [(.ref a420)] [(.ref a456)] 1 C at_115 rfl (hw _ (List.mem_of_getElem? (i := 84) rfl)) (hw _ (List.mem_of_getElem? (i := 85) rfl)) (hw _ (List.mem_of_getElem? (i := 83) rfl)) (hw _ (List.mem_of_getElem? (i := 86) rfl)) (by decide) (m_hInit1 l Z a0 hw S0 hz0 SD SE Ld Le MI a456 a420 b449 s1 _ f474 f475 f476 f477 f478 f479 f480 f461 f464) (lenOf pd24 rfl) rfl rfl (Nat.le_of_ble_eq_true rfl) (by decide) (by decide) (by decide) (by decide) (allS (List.mem_of_getElem? (i := 0) rfl) all0) (fun v481 h482 L483 q484 K485 => ?_)
    obtain ⟨rfl, q465, g466, f467, f468, f469, f470, f471⟩ := q484
    show Go _ _ _ _ _ _ _ _ _ _ _ _ _ _ _ _ _ _ _ _ _ _ (mkF _ 118 #[.val (.int p0), .val (.int p1), .val (.int p2), .val (.int p3), .val (.int p4), .val (.ref s1), .val (.ref s9), .val (.ref s17), .val (.ref s25), .val (.int (1 : Int32)), .val (.ref a420), .val (.ref s1), .unset, .unset, .unset] [(.ref a456)])
    refine g_astore #[.val (.int p0), .val (.int p1), .val (.int p2), .val (.int p3), .val (.int p4), .val (.ref s1), .val (.ref s9), .val (.ref s17), .val (.ref s25), .val (.int (1 : Int32)), .val (.ref a420), .val (.ref s1), .val (.ref a456), .unset, .unset] C at_118 rfl rfl ?_
    refine g_aload C at_120 rfl rfl ?_
    have f486 := (f480.keep K485)
    refine g_invokevirtual [] [] 0 C at_122 (hw _ (List.mem_of_getElem? (i := 181) rfl)) (hw _ (List.mem_of_getElem? (i := 182) rfl)) (hw _ (List.mem_of_getElem? (i := 184) rfl)) (hw _ (List.mem_of_getElem? (i := 183) rfl)) (hw _ (List.mem_of_getElem? (i := 83) rfl)) (hw _ (List.mem_of_getElem? (i := 185) rfl)) (fun _ hZ => notFace_of_selects (args := #[]) (mvT hZ (hw _ (List.mem_of_getElem? (i := 184) rfl)))) (by decide) f467 (m_toString1 l Z a0 hw S0 hz0 SD SE Ld Le MI _ _ _ _ f469 f470 f471 f468 f486) (lenOf pd25 rfl) rfl rfl (Nat.le_of_ble_eq_true rfl) (by decide) (by decide) (by decide) (by decide) all0 (fun v487 h488 L489 q490 K491 => ?_)
    obtain rfl := q490
    show Go _ _ _ _ _ _ _ _ _ _ _ _ _ _ _ _ _ _ _ _ _ _ (mkF _ 125 #[.val (.int p0), .val (.int p1), .val (.int p2), .val (.int p3), .val (.int p4), .val (.ref s1), .val (.ref s9), .val (.ref s17), .val (.ref s25), .val (.int (1 : Int32)), .val (.ref a420), .val (.ref s1), .val (.ref a456), .unset, .unset] [(.ref s1)])
    refine g_astore #[.val (.int p0), .val (.int p1), .val (.int p2), .val (.int p3), .val (.int p4), .val (.ref s1), .val (.ref s9), .val (.ref s17), .val (.ref s25), .val (.int (1 : Int32)), .val (.ref a420), .val (.ref s1), .val (.ref a456), .val (.ref s1), .unset] C at_125 rfl rfl ?_
    refine g_aload C at_127 rfl rfl ?_
    refine g_aload C at_129 rfl rfl ?_
    have f499 := ((f474.keep K485).keep K491)
    have f500 := ((f475.keep K485 (ninS (Nat.ne_of_lt (Nat.lt_of_lt_of_le (Nat.lt_of_lt_of_le l424 (Nat.le_trans K439.1 K455.1)) (Nat.le_of_eq e458.symm))) nin0)).keep K491 nin0)
    have f501 := ((f476.keep K485 (ninS (Nat.ne_of_lt (Nat.lt_of_lt_of_le (Nat.lt_of_lt_of_le l424 (Nat.le_trans K439.1 K455.1)) (Nat.le_of_eq e458.symm))) nin0)).keep K491 nin0)
    have f502 := ((f477.keep K485 (ninS (Nat.ne_of_lt (Nat.lt_of_lt_of_le (Nat.lt_of_lt_of_le l424 (Nat.le_trans K439.1 K455.1)) (Nat.le_of_eq e458.symm))) nin0)).keep K491 nin0)
    have f503 := ((((((f27.keep K427).keep K439).keep K455).keep K463).keep K485).keep K491)
    have f504 := ((f478.keep K485).keep K491)
    have f505 := ((f479.keep K485 (ninS (Nat.ne_of_lt (Nat.lt_of_lt_of_le f445.lt (Nat.le_of_eq e458.symm))) nin0)).keep K491 nin0)
    have f506 := (((f446.keep K463).keep K485).keep K491)
    refine g_invokevirtual [(.ref s25)] [] 0 C at_131 (hw _ (List.mem_of_getElem? (i := 50) rfl)) (hw _ (List.mem_of_getElem? (i := 51) rfl)) (hw _ (List.mem_of_getElem? (i := 53) rfl)) (hw _ (List.mem_of_getElem? (i := 52) rfl)) (hw _ (List.mem_of_getElem? (i := 28) rfl)) (hw _ (List.mem_of_getElem? (i := 54) rfl)) (fun _ hZ => notFace_of_selects (args := #[]) (mvT hZ (hw _ (List.mem_of_getElem? (i := 53) rfl)))) (by decide) f499 (m_add_1 l Z a0 hw S0 hz0 SD SE Ld Le MI a420 s25 b449 _ _ f499 f500 f501 f502 f503 f504 f505 f506 (Nat.ne_of_lt (Nat.lt_of_lt_of_le (Nat.lt_of_lt_of_le l424 K439.1) g450))) (lenOf pd23 rfl) rfl rfl (Nat.le_of_ble_eq_true rfl) (by decide) (by decide) (by decide) (by decide) (allS (List.mem_of_getElem? (i := 2) rfl) (allS (List.mem_of_getElem? (i := 1) rfl) all0)) (fun v507 h508 L509 q510 K511 => ?_)
    obtain ⟨rfl, f492, f493, f494, f495, f496, f497, f498⟩ := q510
    show Go _ _ _ _ _ _ _ _ _ _ _ _ _ _ _ _ _ _ _ _ _ _ (mkF _ 134 #[.val (.int p0), .val (.int p1), .val (.int p2), .val (.int p3), .val (.int p4), .val (.ref s1), .val (.ref s9), .val (.ref s17), .val (.ref s25), .val (.int (1 : Int32)), .val (.ref a420), .val (.ref s1), .val (.ref a456), .val (.ref s1), .unset] [(.int (1 : Int32))])
    refine g_pop C at_134 rfl ?_
    refine g_aload C at_135 rfl rfl ?_
    have f512 := ((f469.keep K491).keep K511)
    have f513 := ((f470.keep K491 nin0).keep K511 (ninS (Nat.ne_of_gt (Nat.lt_of_lt_of_le (Nat.lt_of_lt_of_le l424 (Nat.le_trans (Nat.le_trans K439.1 K455.1) K463.1)) g466)) (ninS (Nat.ne_of_gt (Nat.lt_of_lt_of_le (Nat.lt_of_lt_of_le f445.lt K463.1) g466)) nin0)))
    have f514 := ((f471.keep K491 nin0).keep K511 (ninS (Nat.ne_of_gt (Nat.lt_of_lt_of_le (Nat.lt_of_lt_of_le l424 (Nat.le_trans (Nat.le_trans K439.1 K455.1) K463.1)) g466)) (ninS (Nat.ne_of_gt (Nat.lt_of_lt_of_le (Nat.lt_of_lt_of_le f445.lt K463.1) g466)) nin0)))
    have f515 := ((f468.keep K491 nin0).keep K511 (ninS (Nat.ne_of_gt (Nat.lt_of_lt_of_le (Nat.lt_of_lt_of_le l424 (Nat.le_trans K439.1 K455.1)) (Nat.le_of_eq e458.symm))) (ninS (Nat.ne_of_gt (Nat.lt_of_lt_of_le f445.lt (Nat.le_of_eq e458.symm))) nin0)))
    have f516 := ((f486.keep K491).keep K511)
    have f522 := ((f467.keep K491).keep K511)
    refine g_invokevirtual [] [] 0 C at_137 (hw _ (List.mem_of_getElem? (i := 181) rfl)) (hw _ (List.mem_of_getElem? (i := 182) rfl)) (hw _ (List.mem_of_getElem? (i := 184) rfl)) (hw _ (List.mem_of_getElem? (i := 183) rfl)) (hw _ (List.mem_of_getElem? (i := 83) rfl)) (hw _ (List.mem_of_getElem? (i := 185) rfl)) (fun _ hZ => notFace_of_selects (args := #[]) (mvT hZ (hw _ (List.mem_of_getElem? (i := 184) rfl)))) (by decide) f522 (m_toString1 l Z a0 hw S0 hz0 SD SE Ld Le MI _ _ _ _ f512 f513 f514 f515 f516) (lenOf pd25 rfl) rfl rfl (Nat.le_of_ble_eq_true rfl) (by decide) (by decide) (by decide) (by decide) all0 (fun v517 h518 L519 q520 K521 => ?_)
    obtain rfl := q520
    show Go _ _ _ _ _ _ _ _ _ _ _ _ _ _ _ _ _ _ _ _ _ _ (mkF _ 140 #[.val (.int p0), .val (.int p1), .val (.int p2), .val (.int p3), .val (.int p4), .val (.ref s1), .val (.ref s9), .val (.ref s17), .val (.ref s25), .val (.int (1 : Int32)), .val (.ref a420), .val (.ref s1), .val (.ref a456), .val (.ref s1), .unset] [(.ref s1)])
    refine g_astore #[.val (.int p0), .val (.int p1), .val (.int p2), .val (.int p3), .val (.int p4), .val (.ref s1), .val (.ref s9), .val (.ref s17), .val (.ref s25), .val (.int (1 : Int32)), .val (.ref a420), .val (.ref s1), .val (.ref a456), .val (.ref s1), .val (.ref s1)] C at_140 rfl rfl ?_
    refine g_aload C at_142 rfl rfl ?_
    refine g_aload C at_144 rfl rfl ?_
    have f528 := (f516.keep K521)
    refine g_invokevirtual [(.ref s1)] [] 0 C at_146 (hw _ (List.mem_of_getElem? (i := 204) rfl)) (hw _ (List.mem_of_getElem? (i := 205) rfl)) (hw _ (List.mem_of_getElem? (i := 207) rfl)) (hw _ (List.mem_of_getElem? (i := 206) rfl)) (hw _ (List.mem_of_getElem? (i := 6) rfl)) (hw _ (List.mem_of_getElem? (i := 208) rfl)) (fun _ hZ => notFace_of_selects (args := #[]) (mvT hZ (hw _ (List.mem_of_getElem? (i := 207) rfl)))) (by decide) f528 (m_equals l Z a0 hw S0 hz0 SD SE Ld Le MI _ _) (lenOf pd23 rfl) rfl rfl (Nat.le_of_ble_eq_true rfl) (by decide) (by decide) (by decide) (by decide) all0 (fun v523 h524 L525 q526 K527 => ?_)
    obtain rfl := q526
    show Go _ _ _ _ _ _ _ _ _ _ _ _ _ _ _ _ _ _ _ _ _ _ (mkF _ 149 #[.val (.int p0), .val (.int p1), .val (.int p2), .val (.int p3), .val (.int p4), .val (.ref s1), .val (.ref s9), .val (.ref s17), .val (.ref s25), .val (.int (1 : Int32)), .val (.ref a420), .val (.ref s1), .val (.ref a456), .val (.ref s1), .val (.ref s1)] [(.int (1 : Int32))])
    refine g_ifF C at_149 (show ¬ (1 : Int32) = (0 : Int32) by decide) ?_
    refine g_aload C at_152 rfl rfl ?_
    refine g_aload C at_154 rfl rfl ?_
    have f534 := (f528.keep K527)
    refine g_invokevirtual [(.ref s1)] [] 0 C at_156 (hw _ (List.mem_of_getElem? (i := 204) rfl)) (hw _ (List.mem_of_getElem? (i := 205) rfl)) (hw _ (List.mem_of_getElem? (i := 207) rfl)) (hw _ (List.mem_of_getElem? (i := 206) rfl)) (hw _ (List.mem_of_getElem? (i := 6) rfl)) (hw _ (List.mem_of_getElem? (i := 208) rfl)) (fun _ hZ => notFace_of_selects (args := #[]) (mvT hZ (hw _ (List.mem_of_getElem? (i := 207) rfl)))) (by decide) f534 (m_equals l Z a0 hw S0 hz0 SD SE Ld Le MI _ _) (lenOf pd23 rfl) rfl rfl (Nat.le_of_ble_eq_true rfl) (by decide) (by decide) (by decide) (by decide) all0 (fun v529 h530 L531 q532 K533 => ?_)
    obtain rfl := q532
    show Go _ _ _ _ _ _ _ _ _ _ _ _ _ _ _ _ _ _ _ _ _ _ (mkF _ 159 #[.val (.int p0), .val (.int p1), .val (.int p2), .val (.int p3), .val (.int p4), .val (.ref s1), .val (.ref s9), .val (.ref s17), .val (.ref s25), .val (.int (1 : Int32)), .val (.ref a420), .val (.ref s1), .val (.ref a456), .val (.ref s1), .val (.ref s1)] [(.int (1 : Int32))])
    refine g_ifF C at_159 (show ¬ (1 : Int32) = (0 : Int32) by decide) ?_
    refine g_iconst (1 : Int32) C at_162 (by decide) ?_
    refine g_goto 167 C at_163 (by decide) (by decide) ?_
    exact g_retN C at_167 (by simp) rfl (by decide) (by decide)
theorem own_dc {Z : State} {a0 : Array Value} {t : Term} {dc : Addr} (ev : t.eval a0 Z none [] Z = some (.ref dc)) (w1 : (Cond.arrayOf t (.object "java/lang/Object")).before a0 Z = true) (w2 : (Cond.eq (.length t) (.int 0)).before a0 Z = true) : Av Z Z.heap dc (.object "java/lang/Object") [] := by
  obtain ⟨c, A⟩ := Arr.start ev (Cond.before_iff.mp w1)
  have L : (Term.length t).eval a0 Z none [] Z = some (.int 0) := eqv_i (Term.int_eval 0) (Cond.before_iff.mp w2)
  simp only [Term.eval, ev, Option.bind_eq_bind, Option.bind_some] at L
  obtain ⟨cell, h1, h2⟩ := Option.bind_eq_some_iff.mp L
  have h3 := (State.arrayAt?_spec h1).1
  cases A.1.symm.trans h3
  split at h2
  · rename_i hlt
    have e1 : c.slots.size.toInt32 = 0 := Value.int.inj (Option.some.inj h2)
    have e2 := congrArg Int32.toInt e1
    rw [show c.slots.size.toInt32.toInt = c.slots.size from Int32.toInt_ofNat_of_lt hlt] at e2
    have e3 : c.slots.size = 0 := by
      have : (0 : Int32).toInt = 0 := rfl
      omega
    refine ⟨c, A, ?_, by decide, fun _ q => nomatch q⟩
    simpa using e3
  · cases h2
set_option maxRecDepth 65536 in
set_option maxHeartbeats 40000000 in
theorem comes_1 {Post : Tables → Env → Array Value → State → Outcome → State → Prop} (hpost : ∀ tb e args s v u, (limb_1_1.after args s (.returned v) u = true ∧ limb_1_2.after args s (.returned v) u = true ∧ True) → ReturnedEndW s (.returned v) u (Jvm.fieldLocs frame_1_writes args s ++ Jvm.arrayLocs frame_1_arrays args s ++ Jvm.staticLocs frame_1_statics s) 48 1216 → Post tb e args s (.returned v) u) :
    ArmFor flags0 classFile x code maxLocals ret World_1 tables_1 room_1 Calls_1 rest_1 Pre_1 Post := by
  intro l hfl _ _ p e ha hc hk s m args below hf hA hF happ hP
  obtain ⟨hcalls, hrest, hpre⟩ := hP
  obtain ⟨-, -, -, hnamed, -, -, -, hat⟩ := (Spec.applies_iff hf).mp happ
  obtain ⟨hg, hn⟩ := and_e (Cond.before_iff.mp (show (Jvm.Cond.and given_1 narrow_1).before args s = true from hpre))
  obtain ⟨h1, h2⟩ := and_e hg
  obtain ⟨g0, h2⟩ := and_e h2
  obtain ⟨g1, h2⟩ := and_e h2
  obtain ⟨g2, h2⟩ := and_e h2
  obtain ⟨g3, g4⟩ := and_e h2
  obtain ⟨w0, w1, w2, w3, w4, rfl⟩ : ∃ w0 w1 w2 w3 w4 : Value, args = #[w0, w1, w2, w3, w4] := by
    have hs : args.size = 5 := by simpa [Cond.value, given_1] using h1
    obtain ⟨L⟩ := args
    match L, hs with
    | [w0, w1, w2, w3, w4], _ => exact ⟨w0, w1, w2, w3, w4, rfl⟩
  have hw := fun d (hd : d ∈ tables_1) => atoms_spec (ws := Jvm.Cond.code x code maxLocals ret :: tables_1) hat d (List.mem_cons_of_mem _ hd)
  obtain ⟨i0, e0⟩ := is_v g0
  obtain rfl : w0 = (.int i0) := Option.some.inj e0
  obtain ⟨i1, e1⟩ := is_v g1
  obtain rfl : w1 = (.int i1) := Option.some.inj e1
  obtain ⟨i2, e2⟩ := is_v g2
  obtain rfl : w2 = (.int i2) := Option.some.inj e2
  obtain ⟨i3, e3⟩ := is_v g3
  obtain rfl : w3 = (.int i3) := Option.some.inj e3
  obtain ⟨i4, e4⟩ := is_v g4
  obtain rfl : w4 = (.int i4) := Option.some.inj e4
  obtain ⟨hsets, hown0⟩ := atoms_of _ (rest_1_c_eq ▸ (show rest_1_c.before _ s = true from hrest))
  have n5 := not_v (Cond.before_iff.mp (hsets _ (List.mem_of_getElem? (i := 20) rfl)))
  obtain ⟨i11, e10⟩ := is_v (Cond.before_iff.mp (hsets _ (List.mem_of_getElem? (i := 19) rfl)))
  have S0 : Sta s s.heap "java/lang/String" "COMPACT_STRINGS" "Z" (.int i11) := Sta.start e10 (Or.inl (hsets _ (List.mem_of_getElem? (i := 18) rfl)))
  have c17 : ¬ (i11 = (0 : Int32)) := gotF (Cond.eq_ints e10 (Term.int_eval (0))) n5
  obtain ⟨qm, km, mir, m1, m2, m3, -⟩ := hcalls.1
  have MI : MirC s "[Ljava/lang/Object;" mir := ⟨qm, km, m1, m2, m3⟩
  obtain ⟨dc, _, _, _, d1, -⟩ := Cond.exactly_spec (hsets _ (List.mem_of_getElem? (i := 7) rfl))
  obtain ⟨em, _, _, _, d2, -⟩ := Cond.exactly_spec (hsets _ (List.mem_of_getElem? (i := 11) rfl))
  have SD : Sta s s.heap "java/util/ArrayList" "DEFAULTCAPACITY_EMPTY_ELEMENTDATA" "[Ljava/lang/Object;" (.ref dc) := Sta.start d1 (Or.inr ⟨(hw _ (List.mem_of_getElem? (i := 28) rfl)), (hsets _ (List.mem_of_getElem? (i := 2) rfl))⟩)
  have SE : Sta s s.heap "java/util/ImmutableCollections" "EMPTY" "Ljava/lang/Object;" (.ref em) := Sta.start d2 (Or.inl (hsets _ (List.mem_of_getElem? (i := 10) rfl)))
  have XD : Exa s s.heap dc "[Ljava/lang/Object;" := Exa.start d1 (Cond.before_iff.mp (hsets _ (List.mem_of_getElem? (i := 7) rfl)))
  have XE : Exa s s.heap em "java/lang/Object" := Exa.start d2 (Cond.before_iff.mp (hsets _ (List.mem_of_getElem? (i := 11) rfl)))
  have AD : Av s s.heap dc (.object "java/lang/Object") [] := own_dc d1 (hsets _ (List.mem_of_getElem? (i := 6) rfl)) (hsets _ (List.mem_of_getElem? (i := 8) rfl))
  have hheld : CHv s [("java/lang/String", 7)] s.vm s.heap := CHv.start (own_EW hw) (fun q hq => hcalls.2.1 q ((by decide : ∀ q ∈ ([("java/lang/String", 7)] : List (String × Nat)), q ∈ consts_1) q hq)) (hsets _ (List.mem_of_getElem? (i := 20) rfl)) (hw _ (List.mem_of_getElem? (i := 19) rfl)) (hw _ (List.mem_of_getElem? (i := 5) rfl))
  obtain ⟨n, o, h1, h2, h3, _, L, rfl, rfl, -, hfin, -, -, N⟩ := m_law l s _ hw S0 c17 SD SE XD.lt XE.lt MI i0 i1 i2 i3 i4 s.heap AD p e ha hc hk s m _ below hf ((Spec.applies_iff_loose hf).mp happ).1 ⟨rfl, State.Warmed39.refl s, rfl, hheld, all0, ⟨Nat.le_refl _, fun _ _ q => q⟩⟩ trivial
  have hq := hfin.2
  refine ⟨n, _, h1, h2, h3, hpost _ _ _ _ _ _ ⟨Cond.after_iff.mpr rfl, Cond.after_iff.mpr (eq_i res_at (Term.int_eval (1)) rfl), trivial⟩ ⟨hq.1, hq.2.1, hq.2.2.1, (hq.2.2.2.sift fun y hy => Or.inr (N y hy)).mono (by decide) (by decide)⟩⟩
theorem main_1_1 : Claimed_1_1 := comes_1 fun _ _ _ _ _ _ h hF => ⟨h.1, hF⟩
theorem main_1_2 : Claimed_1_2 := comes_1 fun _ _ _ _ _ _ h hF => ⟨h.2.1, hF⟩
end Jvm.Pilot.@@N@@
namespace Jvm.Pilot.@@N@@
open Jvm Jvm.ClassFile Sem Op Lib Jvm.Free Jvm.Stand Jvm.Pilot.@@N@@.Jvm.D
/-! MADE BY PROGRAM (witnessworld.py) out of the Statement's table words and the real class files: 39 classes; the members and pool entries that the words name. The judged class is class 1, her method 2. -/
namespace start1
open Jvm.ClassFile
def u (s : String) : CpInfo := .utf8 (stringToUtf16 s)
/-- a pool by its gaps: so many unusable entries, then the entry; so many at the end -/
def gap : Nat → List CpInfo → List CpInfo
  | 0, r => r
  | n + 1, r => .unusable :: gap n r
def poolList (es : List (Nat × CpInfo)) (last : Nat) : List CpInfo := es.foldr (fun e r => gap e.1 (e.2 :: r)) (gap last [])
def pool (es : List (Nat × CpInfo)) (last : Nat) : Array CpInfo := ⟨poolList es last⟩
def fileOf (pool : Array CpInfo) (this : Nat) (attrs : Array Attribute := #[]) (ms : Array MethodInfo := #[]) (fl : Nat := 33) (sup : Nat := 0) (ifs : Array Nat := #[]) (fds : Array FieldInfo := #[]) : ClassFile where
  minorVersion := 0
  majorVersion := 65
  constantPool := pool
  accessFlags := fl
  thisClass := this
  superClass := sup
  interfaces := ifs
  fields := fds
  methods := ms
  attributes := attrs
def plain (name : String) (sup : Option ClassId) : Class where
  name := name
  kind := .ordinary
  loader := none
  accessFlags := 33
  super := sup
  interfaces := #[]
  cf := none
  fields := #[]
  methods := #[]
  instanceTypes := #[]
  staticTypes := #[]
  resolved := #[]
  callSites := []
  init := .initialized
  statics := none
  mirror := none

def pool0 : Array CpInfo := pool [(5, u "<init>"), (0, u "()V"), (1, .class_ 10), (1, u "java/lang/Object"), (0, u "getClass"), (0, u "()Ljava/lang/Class;")] 111

def k0c0 : Code := { maxStack := 0, maxLocals := 1, code := object_method_1_code, exceptionTable := #[], attributes := #[] }
def k0m0 : Method := { name := "<init>", desc := "()V", sig := { parameters := [], returnType := none }, accessFlags := 1, code := some k0c0 }
def k0m1 : Method := { name := "getClass", desc := "()Ljava/lang/Class;", sig := { parameters := [], returnType := some (.object "java/lang/Class") }, accessFlags := 273, code := none }
/-- java/lang/Object -/
def k0 : Class := { plain "java/lang/Object" none with
  accessFlags := 33
  interfaces := #[]
  cf := some (fileOf pool0 8 #[] #[{ accessFlags := 1, nameIndex := 5, descriptorIndex := 6, attributes := #[] }, { accessFlags := 273, nameIndex := 11, descriptorIndex := 12, attributes := #[] }] 33 0 #[] #[])
  fields := #[]
  methods := #[k0m0, k0m1]
  instanceTypes := #[]
  staticTypes := #[]
  resolved := Array.replicate 124 none
  statics := none }

def pool1 : Array CpInfo := pool [(2, .class_ 4), (0, .nameAndType 5 6), (0, u "java/lang/Object"), (0, u "<init>"), (0, u "()V"), (0, .class_ 8), (0, u "java/lang/String"), (0, .methodref 7 10), (0, .nameAndType 5 11), (0, u "([C)V"), (0, .methodref 7 13), (0, .nameAndType 14 15), (0, u "valueOf"), (0, u "(C)Ljava/lang/String;"), (0, .methodref 17 18), (0, .class_ 19), (0, .nameAndType 20 21), (0, u "com/example/warm_suite/warmsuite/core/engine/HolderToStringPinLaw"), (0, u "key"), (0, u "(I)Ljava/lang/String;"), (0, .class_ 23), (0, u "java/util/ArrayList"), (0, .methodref 22 3), (0, .methodref 22 26), (0, .nameAndType 27 28), (0, u "add"), (0, u "(Ljava/lang/Object;)Z"), (0, .class_ 30), (0, u "com/example/warm_suite/warmsuite/core/engine/Holder"), (0, .methodref 29 32), (0, .nameAndType 5 33), (0, u "(Ljava/util/List;)V"), (0, .methodref 29 35), (0, .nameAndType 36 37), (0, u "toString"), (0, u "()Ljava/lang/String;"), (0, .methodref 7 39), (0, .nameAndType 40 28), (0, u "equals"), (3, u "law"), (0, u "(IIIII)Z")] 2

def k1m0 : Method := { name := "<init>", desc := "()V", sig := { parameters := [], returnType := none }, accessFlags := 1, code := none }
def k1c1 : Code := { maxStack := 6, maxLocals := 4, code := method_2_code, exceptionTable := #[], attributes := #[] }
def k1m1 : Method := { name := "key", desc := "(I)Ljava/lang/String;", sig := { parameters := [.int], returnType := some (.object "java/lang/String") }, accessFlags := 10, code := some k1c1 }
def k1c2 : Code := { maxStack := 3, maxLocals := 15, code := code, exceptionTable := #[], attributes := #[] }
def k1m2 : Method := { name := "law", desc := "(IIIII)Z", sig := { parameters := [.int, .int, .int, .int, .int], returnType := some .boolean }, accessFlags := 9, code := some k1c2 }
/-- com/example/warm_suite/warmsuite/core/engine/HolderToStringPinLaw -/
def k1 : Class := { plain "com/example/warm_suite/warmsuite/core/engine/HolderToStringPinLaw" (some 0) with
  accessFlags := 49
  interfaces := #[]
  cf := some (fileOf pool1 17 #[] #[{ accessFlags := 1, nameIndex := 5, descriptorIndex := 6, attributes := #[] }, { accessFlags := 10, nameIndex := 20, descriptorIndex := 21, attributes := #[] }, { accessFlags := 9, nameIndex := 44, descriptorIndex := 45, attributes := #[] }] 49 2 #[] #[])
  fields := #[]
  methods := #[k1m0, k1m1, k1m2]
  instanceTypes := #[]
  staticTypes := #[]
  resolved := Array.replicate 48 none
  statics := none }

def pool2 : Array CpInfo := pool [(1, .class_ 2), (0, u "java/io/Serializable"), (0, .class_ 4), (0, u "java/lang/Object")] 2

/-- java/io/Serializable -/
def k2 : Class := { plain "java/io/Serializable" (some 0) with
  accessFlags := 1537
  interfaces := #[]
  cf := some (fileOf pool2 1 #[] #[] 1537 3 #[] #[])
  fields := #[]
  methods := #[]
  instanceTypes := #[]
  staticTypes := #[]
  resolved := Array.replicate 7 none
  statics := none }

def pool3 : Array CpInfo := pool [(1, .class_ 2), (0, u "java/lang/Comparable"), (0, .class_ 4), (0, u "java/lang/Object")] 7

/-- java/lang/Comparable -/
def k3 : Class := { plain "java/lang/Comparable" (some 0) with
  accessFlags := 1537
  interfaces := #[]
  cf := some (fileOf pool3 1 #[] #[] 1537 3 #[] #[])
  fields := #[]
  methods := #[]
  instanceTypes := #[]
  staticTypes := #[]
  resolved := Array.replicate 12 none
  statics := none }

def pool4 : Array CpInfo := pool [(2, .class_ 4), (1, u "java/lang/CharSequence"), (42, .class_ 48), (0, u "java/lang/CharSequence$1CodePointIterator"), (10, .class_ 60), (0, u "java/lang/CharSequence$1CharIterator"), (5, .class_ 67), (0, u "java/lang/Object")] 63

/-- java/lang/CharSequence -/
def k4 : Class := { plain "java/lang/CharSequence" (some 0) with
  accessFlags := 1537
  interfaces := #[]
  cf := some (fileOf pool4 2 #[.nestMembers #[47, 59]] #[] 1537 66 #[] #[])
  fields := #[]
  methods := #[]
  instanceTypes := #[]
  staticTypes := #[]
  resolved := Array.replicate 131 none
  statics := none }

def pool5 : Array CpInfo := pool [(1, .class_ 2), (0, u "java/lang/constant/Constable"), (0, .class_ 4), (0, u "java/lang/Object")] 6

/-- java/lang/constant/Constable -/
def k5 : Class := { plain "java/lang/constant/Constable" (some 0) with
  accessFlags := 1537
  interfaces := #[]
  cf := some (fileOf pool5 1 #[] #[] 1537 3 #[] #[])
  fields := #[]
  methods := #[]
  instanceTypes := #[]
  staticTypes := #[]
  resolved := Array.replicate 11 none
  statics := none }

def pool6 : Array CpInfo := pool [(1, .class_ 2), (0, u "java/lang/constant/ConstantDesc"), (0, .class_ 4), (0, u "java/lang/Object")] 32

/-- java/lang/constant/ConstantDesc -/
def k6 : Class := { plain "java/lang/constant/ConstantDesc" (some 0) with
  accessFlags := 1537
  interfaces := #[]
  cf := some (fileOf pool6 1 #[] #[] 1537 3 #[] #[])
  fields := #[]
  methods := #[]
  instanceTypes := #[]
  staticTypes := #[]
  resolved := Array.replicate 37 none
  statics := none }

def pool7 : Array CpInfo := pool [(1, .methodref 2 3), (0, .class_ 4), (0, .nameAndType 5 6), (0, u "java/lang/Object"), (0, u "<init>"), (0, u "()V"), (0, .string 8), (0, u ""), (0, .fieldref 10 11), (0, .class_ 12), (0, .nameAndType 13 14), (0, u "java/lang/String"), (0, u "value"), (0, u "[B"), (0, .fieldref 10 16), (0, .nameAndType 17 18), (0, u "coder"), (0, u "B"), (2, u "hash"), (0, u "I"), (2, u "hashIsZero"), (0, u "Z"), (0, .methodref 10 28), (0, .nameAndType 5 29), (0, u "([CIILjava/lang/Void;)V"), (8, .fieldref 10 39), (0, .nameAndType 40 26), (0, u "COMPACT_STRINGS"), (1, .class_ 44), (1, u "java/lang/StringUTF16"), (0, u "compress"), (1, .methodref 42 48), (0, .nameAndType 49 50), (0, u "coderFromArrayLen"), (0, u "([BI)B"), (2, u "toBytes"), (53, .class_ 109), (1, u "java/lang/StringLatin1"), (67, .methodref 42 178), (0, .nameAndType 45 179), (0, u "([CII)[B"), (29, .methodref 10 210), (0, .nameAndType 5 211), (0, u "([BB)V"), (157, u "(C)Z"), (173, u "equals"), (29, u "(Ljava/lang/Object;)Z"), (1, .class_ 576), (0, u "java/lang/CharSequence"), (22, u "CASE_INSENSITIVE_ORDER"), (0, u "Ljava/util/Comparator;"), (181, u "valueOf"), (0, u "(C)Ljava/lang/String;"), (226, u "([C)V"), (4, .methodref 107 1016), (0, .nameAndType 1017 369), (0, u "canEncode"), (0, .methodref 107 1019), (0, .nameAndType 53 1020), (0, u "(C)[B"), (80, u "serialPersistentFields"), (0, u "[Ljava/io/ObjectStreamField;"), (0, .class_ 1104), (0, u "java/lang/String$CaseInsensitiveComparator"), (1, .class_ 1107), (0, u "java/io/Serializable"), (0, .class_ 1109), (0, u "java/lang/Comparable"), (0, .class_ 1111), (0, u "java/lang/constant/Constable"), (0, .class_ 1113), (0, u "java/lang/constant/ConstantDesc"), (2, u "serialVersionUID"), (0, u "J"), (3, u "REPL"), (0, u "C"), (2, u "LATIN1"), (1, u "UTF16")] 323

def k7m0 : Method := { name := "<init>", desc := "()V", sig := { parameters := [], returnType := none }, accessFlags := 1, code := none }
def k7c1 : Code := { maxStack := 5, maxLocals := 2, code := jdk_42_method_3_code, exceptionTable := #[], attributes := #[] }
def k7m1 : Method := { name := "<init>", desc := "([C)V", sig := { parameters := [(.array .char)], returnType := none }, accessFlags := 1, code := some k7c1 }
def k7c2 : Code := { maxStack := 2, maxLocals := 3, code := jdk_42_method_66_code, exceptionTable := #[], attributes := #[] }
def k7m2 : Method := { name := "equals", desc := "(Ljava/lang/Object;)Z", sig := { parameters := [(.object "java/lang/Object")], returnType := some .boolean }, accessFlags := 1, code := some k7c2 }
def k7c3 : Code := { maxStack := 4, maxLocals := 1, code := jdk_42_method_139_code, exceptionTable := #[], attributes := #[] }
def k7m3 : Method := { name := "valueOf", desc := "(C)Ljava/lang/String;", sig := { parameters := [.char], returnType := some (.object "java/lang/String") }, accessFlags := 9, code := some k7c3 }
def k7c4 : Code := { maxStack := 4, maxLocals := 6, code := jdk_42_method_149_code, exceptionTable := #[], attributes := #[] }
def k7m4 : Method := { name := "<init>", desc := "([CIILjava/lang/Void;)V", sig := { parameters := [(.array .char), .int, .int, (.object "java/lang/Void")], returnType := none }, accessFlags := 2, code := some k7c4 }
def k7c5 : Code := { maxStack := 2, maxLocals := 3, code := jdk_42_method_151_code, exceptionTable := #[], attributes := #[] }
def k7m5 : Method := { name := "<init>", desc := "([BB)V", sig := { parameters := [(.array .byte), .byte], returnType := none }, accessFlags := 0, code := some k7c5 }
/-- java/lang/String -/
def k7 : Class := { plain "java/lang/String" (some 0) with
  accessFlags := 49
  interfaces := #[2, 3, 4, 5, 6]
  cf := some (fileOf pool7 10 #[.nestMembers #[1103]] #[{ accessFlags := 1, nameIndex := 5, descriptorIndex := 6, attributes := #[] }, { accessFlags := 1, nameIndex := 5, descriptorIndex := 1010, attributes := #[] }, { accessFlags := 1, nameIndex := 543, descriptorIndex := 573, attributes := #[] }, { accessFlags := 9, nameIndex := 782, descriptorIndex := 783, attributes := #[] }, { accessFlags := 2, nameIndex := 5, descriptorIndex := 29, attributes := #[] }, { accessFlags := 0, nameIndex := 5, descriptorIndex := 211, attributes := #[] }] 49 2 #[1106, 1108, 575, 1110, 1112] #[{ accessFlags := 18, nameIndex := 13, descriptorIndex := 14, attributes := #[] }, { accessFlags := 18, nameIndex := 17, descriptorIndex := 18, attributes := #[] }, { accessFlags := 2, nameIndex := 21, descriptorIndex := 22, attributes := #[] }, { accessFlags := 2, nameIndex := 25, descriptorIndex := 26, attributes := #[] }, { accessFlags := 26, nameIndex := 1116, descriptorIndex := 1117, attributes := #[] }, { accessFlags := 24, nameIndex := 40, descriptorIndex := 26, attributes := #[] }, { accessFlags := 26, nameIndex := 1101, descriptorIndex := 1102, attributes := #[] }, { accessFlags := 26, nameIndex := 1121, descriptorIndex := 1122, attributes := #[] }, { accessFlags := 25, nameIndex := 599, descriptorIndex := 600, attributes := #[] }, { accessFlags := 24, nameIndex := 1125, descriptorIndex := 18, attributes := #[] }, { accessFlags := 24, nameIndex := 1127, descriptorIndex := 18, attributes := #[] }])
  fields := #[{ name := "value", type := (.array .byte), accessFlags := 18, slot := 0, constantValue := 0 }, { name := "coder", type := .byte, accessFlags := 18, slot := 1, constantValue := 0 }, { name := "hash", type := .int, accessFlags := 2, slot := 2, constantValue := 0 }, { name := "hashIsZero", type := .boolean, accessFlags := 2, slot := 3, constantValue := 0 }, { name := "serialVersionUID", type := .long, accessFlags := 26, slot := 0, constantValue := 0 }, { name := "COMPACT_STRINGS", type := .boolean, accessFlags := 24, slot := 1, constantValue := 0 }, { name := "serialPersistentFields", type := (.array (.object "java/io/ObjectStreamField")), accessFlags := 26, slot := 2, constantValue := 0 }, { name := "REPL", type := .char, accessFlags := 26, slot := 3, constantValue := 0 }, { name := "CASE_INSENSITIVE_ORDER", type := (.object "java/util/Comparator"), accessFlags := 25, slot := 4, constantValue := 0 }, { name := "LATIN1", type := .byte, accessFlags := 24, slot := 5, constantValue := 0 }, { name := "UTF16", type := .byte, accessFlags := 24, slot := 6, constantValue := 0 }]
  methods := #[k7m0, k7m1, k7m2, k7m3, k7m4, k7m5]
  instanceTypes := #[(.array .byte), .byte, .int, .boolean]
  staticTypes := #[.long, .boolean, (.array (.object "java/io/ObjectStreamField")), .char, (.object "java/util/Comparator"), .byte, .byte]
  resolved := Array.replicate 1451 none
  statics := some 0 }

def pool8 : Array CpInfo := pool [(8, .class_ 10), (1, u "java/lang/Iterable"), (24, .class_ 36), (0, u "java/lang/Object")] 25

/-- java/lang/Iterable -/
def k8 : Class := { plain "java/lang/Iterable" (some 0) with
  accessFlags := 1537
  interfaces := #[]
  cf := some (fileOf pool8 8 #[] #[] 1537 35 #[] #[])
  fields := #[]
  methods := #[]
  instanceTypes := #[]
  staticTypes := #[]
  resolved := Array.replicate 62 none
  statics := none }

def pool9 : Array CpInfo := pool [(10, .class_ 12), (1, u "java/util/Collection"), (0, u "toArray"), (16, u "()Z"), (29, .class_ 61), (0, u "java/lang/Object"), (0, .class_ 63), (0, u "java/lang/Iterable"), (2, u "isEmpty"), (3, u "()[Ljava/lang/Object;")] 44

def k9m0 : Method := { name := "isEmpty", desc := "()Z", sig := { parameters := [], returnType := some .boolean }, accessFlags := 1025, code := none }
def k9m1 : Method := { name := "toArray", desc := "()[Ljava/lang/Object;", sig := { parameters := [], returnType := some (.array (.object "java/lang/Object")) }, accessFlags := 1025, code := none }
/-- java/util/Collection -/
def k9 : Class := { plain "java/util/Collection" (some 0) with
  accessFlags := 1537
  interfaces := #[8]
  cf := some (fileOf pool9 10 #[] #[{ accessFlags := 1025, nameIndex := 66, descriptorIndex := 30, attributes := #[] }, { accessFlags := 1025, nameIndex := 13, descriptorIndex := 70, attributes := #[] }] 1537 60 #[62] #[])
  fields := #[]
  methods := #[k9m0, k9m1]
  instanceTypes := #[]
  staticTypes := #[]
  resolved := Array.replicate 115 none
  statics := none }

def pool10 : Array CpInfo := pool [(1, .methodref 2 3), (0, .class_ 4), (0, .nameAndType 5 6), (0, u "java/lang/Object"), (0, u "<init>"), (0, u "()V"), (1, .class_ 10), (1, u "java/util/AbstractCollection"), (66, .class_ 78), (0, u "java/util/Collection")] 81

def k10c0 : Code := { maxStack := 1, maxLocals := 1, code := jdk_22_method_1_code, exceptionTable := #[], attributes := #[] }
def k10m0 : Method := { name := "<init>", desc := "()V", sig := { parameters := [], returnType := none }, accessFlags := 4, code := some k10c0 }
/-- java/util/AbstractCollection -/
def k10 : Class := { plain "java/util/AbstractCollection" (some 0) with
  accessFlags := 1057
  interfaces := #[9]
  cf := some (fileOf pool10 8 #[] #[{ accessFlags := 4, nameIndex := 5, descriptorIndex := 6, attributes := #[] }] 1057 2 #[77] #[])
  fields := #[]
  methods := #[k10m0]
  instanceTypes := #[]
  staticTypes := #[]
  resolved := Array.replicate 160 none
  statics := none }

def pool11 : Array CpInfo := pool [(8, .class_ 10), (1, u "java/util/SequencedCollection"), (15, .class_ 27), (0, u "java/lang/Object"), (0, .class_ 29), (0, u "java/util/Collection")] 27

/-- java/util/SequencedCollection -/
def k11 : Class := { plain "java/util/SequencedCollection" (some 0) with
  accessFlags := 1537
  interfaces := #[9]
  cf := some (fileOf pool11 8 #[] #[] 1537 26 #[28] #[])
  fields := #[]
  methods := #[]
  instanceTypes := #[]
  staticTypes := #[]
  resolved := Array.replicate 57 none
  statics := none }

def pool12 : Array CpInfo := pool [(8, .class_ 10), (1, u "java/util/List"), (7, u "()Z"), (12, u "(Ljava/lang/Object;)V"), (16, u "<init>"), (18, u "isEmpty"), (7, u "get"), (0, u "(I)Ljava/lang/Object;"), (2, u "size"), (0, u "()I"), (7, u "of"), (2, .class_ 93), (1, u "java/util/ImmutableCollections"), (2, .class_ 97), (0, u "java/util/ImmutableCollections$List12"), (0, .methodref 96 99), (0, .nameAndType 48 31), (0, .methodref 96 101), (0, .nameAndType 48 102), (0, u "(Ljava/lang/Object;Ljava/lang/Object;)V"), (0, .class_ 104), (0, u "java/lang/Object"), (3, u "([Ljava/lang/Object;)Ljava/util/List;"), (0, .methodref 91 110), (0, .nameAndType 111 108), (0, u "listFromArray"), (0, .methodref 91 113), (0, .nameAndType 114 115), (0, u "listCopy"), (0, u "(Ljava/util/Collection;)Ljava/util/List;"), (4, .class_ 121), (0, u "java/util/SequencedCollection"), (112, u "copyOf")] 16

def k12m0 : Method := { name := "size", desc := "()I", sig := { parameters := [], returnType := some .int }, accessFlags := 1025, code := none }
def k12m1 : Method := { name := "isEmpty", desc := "()Z", sig := { parameters := [], returnType := some .boolean }, accessFlags := 1025, code := none }
def k12m2 : Method := { name := "get", desc := "(I)Ljava/lang/Object;", sig := { parameters := [.int], returnType := some (.object "java/lang/Object") }, accessFlags := 1025, code := none }
def k12c3 : Code := { maxStack := 5, maxLocals := 2, code := jdk_40_method_47_code, exceptionTable := #[], attributes := #[] }
def k12m3 : Method := { name := "of", desc := "([Ljava/lang/Object;)Ljava/util/List;", sig := { parameters := [(.array (.object "java/lang/Object"))], returnType := some (.object "java/util/List") }, accessFlags := 137, code := some k12c3 }
def k12c4 : Code := { maxStack := 1, maxLocals := 1, code := jdk_40_method_48_code, exceptionTable := #[], attributes := #[] }
def k12m4 : Method := { name := "copyOf", desc := "(Ljava/util/Collection;)Ljava/util/List;", sig := { parameters := [(.object "java/util/Collection")], returnType := some (.object "java/util/List") }, accessFlags := 9, code := some k12c4 }
/-- java/util/List -/
def k12 : Class := { plain "java/util/List" (some 0) with
  accessFlags := 1537
  interfaces := #[11]
  cf := some (fileOf pool12 8 #[] #[{ accessFlags := 1025, nameIndex := 79, descriptorIndex := 80, attributes := #[] }, { accessFlags := 1025, nameIndex := 67, descriptorIndex := 18, attributes := #[] }, { accessFlags := 1025, nameIndex := 75, descriptorIndex := 76, attributes := #[] }, { accessFlags := 137, nameIndex := 88, descriptorIndex := 108, attributes := #[] }, { accessFlags := 9, nameIndex := 234, descriptorIndex := 115, attributes := #[] }] 1537 103 #[120] #[])
  fields := #[]
  methods := #[k12m0, k12m1, k12m2, k12m3, k12m4]
  instanceTypes := #[]
  staticTypes := #[]
  resolved := Array.replicate 251 none
  statics := none }

def pool13 : Array CpInfo := pool [(1, .methodref 2 3), (0, .class_ 4), (0, .nameAndType 5 6), (0, u "java/util/AbstractCollection"), (0, u "<init>"), (0, u "()V"), (0, .fieldref 8 9), (0, .class_ 10), (0, .nameAndType 11 12), (0, u "java/util/AbstractList"), (0, u "modCount"), (0, u "I"), (64, .class_ 78), (0, u "java/util/AbstractList$Itr"), (3, .class_ 83), (0, u "java/util/AbstractList$ListItr"), (9, .class_ 94), (0, u "java/util/AbstractList$RandomAccessSubList"), (3, .class_ 99), (0, u "java/util/AbstractList$SubList"), (33, .class_ 134), (0, u "java/util/List"), (73, .class_ 209), (0, u "java/util/AbstractList$SubList$1"), (0, .class_ 211), (0, u "java/util/AbstractList$RandomAccessSpliterator")] 6

def k13c0 : Code := { maxStack := 2, maxLocals := 1, code := jdk_39_method_1_code, exceptionTable := #[], attributes := #[] }
def k13m0 : Method := { name := "<init>", desc := "()V", sig := { parameters := [], returnType := none }, accessFlags := 4, code := some k13c0 }
/-- java/util/AbstractList -/
def k13 : Class := { plain "java/util/AbstractList" (some 10) with
  accessFlags := 1057
  interfaces := #[12]
  cf := some (fileOf pool13 8 #[.nestMembers #[93, 98, 208, 210, 82, 77]] #[{ accessFlags := 4, nameIndex := 5, descriptorIndex := 6, attributes := #[] }] 1057 2 #[133] #[{ accessFlags := 132, nameIndex := 11, descriptorIndex := 12, attributes := #[] }])
  fields := #[{ name := "modCount", type := .int, accessFlags := 132, slot := 0, constantValue := 0 }]
  methods := #[k13m0]
  instanceTypes := #[.int]
  staticTypes := #[]
  resolved := Array.replicate 218 none
  statics := none }

def pool14 : Array CpInfo := pool [(1, .class_ 2), (0, u "java/util/RandomAccess"), (0, .class_ 4), (0, u "java/lang/Object")] 2

/-- java/util/RandomAccess -/
def k14 : Class := { plain "java/util/RandomAccess" (some 0) with
  accessFlags := 1537
  interfaces := #[]
  cf := some (fileOf pool14 1 #[] #[] 1537 3 #[] #[])
  fields := #[]
  methods := #[]
  instanceTypes := #[]
  staticTypes := #[]
  resolved := Array.replicate 7 none
  statics := none }

def pool15 : Array CpInfo := pool [(1, .class_ 2), (0, u "java/lang/Cloneable"), (0, .class_ 4), (0, u "java/lang/Object")] 2

/-- java/lang/Cloneable -/
def k15 : Class := { plain "java/lang/Cloneable" (some 0) with
  accessFlags := 1537
  interfaces := #[]
  cf := some (fileOf pool15 1 #[] #[] 1537 3 #[] #[])
  fields := #[]
  methods := #[]
  instanceTypes := #[]
  staticTypes := #[]
  resolved := Array.replicate 7 none
  statics := none }

def pool16 : Array CpInfo := pool [(1, .methodref 2 3), (0, .class_ 4), (0, .nameAndType 5 6), (0, u "java/util/AbstractList"), (0, u "<init>"), (0, u "()V"), (0, .class_ 8), (0, u "java/lang/Object"), (0, .fieldref 10 11), (0, .class_ 12), (0, .nameAndType 13 14), (0, u "java/util/ArrayList"), (0, u "elementData"), (0, u "[Ljava/lang/Object;"), (2, u "EMPTY_ELEMENTDATA"), (21, .fieldref 10 40), (0, .nameAndType 41 14), (0, u "DEFAULTCAPACITY_EMPTY_ELEMENTDATA"), (4, u "toArray"), (0, u "()[Ljava/lang/Object;"), (0, .fieldref 10 49), (0, .nameAndType 50 51), (0, u "size"), (0, u "I"), (6, .class_ 60), (1, u "java/util/Arrays"), (0, u "copyOf"), (1, .fieldref 10 64), (0, .nameAndType 65 51), (0, u "modCount"), (0, .methodref 58 67), (0, .nameAndType 61 68), (0, u "([Ljava/lang/Object;I)[Ljava/lang/Object;"), (0, .methodref 10 70), (0, .nameAndType 71 72), (0, u "grow"), (0, u "(I)[Ljava/lang/Object;"), (6, .methodref 80 81), (0, .class_ 82), (0, .nameAndType 83 84), (0, u "java/lang/Math"), (0, u "max"), (0, u "(II)I"), (11, u "(Ljava/lang/Object;)Z"), (32, .methodref 10 130), (0, .nameAndType 71 47), (0, .methodref 10 132), (0, .nameAndType 133 134), (0, u "add"), (0, u "(Ljava/lang/Object;[Ljava/lang/Object;I)V"), (13, .class_ 149), (0, u "java/util/List"), (23, u "()Z"), (88, .class_ 263), (0, u "java/util/ArrayList$ListItr"), (3, .class_ 268), (0, u "java/util/ArrayList$Itr"), (7, .class_ 277), (0, u "java/util/ArrayList$SubList"), (12, .class_ 291), (0, u "java/util/ArrayList$ArrayListSpliterator"), (37, .class_ 330), (0, u "java/util/RandomAccess"), (0, .class_ 332), (0, u "java/lang/Cloneable"), (0, .class_ 334), (0, u "java/io/Serializable"), (0, u "serialVersionUID"), (0, u "J"), (3, u "DEFAULT_CAPACITY"), (22, u "isEmpty"), (136, .class_ 501), (0, u "java/util/ArrayList$SubList$2"), (0, .class_ 503), (0, u "java/util/ArrayList$SubList$1")] 5

def k16c0 : Code := { maxStack := 2, maxLocals := 1, code := jdk_38_method_2_code, exceptionTable := #[], attributes := #[] }
def k16m0 : Method := { name := "<init>", desc := "()V", sig := { parameters := [], returnType := none }, accessFlags := 1, code := some k16c0 }
def k16c1 : Code := { maxStack := 4, maxLocals := 4, code := jdk_38_method_6_code, exceptionTable := #[], attributes := #[] }
def k16m1 : Method := { name := "grow", desc := "(I)[Ljava/lang/Object;", sig := { parameters := [.int], returnType := some (.array (.object "java/lang/Object")) }, accessFlags := 2, code := some k16c1 }
def k16c2 : Code := { maxStack := 3, maxLocals := 1, code := jdk_38_method_7_code, exceptionTable := #[], attributes := #[] }
def k16m2 : Method := { name := "grow", desc := "()[Ljava/lang/Object;", sig := { parameters := [], returnType := some (.array (.object "java/lang/Object")) }, accessFlags := 2, code := some k16c2 }
def k16c3 : Code := { maxStack := 1, maxLocals := 1, code := jdk_38_method_9_code, exceptionTable := #[], attributes := #[] }
def k16m3 : Method := { name := "isEmpty", desc := "()Z", sig := { parameters := [], returnType := some .boolean }, accessFlags := 1, code := some k16c3 }
def k16c4 : Code := { maxStack := 2, maxLocals := 1, code := jdk_38_method_16_code, exceptionTable := #[], attributes := #[] }
def k16m4 : Method := { name := "toArray", desc := "()[Ljava/lang/Object;", sig := { parameters := [], returnType := some (.array (.object "java/lang/Object")) }, accessFlags := 1, code := some k16c4 }
def k16c5 : Code := { maxStack := 3, maxLocals := 4, code := jdk_38_method_24_code, exceptionTable := #[], attributes := #[] }
def k16m5 : Method := { name := "add", desc := "(Ljava/lang/Object;[Ljava/lang/Object;I)V", sig := { parameters := [(.object "java/lang/Object"), (.array (.object "java/lang/Object")), .int], returnType := none }, accessFlags := 2, code := some k16c5 }
def k16c6 : Code := { maxStack := 4, maxLocals := 2, code := jdk_38_method_25_code, exceptionTable := #[], attributes := #[] }
def k16m6 : Method := { name := "add", desc := "(Ljava/lang/Object;)Z", sig := { parameters := [(.object "java/lang/Object")], returnType := some .boolean }, accessFlags := 1, code := some k16c6 }
/-- java/util/ArrayList -/
def k16 : Class := { plain "java/util/ArrayList" (some 13) with
  accessFlags := 33
  interfaces := #[12, 14, 15, 2]
  cf := some (fileOf pool16 10 #[.nestMembers #[290, 276, 500, 502, 262, 267]] #[{ accessFlags := 1, nameIndex := 5, descriptorIndex := 6, attributes := #[] }, { accessFlags := 2, nameIndex := 71, descriptorIndex := 72, attributes := #[] }, { accessFlags := 2, nameIndex := 71, descriptorIndex := 47, attributes := #[] }, { accessFlags := 1, nameIndex := 363, descriptorIndex := 173, attributes := #[] }, { accessFlags := 1, nameIndex := 46, descriptorIndex := 47, attributes := #[] }, { accessFlags := 2, nameIndex := 133, descriptorIndex := 134, attributes := #[] }, { accessFlags := 1, nameIndex := 133, descriptorIndex := 96, attributes := #[] }] 33 2 #[148, 329, 331, 333] #[{ accessFlags := 26, nameIndex := 335, descriptorIndex := 336, attributes := #[] }, { accessFlags := 26, nameIndex := 340, descriptorIndex := 51, attributes := #[] }, { accessFlags := 26, nameIndex := 17, descriptorIndex := 14, attributes := #[] }, { accessFlags := 26, nameIndex := 41, descriptorIndex := 14, attributes := #[] }, { accessFlags := 128, nameIndex := 13, descriptorIndex := 14, attributes := #[] }, { accessFlags := 2, nameIndex := 50, descriptorIndex := 51, attributes := #[] }])
  fields := #[{ name := "serialVersionUID", type := .long, accessFlags := 26, slot := 0, constantValue := 0 }, { name := "DEFAULT_CAPACITY", type := .int, accessFlags := 26, slot := 1, constantValue := 0 }, { name := "EMPTY_ELEMENTDATA", type := (.array (.object "java/lang/Object")), accessFlags := 26, slot := 2, constantValue := 0 }, { name := "DEFAULTCAPACITY_EMPTY_ELEMENTDATA", type := (.array (.object "java/lang/Object")), accessFlags := 26, slot := 3, constantValue := 0 }, { name := "elementData", type := (.array (.object "java/lang/Object")), accessFlags := 128, slot := 1, constantValue := 0 }, { name := "size", type := .int, accessFlags := 2, slot := 2, constantValue := 0 }]
  methods := #[k16m0, k16m1, k16m2, k16m3, k16m4, k16m5, k16m6]
  instanceTypes := #[.int, (.array (.object "java/lang/Object")), .int]
  staticTypes := #[.long, .int, (.array (.object "java/lang/Object")), (.array (.object "java/lang/Object"))]
  resolved := Array.replicate 509 none
  statics := some 1 }

def pool17 : Array CpInfo := pool [(1, .class_ 2), (0, u "java/lang/Math"), (1, .class_ 6), (1, u "java/lang/Object"), (0, u "<init>"), (0, u "()V"), (89, .class_ 100), (1, u "java/lang/Math$RandomNumberGeneratorHolder"), (71, u "negativeZeroFloatBits"), (0, u "J"), (2, u "negativeZeroDoubleBits"), (21, u "max"), (2, u "min"), (43, u "$assertionsDisabled"), (0, u "Z"), (88, u "(II)I"), (2, u "twoToTheDoubleScaleDown"), (0, u "D"), (4, u "twoToTheDoubleScaleUp"), (9, u "E"), (3, u "PI"), (2, u "TAU"), (2, u "DEGREES_TO_RADIANS"), (0, u "RADIANS_TO_DEGREES")] 94

def k17m0 : Method := { name := "<init>", desc := "()V", sig := { parameters := [], returnType := none }, accessFlags := 2, code := none }
def k17c1 : Code := { maxStack := 2, maxLocals := 2, code := jdk_29_method_65_code, exceptionTable := #[], attributes := #[] }
def k17m1 : Method := { name := "max", desc := "(II)I", sig := { parameters := [.int, .int], returnType := some .int }, accessFlags := 9, code := some k17c1 }
def k17c2 : Code := { maxStack := 2, maxLocals := 2, code := jdk_29_method_69_code, exceptionTable := #[], attributes := #[] }
def k17m2 : Method := { name := "min", desc := "(II)I", sig := { parameters := [.int, .int], returnType := some .int }, accessFlags := 9, code := some k17c2 }
/-- java/lang/Math -/
def k17 : Class := { plain "java/lang/Math" (some 0) with
  accessFlags := 49
  interfaces := #[]
  cf := some (fileOf pool17 1 #[.nestMembers #[98]] #[{ accessFlags := 2, nameIndex := 7, descriptorIndex := 8, attributes := #[] }, { accessFlags := 9, nameIndex := 198, descriptorIndex := 335, attributes := #[] }, { accessFlags := 9, nameIndex := 201, descriptorIndex := 335, attributes := #[] }] 49 4 #[] #[{ accessFlags := 25, nameIndex := 354, descriptorIndex := 339, attributes := #[] }, { accessFlags := 25, nameIndex := 358, descriptorIndex := 339, attributes := #[] }, { accessFlags := 25, nameIndex := 361, descriptorIndex := 339, attributes := #[] }, { accessFlags := 26, nameIndex := 364, descriptorIndex := 339, attributes := #[] }, { accessFlags := 26, nameIndex := 365, descriptorIndex := 339, attributes := #[] }, { accessFlags := 26, nameIndex := 172, descriptorIndex := 173, attributes := #[] }, { accessFlags := 26, nameIndex := 176, descriptorIndex := 173, attributes := #[] }, { accessFlags := 8, nameIndex := 344, descriptorIndex := 339, attributes := #[] }, { accessFlags := 8, nameIndex := 338, descriptorIndex := 339, attributes := #[] }, { accessFlags := 4120, nameIndex := 245, descriptorIndex := 246, attributes := #[] }])
  fields := #[{ name := "E", type := .double, accessFlags := 25, slot := 0, constantValue := 0 }, { name := "PI", type := .double, accessFlags := 25, slot := 1, constantValue := 0 }, { name := "TAU", type := .double, accessFlags := 25, slot := 2, constantValue := 0 }, { name := "DEGREES_TO_RADIANS", type := .double, accessFlags := 26, slot := 3, constantValue := 0 }, { name := "RADIANS_TO_DEGREES", type := .double, accessFlags := 26, slot := 4, constantValue := 0 }, { name := "negativeZeroFloatBits", type := .long, accessFlags := 26, slot := 5, constantValue := 0 }, { name := "negativeZeroDoubleBits", type := .long, accessFlags := 26, slot := 6, constantValue := 0 }, { name := "twoToTheDoubleScaleUp", type := .double, accessFlags := 8, slot := 7, constantValue := 0 }, { name := "twoToTheDoubleScaleDown", type := .double, accessFlags := 8, slot := 8, constantValue := 0 }, { name := "$assertionsDisabled", type := .boolean, accessFlags := 4120, slot := 9, constantValue := 0 }]
  methods := #[k17m0, k17m1, k17m2]
  instanceTypes := #[]
  staticTypes := #[.double, .double, .double, .double, .double, .long, .long, .double, .double, .boolean]
  resolved := Array.replicate 460 none
  statics := none }

def pool18 : Array CpInfo := pool [(1, .methodref 2 3), (0, .class_ 4), (0, .nameAndType 5 6), (0, u "java/lang/Object"), (0, u "<init>"), (0, u "()V"), (0, .interfaceMethodref 8 9), (0, .class_ 10), (0, .nameAndType 11 12), (0, u "java/util/List"), (0, u "isEmpty"), (0, u "()Z"), (7, .interfaceMethodref 8 21), (0, .nameAndType 22 23), (0, u "copyOf"), (0, u "(Ljava/util/Collection;)Ljava/util/List;"), (0, .fieldref 25 26), (0, .class_ 27), (0, .nameAndType 28 29), (0, u "com/example/warm_suite/warmsuite/core/engine/Holder"), (0, u "path"), (0, u "Ljava/util/List;"), (0, .interfaceMethodref 8 31), (0, .nameAndType 32 33), (0, u "size"), (0, u "()I"), (8, .interfaceMethodref 8 43), (0, .nameAndType 44 45), (0, u "get"), (0, u "(I)Ljava/lang/Object;"), (0, .class_ 47), (0, u "java/lang/String"), (2, u "(Ljava/util/List;)V"), (6, u "toString"), (0, u "()Ljava/lang/String;")] 2

def k18c0 : Code := { maxStack := 3, maxLocals := 2, code := prog_14_method_1_code, exceptionTable := #[], attributes := #[] }
def k18m0 : Method := { name := "<init>", desc := "(Ljava/util/List;)V", sig := { parameters := [(.object "java/util/List")], returnType := none }, accessFlags := 1, code := some k18c0 }
def k18c1 : Code := { maxStack := 3, maxLocals := 1, code := prog_14_method_3_code, exceptionTable := #[], attributes := #[] }
def k18m1 : Method := { name := "toString", desc := "()Ljava/lang/String;", sig := { parameters := [], returnType := some (.object "java/lang/String") }, accessFlags := 1, code := some k18c1 }
/-- com/example/warm_suite/warmsuite/core/engine/Holder -/
def k18 : Class := { plain "com/example/warm_suite/warmsuite/core/engine/Holder" (some 0) with
  accessFlags := 33
  interfaces := #[]
  cf := some (fileOf pool18 25 #[] #[{ accessFlags := 1, nameIndex := 5, descriptorIndex := 50, attributes := #[] }, { accessFlags := 1, nameIndex := 57, descriptorIndex := 58, attributes := #[] }] 33 2 #[] #[{ accessFlags := 18, nameIndex := 28, descriptorIndex := 29, attributes := #[] }])
  fields := #[{ name := "path", type := (.object "java/util/List"), accessFlags := 18, slot := 0, constantValue := 0 }]
  methods := #[k18m0, k18m1]
  instanceTypes := #[(.object "java/util/List")]
  staticTypes := #[]
  resolved := Array.replicate 61 none
  statics := none }

def pool19 : Array CpInfo := pool [(2, .class_ 4), (1, u "java/lang/Object"), (0, u "<init>"), (0, u "()V"), (3, .class_ 11), (0, u "java/util/ImmutableCollections$List12"), (0, .class_ 13), (0, u "java/util/ImmutableCollections$ListN"), (3, u "Z"), (0, .class_ 19), (0, u "java/util/List"), (0, .interfaceMethodref 21 22), (0, .class_ 23), (0, .nameAndType 24 25), (0, u "java/util/Collection"), (0, u "isEmpty"), (0, u "()Z"), (2, u "of"), (1, .interfaceMethodref 21 31), (0, .nameAndType 32 33), (0, u "toArray"), (0, u "()[Ljava/lang/Object;"), (0, .interfaceMethodref 18 35), (0, .nameAndType 28 36), (0, u "([Ljava/lang/Object;)Ljava/util/List;"), (0, .methodref 38 39), (0, .class_ 40), (0, .nameAndType 41 42), (0, u "java/util/Objects"), (0, u "requireNonNull"), (0, u "(Ljava/lang/Object;)Ljava/lang/Object;"), (0, .methodref 12 44), (0, .nameAndType 5 45), (0, u "([Ljava/lang/Object;Z)V"), (1, .class_ 49), (1, u "java/util/ImmutableCollections"), (0, u "$assertionsDisabled"), (5, u "[Ljava/lang/Object;"), (5, u "EMPTY_LIST"), (0, u "Ljava/util/ImmutableCollections$ListN;"), (8, u "EMPTY_LIST_NULLS"), (22, u "SALT32L"), (0, u "J"), (2, u "REVERSE"), (6, u "archivedObjects"), (2, u "EMPTY"), (0, u "Ljava/lang/Object;"), (0, .class_ 112), (0, u "java/util/ImmutableCollections$SetN"), (5, u "EMPTY_SET"), (0, u "Ljava/util/ImmutableCollections$SetN;"), (0, .class_ 121), (0, u "java/util/ImmutableCollections$MapN"), (3, u "EMPTY_MAP"), (0, u "Ljava/util/ImmutableCollections$MapN;"), (4, u "EXPAND_FACTOR"), (0, u "I"), (9, u "listCopy"), (0, u "(Ljava/util/Collection;)Ljava/util/List;"), (7, u "listFromArray"), (17, .class_ 170), (0, u "java/util/ImmutableCollections$MapN$MapNIterator"), (0, .class_ 172), (0, u "java/util/ImmutableCollections$MapN$1"), (0, .class_ 174), (0, u "java/util/ImmutableCollections$Map1"), (0, .class_ 176), (0, u "java/util/ImmutableCollections$AbstractImmutableMap"), (0, .class_ 178), (0, u "java/util/ImmutableCollections$SetN$SetNIterator"), (0, .class_ 180), (0, u "java/util/ImmutableCollections$Set12"), (0, .class_ 182), (0, u "java/util/ImmutableCollections$Set12$1"), (0, .class_ 184), (0, u "java/util/ImmutableCollections$AbstractImmutableSet"), (0, .class_ 186), (0, u "java/util/ImmutableCollections$SubList"), (0, .class_ 188), (0, u "java/util/ImmutableCollections$ListItr"), (0, .class_ 190), (0, u "java/util/ImmutableCollections$AbstractImmutableList"), (0, .class_ 192), (0, u "java/util/ImmutableCollections$AbstractImmutableCollection"), (0, .class_ 194), (0, u "java/util/ImmutableCollections$Access"), (0, .class_ 196), (0, u "java/util/ImmutableCollections$Access$1")] 16

def k19m0 : Method := { name := "<init>", desc := "()V", sig := { parameters := [], returnType := none }, accessFlags := 2, code := none }
def k19c1 : Code := { maxStack := 1, maxLocals := 2, code := jdk_56_method_3_code, exceptionTable := #[], attributes := #[] }
def k19m1 : Method := { name := "listCopy", desc := "(Ljava/util/Collection;)Ljava/util/List;", sig := { parameters := [(.object "java/util/Collection")], returnType := some (.object "java/util/List") }, accessFlags := 8, code := some k19c1 }
def k19c2 : Code := { maxStack := 4, maxLocals := 3, code := jdk_56_method_4_code, exceptionTable := #[], attributes := #[] }
def k19m2 : Method := { name := "listFromArray", desc := "([Ljava/lang/Object;)Ljava/util/List;", sig := { parameters := [(.array (.object "java/lang/Object"))], returnType := some (.object "java/util/List") }, accessFlags := 136, code := some k19c2 }
/-- java/util/ImmutableCollections -/
def k19 : Class := { plain "java/util/ImmutableCollections" (some 0) with
  accessFlags := 32
  interfaces := #[]
  cf := some (fileOf pool19 47 #[.nestMembers #[120, 169, 171, 173, 175, 111, 177, 179, 181, 183, 12, 10, 185, 187, 189, 191, 193, 195]] #[{ accessFlags := 2, nameIndex := 5, descriptorIndex := 6, attributes := #[] }, { accessFlags := 8, nameIndex := 142, descriptorIndex := 143, attributes := #[] }, { accessFlags := 136, nameIndex := 151, descriptorIndex := 36, attributes := #[] }] 32 2 #[] #[{ accessFlags := 26, nameIndex := 95, descriptorIndex := 96, attributes := #[] }, { accessFlags := 26, nameIndex := 99, descriptorIndex := 17, attributes := #[] }, { accessFlags := 10, nameIndex := 106, descriptorIndex := 56, attributes := #[] }, { accessFlags := 26, nameIndex := 109, descriptorIndex := 110, attributes := #[] }, { accessFlags := 24, nameIndex := 62, descriptorIndex := 63, attributes := #[] }, { accessFlags := 24, nameIndex := 72, descriptorIndex := 63, attributes := #[] }, { accessFlags := 24, nameIndex := 118, descriptorIndex := 119, attributes := #[] }, { accessFlags := 24, nameIndex := 125, descriptorIndex := 126, attributes := #[] }, { accessFlags := 24, nameIndex := 131, descriptorIndex := 132, attributes := #[] }, { accessFlags := 4120, nameIndex := 50, descriptorIndex := 17, attributes := #[] }])
  fields := #[{ name := "SALT32L", type := .long, accessFlags := 26, slot := 0, constantValue := 0 }, { name := "REVERSE", type := .boolean, accessFlags := 26, slot := 1, constantValue := 0 }, { name := "archivedObjects", type := (.array (.object "java/lang/Object")), accessFlags := 10, slot := 2, constantValue := 0 }, { name := "EMPTY", type := (.object "java/lang/Object"), accessFlags := 26, slot := 3, constantValue := 0 }, { name := "EMPTY_LIST", type := (.object "java/util/ImmutableCollections$ListN"), accessFlags := 24, slot := 4, constantValue := 0 }, { name := "EMPTY_LIST_NULLS", type := (.object "java/util/ImmutableCollections$ListN"), accessFlags := 24, slot := 5, constantValue := 0 }, { name := "EMPTY_SET", type := (.object "java/util/ImmutableCollections$SetN"), accessFlags := 24, slot := 6, constantValue := 0 }, { name := "EMPTY_MAP", type := (.object "java/util/ImmutableCollections$MapN"), accessFlags := 24, slot := 7, constantValue := 0 }, { name := "EXPAND_FACTOR", type := .int, accessFlags := 24, slot := 8, constantValue := 0 }, { name := "$assertionsDisabled", type := .boolean, accessFlags := 4120, slot := 9, constantValue := 0 }]
  methods := #[k19m0, k19m1, k19m2]
  instanceTypes := #[]
  staticTypes := #[.long, .boolean, (.array (.object "java/lang/Object")), (.object "java/lang/Object"), (.object "java/util/ImmutableCollections$ListN"), (.object "java/util/ImmutableCollections$ListN"), (.object "java/util/ImmutableCollections$SetN"), (.object "java/util/ImmutableCollections$MapN"), .int, .boolean]
  resolved := Array.replicate 213 none
  statics := some 2 }

def pool20 : Array CpInfo := pool [(1, .methodref 2 3), (0, .class_ 4), (0, .nameAndType 5 6), (0, u "java/util/AbstractCollection"), (0, u "<init>"), (0, u "()V"), (1, .class_ 10), (1, u "java/util/ImmutableCollections"), (2, .class_ 14), (0, u "java/util/ImmutableCollections$AbstractImmutableCollection")] 41

def k20c0 : Code := { maxStack := 1, maxLocals := 1, code := jdk_47_method_1_code, exceptionTable := #[], attributes := #[] }
def k20m0 : Method := { name := "<init>", desc := "()V", sig := { parameters := [], returnType := none }, accessFlags := 0, code := some k20c0 }
/-- java/util/ImmutableCollections$AbstractImmutableCollection -/
def k20 : Class := { plain "java/util/ImmutableCollections$AbstractImmutableCollection" (some 10) with
  accessFlags := 1056
  interfaces := #[]
  cf := some (fileOf pool20 13 #[.nestHost 8] #[{ accessFlags := 0, nameIndex := 5, descriptorIndex := 6, attributes := #[] }] 1056 2 #[] #[])
  fields := #[]
  methods := #[k20m0]
  instanceTypes := #[]
  staticTypes := #[]
  resolved := Array.replicate 56 none
  statics := none }

def pool21 : Array CpInfo := pool [(1, .methodref 2 3), (0, .class_ 4), (0, .nameAndType 5 6), (0, u "java/util/ImmutableCollections$AbstractImmutableCollection"), (0, u "<init>"), (0, u "()V"), (1, .class_ 10), (1, u "java/util/ImmutableCollections"), (3, .class_ 16), (1, u "java/util/ImmutableCollections$AbstractImmutableList"), (60, .class_ 78), (0, u "java/util/List"), (45, .class_ 125), (0, u "java/util/RandomAccess")] 70

def k21c0 : Code := { maxStack := 1, maxLocals := 1, code := jdk_46_method_1_code, exceptionTable := #[], attributes := #[] }
def k21m0 : Method := { name := "<init>", desc := "()V", sig := { parameters := [], returnType := none }, accessFlags := 0, code := some k21c0 }
/-- java/util/ImmutableCollections$AbstractImmutableList -/
def k21 : Class := { plain "java/util/ImmutableCollections$AbstractImmutableList" (some 20) with
  accessFlags := 1056
  interfaces := #[12, 14]
  cf := some (fileOf pool21 14 #[.nestHost 8] #[{ accessFlags := 0, nameIndex := 5, descriptorIndex := 6, attributes := #[] }] 1056 2 #[77, 124] #[])
  fields := #[]
  methods := #[k21m0]
  instanceTypes := #[]
  staticTypes := #[]
  resolved := Array.replicate 196 none
  statics := none }

def pool22 : Array CpInfo := pool [(1, .methodref 2 3), (0, .class_ 4), (0, .nameAndType 5 6), (0, u "java/util/ImmutableCollections$AbstractImmutableList"), (0, u "<init>"), (0, u "()V"), (0, .methodref 8 9), (0, .class_ 10), (0, .nameAndType 11 12), (0, u "java/util/Objects"), (0, u "requireNonNull"), (0, u "(Ljava/lang/Object;)Ljava/lang/Object;"), (0, .fieldref 14 15), (0, .class_ 16), (0, .nameAndType 17 18), (0, u "java/util/ImmutableCollections$List12"), (0, u "e0"), (0, u "Ljava/lang/Object;"), (0, .fieldref 20 21), (0, .class_ 22), (0, .nameAndType 23 18), (0, u "java/util/ImmutableCollections"), (0, u "EMPTY"), (0, .fieldref 14 25), (0, .nameAndType 26 18), (0, u "e1"), (24, u "size"), (0, u "()I"), (17, .class_ 71), (0, u "java/io/Serializable"), (4, u "(Ljava/lang/Object;)V"), (8, u "(Ljava/lang/Object;Ljava/lang/Object;)V"), (4, u "get"), (0, u "(I)Ljava/lang/Object;")] 33

def k22c0 : Code := { maxStack := 2, maxLocals := 2, code := jdk_44_method_1_code, exceptionTable := #[], attributes := #[] }
def k22m0 : Method := { name := "<init>", desc := "(Ljava/lang/Object;)V", sig := { parameters := [(.object "java/lang/Object")], returnType := none }, accessFlags := 0, code := some k22c0 }
def k22c1 : Code := { maxStack := 2, maxLocals := 3, code := jdk_44_method_2_code, exceptionTable := #[], attributes := #[] }
def k22m1 : Method := { name := "<init>", desc := "(Ljava/lang/Object;Ljava/lang/Object;)V", sig := { parameters := [(.object "java/lang/Object"), (.object "java/lang/Object")], returnType := none }, accessFlags := 0, code := some k22c1 }
def k22c2 : Code := { maxStack := 2, maxLocals := 1, code := jdk_44_method_3_code, exceptionTable := #[], attributes := #[] }
def k22m2 : Method := { name := "size", desc := "()I", sig := { parameters := [], returnType := some .int }, accessFlags := 1, code := some k22c2 }
def k22c3 : Code := { maxStack := 2, maxLocals := 2, code := jdk_44_method_5_code, exceptionTable := #[], attributes := #[] }
def k22m3 : Method := { name := "get", desc := "(I)Ljava/lang/Object;", sig := { parameters := [.int], returnType := some (.object "java/lang/Object") }, accessFlags := 1, code := some k22c3 }
/-- java/util/ImmutableCollections$List12 -/
def k22 : Class := { plain "java/util/ImmutableCollections$List12" (some 21) with
  accessFlags := 48
  interfaces := #[2]
  cf := some (fileOf pool22 14 #[.nestHost 20] #[{ accessFlags := 0, nameIndex := 5, descriptorIndex := 76, attributes := #[] }, { accessFlags := 0, nameIndex := 5, descriptorIndex := 85, attributes := #[] }, { accessFlags := 1, nameIndex := 51, descriptorIndex := 52, attributes := #[] }, { accessFlags := 1, nameIndex := 90, descriptorIndex := 91, attributes := #[] }] 48 2 #[70] #[{ accessFlags := 18, nameIndex := 17, descriptorIndex := 18, attributes := #[] }, { accessFlags := 18, nameIndex := 26, descriptorIndex := 18, attributes := #[] }])
  fields := #[{ name := "e0", type := (.object "java/lang/Object"), accessFlags := 18, slot := 0, constantValue := 0 }, { name := "e1", type := (.object "java/lang/Object"), accessFlags := 18, slot := 1, constantValue := 0 }]
  methods := #[k22m0, k22m1, k22m2, k22m3]
  instanceTypes := #[(.object "java/lang/Object"), (.object "java/lang/Object")]
  staticTypes := #[]
  resolved := Array.replicate 125 none
  statics := none }

def pool23 : Array CpInfo := pool [(1, .methodref 2 3), (0, .class_ 4), (0, .nameAndType 5 6), (0, u "java/util/ImmutableCollections$AbstractImmutableList"), (0, u "<init>"), (0, u "()V"), (0, .fieldref 8 9), (0, .class_ 10), (0, .nameAndType 11 12), (0, u "java/util/ImmutableCollections$ListN"), (0, u "elements"), (0, u "[Ljava/lang/Object;"), (0, .fieldref 8 14), (0, .nameAndType 15 16), (0, u "allowNulls"), (0, u "Z"), (42, .class_ 60), (0, u "java/io/Serializable"), (4, u "([Ljava/lang/Object;Z)V"), (11, u "size"), (0, u "()I"), (0, u "get"), (0, u "(I)Ljava/lang/Object;"), (33, .class_ 115), (0, u "java/util/ImmutableCollections")] 3

def k23c0 : Code := { maxStack := 2, maxLocals := 3, code := jdk_45_method_1_code, exceptionTable := #[], attributes := #[] }
def k23m0 : Method := { name := "<init>", desc := "([Ljava/lang/Object;Z)V", sig := { parameters := [(.array (.object "java/lang/Object")), .boolean], returnType := none }, accessFlags := 2, code := some k23c0 }
def k23c1 : Code := { maxStack := 1, maxLocals := 1, code := jdk_45_method_3_code, exceptionTable := #[], attributes := #[] }
def k23m1 : Method := { name := "size", desc := "()I", sig := { parameters := [], returnType := some .int }, accessFlags := 1, code := some k23c1 }
def k23c2 : Code := { maxStack := 2, maxLocals := 2, code := jdk_45_method_4_code, exceptionTable := #[], attributes := #[] }
def k23m2 : Method := { name := "get", desc := "(I)Ljava/lang/Object;", sig := { parameters := [.int], returnType := some (.object "java/lang/Object") }, accessFlags := 1, code := some k23c2 }
/-- java/util/ImmutableCollections$ListN -/
def k23 : Class := { plain "java/util/ImmutableCollections$ListN" (some 21) with
  accessFlags := 48
  interfaces := #[2]
  cf := some (fileOf pool23 8 #[.nestHost 114] #[{ accessFlags := 2, nameIndex := 5, descriptorIndex := 65, attributes := #[] }, { accessFlags := 1, nameIndex := 77, descriptorIndex := 78, attributes := #[] }, { accessFlags := 1, nameIndex := 79, descriptorIndex := 80, attributes := #[] }] 48 2 #[59] #[{ accessFlags := 18, nameIndex := 11, descriptorIndex := 12, attributes := #[] }, { accessFlags := 18, nameIndex := 15, descriptorIndex := 16, attributes := #[] }])
  fields := #[{ name := "elements", type := (.array (.object "java/lang/Object")), accessFlags := 18, slot := 0, constantValue := 0 }, { name := "allowNulls", type := .boolean, accessFlags := 18, slot := 1, constantValue := 0 }]
  methods := #[k23m0, k23m1, k23m2]
  instanceTypes := #[(.array (.object "java/lang/Object")), .boolean]
  staticTypes := #[]
  resolved := Array.replicate 119 none
  statics := none }

def pool24 : Array CpInfo := pool [(2, .class_ 4), (1, u "java/lang/Object"), (0, u "<init>"), (0, u "()V"), (7, .class_ 16), (1, u "java/util/Arrays"), (57, .class_ 76), (1, u "java/util/Arrays$NaturalOrder"), (9, .methodref 2 87), (0, .nameAndType 88 89), (0, u "getClass"), (0, u "()Ljava/lang/Class;"), (20, .class_ 111), (0, u "[Ljava/lang/Object;"), (1, .class_ 115), (1, u "java/util/Arrays$LegacyMergeSort"), (1, u "Z"), (32, .methodref 151 152), (0, .class_ 153), (0, .nameAndType 154 155), (0, u "java/lang/System"), (0, u "arraycopy"), (0, u "(Ljava/lang/Object;ILjava/lang/Object;II)V"), (144, .methodref 14 301), (0, .nameAndType 302 303), (0, u "copyOf"), (0, u "([Ljava/lang/Object;ILjava/lang/Class;)[Ljava/lang/Object;"), (0, .methodref 305 306), (0, .class_ 307), (0, .nameAndType 308 309), (0, u "java/lang/Math"), (0, u "min"), (0, u "(II)I"), (65, .class_ 376), (0, u "java/util/Arrays$ArrayList"), (68, u "$assertionsDisabled"), (269, u "MIN_ARRAY_SORT_GRAN"), (0, u "I"), (2, u "INSERTIONSORT_THRESHOLD"), (140, u "([Ljava/lang/Object;I)[Ljava/lang/Object;"), (114, .class_ 976), (0, u "java/util/Arrays$ArrayItr")] 52

def k24m0 : Method := { name := "<init>", desc := "()V", sig := { parameters := [], returnType := none }, accessFlags := 2, code := none }
def k24c1 : Code := { maxStack := 3, maxLocals := 2, code := jdk_65_method_119_code, exceptionTable := #[], attributes := #[] }
def k24m1 : Method := { name := "copyOf", desc := "([Ljava/lang/Object;I)[Ljava/lang/Object;", sig := { parameters := [(.array (.object "java/lang/Object")), .int], returnType := some (.array (.object "java/lang/Object")) }, accessFlags := 9, code := some k24c1 }
def k24c2 : Code := { maxStack := 6, maxLocals := 4, code := jdk_65_method_120_code, exceptionTable := #[], attributes := #[] }
def k24m2 : Method := { name := "copyOf", desc := "([Ljava/lang/Object;ILjava/lang/Class;)[Ljava/lang/Object;", sig := { parameters := [(.array (.object "java/lang/Object")), .int, (.object "java/lang/Class")], returnType := some (.array (.object "java/lang/Object")) }, accessFlags := 9, code := some k24c2 }
/-- java/util/Arrays -/
def k24 : Class := { plain "java/util/Arrays" (some 0) with
  accessFlags := 49
  interfaces := #[]
  cf := some (fileOf pool24 14 #[.nestMembers #[975, 375, 113, 74]] #[{ accessFlags := 2, nameIndex := 5, descriptorIndex := 6, attributes := #[] }, { accessFlags := 9, nameIndex := 302, descriptorIndex := 860, attributes := #[] }, { accessFlags := 9, nameIndex := 302, descriptorIndex := 303, attributes := #[] }] 49 2 #[] #[{ accessFlags := 26, nameIndex := 715, descriptorIndex := 716, attributes := #[] }, { accessFlags := 26, nameIndex := 719, descriptorIndex := 716, attributes := #[] }, { accessFlags := 4120, nameIndex := 445, descriptorIndex := 117, attributes := #[] }])
  fields := #[{ name := "MIN_ARRAY_SORT_GRAN", type := .int, accessFlags := 26, slot := 0, constantValue := 0 }, { name := "INSERTIONSORT_THRESHOLD", type := .int, accessFlags := 26, slot := 1, constantValue := 0 }, { name := "$assertionsDisabled", type := .boolean, accessFlags := 4120, slot := 2, constantValue := 0 }]
  methods := #[k24m0, k24m1, k24m2]
  instanceTypes := #[]
  staticTypes := #[.int, .int, .boolean]
  resolved := Array.replicate 1029 none
  statics := none }

def pool25 : Array CpInfo := pool [(2, .class_ 4), (1, u "java/lang/Object"), (0, u "<init>"), (0, u "()V"), (1, .class_ 10), (1, u "java/lang/System"), (0, u "allowSecurityManager"), (0, u "I"), (16, u "cons"), (0, u "Ljava/io/Console;"), (77, .class_ 110), (1, u "java/lang/System$CallersHolder"), (43, u "initialErrStream"), (0, u "Ljava/io/PrintStream;"), (19, u "security"), (0, u "Ljava/lang/SecurityManager;"), (31, .class_ 209), (0, u "java/lang/System$1"), (7, u "props"), (0, u "Ljava/util/Properties;"), (2, u "lineSeparator"), (0, u "Ljava/lang/String;"), (96, .class_ 321), (1, u "java/lang/System$LoggerFinder"), (5, .class_ 328), (0, u "java/lang/System$Logger"), (67, u "err"), (2, u "out"), (91, u "notSupportedJnuEncoding"), (15, u "in"), (17, u "initialIn"), (0, u "Ljava/io/InputStream;"), (35, u "bootLayer"), (0, u "Ljava/lang/ModuleLayer;"), (99, .class_ 664), (0, u "java/lang/System$2"), (9, u "NEVER"), (2, u "MAYBE"), (49, u "arraycopy"), (0, u "(Ljava/lang/Object;ILjava/lang/Object;II)V"), (72, .class_ 802), (0, u "java/lang/System$Logger$Level")] 31

def k25m0 : Method := { name := "<init>", desc := "()V", sig := { parameters := [], returnType := none }, accessFlags := 2, code := none }
def k25m1 : Method := { name := "arraycopy", desc := "(Ljava/lang/Object;ILjava/lang/Object;II)V", sig := { parameters := [(.object "java/lang/Object"), .int, (.object "java/lang/Object"), .int, .int], returnType := none }, accessFlags := 265, code := none }
/-- java/lang/System -/
def k25 : Class := { plain "java/lang/System" (some 0) with
  accessFlags := 49
  interfaces := #[]
  cf := some (fileOf pool25 8 #[.nestMembers #[319, 327, 801, 108, 663, 208]] #[{ accessFlags := 2, nameIndex := 5, descriptorIndex := 6, attributes := #[] }, { accessFlags := 265, nameIndex := 727, descriptorIndex := 728, attributes := #[] }] 49 2 #[] #[{ accessFlags := 25, nameIndex := 507, descriptorIndex := 526, attributes := #[] }, { accessFlags := 25, nameIndex := 399, descriptorIndex := 155, attributes := #[] }, { accessFlags := 25, nameIndex := 396, descriptorIndex := 155, attributes := #[] }, { accessFlags := 10, nameIndex := 525, descriptorIndex := 526, attributes := #[] }, { accessFlags := 26, nameIndex := 674, descriptorIndex := 12, attributes := #[] }, { accessFlags := 26, nameIndex := 677, descriptorIndex := 12, attributes := #[] }, { accessFlags := 10, nameIndex := 11, descriptorIndex := 12, attributes := #[] }, { accessFlags := 74, nameIndex := 175, descriptorIndex := 176, attributes := #[] }, { accessFlags := 10, nameIndex := 491, descriptorIndex := 222, attributes := #[] }, { accessFlags := 74, nameIndex := 29, descriptorIndex := 30, attributes := #[] }, { accessFlags := 74, nameIndex := 154, descriptorIndex := 155, attributes := #[] }, { accessFlags := 10, nameIndex := 217, descriptorIndex := 218, attributes := #[] }, { accessFlags := 10, nameIndex := 221, descriptorIndex := 222, attributes := #[] }, { accessFlags := 8, nameIndex := 562, descriptorIndex := 563, attributes := #[] }])
  fields := #[{ name := "in", type := (.object "java/io/InputStream"), accessFlags := 25, slot := 0, constantValue := 0 }, { name := "out", type := (.object "java/io/PrintStream"), accessFlags := 25, slot := 1, constantValue := 0 }, { name := "err", type := (.object "java/io/PrintStream"), accessFlags := 25, slot := 2, constantValue := 0 }, { name := "initialIn", type := (.object "java/io/InputStream"), accessFlags := 10, slot := 3, constantValue := 0 }, { name := "NEVER", type := .int, accessFlags := 26, slot := 4, constantValue := 0 }, { name := "MAYBE", type := .int, accessFlags := 26, slot := 5, constantValue := 0 }, { name := "allowSecurityManager", type := .int, accessFlags := 10, slot := 6, constantValue := 0 }, { name := "security", type := (.object "java/lang/SecurityManager"), accessFlags := 74, slot := 7, constantValue := 0 }, { name := "notSupportedJnuEncoding", type := (.object "java/lang/String"), accessFlags := 10, slot := 8, constantValue := 0 }, { name := "cons", type := (.object "java/io/Console"), accessFlags := 74, slot := 9, constantValue := 0 }, { name := "initialErrStream", type := (.object "java/io/PrintStream"), accessFlags := 74, slot := 10, constantValue := 0 }, { name := "props", type := (.object "java/util/Properties"), accessFlags := 10, slot := 11, constantValue := 0 }, { name := "lineSeparator", type := (.object "java/lang/String"), accessFlags := 10, slot := 12, constantValue := 0 }, { name := "bootLayer", type := (.object "java/lang/ModuleLayer"), accessFlags := 8, slot := 13, constantValue := 0 }]
  methods := #[k25m0, k25m1]
  instanceTypes := #[]
  staticTypes := #[(.object "java/io/InputStream"), (.object "java/io/PrintStream"), (.object "java/io/PrintStream"), (.object "java/io/InputStream"), .int, .int, .int, (.object "java/lang/SecurityManager"), (.object "java/lang/String"), (.object "java/io/Console"), (.object "java/io/PrintStream"), (.object "java/util/Properties"), (.object "java/lang/String"), (.object "java/lang/ModuleLayer")]
  resolved := Array.replicate 834 none
  statics := none }

def pool26 : Array CpInfo := pool [(2, .class_ 4), (1, u "java/lang/Object"), (0, u "<init>"), (0, u "()V"), (35, .class_ 44), (1, u "java/util/Objects"), (0, u "requireNonNull"), (0, u "(Ljava/lang/Object;)Ljava/lang/Object;")] 137

def k26m0 : Method := { name := "<init>", desc := "()V", sig := { parameters := [], returnType := none }, accessFlags := 2, code := none }
def k26c1 : Code := { maxStack := 2, maxLocals := 1, code := jdk_31_method_10_code, exceptionTable := #[], attributes := #[] }
def k26m1 : Method := { name := "requireNonNull", desc := "(Ljava/lang/Object;)Ljava/lang/Object;", sig := { parameters := [(.object "java/lang/Object")], returnType := some (.object "java/lang/Object") }, accessFlags := 9, code := some k26c1 }
/-- java/util/Objects -/
def k26 : Class := { plain "java/util/Objects" (some 0) with
  accessFlags := 49
  interfaces := #[]
  cf := some (fileOf pool26 42 #[] #[{ accessFlags := 2, nameIndex := 5, descriptorIndex := 6, attributes := #[] }, { accessFlags := 9, nameIndex := 45, descriptorIndex := 46, attributes := #[] }] 49 2 #[] #[])
  fields := #[]
  methods := #[k26m0, k26m1]
  instanceTypes := #[]
  staticTypes := #[]
  resolved := Array.replicate 184 none
  statics := none }

def pool27 : Array CpInfo := pool [(6, .class_ 8), (1, u "java/lang/Object"), (0, u "<init>"), (0, u "()V"), (1, .class_ 14), (1, u "java/lang/StringUTF16"), (31, u "$assertionsDisabled"), (0, u "Z"), (13, u "HI_BYTE_SHIFT"), (0, u "I"), (2, u "LO_BYTE_SHIFT"), (49, .methodref 12 116), (0, .nameAndType 117 118), (0, u "compress"), (0, u "([CI[BII)I"), (3, u "([CII)[B"), (138, u "coderFromArrayLen"), (0, u "([BI)B"), (106, .class_ 371), (1, u "java/lang/StringUTF16$LinesSpliterator"), (58, u "MAX_LENGTH"), (196, .class_ 628), (0, u "java/lang/StringUTF16$CodePointsSpliterator"), (0, .class_ 630), (0, u "java/lang/StringUTF16$CharsSpliterator")] 4

def k27m0 : Method := { name := "<init>", desc := "()V", sig := { parameters := [], returnType := none }, accessFlags := 0, code := none }
def k27c1 : Code := { maxStack := 2, maxLocals := 2, code := jdk_52_method_15_code, exceptionTable := #[], attributes := #[] }
def k27m1 : Method := { name := "coderFromArrayLen", desc := "([BI)B", sig := { parameters := [(.array .byte), .int], returnType := some .byte }, accessFlags := 8, code := some k27c1 }
def k27c2 : Code := { maxStack := 5, maxLocals := 6, code := jdk_52_method_16_code, exceptionTable := #[], attributes := #[] }
def k27m2 : Method := { name := "compress", desc := "([CII)[B", sig := { parameters := [(.array .char), .int, .int], returnType := some (.array .byte) }, accessFlags := 9, code := some k27c2 }
def k27c3 : Code := { maxStack := 3, maxLocals := 7, code := jdk_52_method_21_code, exceptionTable := #[], attributes := #[] }
def k27m3 : Method := { name := "compress", desc := "([CI[BII)I", sig := { parameters := [(.array .char), .int, (.array .byte), .int, .int], returnType := some .int }, accessFlags := 9, code := some k27c3 }
/-- java/lang/StringUTF16 -/
def k27 : Class := { plain "java/lang/StringUTF16" (some 0) with
  accessFlags := 48
  interfaces := #[]
  cf := some (fileOf pool27 12 #[.nestMembers #[627, 629, 369]] #[{ accessFlags := 0, nameIndex := 9, descriptorIndex := 10, attributes := #[] }, { accessFlags := 8, nameIndex := 261, descriptorIndex := 262, attributes := #[] }, { accessFlags := 9, nameIndex := 117, descriptorIndex := 122, attributes := #[] }, { accessFlags := 9, nameIndex := 117, descriptorIndex := 118, attributes := #[] }] 48 6 #[] #[{ accessFlags := 26, nameIndex := 61, descriptorIndex := 62, attributes := #[] }, { accessFlags := 26, nameIndex := 65, descriptorIndex := 62, attributes := #[] }, { accessFlags := 24, nameIndex := 430, descriptorIndex := 62, attributes := #[] }, { accessFlags := 4120, nameIndex := 46, descriptorIndex := 47, attributes := #[] }])
  fields := #[{ name := "HI_BYTE_SHIFT", type := .int, accessFlags := 26, slot := 0, constantValue := 0 }, { name := "LO_BYTE_SHIFT", type := .int, accessFlags := 26, slot := 1, constantValue := 0 }, { name := "MAX_LENGTH", type := .int, accessFlags := 24, slot := 2, constantValue := 0 }, { name := "$assertionsDisabled", type := .boolean, accessFlags := 4120, slot := 3, constantValue := 0 }]
  methods := #[k27m0, k27m1, k27m2, k27m3]
  instanceTypes := #[]
  staticTypes := #[.int, .int, .int, .boolean]
  resolved := Array.replicate 635 none
  statics := none }

def pool28 : Array CpInfo := pool [(4, .class_ 6), (1, u "java/lang/Object"), (0, u "<init>"), (0, u "()V"), (5, .class_ 16), (1, u "java/lang/StringLatin1"), (73, u "canEncode"), (14, u "(C)Z"), (15, u "$assertionsDisabled"), (0, u "Z"), (98, .class_ 223), (1, u "java/lang/StringLatin1$LinesSpliterator"), (156, u "toBytes"), (1, u "(C)[B"), (7, .class_ 391), (0, u "java/lang/StringLatin1$CharsSpliterator")] 3

def k28m0 : Method := { name := "<init>", desc := "()V", sig := { parameters := [], returnType := none }, accessFlags := 0, code := none }
def k28c1 : Code := { maxStack := 2, maxLocals := 1, code := jdk_43_method_3_code, exceptionTable := #[], attributes := #[] }
def k28m1 : Method := { name := "canEncode", desc := "(C)Z", sig := { parameters := [.char], returnType := some .boolean }, accessFlags := 9, code := some k28c1 }
def k28c2 : Code := { maxStack := 4, maxLocals := 1, code := jdk_43_method_46_code, exceptionTable := #[], attributes := #[] }
def k28m2 : Method := { name := "toBytes", desc := "(C)[B", sig := { parameters := [.char], returnType := some (.array .byte) }, accessFlags := 9, code := some k28c2 }
/-- java/lang/StringLatin1 -/
def k28 : Class := { plain "java/lang/StringLatin1" (some 0) with
  accessFlags := 48
  interfaces := #[]
  cf := some (fileOf pool28 14 #[.nestMembers #[390, 221]] #[{ accessFlags := 0, nameIndex := 7, descriptorIndex := 8, attributes := #[] }, { accessFlags := 9, nameIndex := 90, descriptorIndex := 105, attributes := #[] }, { accessFlags := 9, nameIndex := 380, descriptorIndex := 382, attributes := #[] }] 48 4 #[] #[{ accessFlags := 4120, nameIndex := 121, descriptorIndex := 122, attributes := #[] }])
  fields := #[{ name := "$assertionsDisabled", type := .boolean, accessFlags := 4120, slot := 0, constantValue := 0 }]
  methods := #[k28m0, k28m1, k28m2]
  instanceTypes := #[]
  staticTypes := #[.boolean]
  resolved := Array.replicate 395 none
  statics := none }

def pool29 : Array CpInfo := pool [(2, .class_ 4), (1, u "java/lang/Object"), (0, u "<init>"), (0, u "()V"), (17, .class_ 26), (1, u "jdk/internal/util/Preconditions"), (28, .class_ 56), (0, u "jdk/internal/util/Preconditions$4"), (57, .class_ 115), (0, u "jdk/internal/util/Preconditions$1"), (7, u "SIOOBE_FORMATTER"), (0, u "Ljava/util/function/BiFunction;"), (0, .class_ 126), (0, u "jdk/internal/util/Preconditions$2"), (3, u "AIOOBE_FORMATTER"), (0, .class_ 132), (0, u "jdk/internal/util/Preconditions$3"), (3, u "IOOBE_FORMATTER")] 57

def k29m0 : Method := { name := "<init>", desc := "()V", sig := { parameters := [], returnType := none }, accessFlags := 1, code := none }
/-- jdk/internal/util/Preconditions -/
def k29 : Class := { plain "jdk/internal/util/Preconditions" (some 0) with
  accessFlags := 33
  interfaces := #[]
  cf := some (fileOf pool29 24 #[.nestMembers #[55, 131, 125, 114]] #[{ accessFlags := 1, nameIndex := 5, descriptorIndex := 6, attributes := #[] }] 33 2 #[] #[{ accessFlags := 25, nameIndex := 123, descriptorIndex := 124, attributes := #[] }, { accessFlags := 25, nameIndex := 130, descriptorIndex := 124, attributes := #[] }, { accessFlags := 25, nameIndex := 136, descriptorIndex := 124, attributes := #[] }])
  fields := #[{ name := "SIOOBE_FORMATTER", type := (.object "java/util/function/BiFunction"), accessFlags := 25, slot := 0, constantValue := 0 }, { name := "AIOOBE_FORMATTER", type := (.object "java/util/function/BiFunction"), accessFlags := 25, slot := 1, constantValue := 0 }, { name := "IOOBE_FORMATTER", type := (.object "java/util/function/BiFunction"), accessFlags := 25, slot := 2, constantValue := 0 }]
  methods := #[k29m0]
  instanceTypes := #[]
  staticTypes := #[(.object "java/util/function/BiFunction"), (.object "java/util/function/BiFunction"), (.object "java/util/function/BiFunction")]
  resolved := Array.replicate 194 none
  statics := some 3 }

def pool30 : Array CpInfo := pool [(9, u "<init>"), (6, .class_ 18), (1, u "java/lang/Object"), (0, u "()V"), (1, .class_ 23), (1, u "jdk/internal/util/ArraysSupport"), (0, u "LOG2_ARRAY_LONG_INDEX_SCALE"), (0, u "I"), (2, u "U"), (0, u "Ljdk/internal/misc/Unsafe;"), (8, u "BIG_ENDIAN"), (0, u "Z"), (8, u "LOG2_BYTE_BIT_SIZE"), (4, u "LOG2_ARRAY_INT_INDEX_SCALE"), (54, u "JLA"), (0, u "Ljdk/internal/access/JavaLangAccess;"), (11, u "LOG2_ARRAY_BOOLEAN_INDEX_SCALE"), (9, u "LOG2_ARRAY_BYTE_INDEX_SCALE"), (5, u "LOG2_ARRAY_CHAR_INDEX_SCALE"), (5, u "LOG2_ARRAY_SHORT_INDEX_SCALE"), (18, u "LOG2_ARRAY_FLOAT_INDEX_SCALE"), (24, u "LOG2_ARRAY_DOUBLE_INDEX_SCALE"), (89, u "T_BOOLEAN"), (2, u "T_CHAR"), (1, u "T_FLOAT"), (1, u "T_DOUBLE"), (1, u "T_BYTE"), (1, u "T_SHORT"), (1, u "T_INT"), (1, u "T_LONG"), (1, u "SOFT_MAX_ARRAY_LENGTH")] 83

def k30m0 : Method := { name := "<init>", desc := "()V", sig := { parameters := [], returnType := none }, accessFlags := 2, code := none }
/-- jdk/internal/util/ArraysSupport -/
def k30 : Class := { plain "jdk/internal/util/ArraysSupport" (some 0) with
  accessFlags := 33
  interfaces := #[]
  cf := some (fileOf pool30 21 #[] #[{ accessFlags := 2, nameIndex := 9, descriptorIndex := 19, attributes := #[] }] 33 16 #[] #[{ accessFlags := 24, nameIndex := 28, descriptorIndex := 29, attributes := #[] }, { accessFlags := 26, nameIndex := 38, descriptorIndex := 39, attributes := #[] }, { accessFlags := 25, nameIndex := 121, descriptorIndex := 25, attributes := #[] }, { accessFlags := 25, nameIndex := 131, descriptorIndex := 25, attributes := #[] }, { accessFlags := 25, nameIndex := 137, descriptorIndex := 25, attributes := #[] }, { accessFlags := 25, nameIndex := 143, descriptorIndex := 25, attributes := #[] }, { accessFlags := 25, nameIndex := 53, descriptorIndex := 25, attributes := #[] }, { accessFlags := 25, nameIndex := 24, descriptorIndex := 25, attributes := #[] }, { accessFlags := 25, nameIndex := 162, descriptorIndex := 25, attributes := #[] }, { accessFlags := 25, nameIndex := 187, descriptorIndex := 25, attributes := #[] }, { accessFlags := 26, nameIndex := 48, descriptorIndex := 25, attributes := #[] }, { accessFlags := 25, nameIndex := 277, descriptorIndex := 25, attributes := #[] }, { accessFlags := 25, nameIndex := 280, descriptorIndex := 25, attributes := #[] }, { accessFlags := 25, nameIndex := 282, descriptorIndex := 25, attributes := #[] }, { accessFlags := 25, nameIndex := 284, descriptorIndex := 25, attributes := #[] }, { accessFlags := 25, nameIndex := 286, descriptorIndex := 25, attributes := #[] }, { accessFlags := 25, nameIndex := 288, descriptorIndex := 25, attributes := #[] }, { accessFlags := 25, nameIndex := 290, descriptorIndex := 25, attributes := #[] }, { accessFlags := 25, nameIndex := 292, descriptorIndex := 25, attributes := #[] }, { accessFlags := 26, nameIndex := 108, descriptorIndex := 109, attributes := #[] }, { accessFlags := 25, nameIndex := 294, descriptorIndex := 25, attributes := #[] }])
  fields := #[{ name := "U", type := (.object "jdk/internal/misc/Unsafe"), accessFlags := 24, slot := 0, constantValue := 0 }, { name := "BIG_ENDIAN", type := .boolean, accessFlags := 26, slot := 1, constantValue := 0 }, { name := "LOG2_ARRAY_BOOLEAN_INDEX_SCALE", type := .int, accessFlags := 25, slot := 2, constantValue := 0 }, { name := "LOG2_ARRAY_BYTE_INDEX_SCALE", type := .int, accessFlags := 25, slot := 3, constantValue := 0 }, { name := "LOG2_ARRAY_CHAR_INDEX_SCALE", type := .int, accessFlags := 25, slot := 4, constantValue := 0 }, { name := "LOG2_ARRAY_SHORT_INDEX_SCALE", type := .int, accessFlags := 25, slot := 5, constantValue := 0 }, { name := "LOG2_ARRAY_INT_INDEX_SCALE", type := .int, accessFlags := 25, slot := 6, constantValue := 0 }, { name := "LOG2_ARRAY_LONG_INDEX_SCALE", type := .int, accessFlags := 25, slot := 7, constantValue := 0 }, { name := "LOG2_ARRAY_FLOAT_INDEX_SCALE", type := .int, accessFlags := 25, slot := 8, constantValue := 0 }, { name := "LOG2_ARRAY_DOUBLE_INDEX_SCALE", type := .int, accessFlags := 25, slot := 9, constantValue := 0 }, { name := "LOG2_BYTE_BIT_SIZE", type := .int, accessFlags := 26, slot := 10, constantValue := 0 }, { name := "T_BOOLEAN", type := .int, accessFlags := 25, slot := 11, constantValue := 0 }, { name := "T_CHAR", type := .int, accessFlags := 25, slot := 12, constantValue := 0 }, { name := "T_FLOAT", type := .int, accessFlags := 25, slot := 13, constantValue := 0 }, { name := "T_DOUBLE", type := .int, accessFlags := 25, slot := 14, constantValue := 0 }, { name := "T_BYTE", type := .int, accessFlags := 25, slot := 15, constantValue := 0 }, { name := "T_SHORT", type := .int, accessFlags := 25, slot := 16, constantValue := 0 }, { name := "T_INT", type := .int, accessFlags := 25, slot := 17, constantValue := 0 }, { name := "T_LONG", type := .int, accessFlags := 25, slot := 18, constantValue := 0 }, { name := "JLA", type := (.object "jdk/internal/access/JavaLangAccess"), accessFlags := 26, slot := 19, constantValue := 0 }, { name := "SOFT_MAX_ARRAY_LENGTH", type := .int, accessFlags := 25, slot := 20, constantValue := 0 }]
  methods := #[k30m0]
  instanceTypes := #[]
  staticTypes := #[(.object "jdk/internal/misc/Unsafe"), .boolean, .int, .int, .int, .int, .int, .int, .int, .int, .int, .int, .int, .int, .int, .int, .int, .int, .int, (.object "jdk/internal/access/JavaLangAccess"), .int]
  resolved := Array.replicate 378 none
  statics := none }

def pool31 : Array CpInfo := pool [(1, u "java/lang/Class"), (0, .class_ 1), (0, u "java/lang/Object"), (0, .class_ 3)] 0

/-- java/lang/Class -/
def k31 : Class := { plain "java/lang/Class" (some 0) with
  accessFlags := 49
  interfaces := #[]
  cf := some (fileOf pool31 2 #[] #[] 49 4 #[] #[])
  fields := #[]
  methods := #[]
  instanceTypes := #[]
  staticTypes := #[]
  resolved := Array.replicate 5 none
  statics := none }

/-- the primitive byte -/
def k32 : Class := { plain "byte" none with kind := .primitive 'B', accessFlags := 0x411 }
/-- [B -/
def k33 : Class := { plain "[B" (some 0) with kind := .array 32 .byte, interfaces := #[15, 2], accessFlags := 1041 }

/-- the primitive char -/
def k34 : Class := { plain "char" none with kind := .primitive 'C', accessFlags := 0x411 }
/-- [C -/
def k35 : Class := { plain "[C" (some 0) with kind := .array 34 .char, interfaces := #[15, 2], accessFlags := 1041 }

/-- the primitive int -/
def k36 : Class := { plain "int" none with kind := .primitive 'I', accessFlags := 0x411 }
/-- [I -/
def k37 : Class := { plain "[I" (some 0) with kind := .array 36 .int, interfaces := #[15, 2], accessFlags := 1041 }

/-- [Ljava/lang/Object; -/
def k38 : Class := { plain "[Ljava/lang/Object;" (some 0) with kind := .array 0 (.object "java/lang/Object"), interfaces := #[15, 2], accessFlags := 1041, mirror := some 4 }

def heap : Heap := #[{ cls := 7, slots := #[.long 0, .int 1, .null, .int 0, .null, .int 0, .int 0], vm := .statics 7 },
  { cls := 16, slots := #[.long 0, .int 0, .ref 5, .ref 6], vm := .statics 16 },
  { cls := 19, slots := #[.long 0, .int 0, .null, .ref 7, .ref 8, .null, .null, .null, .int 0, .int 1], vm := .statics 19 },
  { cls := 29, slots := #[.null, .null, .null], vm := .statics 29 },
  { cls := 31, slots := #[], vm := .mirror 38 },
  { cls := 38, slots := #[], vm := .none },
  { cls := 38, slots := #[], vm := .none },
  { cls := 0, slots := #[], vm := .none },
  { cls := 23, slots := #[.null, .int 0], vm := .none }]
def classes : Array Class := #[k0, k1, k2, k3, k4, k5, k6, k7, k8, k9, k10, k11, k12, k13, k14, k15, k16, k17, k18, k19, k20, k21, k22, k23, k24, k25, k26, k27, k28, k29, k30, k31, k32, k33, k34, k35, k36, k37, k38]
def interned : List (Array UInt16 × Addr) := []
def slotsUsed : Nat := 26
def theMethod : MethodId := ⟨1, 2⟩
def args0 : Array Value := #[.int 5, .int 6, .int 7, .int 8, .int 9]
def aboutOver (below : List Frame) : State where
  vm := { classes := classes, interned := interned.toArray }
  heap := heap
  slotsUsed := slotsUsed
  threads := #[{ frames := .invoking theMethod args0 :: below }]
def below0 : List Frame := [.native { method := ⟨0, 0⟩, args := #[] }]
def about1 : State := aboutOver below0
def p0 : Program := .bare "" "" ""
def e0 : Env := launch0.env 0 0 0
theorem w_frames : about1.frames = Frame.invoking theMethod args0 :: below0 := rfl
set_option maxRecDepth 65536 in
theorem w_args : argsFit about1.vm theMethod args0 = true := by decide +kernel
set_option maxRecDepth 65536 in
theorem w_heap : heapFits about1 = true := by decide +kernel
set_option maxRecDepth 65536 in
theorem w_runnable : about1.curStatus? = some .runnable := by decide +kernel
set_option maxRecDepth 65536 in
theorem w_alone : about1.alone = true := by decide +kernel
set_option maxRecDepth 65536 in
theorem w_named : about1.methodNamed? x = some theMethod := by decide +kernel
set_option maxRecDepth 65536 in
theorem w_hears : about1.hears theMethod below0 = true := by decide +kernel
set_option maxRecDepth 65536 in
theorem w_ripe : about1.ripe theMethod args0 below0 = true := by decide +kernel
theorem w_running : about1.status = .running := rfl
set_option maxRecDepth 65536 in
theorem w_room : about1.hasRoom e0.platform room_1 = true :=
  launch0.hasRoom_least _ room_1 (by decide +kernel) (by decide +kernel) (by decide +kernel) (by decide +kernel) (by decide +kernel) (by decide +kernel)
theorem allAtoms_all (ts : List Jvm.Cond) (a : Array Jvm.Value) (st : Jvm.State) : (allAtoms ts).before a st = ts.all (fun c => c.before a st) := by
  induction ts with
  | nil => rfl
  | cons c t ih =>
    show (Jvm.Cond.and c (allAtoms t)).before a st = _
    rw [Jvm.Cond.before_and, ih, List.all_cons]
def words1 : List Jvm.Cond := Jvm.Cond.code x code maxLocals ret :: tables_1
/-- a 'code' word, met by the world's own term for the bytes: nothing is compared byte by byte -/
theorem code_word {y : MethodName} {bytes : ByteArray} {mx : Nat} {rt : Option FieldType} {a : Array Value} {s : State} {m : MethodId} {meth : Method} {c : Code} (h1 : s.methodNamed? y = some m) (h2 : s.vm.method? m = some meth) (h3 : meth.code = some c) (h4 : c.code = bytes)
    (h5 : (c.maxLocals == mx && c.exceptionTable.isEmpty && decide (c.maxStack ≤ mostOperands) && decide (meth.sig.returnType = rt) && !meth.locks && decide (parseMethodDescriptor y.desc = some meth.sig)) = true) : (Jvm.Cond.code y bytes mx rt).before a s = true := by
  simp only [Bool.and_eq_true, beq_iff_eq, Bool.not_eq_true', decide_eq_true_eq] at h5
  obtain ⟨⟨⟨⟨⟨g1, g2⟩, g3⟩, g4⟩, g5⟩, g6⟩ := h5
  simp [Cond.before, Cond.holds, Cond.value, h1, h2, h3, h4, g1, g2, g3, g4, g5, g6]
def isCode : Jvm.Cond → Bool
  | .code _ _ _ _ => true
  | _ => false
theorem all_split {L : List Jvm.Cond} {P : Jvm.Cond → Bool} (h1 : L.all (fun c => isCode c || P c) = true) (h2 : ∀ c ∈ L.filter isCode, P c = true) : L.all P = true := by
  refine List.all_eq_true.mpr fun c hc => ?_
  have h := List.all_eq_true.mp h1 c hc
  rcases Bool.eq_false_or_eq_true (isCode c) with hi | hi
  · exact h2 c (List.mem_filter.mpr ⟨hc, hi⟩)
  · simpa [hi] using h
set_option maxRecDepth 65536 in
theorem w_c0 : (Jvm.Cond.code x code maxLocals ret).before args0 about1 = true := code_word (m := ⟨1, 2⟩) (meth := k1m2) (c := k1c2) (by decide +kernel) rfl rfl rfl (by decide +kernel)
set_option maxRecDepth 65536 in
theorem w_c1 : (Jvm.Cond.code ({ cls := "com/example/warm_suite/warmsuite/core/engine/HolderToStringPinLaw", name := "key", desc := "(I)Ljava/lang/String;" } : Jvm.MethodName) method_2_code (4 : Nat) (Option.some (Jvm.ClassFile.FieldType.object "java/lang/String"))).before args0 about1 = true := code_word (m := ⟨1, 1⟩) (meth := k1m1) (c := k1c1) (by decide +kernel) rfl rfl rfl (by decide +kernel)
set_option maxRecDepth 65536 in
theorem w_c2 : (Jvm.Cond.code ({ cls := "java/lang/String", name := "<init>", desc := "([C)V" } : Jvm.MethodName) jdk_42_method_3_code (2 : Nat) (Option.none : Option Jvm.ClassFile.FieldType)).before args0 about1 = true := code_word (m := ⟨7, 1⟩) (meth := k7m1) (c := k7c1) (by decide +kernel) rfl rfl rfl (by decide +kernel)
set_option maxRecDepth 65536 in
theorem w_c3 : (Jvm.Cond.code ({ cls := "java/lang/String", name := "<init>", desc := "([CIILjava/lang/Void;)V" } : Jvm.MethodName) jdk_42_method_149_code (6 : Nat) (Option.none : Option Jvm.ClassFile.FieldType)).before args0 about1 = true := code_word (m := ⟨7, 4⟩) (meth := k7m4) (c := k7c4) (by decide +kernel) rfl rfl rfl (by decide +kernel)
set_option maxRecDepth 65536 in
theorem w_c4 : (Jvm.Cond.code ({ cls := "java/lang/Object", name := "<init>", desc := "()V" } : Jvm.MethodName) object_method_1_code (1 : Nat) (Option.none : Option Jvm.ClassFile.FieldType)).before args0 about1 = true := code_word (m := ⟨0, 0⟩) (meth := k0m0) (c := k0c0) (by decide +kernel) rfl rfl rfl (by decide +kernel)
set_option maxRecDepth 65536 in
theorem w_c5 : (Jvm.Cond.code ({ cls := "java/util/ArrayList", name := "<init>", desc := "()V" } : Jvm.MethodName) jdk_38_method_2_code (1 : Nat) (Option.none : Option Jvm.ClassFile.FieldType)).before args0 about1 = true := code_word (m := ⟨16, 0⟩) (meth := k16m0) (c := k16c0) (by decide +kernel) rfl rfl rfl (by decide +kernel)
set_option maxRecDepth 65536 in
theorem w_c6 : (Jvm.Cond.code ({ cls := "java/util/AbstractList", name := "<init>", desc := "()V" } : Jvm.MethodName) jdk_39_method_1_code (1 : Nat) (Option.none : Option Jvm.ClassFile.FieldType)).before args0 about1 = true := code_word (m := ⟨13, 0⟩) (meth := k13m0) (c := k13c0) (by decide +kernel) rfl rfl rfl (by decide +kernel)
set_option maxRecDepth 65536 in
theorem w_c7 : (Jvm.Cond.code ({ cls := "java/util/AbstractCollection", name := "<init>", desc := "()V" } : Jvm.MethodName) jdk_22_method_1_code (1 : Nat) (Option.none : Option Jvm.ClassFile.FieldType)).before args0 about1 = true := code_word (m := ⟨10, 0⟩) (meth := k10m0) (c := k10c0) (by decide +kernel) rfl rfl rfl (by decide +kernel)
set_option maxRecDepth 65536 in
theorem w_c8 : (Jvm.Cond.code ({ cls := "java/util/ArrayList", name := "add", desc := "(Ljava/lang/Object;)Z" } : Jvm.MethodName) jdk_38_method_25_code (2 : Nat) (Option.some Jvm.ClassFile.FieldType.boolean)).before args0 about1 = true := code_word (m := ⟨16, 6⟩) (meth := k16m6) (c := k16c6) (by decide +kernel) rfl rfl rfl (by decide +kernel)
set_option maxRecDepth 65536 in
theorem w_c9 : (Jvm.Cond.code ({ cls := "java/util/ArrayList", name := "add", desc := "(Ljava/lang/Object;[Ljava/lang/Object;I)V" } : Jvm.MethodName) jdk_38_method_24_code (4 : Nat) (Option.none : Option Jvm.ClassFile.FieldType)).before args0 about1 = true := code_word (m := ⟨16, 5⟩) (meth := k16m5) (c := k16c5) (by decide +kernel) rfl rfl rfl (by decide +kernel)
set_option maxRecDepth 65536 in
theorem w_c10 : (Jvm.Cond.code ({ cls := "java/util/ArrayList", name := "grow", desc := "()[Ljava/lang/Object;" } : Jvm.MethodName) jdk_38_method_7_code (1 : Nat) (Option.some (Jvm.ClassFile.FieldType.array (Jvm.ClassFile.FieldType.object "java/lang/Object")))).before args0 about1 = true := code_word (m := ⟨16, 2⟩) (meth := k16m2) (c := k16c2) (by decide +kernel) rfl rfl rfl (by decide +kernel)
set_option maxRecDepth 65536 in
theorem w_c11 : (Jvm.Cond.code ({ cls := "java/util/ArrayList", name := "grow", desc := "(I)[Ljava/lang/Object;" } : Jvm.MethodName) jdk_38_method_6_code (4 : Nat) (Option.some (Jvm.ClassFile.FieldType.array (Jvm.ClassFile.FieldType.object "java/lang/Object")))).before args0 about1 = true := code_word (m := ⟨16, 1⟩) (meth := k16m1) (c := k16c1) (by decide +kernel) rfl rfl rfl (by decide +kernel)
set_option maxRecDepth 65536 in
theorem w_c12 : (Jvm.Cond.code ({ cls := "java/lang/Math", name := "max", desc := "(II)I" } : Jvm.MethodName) jdk_29_method_65_code (2 : Nat) (Option.some Jvm.ClassFile.FieldType.int)).before args0 about1 = true := code_word (m := ⟨17, 1⟩) (meth := k17m1) (c := k17c1) (by decide +kernel) rfl rfl rfl (by decide +kernel)
set_option maxRecDepth 65536 in
theorem w_c13 : (Jvm.Cond.code ({ cls := "com/example/warm_suite/warmsuite/core/engine/Holder", name := "<init>", desc := "(Ljava/util/List;)V" } : Jvm.MethodName) prog_14_method_1_code (2 : Nat) (Option.none : Option Jvm.ClassFile.FieldType)).before args0 about1 = true := code_word (m := ⟨18, 0⟩) (meth := k18m0) (c := k18c0) (by decide +kernel) rfl rfl rfl (by decide +kernel)
set_option maxRecDepth 65536 in
theorem w_c14 : (Jvm.Cond.code ({ cls := "java/util/ArrayList", name := "isEmpty", desc := "()Z" } : Jvm.MethodName) jdk_38_method_9_code (1 : Nat) (Option.some Jvm.ClassFile.FieldType.boolean)).before args0 about1 = true := code_word (m := ⟨16, 3⟩) (meth := k16m3) (c := k16c3) (by decide +kernel) rfl rfl rfl (by decide +kernel)
set_option maxRecDepth 65536 in
theorem w_c15 : (Jvm.Cond.code ({ cls := "java/util/List", name := "copyOf", desc := "(Ljava/util/Collection;)Ljava/util/List;" } : Jvm.MethodName) jdk_40_method_48_code (1 : Nat) (Option.some (Jvm.ClassFile.FieldType.object "java/util/List"))).before args0 about1 = true := code_word (m := ⟨12, 4⟩) (meth := k12m4) (c := k12c4) (by decide +kernel) rfl rfl rfl (by decide +kernel)
set_option maxRecDepth 65536 in
theorem w_c16 : (Jvm.Cond.code ({ cls := "java/util/ImmutableCollections", name := "listCopy", desc := "(Ljava/util/Collection;)Ljava/util/List;" } : Jvm.MethodName) jdk_56_method_3_code (2 : Nat) (Option.some (Jvm.ClassFile.FieldType.object "java/util/List"))).before args0 about1 = true := code_word (m := ⟨19, 1⟩) (meth := k19m1) (c := k19c1) (by decide +kernel) rfl rfl rfl (by decide +kernel)
set_option maxRecDepth 65536 in
theorem w_c17 : (Jvm.Cond.code ({ cls := "java/util/ArrayList", name := "toArray", desc := "()[Ljava/lang/Object;" } : Jvm.MethodName) jdk_38_method_16_code (1 : Nat) (Option.some (Jvm.ClassFile.FieldType.array (Jvm.ClassFile.FieldType.object "java/lang/Object")))).before args0 about1 = true := code_word (m := ⟨16, 4⟩) (meth := k16m4) (c := k16c4) (by decide +kernel) rfl rfl rfl (by decide +kernel)
set_option maxRecDepth 65536 in
theorem w_c18 : (Jvm.Cond.code ({ cls := "java/util/Arrays", name := "copyOf", desc := "([Ljava/lang/Object;I)[Ljava/lang/Object;" } : Jvm.MethodName) jdk_65_method_119_code (2 : Nat) (Option.some (Jvm.ClassFile.FieldType.array (Jvm.ClassFile.FieldType.object "java/lang/Object")))).before args0 about1 = true := code_word (m := ⟨24, 1⟩) (meth := k24m1) (c := k24c1) (by decide +kernel) rfl rfl rfl (by decide +kernel)
set_option maxRecDepth 65536 in
theorem w_c19 : (Jvm.Cond.code ({ cls := "java/util/Arrays", name := "copyOf", desc := "([Ljava/lang/Object;ILjava/lang/Class;)[Ljava/lang/Object;" } : Jvm.MethodName) jdk_65_method_120_code (4 : Nat) (Option.some (Jvm.ClassFile.FieldType.array (Jvm.ClassFile.FieldType.object "java/lang/Object")))).before args0 about1 = true := code_word (m := ⟨24, 2⟩) (meth := k24m2) (c := k24c2) (by decide +kernel) rfl rfl rfl (by decide +kernel)
set_option maxRecDepth 65536 in
theorem w_c20 : (Jvm.Cond.code ({ cls := "java/lang/Math", name := "min", desc := "(II)I" } : Jvm.MethodName) jdk_29_method_69_code (2 : Nat) (Option.some Jvm.ClassFile.FieldType.int)).before args0 about1 = true := code_word (m := ⟨17, 2⟩) (meth := k17m2) (c := k17c2) (by decide +kernel) rfl rfl rfl (by decide +kernel)
set_option maxRecDepth 65536 in
theorem w_c21 : (Jvm.Cond.code ({ cls := "java/util/List", name := "of", desc := "([Ljava/lang/Object;)Ljava/util/List;" } : Jvm.MethodName) jdk_40_method_47_code (2 : Nat) (Option.some (Jvm.ClassFile.FieldType.object "java/util/List"))).before args0 about1 = true := code_word (m := ⟨12, 3⟩) (meth := k12m3) (c := k12c3) (by decide +kernel) rfl rfl rfl (by decide +kernel)
set_option maxRecDepth 65536 in
theorem w_c22 : (Jvm.Cond.code ({ cls := "java/util/ImmutableCollections$List12", name := "<init>", desc := "(Ljava/lang/Object;)V" } : Jvm.MethodName) jdk_44_method_1_code (2 : Nat) (Option.none : Option Jvm.ClassFile.FieldType)).before args0 about1 = true := code_word (m := ⟨22, 0⟩) (meth := k22m0) (c := k22c0) (by decide +kernel) rfl rfl rfl (by decide +kernel)
set_option maxRecDepth 65536 in
theorem w_c23 : (Jvm.Cond.code ({ cls := "java/util/ImmutableCollections$AbstractImmutableList", name := "<init>", desc := "()V" } : Jvm.MethodName) jdk_46_method_1_code (1 : Nat) (Option.none : Option Jvm.ClassFile.FieldType)).before args0 about1 = true := code_word (m := ⟨21, 0⟩) (meth := k21m0) (c := k21c0) (by decide +kernel) rfl rfl rfl (by decide +kernel)
set_option maxRecDepth 65536 in
theorem w_c24 : (Jvm.Cond.code ({ cls := "java/util/ImmutableCollections$AbstractImmutableCollection", name := "<init>", desc := "()V" } : Jvm.MethodName) jdk_47_method_1_code (1 : Nat) (Option.none : Option Jvm.ClassFile.FieldType)).before args0 about1 = true := code_word (m := ⟨20, 0⟩) (meth := k20m0) (c := k20c0) (by decide +kernel) rfl rfl rfl (by decide +kernel)
set_option maxRecDepth 65536 in
theorem w_c25 : (Jvm.Cond.code ({ cls := "java/util/Objects", name := "requireNonNull", desc := "(Ljava/lang/Object;)Ljava/lang/Object;" } : Jvm.MethodName) jdk_31_method_10_code (1 : Nat) (Option.some (Jvm.ClassFile.FieldType.object "java/lang/Object"))).before args0 about1 = true := code_word (m := ⟨26, 1⟩) (meth := k26m1) (c := k26c1) (by decide +kernel) rfl rfl rfl (by decide +kernel)
set_option maxRecDepth 65536 in
theorem w_c26 : (Jvm.Cond.code ({ cls := "com/example/warm_suite/warmsuite/core/engine/Holder", name := "toString", desc := "()Ljava/lang/String;" } : Jvm.MethodName) prog_14_method_3_code (1 : Nat) (Option.some (Jvm.ClassFile.FieldType.object "java/lang/String"))).before args0 about1 = true := code_word (m := ⟨18, 1⟩) (meth := k18m1) (c := k18c1) (by decide +kernel) rfl rfl rfl (by decide +kernel)
set_option maxRecDepth 65536 in
theorem w_c27 : (Jvm.Cond.code ({ cls := "java/util/ImmutableCollections$List12", name := "size", desc := "()I" } : Jvm.MethodName) jdk_44_method_3_code (1 : Nat) (Option.some Jvm.ClassFile.FieldType.int)).before args0 about1 = true := code_word (m := ⟨22, 2⟩) (meth := k22m2) (c := k22c2) (by decide +kernel) rfl rfl rfl (by decide +kernel)
set_option maxRecDepth 65536 in
theorem w_c28 : (Jvm.Cond.code ({ cls := "java/util/ImmutableCollections$List12", name := "get", desc := "(I)Ljava/lang/Object;" } : Jvm.MethodName) jdk_44_method_5_code (2 : Nat) (Option.some (Jvm.ClassFile.FieldType.object "java/lang/Object"))).before args0 about1 = true := code_word (m := ⟨22, 3⟩) (meth := k22m3) (c := k22c3) (by decide +kernel) rfl rfl rfl (by decide +kernel)
set_option maxRecDepth 65536 in
theorem w_c29 : (Jvm.Cond.code ({ cls := "java/lang/String", name := "equals", desc := "(Ljava/lang/Object;)Z" } : Jvm.MethodName) jdk_42_method_66_code (3 : Nat) (Option.some Jvm.ClassFile.FieldType.boolean)).before args0 about1 = true := code_word (m := ⟨7, 2⟩) (meth := k7m2) (c := k7c2) (by decide +kernel) rfl rfl rfl (by decide +kernel)
set_option maxRecDepth 65536 in
theorem w_c30 : (Jvm.Cond.code ({ cls := "java/lang/StringUTF16", name := "compress", desc := "([CII)[B" } : Jvm.MethodName) jdk_52_method_16_code (6 : Nat) (Option.some (Jvm.ClassFile.FieldType.array Jvm.ClassFile.FieldType.byte))).before args0 about1 = true := code_word (m := ⟨27, 2⟩) (meth := k27m2) (c := k27c2) (by decide +kernel) rfl rfl rfl (by decide +kernel)
set_option maxRecDepth 65536 in
theorem w_c31 : (Jvm.Cond.code ({ cls := "java/lang/StringUTF16", name := "compress", desc := "([CI[BII)I" } : Jvm.MethodName) jdk_52_method_21_code (7 : Nat) (Option.some Jvm.ClassFile.FieldType.int)).before args0 about1 = true := code_word (m := ⟨27, 3⟩) (meth := k27m3) (c := k27c3) (by decide +kernel) rfl rfl rfl (by decide +kernel)
set_option maxRecDepth 65536 in
theorem w_c32 : (Jvm.Cond.code ({ cls := "java/lang/StringUTF16", name := "coderFromArrayLen", desc := "([BI)B" } : Jvm.MethodName) jdk_52_method_15_code (2 : Nat) (Option.some Jvm.ClassFile.FieldType.byte)).before args0 about1 = true := code_word (m := ⟨27, 1⟩) (meth := k27m1) (c := k27c1) (by decide +kernel) rfl rfl rfl (by decide +kernel)
set_option maxRecDepth 65536 in
theorem w_c33 : (Jvm.Cond.code ({ cls := "java/lang/String", name := "valueOf", desc := "(C)Ljava/lang/String;" } : Jvm.MethodName) jdk_42_method_139_code (1 : Nat) (Option.some (Jvm.ClassFile.FieldType.object "java/lang/String"))).before args0 about1 = true := code_word (m := ⟨7, 3⟩) (meth := k7m3) (c := k7c3) (by decide +kernel) rfl rfl rfl (by decide +kernel)
set_option maxRecDepth 65536 in
theorem w_c34 : (Jvm.Cond.code ({ cls := "java/lang/StringLatin1", name := "canEncode", desc := "(C)Z" } : Jvm.MethodName) jdk_43_method_3_code (1 : Nat) (Option.some Jvm.ClassFile.FieldType.boolean)).before args0 about1 = true := code_word (m := ⟨28, 1⟩) (meth := k28m1) (c := k28c1) (by decide +kernel) rfl rfl rfl (by decide +kernel)
set_option maxRecDepth 65536 in
theorem w_c35 : (Jvm.Cond.code ({ cls := "java/lang/StringLatin1", name := "toBytes", desc := "(C)[B" } : Jvm.MethodName) jdk_43_method_46_code (1 : Nat) (Option.some (Jvm.ClassFile.FieldType.array Jvm.ClassFile.FieldType.byte))).before args0 about1 = true := code_word (m := ⟨28, 2⟩) (meth := k28m2) (c := k28c2) (by decide +kernel) rfl rfl rfl (by decide +kernel)
set_option maxRecDepth 65536 in
theorem w_c36 : (Jvm.Cond.code ({ cls := "java/lang/String", name := "<init>", desc := "([BB)V" } : Jvm.MethodName) jdk_42_method_151_code (3 : Nat) (Option.none : Option Jvm.ClassFile.FieldType)).before args0 about1 = true := code_word (m := ⟨7, 5⟩) (meth := k7m5) (c := k7c5) (by decide +kernel) rfl rfl rfl (by decide +kernel)
set_option maxRecDepth 65536 in
theorem w_c37 : (Jvm.Cond.code ({ cls := "java/util/ImmutableCollections", name := "listFromArray", desc := "([Ljava/lang/Object;)Ljava/util/List;" } : Jvm.MethodName) jdk_56_method_4_code (3 : Nat) (Option.some (Jvm.ClassFile.FieldType.object "java/util/List"))).before args0 about1 = true := code_word (m := ⟨19, 2⟩) (meth := k19m2) (c := k19c2) (by decide +kernel) rfl rfl rfl (by decide +kernel)
set_option maxRecDepth 65536 in
theorem w_c38 : (Jvm.Cond.code ({ cls := "java/util/ImmutableCollections$ListN", name := "<init>", desc := "([Ljava/lang/Object;Z)V" } : Jvm.MethodName) jdk_45_method_1_code (3 : Nat) (Option.none : Option Jvm.ClassFile.FieldType)).before args0 about1 = true := code_word (m := ⟨23, 0⟩) (meth := k23m0) (c := k23c0) (by decide +kernel) rfl rfl rfl (by decide +kernel)
set_option maxRecDepth 65536 in
theorem w_c39 : (Jvm.Cond.code ({ cls := "java/util/ImmutableCollections$ListN", name := "size", desc := "()I" } : Jvm.MethodName) jdk_45_method_3_code (1 : Nat) (Option.some Jvm.ClassFile.FieldType.int)).before args0 about1 = true := code_word (m := ⟨23, 1⟩) (meth := k23m1) (c := k23c1) (by decide +kernel) rfl rfl rfl (by decide +kernel)
set_option maxRecDepth 65536 in
theorem w_c40 : (Jvm.Cond.code ({ cls := "java/util/ImmutableCollections$ListN", name := "get", desc := "(I)Ljava/lang/Object;" } : Jvm.MethodName) jdk_45_method_4_code (2 : Nat) (Option.some (Jvm.ClassFile.FieldType.object "java/lang/Object"))).before args0 about1 = true := code_word (m := ⟨23, 2⟩) (meth := k23m2) (c := k23c2) (by decide +kernel) rfl rfl rfl (by decide +kernel)
set_option maxRecDepth 65536 in
theorem w_c41 : (Jvm.Cond.code ({ cls := "java/util/ImmutableCollections$List12", name := "<init>", desc := "(Ljava/lang/Object;Ljava/lang/Object;)V" } : Jvm.MethodName) jdk_44_method_2_code (3 : Nat) (Option.none : Option Jvm.ClassFile.FieldType)).before args0 about1 = true := code_word (m := ⟨22, 1⟩) (meth := k22m1) (c := k22c1) (by decide +kernel) rfl rfl rfl (by decide +kernel)
def codes1 : List Jvm.Cond := [Jvm.Cond.code x code maxLocals ret, Jvm.Cond.code ({ cls := "com/example/warm_suite/warmsuite/core/engine/HolderToStringPinLaw", name := "key", desc := "(I)Ljava/lang/String;" } : Jvm.MethodName) method_2_code (4 : Nat) (Option.some (Jvm.ClassFile.FieldType.object "java/lang/String")), Jvm.Cond.code ({ cls := "java/lang/String", name := "<init>", desc := "([C)V" } : Jvm.MethodName) jdk_42_method_3_code (2 : Nat) (Option.none : Option Jvm.ClassFile.FieldType), Jvm.Cond.code ({ cls := "java/lang/String", name := "<init>", desc := "([CIILjava/lang/Void;)V" } : Jvm.MethodName) jdk_42_method_149_code (6 : Nat) (Option.none : Option Jvm.ClassFile.FieldType), Jvm.Cond.code ({ cls := "java/lang/Object", name := "<init>", desc := "()V" } : Jvm.MethodName) object_method_1_code (1 : Nat) (Option.none : Option Jvm.ClassFile.FieldType), Jvm.Cond.code ({ cls := "java/util/ArrayList", name := "<init>", desc := "()V" } : Jvm.MethodName) jdk_38_method_2_code (1 : Nat) (Option.none : Option Jvm.ClassFile.FieldType), Jvm.Cond.code ({ cls := "java/util/AbstractList", name := "<init>", desc := "()V" } : Jvm.MethodName) jdk_39_method_1_code (1 : Nat) (Option.none : Option Jvm.ClassFile.FieldType), Jvm.Cond.code ({ cls := "java/util/AbstractCollection", name := "<init>", desc := "()V" } : Jvm.MethodName) jdk_22_method_1_code (1 : Nat) (Option.none : Option Jvm.ClassFile.FieldType), Jvm.Cond.code ({ cls := "java/util/ArrayList", name := "add", desc := "(Ljava/lang/Object;)Z" } : Jvm.MethodName) jdk_38_method_25_code (2 : Nat) (Option.some Jvm.ClassFile.FieldType.boolean), Jvm.Cond.code ({ cls := "java/util/ArrayList", name := "add", desc := "(Ljava/lang/Object;[Ljava/lang/Object;I)V" } : Jvm.MethodName) jdk_38_method_24_code (4 : Nat) (Option.none : Option Jvm.ClassFile.FieldType), Jvm.Cond.code ({ cls := "java/util/ArrayList", name := "grow", desc := "()[Ljava/lang/Object;" } : Jvm.MethodName) jdk_38_method_7_code (1 : Nat) (Option.some (Jvm.ClassFile.FieldType.array (Jvm.ClassFile.FieldType.object "java/lang/Object"))), Jvm.Cond.code ({ cls := "java/util/ArrayList", name := "grow", desc := "(I)[Ljava/lang/Object;" } : Jvm.MethodName) jdk_38_method_6_code (4 : Nat) (Option.some (Jvm.ClassFile.FieldType.array (Jvm.ClassFile.FieldType.object "java/lang/Object"))), Jvm.Cond.code ({ cls := "java/lang/Math", name := "max", desc := "(II)I" } : Jvm.MethodName) jdk_29_method_65_code (2 : Nat) (Option.some Jvm.ClassFile.FieldType.int), Jvm.Cond.code ({ cls := "com/example/warm_suite/warmsuite/core/engine/Holder", name := "<init>", desc := "(Ljava/util/List;)V" } : Jvm.MethodName) prog_14_method_1_code (2 : Nat) (Option.none : Option Jvm.ClassFile.FieldType), Jvm.Cond.code ({ cls := "java/util/ArrayList", name := "isEmpty", desc := "()Z" } : Jvm.MethodName) jdk_38_method_9_code (1 : Nat) (Option.some Jvm.ClassFile.FieldType.boolean), Jvm.Cond.code ({ cls := "java/util/List", name := "copyOf", desc := "(Ljava/util/Collection;)Ljava/util/List;" } : Jvm.MethodName) jdk_40_method_48_code (1 : Nat) (Option.some (Jvm.ClassFile.FieldType.object "java/util/List")), Jvm.Cond.code ({ cls := "java/util/ImmutableCollections", name := "listCopy", desc := "(Ljava/util/Collection;)Ljava/util/List;" } : Jvm.MethodName) jdk_56_method_3_code (2 : Nat) (Option.some (Jvm.ClassFile.FieldType.object "java/util/List")), Jvm.Cond.code ({ cls := "java/util/ArrayList", name := "toArray", desc := "()[Ljava/lang/Object;" } : Jvm.MethodName) jdk_38_method_16_code (1 : Nat) (Option.some (Jvm.ClassFile.FieldType.array (Jvm.ClassFile.FieldType.object "java/lang/Object"))), Jvm.Cond.code ({ cls := "java/util/Arrays", name := "copyOf", desc := "([Ljava/lang/Object;I)[Ljava/lang/Object;" } : Jvm.MethodName) jdk_65_method_119_code (2 : Nat) (Option.some (Jvm.ClassFile.FieldType.array (Jvm.ClassFile.FieldType.object "java/lang/Object"))), Jvm.Cond.code ({ cls := "java/util/Arrays", name := "copyOf", desc := "([Ljava/lang/Object;ILjava/lang/Class;)[Ljava/lang/Object;" } : Jvm.MethodName) jdk_65_method_120_code (4 : Nat) (Option.some (Jvm.ClassFile.FieldType.array (Jvm.ClassFile.FieldType.object "java/lang/Object"))), Jvm.Cond.code ({ cls := "java/lang/Math", name := "min", desc := "(II)I" } : Jvm.MethodName) jdk_29_method_69_code (2 : Nat) (Option.some Jvm.ClassFile.FieldType.int), Jvm.Cond.code ({ cls := "java/util/List", name := "of", desc := "([Ljava/lang/Object;)Ljava/util/List;" } : Jvm.MethodName) jdk_40_method_47_code (2 : Nat) (Option.some (Jvm.ClassFile.FieldType.object "java/util/List")), Jvm.Cond.code ({ cls := "java/util/ImmutableCollections$List12", name := "<init>", desc := "(Ljava/lang/Object;)V" } : Jvm.MethodName) jdk_44_method_1_code (2 : Nat) (Option.none : Option Jvm.ClassFile.FieldType), Jvm.Cond.code ({ cls := "java/util/ImmutableCollections$AbstractImmutableList", name := "<init>", desc := "()V" } : Jvm.MethodName) jdk_46_method_1_code (1 : Nat) (Option.none : Option Jvm.ClassFile.FieldType), Jvm.Cond.code ({ cls := "java/util/ImmutableCollections$AbstractImmutableCollection", name := "<init>", desc := "()V" } : Jvm.MethodName) jdk_47_method_1_code (1 : Nat) (Option.none : Option Jvm.ClassFile.FieldType), Jvm.Cond.code ({ cls := "java/util/Objects", name := "requireNonNull", desc := "(Ljava/lang/Object;)Ljava/lang/Object;" } : Jvm.MethodName) jdk_31_method_10_code (1 : Nat) (Option.some (Jvm.ClassFile.FieldType.object "java/lang/Object")), Jvm.Cond.code ({ cls := "com/example/warm_suite/warmsuite/core/engine/Holder", name := "toString", desc := "()Ljava/lang/String;" } : Jvm.MethodName) prog_14_method_3_code (1 : Nat) (Option.some (Jvm.ClassFile.FieldType.object "java/lang/String")), Jvm.Cond.code ({ cls := "java/util/ImmutableCollections$List12", name := "size", desc := "()I" } : Jvm.MethodName) jdk_44_method_3_code (1 : Nat) (Option.some Jvm.ClassFile.FieldType.int), Jvm.Cond.code ({ cls := "java/util/ImmutableCollections$List12", name := "get", desc := "(I)Ljava/lang/Object;" } : Jvm.MethodName) jdk_44_method_5_code (2 : Nat) (Option.some (Jvm.ClassFile.FieldType.object "java/lang/Object")), Jvm.Cond.code ({ cls := "java/lang/String", name := "equals", desc := "(Ljava/lang/Object;)Z" } : Jvm.MethodName) jdk_42_method_66_code (3 : Nat) (Option.some Jvm.ClassFile.FieldType.boolean), Jvm.Cond.code ({ cls := "java/lang/StringUTF16", name := "compress", desc := "([CII)[B" } : Jvm.MethodName) jdk_52_method_16_code (6 : Nat) (Option.some (Jvm.ClassFile.FieldType.array Jvm.ClassFile.FieldType.byte)), Jvm.Cond.code ({ cls := "java/lang/StringUTF16", name := "compress", desc := "([CI[BII)I" } : Jvm.MethodName) jdk_52_method_21_code (7 : Nat) (Option.some Jvm.ClassFile.FieldType.int), Jvm.Cond.code ({ cls := "java/lang/StringUTF16", name := "coderFromArrayLen", desc := "([BI)B" } : Jvm.MethodName) jdk_52_method_15_code (2 : Nat) (Option.some Jvm.ClassFile.FieldType.byte), Jvm.Cond.code ({ cls := "java/lang/String", name := "valueOf", desc := "(C)Ljava/lang/String;" } : Jvm.MethodName) jdk_42_method_139_code (1 : Nat) (Option.some (Jvm.ClassFile.FieldType.object "java/lang/String")), Jvm.Cond.code ({ cls := "java/lang/StringLatin1", name := "canEncode", desc := "(C)Z" } : Jvm.MethodName) jdk_43_method_3_code (1 : Nat) (Option.some Jvm.ClassFile.FieldType.boolean), Jvm.Cond.code ({ cls := "java/lang/StringLatin1", name := "toBytes", desc := "(C)[B" } : Jvm.MethodName) jdk_43_method_46_code (1 : Nat) (Option.some (Jvm.ClassFile.FieldType.array Jvm.ClassFile.FieldType.byte)), Jvm.Cond.code ({ cls := "java/lang/String", name := "<init>", desc := "([BB)V" } : Jvm.MethodName) jdk_42_method_151_code (3 : Nat) (Option.none : Option Jvm.ClassFile.FieldType), Jvm.Cond.code ({ cls := "java/util/ImmutableCollections", name := "listFromArray", desc := "([Ljava/lang/Object;)Ljava/util/List;" } : Jvm.MethodName) jdk_56_method_4_code (3 : Nat) (Option.some (Jvm.ClassFile.FieldType.object "java/util/List")), Jvm.Cond.code ({ cls := "java/util/ImmutableCollections$ListN", name := "<init>", desc := "([Ljava/lang/Object;Z)V" } : Jvm.MethodName) jdk_45_method_1_code (3 : Nat) (Option.none : Option Jvm.ClassFile.FieldType), Jvm.Cond.code ({ cls := "java/util/ImmutableCollections$ListN", name := "size", desc := "()I" } : Jvm.MethodName) jdk_45_method_3_code (1 : Nat) (Option.some Jvm.ClassFile.FieldType.int), Jvm.Cond.code ({ cls := "java/util/ImmutableCollections$ListN", name := "get", desc := "(I)Ljava/lang/Object;" } : Jvm.MethodName) jdk_45_method_4_code (2 : Nat) (Option.some (Jvm.ClassFile.FieldType.object "java/lang/Object")), Jvm.Cond.code ({ cls := "java/util/ImmutableCollections$List12", name := "<init>", desc := "(Ljava/lang/Object;Ljava/lang/Object;)V" } : Jvm.MethodName) jdk_44_method_2_code (3 : Nat) (Option.none : Option Jvm.ClassFile.FieldType)]
set_option maxRecDepth 65536 in
theorem codes_eq : words1.filter isCode = codes1 := rfl
theorem w_codes : ∀ c ∈ words1.filter isCode, c.before args0 about1 = true := by
  rw [codes_eq]
  intro c hc
  simp only [codes1, List.mem_cons, List.not_mem_nil, or_false] at hc
  rcases hc with rfl | rfl | rfl | rfl | rfl | rfl | rfl | rfl | rfl | rfl | rfl | rfl | rfl | rfl | rfl | rfl | rfl | rfl | rfl | rfl | rfl | rfl | rfl | rfl | rfl | rfl | rfl | rfl | rfl | rfl | rfl | rfl | rfl | rfl | rfl | rfl | rfl | rfl | rfl | rfl | rfl | rfl
  · exact w_c0
  · exact w_c1
  · exact w_c2
  · exact w_c3
  · exact w_c4
  · exact w_c5
  · exact w_c6
  · exact w_c7
  · exact w_c8
  · exact w_c9
  · exact w_c10
  · exact w_c11
  · exact w_c12
  · exact w_c13
  · exact w_c14
  · exact w_c15
  · exact w_c16
  · exact w_c17
  · exact w_c18
  · exact w_c19
  · exact w_c20
  · exact w_c21
  · exact w_c22
  · exact w_c23
  · exact w_c24
  · exact w_c25
  · exact w_c26
  · exact w_c27
  · exact w_c28
  · exact w_c29
  · exact w_c30
  · exact w_c31
  · exact w_c32
  · exact w_c33
  · exact w_c34
  · exact w_c35
  · exact w_c36
  · exact w_c37
  · exact w_c38
  · exact w_c39
  · exact w_c40
  · exact w_c41
set_option maxRecDepth 65536 in
theorem w_t1 : (words1.take 24).all (fun c => isCode c || c.before args0 about1) = true := by decide +kernel
set_option maxRecDepth 65536 in
theorem w_t2 : ((words1.drop 24).take 24).all (fun c => isCode c || c.before args0 about1) = true := by decide +kernel
set_option maxRecDepth 65536 in
theorem w_t3 : (((words1.drop 24).drop 24).take 24).all (fun c => isCode c || c.before args0 about1) = true := by decide +kernel
set_option maxRecDepth 65536 in
theorem w_t4 : ((((words1.drop 24).drop 24).drop 24).take 24).all (fun c => isCode c || c.before args0 about1) = true := by decide +kernel
set_option maxRecDepth 65536 in
theorem w_t5 : (((((words1.drop 24).drop 24).drop 24).drop 24).take 24).all (fun c => isCode c || c.before args0 about1) = true := by decide +kernel
set_option maxRecDepth 65536 in
theorem w_t6 : ((((((words1.drop 24).drop 24).drop 24).drop 24).drop 24).take 24).all (fun c => isCode c || c.before args0 about1) = true := by decide +kernel
set_option maxRecDepth 65536 in
theorem w_t7 : (((((((words1.drop 24).drop 24).drop 24).drop 24).drop 24).drop 24).take 24).all (fun c => isCode c || c.before args0 about1) = true := by decide +kernel
set_option maxRecDepth 65536 in
theorem w_t8 : ((((((((words1.drop 24).drop 24).drop 24).drop 24).drop 24).drop 24).drop 24).take 24).all (fun c => isCode c || c.before args0 about1) = true := by decide +kernel
set_option maxRecDepth 65536 in
theorem w_t9 : (((((((((words1.drop 24).drop 24).drop 24).drop 24).drop 24).drop 24).drop 24).drop 24).take 24).all (fun c => isCode c || c.before args0 about1) = true := by decide +kernel
set_option maxRecDepth 65536 in
theorem w_t10 : ((((((((((words1.drop 24).drop 24).drop 24).drop 24).drop 24).drop 24).drop 24).drop 24).drop 24).take 24).all (fun c => isCode c || c.before args0 about1) = true := by decide +kernel
set_option maxRecDepth 65536 in
theorem w_t11 : (((((((((((words1.drop 24).drop 24).drop 24).drop 24).drop 24).drop 24).drop 24).drop 24).drop 24).drop 24).take 24).all (fun c => isCode c || c.before args0 about1) = true := by decide +kernel
set_option maxRecDepth 65536 in
theorem w_t12 : (((((((((((words1.drop 24).drop 24).drop 24).drop 24).drop 24).drop 24).drop 24).drop 24).drop 24).drop 24).drop 24).all (fun c => isCode c || c.before args0 about1) = true := by decide +kernel
theorem w_tables : (allAtoms (Jvm.Cond.code x code maxLocals ret :: tables_1)).before args0 about1 = true := by
  rw [allAtoms_all]
  show words1.all (fun c => c.before args0 about1) = true
  refine all_split ?_ w_codes
  rw [← List.take_append_drop 24 words1, List.all_append, w_t1, ← List.take_append_drop 24 (words1.drop 24), List.all_append, w_t2, ← List.take_append_drop 24 ((words1.drop 24).drop 24), List.all_append, w_t3, ← List.take_append_drop 24 (((words1.drop 24).drop 24).drop 24), List.all_append, w_t4, ← List.take_append_drop 24 ((((words1.drop 24).drop 24).drop 24).drop 24), List.all_append, w_t5, ← List.take_append_drop 24 (((((words1.drop 24).drop 24).drop 24).drop 24).drop 24), List.all_append, w_t6, ← List.take_append_drop 24 ((((((words1.drop 24).drop 24).drop 24).drop 24).drop 24).drop 24), List.all_append, w_t7, ← List.take_append_drop 24 (((((((words1.drop 24).drop 24).drop 24).drop 24).drop 24).drop 24).drop 24), List.all_append, w_t8, ← List.take_append_drop 24 ((((((((words1.drop 24).drop 24).drop 24).drop 24).drop 24).drop 24).drop 24).drop 24), List.all_append, w_t9, ← List.take_append_drop 24 (((((((((words1.drop 24).drop 24).drop 24).drop 24).drop 24).drop 24).drop 24).drop 24).drop 24), List.all_append, w_t10, ← List.take_append_drop 24 ((((((((((words1.drop 24).drop 24).drop 24).drop 24).drop 24).drop 24).drop 24).drop 24).drop 24).drop 24), List.all_append, w_t11, w_t12]
  rfl
set_option maxRecDepth 65536 in
theorem w_rest : rest_1_c.before args0 about1 = true := by decide +kernel
set_option maxRecDepth 65536 in
theorem w_case : (Jvm.Cond.and given_1 narrow_1).before args0 about1 = true := by decide +kernel
set_option maxRecDepth 65536 in
theorem w_consts : constsHeld consts_1 about1 := Jvm.Lit.constsHeldB_iff.mp (by decide +kernel)
theorem w_applies : (headSpec (Jvm.Cond.code x code maxLocals ret :: tables_1) room_1).applies x e0.platform about1 = true :=
  (Spec.applies_iff w_frames).mpr ⟨w_running, w_runnable, w_alone, w_named, w_hears, w_ripe, w_room, w_tables⟩
theorem atStart : AtStart classFile x code maxLocals ret World_1 tables_1 room_1 Calls_1 rest_1 Pre_1 launch0 p0 e0 about1 theMethod args0 below0 :=
  ⟨lists_1, trivial, launch0.admits_env _ _ _, launch0.least_env, fairChoices_fair.cas, fairChoices_fair.clock, w_frames, w_args, w_heap, w_applies, ⟨⟨38, k38, 4, by decide +kernel, rfl, rfl, _, rfl, rfl⟩, ⟨w_consts, trivial⟩⟩, w_rest, w_case⟩
end start1
theorem witness_1 : WitnessClaimed_1 := ⟨start1.p0, start1.e0, start1.about1, start1.theMethod, start1.args0, start1.below0, start1.atStart⟩
end Jvm.Pilot.@@N@@
