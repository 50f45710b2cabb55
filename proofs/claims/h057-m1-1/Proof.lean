import JvmDerived
import JvmDerived.Pilot.@@N@@Statement
import JvmDerived.Pilot.@@N@@Code
set_option linter.unusedVariables false
set_option linter.unusedSimpArgs false
namespace Jvm.Wk9
open Sem ClassFile Op Lib Jvm.Stand Jvm.Free Jvm.LawKit Jvm.RoadKit
/-- the end of a walk; narrow (nothing interned) where wd is false -/
def FinE (wd : Bool) (s : State) (o : Outcome) (t : State) (L : List Loc) (k n : Nat) : Prop :=
  (wd = false → FrameEnd s o t L k n) ∧ ReturnedEndW s o t L k n
/-- what the walk keeps of the tables at hand and of the booked literals; mine: the cells it may write -/
def Vi (wd : Bool) (Z s : State) (EL : List (String × Nat)) (m0 mine : List Addr) (locs : List Loc) (vm : Vm) (h : Heap) : Prop :=
  ((wd = false → vm = s.vm) ∧ Z.Warmed39 vm ∧ (∃ k0, s.Since vm k0 ∧ k0 ≤ h.size) ∧ CHr Z EL s.vm s.heap vm h) ∧ (∀ x ∈ mine, x < h.size ∧ Safe Z EL vm h x ∧ Z.heap.size ≤ x ∧ (x ∈ m0 ∨ s.heap.size ≤ x)) ∧ Ext Z.heap h ∧ Keep s.heap h m0 ∧ Fr Z.heap.size locs
/-- from this frame over this heap the invocation comes to an end of which Q holds -/
def Go (wd : Bool) (p : Program) (l : Launch) (e : Env) (R : Room) (s : State) (m : MethodId) (args : Array Value) (below : List Frame) (meth : Method) (c : Code) (Z : State) (EL : List (String × Nat)) (Q : Option Value → Heap → Prop) (kc ks : Nat) (m0 mine : List Addr) (h : Heap) (locs : List Loc) (cells slots : Nat) (g : JFrame) : Prop :=
  ∀ (T : State) (vm0 : Vm), Stand p l e R (s.setVm vm0) m args below meth c T locs cells slots → T.heap = h → Vi wd Z s EL m0 mine locs vm0 h →
    ∃ (s₂ : State) (o : Outcome), Steps p.tables e below (T.setTop g) s₂ ∧ s₂.status = .running ∧ Ended s₂ below o ∧ ∃ (v : Option Value) (L : List Loc), o = .returned v ∧ Q v s₂.heap ∧ CHr Z EL s.vm s.heap s₂.vm s₂.heap ∧ FinE wd s o s₂ L kc ks ∧ Ext Z.heap s₂.heap ∧ Keep s.heap s₂.heap m0 ∧ Fr Z.heap.size L
/-- what is known of the method that is walked -/
def Cx (wd : Bool) (p : Program) (s : State) (m : MethodId) (meth : Method) (c : Code) (Z : State) (a0 : Array Value) (EL : List (String × Nat)) (own : String) (bytes : ByteArray) (ml : Nat) (ret : Option FieldType) (nm : String) : Prop :=
  p.tables.exec = Jvm.exec ∧ s.vm.findClass own = some m.cls ∧ c.code = bytes ∧ c.maxLocals = ml ∧ meth.sig.returnType = ret ∧ meth.locks = false ∧ EW Z a0 EL ∧ (wd = false → EL = []) ∧ meth.name = nm
/-- a contract: of the method y at these arguments, over the heap h -/
def MetW (wd : Bool) (l : Launch) (Z : State) (EL : List (String × Nat)) (y : MethodName) (bytes : ByteArray) (ml : Nat) (ret : Option FieldType) (ws : List Cond) (rm : Room) (as' : Array Value) (m0 : List Addr) (h : Heap) (Q : Option Value → Heap → Prop) : Prop :=
  MetFree l y (head1 (Cond.code y bytes ml ret :: ws) rm) (fun a U => a = as' ∧ Z.Warmed39 U.vm ∧ U.heap = h ∧ CHv Z EL U.vm h ∧ (∀ x ∈ m0, x < h.size ∧ Safe Z EL U.vm h x ∧ Z.heap.size ≤ x) ∧ Ext Z.heap h) (fun _ _ _ _ _ => True)
    (fun _ U o U' => ∃ v L, o = .returned v ∧ Q v U'.heap ∧ CHr Z EL U.vm U.heap U'.vm U'.heap ∧ FinE wd U o U' L rm.cells rm.slots ∧ Ext Z.heap U'.heap ∧ Keep U.heap U'.heap m0 ∧ Fr Z.heap.size L)
/-- an array whose places hold just vs -/
def Av (Z : State) (h : Heap) (a : Addr) (ty : FieldType) (vs : List Value) : Prop :=
  ∃ c : Cell, Arr Z h a c ty ∧ c.slots.toList = vs ∧ vs.length < 2147483648 ∧ ∀ v ∈ vs, fits ty v = true
section K
variable {wd : Bool} {p : Program} {l : Launch} {e : Env} {R : Room} {s : State} {m : MethodId} {args : Array Value} {below : List Frame} {meth : Method} {c : Code} {Z : State} {a0 : Array Value} {EL : List (String × Nat)} {Q : Option Value → Heap → Prop} {kc ks : Nat} {m0 mine : List Addr} {h h' : Heap} {locs : List Loc} {cells slots : Nat} {own nm : String} {bytes : ByteArray} {ml : Nat} {ret : Option FieldType} {pc : Nat} {Ls : Array Slot} {st : List Value} {a b : Addr} {ty : FieldType} {vs : List Value} {vm : Vm} {ws : List Addr} {v : Value} {sl : Nat}
theorem Cx.hx (C : Cx wd p s m meth c Z a0 EL own bytes ml ret nm) : p.tables.exec = Jvm.exec := C.1
theorem Cx.hown (C : Cx wd p s m meth c Z a0 EL own bytes ml ret nm) : s.vm.findClass own = some m.cls := C.2.1
theorem Cx.hby (C : Cx wd p s m meth c Z a0 EL own bytes ml ret nm) : c.code = bytes := C.2.2.1
theorem Cx.hml (C : Cx wd p s m meth c Z a0 EL own bytes ml ret nm) : c.maxLocals = ml := C.2.2.2.1
theorem Cx.hret (C : Cx wd p s m meth c Z a0 EL own bytes ml ret nm) : meth.sig.returnType = ret := C.2.2.2.2.1
theorem Cx.hlk (C : Cx wd p s m meth c Z a0 EL own bytes ml ret nm) : meth.locks = false := C.2.2.2.2.2.1
theorem Cx.hEW (C : Cx wd p s m meth c Z a0 EL own bytes ml ret nm) : EW Z a0 EL := C.2.2.2.2.2.2.1
theorem Cx.hwd (C : Cx wd p s m meth c Z a0 EL own bytes ml ret nm) : wd = false → EL = [] := C.2.2.2.2.2.2.2.1
theorem Cx.hnm (C : Cx wd p s m meth c Z a0 EL own bytes ml ret nm) : meth.name = nm := C.2.2.2.2.2.2.2.2
theorem Vi.hZ (V : Vi wd Z s EL m0 mine locs vm h) : Z.Warmed39 vm := V.1.2.1
theorem Vi.hZ' (V : Vi wd Z s EL m0 mine locs vm h) : Z.Warmed39 (s.setVm vm).vm := V.1.2.1
theorem Vi.held (V : Vi wd Z s EL m0 mine locs vm h) : CHv Z EL vm h := V.1.2.2.2.1
theorem Vi.fr (V : Vi wd Z s EL m0 mine locs vm h) : Fr Z.heap.size locs := V.2.2.2.2
theorem Vi.old (V : Vi wd Z s EL m0 mine locs vm h) : Ext Z.heap h := V.2.2.1
theorem Vi.hown (C : Cx wd p s m meth c Z a0 EL own bytes ml ret nm) (V : Vi wd Z s EL m0 mine locs vm h) : (s.setVm vm).vm.findClass own = some m.cls := by
  obtain ⟨⟨-, -, ⟨k0, hS, -⟩, -⟩, -⟩ := V
  show vm.findClass own = some m.cls
  rw [hS.1.alike.findClass]; exact C.hown
theorem Vi.keep {locs' : List Loc} (K : Keep h h' ws) (hw : ∀ x ∈ ws, x ∈ mine) (hF : Fr Z.heap.size locs') (V : Vi wd Z s EL m0 mine locs vm h) : Vi wd Z s EL m0 mine locs' vm h' := by
  obtain ⟨⟨v1, v2, ⟨k0, v3, v4⟩, v5⟩, v6, v7, v8, v9⟩ := V
  have sf : ∀ x ∈ ws, Safe Z EL vm h x := fun x hx => (v6 x (hw x hx)).2.1
  have R2 : CHr Z EL vm h vm h' := CHr.keep K sf v5.1
  exact ⟨⟨v1, v2, ⟨k0, v3, Nat.le_trans v4 K.1⟩, v5.trans R2⟩, fun x hx => ⟨Nat.lt_of_lt_of_le (v6 x hx).1 K.1, R2.safe (v6 x hx).1 (v6 x hx).2.1, (v6 x hx).2.2⟩,
    (Old.keep (n0 := Z.heap.size) ⟨rfl, v7⟩ K (fun x hx => (v6 x (hw x hx)).2.2.1)).2, v8.trans K (fun x hx => (v6 x (hw x hx)).2.2.2), hF⟩
theorem keep_ext (E : Ext h h') : Keep h h' [] := (Keep.refl h []).ext E
theorem Vi.ext (E : Ext h h') (V : Vi wd Z s EL m0 mine locs vm h) : Vi wd Z s EL m0 mine locs vm h' := V.keep (keep_ext E) (fun _ q => nomatch q) V.fr
theorem Vi.new (E : Ext h h') (hlt : h.size < h'.size) (V : Vi wd Z s EL m0 mine locs vm h) : Vi wd Z s EL m0 (h.size :: mine) locs vm h' := by
  have V' := V.ext E
  refine ⟨V'.1, fun x hx => ?_, V'.2.2⟩
  rcases List.mem_cons.mp hx with rfl | hx
  · exact ⟨hlt, Safe.ext E V.held (Safe.new (Nat.le_refl _)), V.2.2.1.1, Or.inr V.2.2.2.1.1⟩
  · exact V'.2.1 x hx
theorem Vi.wr1 (V : Vi wd Z s EL m0 mine locs vm h) (hm : a ∈ mine) : Fr Z.heap.size (locs ++ [⟨a, sl⟩]) := fun y hy => by
  rcases List.mem_append.mp hy with q | q
  · exact V.fr y q
  · rw [List.mem_singleton.mp q]; exact (V.2.1 a hm).2.2.1
/-- what the walk knows besides, brought to light -/
theorem Go.know {g : JFrame} (nx : Ext Z.heap h → Keep s.heap h m0 → (∀ x ∈ mine, x < h.size ∧ Z.heap.size ≤ x) → Go wd p l e R s m args below meth c Z EL Q kc ks m0 mine h locs cells slots g) : Go wd p l e R s m args below meth c Z EL Q kc ks m0 mine h locs cells slots g :=
  fun T vm0 X eT V => nx V.2.2.1 V.2.2.2.1 (fun x hx => ⟨(V.2.1 x hx).1, (V.2.1 x hx).2.2.1⟩) T vm0 X eT V
theorem FinE.mono {o : Outcome} {t : State} {L : List Loc} {k n k' n' : Nat} (F : FinE wd s o t L k n) (h1 : k ≤ k') (h2 : n ≤ n') : FinE wd s o t L k' n' :=
  ⟨fun q => ⟨(F.1 q).1, (F.1 q).2.1, (F.1 q).2.2.mono h1 h2⟩, F.2.1, F.2.2.1, F.2.2.2.1, F.2.2.2.2.mono h1 h2⟩
theorem MetW.post {y : MethodName} {wsc : List Cond} {rm : Room} {as' : Array Value} {Q' : Option Value → Heap → Prop} (M : MetW wd l Z EL y bytes ml ret wsc rm as' m0 h Q) (hq : ∀ v h', Q v h' → Keep h h' m0 → Q' v h') : MetW wd l Z EL y bytes ml ret wsc rm as' m0 h Q' :=
  MetFree.mono M (fun _ _ q => q) (fun _ _ _ _ _ q => q) (fun _ _ _ _ hP ⟨v, L, q1, q2, q3, q4, q5, q6, q7⟩ => ⟨v, L, q1, hq _ _ q2 (by rw [← hP.2.2.1]; exact q6), q3, q4, q5, q6, q7⟩)
/-- the entry of a method -/
theorem MetW.ofF {y : MethodName} {wsc : List Cond} {rm : Room} {as' : Array Value} (hpn : plainFor y = true) (hef : ∀ m : MethodId, entryFrame m as' ml = mkF m 0 Ls []) (hEW : EW Z a0 EL) (hwd : wd = false → EL = [])
    (body : ∀ (p : Program) (e : Env) (s : State) (m : MethodId) (below : List Frame) (meth : Method) (c : Code), s.heap = h → Cx wd p s m meth c Z a0 EL y.cls bytes ml ret y.name → Go wd p l e rm s m as' below meth c Z EL Q rm.cells rm.slots m0 m0 h [] 0 0 (mkF m 0 Ls [])) :
    MetW wd l Z EL y bytes ml ret wsc rm as' m0 h Q := by
  refine MetFree.of_bodySF hpn hisR ?_
  intro p e s m args below meth c s₁ Bd hml0 hP hK
  obtain ⟨rfl, hZ, hh, H, hm, hold⟩ := hP
  have X0 : Stand p l e rm s m args below meth c s₁ [] 0 0 := Stand.of_body Bd
  have e0 : s₁.heap = h := by rw [← hh, Bd.state]; rfl
  have hlk : meth.locks = false := by first | exact BodyLoose.notSynchronized Bd | exact Body.notSynchronized Bd
  have C : Cx wd p s m meth c Z a0 EL y.cls bytes ml ret y.name := ⟨Bd.exec, findClass_of_methodNamed Bd.named, Bd.bytes, hml0, Bd.returns, hlk, hEW, hwd, (name_of_methodNamed Bd.named Bd.method).1⟩
  have V : Vi wd Z s EL m0 m0 [] s.vm h := ⟨⟨fun _ => rfl, hZ, ⟨h.size, ⟨State.Warmed39.refl s, fun j q hj hq => absurd (Array.getElem?_eq_some_iff.mp hq).1 (Nat.not_lt.mpr hj)⟩, Nat.le_refl _⟩, by rw [hh]; exact CHr.refl H⟩, fun x hx => ⟨(hm x hx).1, (hm x hx).2.1, (hm x hx).2.2, Or.inl hx⟩, hold, by rw [hh]; exact Keep.refl _ _, Fr.nil _⟩
  obtain ⟨s₂, o, k, r1, r2, v, L, r3, r4, r5, r6⟩ := body p e s m below meth c hh C s₁ s.vm X0 e0 V
  exact ⟨s₂, o, castTop (hef m) k, r1, r2, v, L, r3, r4, r5, r6⟩
theorem MetW.of {y : MethodName} {wsc : List Cond} {rm : Room} {as' : Array Value} (hpn : plainName y.cls = true) (hef : ∀ m : MethodId, entryFrame m as' ml = mkF m 0 Ls []) (hEW : EW Z a0 EL) (hwd : wd = false → EL = [])
    (body : ∀ (p : Program) (e : Env) (s : State) (m : MethodId) (below : List Frame) (meth : Method) (c : Code), s.heap = h → Cx wd p s m meth c Z a0 EL y.cls bytes ml ret y.name → Go wd p l e rm s m as' below meth c Z EL Q rm.cells rm.slots m0 m0 h [] 0 0 (mkF m 0 Ls [])) :
    MetW wd l Z EL y bytes ml ret wsc rm as' m0 h Q :=
  MetW.ofF (plainFor_of_name hpn) hef hEW hwd body
theorem Go.pure {g g' : JFrame} (nx : Go wd p l e R s m args below meth c Z EL Q kc ks m0 mine h locs cells slots g') (stp : ∀ (T target : State), At T m c below → Steps p.tables e below (T.setTop g') target → Steps p.tables e below (T.setTop g) target) : Go wd p l e R s m args below meth c Z EL Q kc ks m0 mine h locs cells slots g :=
  fun T vm0 X eT V => by
    obtain ⟨s₂, o, k, r⟩ := nx T vm0 X eT V
    exact ⟨s₂, o, stp T s₂ X.here k, r⟩
def hC (cd : ClassFile.Cond) (x y : Int32) : Prop := match cd with | .eq => x = y | .ne => ¬ x = y | .lt => x < y | .ge => ¬ x < y | .gt => y < x | .le => ¬ y < x
def nC (cd : ClassFile.Cond) (x y : Int32) : Prop := match cd with | .eq => ¬ x = y | .ne => x = y | .lt => ¬ x < y | .ge => x < y | .gt => ¬ y < x | .le => y < x
theorem hC_t {cd : ClassFile.Cond} {x y : Int32} (q : hC cd x y) : if_icmp.holds cd x y = true := by
  cases cd
  · exact (teq q).1
  · exact (feq q).2
  · exact (tlt q).1
  · exact (flt q).2.1
  · exact (tlt q).2.2.1
  · exact (flt q).2.2.2
theorem nC_f {cd : ClassFile.Cond} {x y : Int32} (q : nC cd x y) : if_icmp.holds cd x y = false := by
  cases cd
  · exact (feq q).1
  · exact (teq q).2
  · exact (flt q).1
  · exact (tlt q).2.1
  · exact (flt q).2.2.1
  · exact (tlt q).2.2.2
def aC (cd : ClassFile.ACond) (x y : Value) : Prop := match cd with | .eq => x = y | .ne => ¬ x = y
def aN (cd : ClassFile.ACond) (x y : Value) : Prop := match cd with | .eq => ¬ x = y | .ne => x = y
theorem aC_t {cd : ClassFile.ACond} {x y : Value} (q : aC cd x y) : XT.acmp cd x y = true := by
  cases cd
  · exact XT.aa_eq_t q
  · exact XT.aa_ne_t q
theorem aN_f {cd : ClassFile.ACond} {x y : Value} (q : aN cd x y) : XT.acmp cd x y = false := by
  cases cd
  · exact XT.aa_eq_f q
  · exact XT.aa_ne_f q
theorem g_aloadN {k : Fin 4} {v : Value} (C : Cx wd p s m meth c Z a0 EL own bytes ml ret nm) (hd : decode bytes pc = .ok (.aload_n k, 1)) (hl : Ls[k.val]? = some (.val v)) (hv : v.isRef = true) (nx : Go wd p l e R s m args below meth c Z EL Q kc ks m0 mine h locs cells slots (mkF m (pc + 1) Ls (v :: st))) : Go wd p l e R s m args below meth c Z EL Q kc ks m0 mine h locs cells slots (mkF m pc Ls (st)) := nx.pure fun T t H hr => XS.aloadN H C.hx rfl (hb C.hby hd) hl hv hr
theorem g_aload {k : Nat} {v : Value} (C : Cx wd p s m meth c Z a0 EL own bytes ml ret nm) (hd : decode bytes pc = .ok (.aload k, 2)) (hl : Ls[k]? = some (.val v)) (hv : v.isRef = true) (nx : Go wd p l e R s m args below meth c Z EL Q kc ks m0 mine h locs cells slots (mkF m (pc + 2) Ls (v :: st))) : Go wd p l e R s m args below meth c Z EL Q kc ks m0 mine h locs cells slots (mkF m pc Ls (st)) := nx.pure fun T t H hr => XS.aload H C.hx rfl (hb C.hby hd) hl hv hr
theorem g_iloadN {k : Fin 4} {x : Int32} (C : Cx wd p s m meth c Z a0 EL own bytes ml ret nm) (hd : decode bytes pc = .ok (.iload_n k, 1)) (hl : Ls[k.val]? = some (.val (.int x))) (nx : Go wd p l e R s m args below meth c Z EL Q kc ks m0 mine h locs cells slots (mkF m (pc + 1) Ls (.int x :: st))) : Go wd p l e R s m args below meth c Z EL Q kc ks m0 mine h locs cells slots (mkF m pc Ls (st)) := nx.pure fun T t H hr => XS.iloadN H C.hx rfl (hb C.hby hd) hl hr
theorem g_iload {k : Nat} {x : Int32} (C : Cx wd p s m meth c Z a0 EL own bytes ml ret nm) (hd : decode bytes pc = .ok (.iload k, 2)) (hl : Ls[k]? = some (.val (.int x))) (nx : Go wd p l e R s m args below meth c Z EL Q kc ks m0 mine h locs cells slots (mkF m (pc + 2) Ls (.int x :: st))) : Go wd p l e R s m args below meth c Z EL Q kc ks m0 mine h locs cells slots (mkF m pc Ls (st)) := nx.pure fun T t H hr => XS.iload H C.hx rfl (hb C.hby hd) hl hr
theorem g_lloadN {k : Fin 4} {x : Int64} (C : Cx wd p s m meth c Z a0 EL own bytes ml ret nm) (hd : decode bytes pc = .ok (.lload_n k, 1)) (hl : Ls[k.val]? = some (.val (.long x))) (nx : Go wd p l e R s m args below meth c Z EL Q kc ks m0 mine h locs cells slots (mkF m (pc + 1) Ls (.long x :: st))) : Go wd p l e R s m args below meth c Z EL Q kc ks m0 mine h locs cells slots (mkF m pc Ls (st)) := nx.pure fun T t H hr => XT.lloadN H C.hx rfl (hb C.hby hd) hl hr
theorem g_lload {k : Nat} {x : Int64} (C : Cx wd p s m meth c Z a0 EL own bytes ml ret nm) (hd : decode bytes pc = .ok (.lload k, 2)) (hl : Ls[k]? = some (.val (.long x))) (nx : Go wd p l e R s m args below meth c Z EL Q kc ks m0 mine h locs cells slots (mkF m (pc + 2) Ls (.long x :: st))) : Go wd p l e R s m args below meth c Z EL Q kc ks m0 mine h locs cells slots (mkF m pc Ls (st)) := nx.pure fun T t H hr => XT.lload H C.hx rfl (hb C.hby hd) hl hr
theorem g_istoreN {k : Fin 4} {x : Int32} (l' : Array Slot) (C : Cx wd p s m meth c Z a0 EL own bytes ml ret nm) (hd : decode bytes pc = .ok (.istore_n k, 1)) (hl : storeLocals Ls k.val (.int x) = some l') (nx : Go wd p l e R s m args below meth c Z EL Q kc ks m0 mine h locs cells slots (mkF m (pc + 1) l' (st))) : Go wd p l e R s m args below meth c Z EL Q kc ks m0 mine h locs cells slots (mkF m pc Ls (.int x :: st)) := nx.pure fun T t H hr => XS.istoreN H C.hx rfl (hb C.hby hd) rfl hl hr
theorem g_istore {k : Nat} {x : Int32} (l' : Array Slot) (C : Cx wd p s m meth c Z a0 EL own bytes ml ret nm) (hd : decode bytes pc = .ok (.istore k, 2)) (hl : storeLocals Ls k (.int x) = some l') (nx : Go wd p l e R s m args below meth c Z EL Q kc ks m0 mine h locs cells slots (mkF m (pc + 2) l' (st))) : Go wd p l e R s m args below meth c Z EL Q kc ks m0 mine h locs cells slots (mkF m pc Ls (.int x :: st)) := nx.pure fun T t H hr => XS.istore H C.hx rfl (hb C.hby hd) rfl hl hr
theorem g_lstoreN {k : Fin 4} {x : Int64} (l' : Array Slot) (C : Cx wd p s m meth c Z a0 EL own bytes ml ret nm) (hd : decode bytes pc = .ok (.lstore_n k, 1)) (hl : storeLocals Ls k.val (.long x) = some l') (nx : Go wd p l e R s m args below meth c Z EL Q kc ks m0 mine h locs cells slots (mkF m (pc + 1) l' (st))) : Go wd p l e R s m args below meth c Z EL Q kc ks m0 mine h locs cells slots (mkF m pc Ls (.long x :: st)) := nx.pure fun T t H hr => XT.lstoreN H C.hx rfl (hb C.hby hd) rfl hl hr
theorem g_lstore {k : Nat} {x : Int64} (l' : Array Slot) (C : Cx wd p s m meth c Z a0 EL own bytes ml ret nm) (hd : decode bytes pc = .ok (.lstore k, 2)) (hl : storeLocals Ls k (.long x) = some l') (nx : Go wd p l e R s m args below meth c Z EL Q kc ks m0 mine h locs cells slots (mkF m (pc + 2) l' (st))) : Go wd p l e R s m args below meth c Z EL Q kc ks m0 mine h locs cells slots (mkF m pc Ls (.long x :: st)) := nx.pure fun T t H hr => XT.lstore H C.hx rfl (hb C.hby hd) rfl hl hr
theorem g_astoreN {k : Fin 4} {x : Value} (l' : Array Slot) (C : Cx wd p s m meth c Z a0 EL own bytes ml ret nm) (hd : decode bytes pc = .ok (.astore_n k, 1)) (hv : x.isRef = true) (hl : storeLocals Ls k.val x = some l') (nx : Go wd p l e R s m args below meth c Z EL Q kc ks m0 mine h locs cells slots (mkF m (pc + 1) l' (st))) : Go wd p l e R s m args below meth c Z EL Q kc ks m0 mine h locs cells slots (mkF m pc Ls (x :: st)) := nx.pure fun T t H hr => XS.astoreN H C.hx rfl (hb C.hby hd) rfl hv hl hr
theorem g_astore {k : Nat} {x : Value} (l' : Array Slot) (C : Cx wd p s m meth c Z a0 EL own bytes ml ret nm) (hd : decode bytes pc = .ok (.astore k, 2)) (hv : x.isRef = true) (hl : storeLocals Ls k x = some l') (nx : Go wd p l e R s m args below meth c Z EL Q kc ks m0 mine h locs cells slots (mkF m (pc + 2) l' (st))) : Go wd p l e R s m args below meth c Z EL Q kc ks m0 mine h locs cells slots (mkF m pc Ls (x :: st)) := nx.pure fun T t H hr => XS.astore H C.hx rfl (hb C.hby hd) rfl hv hl hr
theorem g_iconst {i : Int} (z : Int32) (C : Cx wd p s m meth c Z a0 EL own bytes ml ret nm) (hd : decode bytes pc = .ok (.iconst i, 1)) (hz : Int32.ofInt i = z) (nx : Go wd p l e R s m args below meth c Z EL Q kc ks m0 mine h locs cells slots (mkF m (pc + 1) Ls (.int z :: st))) : Go wd p l e R s m args below meth c Z EL Q kc ks m0 mine h locs cells slots (mkF m pc Ls (st)) := nx.pure fun T t H hr => XT.iconstV H C.hx rfl z (hb C.hby hd) hz hr
theorem g_bipush {i : Int} (z : Int32) (C : Cx wd p s m meth c Z a0 EL own bytes ml ret nm) (hd : decode bytes pc = .ok (.bipush i, 2)) (hz : (Int8.ofInt i).toInt32 = z) (nx : Go wd p l e R s m args below meth c Z EL Q kc ks m0 mine h locs cells slots (mkF m (pc + 2) Ls (.int z :: st))) : Go wd p l e R s m args below meth c Z EL Q kc ks m0 mine h locs cells slots (mkF m pc Ls (st)) := nx.pure fun T t H hr => XT.bipushV H C.hx rfl z (hb C.hby hd) hz hr
theorem g_sipush {i : Int} (z : Int32) (C : Cx wd p s m meth c Z a0 EL own bytes ml ret nm) (hd : decode bytes pc = .ok (.sipush i, 3)) (hz : (Int16.ofInt i).toInt32 = z) (nx : Go wd p l e R s m args below meth c Z EL Q kc ks m0 mine h locs cells slots (mkF m (pc + 3) Ls (.int z :: st))) : Go wd p l e R s m args below meth c Z EL Q kc ks m0 mine h locs cells slots (mkF m pc Ls (st)) := nx.pure fun T t H hr => XT.sipushV H C.hx rfl z (hb C.hby hd) hz hr
theorem g_lconst {k : Fin 2} (z : Int64) (C : Cx wd p s m meth c Z a0 EL own bytes ml ret nm) (hd : decode bytes pc = .ok (.lconst k, 1)) (hz : Int64.ofNat k = z) (nx : Go wd p l e R s m args below meth c Z EL Q kc ks m0 mine h locs cells slots (mkF m (pc + 1) Ls (.long z :: st))) : Go wd p l e R s m args below meth c Z EL Q kc ks m0 mine h locs cells slots (mkF m pc Ls (st)) := nx.pure fun T t H hr => XT.lconstV H C.hx rfl z (hb C.hby hd) hz hr
theorem g_aconstNull  (C : Cx wd p s m meth c Z a0 EL own bytes ml ret nm) (hd : decode bytes pc = .ok (.aconst_null, 1))  (nx : Go wd p l e R s m args below meth c Z EL Q kc ks m0 mine h locs cells slots (mkF m (pc + 1) Ls (.null :: st))) : Go wd p l e R s m args below meth c Z EL Q kc ks m0 mine h locs cells slots (mkF m pc Ls (st)) := nx.pure fun T t H hr => XS.aconstNull H C.hx rfl (hb C.hby hd) hr
theorem g_iadd {x y : Int32} (z : Int32) (C : Cx wd p s m meth c Z a0 EL own bytes ml ret nm) (hd : decode bytes pc = .ok (.iadd, 1)) (hz : x + y = z) (nx : Go wd p l e R s m args below meth c Z EL Q kc ks m0 mine h locs cells slots (mkF m (pc + 1) Ls (.int z :: st))) : Go wd p l e R s m args below meth c Z EL Q kc ks m0 mine h locs cells slots (mkF m pc Ls (.int y :: .int x :: st)) := by subst hz; exact nx.pure fun T t H hr => XS.iadd H C.hx rfl (hb C.hby hd) rfl hr
theorem g_isub {x y : Int32} (z : Int32) (C : Cx wd p s m meth c Z a0 EL own bytes ml ret nm) (hd : decode bytes pc = .ok (.isub, 1)) (hz : x - y = z) (nx : Go wd p l e R s m args below meth c Z EL Q kc ks m0 mine h locs cells slots (mkF m (pc + 1) Ls (.int z :: st))) : Go wd p l e R s m args below meth c Z EL Q kc ks m0 mine h locs cells slots (mkF m pc Ls (.int y :: .int x :: st)) := by subst hz; exact nx.pure fun T t H hr => XS.isub H C.hx rfl (hb C.hby hd) rfl hr
theorem g_iand {x y : Int32} (z : Int32) (C : Cx wd p s m meth c Z a0 EL own bytes ml ret nm) (hd : decode bytes pc = .ok (.iand, 1)) (hz : x &&& y = z) (nx : Go wd p l e R s m args below meth c Z EL Q kc ks m0 mine h locs cells slots (mkF m (pc + 1) Ls (.int z :: st))) : Go wd p l e R s m args below meth c Z EL Q kc ks m0 mine h locs cells slots (mkF m pc Ls (.int y :: .int x :: st)) := by subst hz; exact nx.pure fun T t H hr => XS.iand H C.hx rfl (hb C.hby hd) rfl hr
theorem g_imul {x y : Int32} (z : Int32) (C : Cx wd p s m meth c Z a0 EL own bytes ml ret nm) (hd : decode bytes pc = .ok (.imul, 1)) (hz : x * y = z) (nx : Go wd p l e R s m args below meth c Z EL Q kc ks m0 mine h locs cells slots (mkF m (pc + 1) Ls (.int z :: st))) : Go wd p l e R s m args below meth c Z EL Q kc ks m0 mine h locs cells slots (mkF m pc Ls (.int y :: .int x :: st)) := by subst hz; exact nx.pure fun T t H hr => XS.imul H C.hx rfl (hb C.hby hd) rfl hr
theorem g_ixor {x y : Int32} (z : Int32) (C : Cx wd p s m meth c Z a0 EL own bytes ml ret nm) (hd : decode bytes pc = .ok (.ixor, 1)) (hz : x ^^^ y = z) (nx : Go wd p l e R s m args below meth c Z EL Q kc ks m0 mine h locs cells slots (mkF m (pc + 1) Ls (.int z :: st))) : Go wd p l e R s m args below meth c Z EL Q kc ks m0 mine h locs cells slots (mkF m pc Ls (.int y :: .int x :: st)) := by subst hz; exact nx.pure fun T t H hr => XT.ixor H C.hx rfl (hb C.hby hd) rfl hr
theorem g_ior {x y : Int32} (z : Int32) (C : Cx wd p s m meth c Z a0 EL own bytes ml ret nm) (hd : decode bytes pc = .ok (.ior, 1)) (hz : x ||| y = z) (nx : Go wd p l e R s m args below meth c Z EL Q kc ks m0 mine h locs cells slots (mkF m (pc + 1) Ls (.int z :: st))) : Go wd p l e R s m args below meth c Z EL Q kc ks m0 mine h locs cells slots (mkF m pc Ls (.int y :: .int x :: st)) := by subst hz; exact nx.pure fun T t H hr => XT.ior H C.hx rfl (hb C.hby hd) rfl hr
theorem g_ishl {x y : Int32} (z : Int32) (C : Cx wd p s m meth c Z a0 EL own bytes ml ret nm) (hd : decode bytes pc = .ok (.ishl, 1)) (hz : x <<< (y &&& 31) = z) (nx : Go wd p l e R s m args below meth c Z EL Q kc ks m0 mine h locs cells slots (mkF m (pc + 1) Ls (.int z :: st))) : Go wd p l e R s m args below meth c Z EL Q kc ks m0 mine h locs cells slots (mkF m pc Ls (.int y :: .int x :: st)) := by subst hz; exact nx.pure fun T t H hr => XT.ishl H C.hx rfl (hb C.hby hd) rfl hr
theorem g_iushr {x y : Int32} (z : Int32) (C : Cx wd p s m meth c Z a0 EL own bytes ml ret nm) (hd : decode bytes pc = .ok (.iushr, 1)) (hz : XT.ushr x y = z) (nx : Go wd p l e R s m args below meth c Z EL Q kc ks m0 mine h locs cells slots (mkF m (pc + 1) Ls (.int z :: st))) : Go wd p l e R s m args below meth c Z EL Q kc ks m0 mine h locs cells slots (mkF m pc Ls (.int y :: .int x :: st)) := by subst hz; exact nx.pure fun T t H hr => XT.iushr H C.hx rfl (hb C.hby hd) rfl hr
theorem g_irem {x y : Int32} (z : Int32) (C : Cx wd p s m meth c Z a0 EL own bytes ml ret nm) (hd : decode bytes pc = .ok (.irem, 1)) (hy : y ≠ 0) (hz : x - (x / y) * y = z) (nx : Go wd p l e R s m args below meth c Z EL Q kc ks m0 mine h locs cells slots (mkF m (pc + 1) Ls (.int z :: st))) : Go wd p l e R s m args below meth c Z EL Q kc ks m0 mine h locs cells slots (mkF m pc Ls (.int y :: .int x :: st)) := by subst hz; exact nx.pure fun T t H hr => XS.irem H C.hx rfl (hb C.hby hd) rfl hy hr
theorem g_i2l {x : Int32} (z : Int64) (C : Cx wd p s m meth c Z a0 EL own bytes ml ret nm) (hd : decode bytes pc = .ok (.i2l, 1)) (hz : x.toInt64 = z) (nx : Go wd p l e R s m args below meth c Z EL Q kc ks m0 mine h locs cells slots (mkF m (pc + 1) Ls (.long z :: st))) : Go wd p l e R s m args below meth c Z EL Q kc ks m0 mine h locs cells slots (mkF m pc Ls (.int x :: st)) := by subst hz; exact nx.pure fun T t H hr => XT.i2l H C.hx rfl (hb C.hby hd) rfl hr
theorem g_l2i {x : Int64} (z : Int32) (C : Cx wd p s m meth c Z a0 EL own bytes ml ret nm) (hd : decode bytes pc = .ok (.l2i, 1)) (hz : x.toInt32 = z) (nx : Go wd p l e R s m args below meth c Z EL Q kc ks m0 mine h locs cells slots (mkF m (pc + 1) Ls (.int z :: st))) : Go wd p l e R s m args below meth c Z EL Q kc ks m0 mine h locs cells slots (mkF m pc Ls (.long x :: st)) := by subst hz; exact nx.pure fun T t H hr => XT.l2i H C.hx rfl (hb C.hby hd) rfl hr
theorem g_ladd {x y : Int64} (z : Int64) (C : Cx wd p s m meth c Z a0 EL own bytes ml ret nm) (hd : decode bytes pc = .ok (.ladd, 1)) (hz : x + y = z) (nx : Go wd p l e R s m args below meth c Z EL Q kc ks m0 mine h locs cells slots (mkF m (pc + 1) Ls (.long z :: st))) : Go wd p l e R s m args below meth c Z EL Q kc ks m0 mine h locs cells slots (mkF m pc Ls (.long y :: .long x :: st)) := by subst hz; exact nx.pure fun T t H hr => XT.ladd H C.hx rfl (hb C.hby hd) rfl hr
theorem g_lsub {x y : Int64} (z : Int64) (C : Cx wd p s m meth c Z a0 EL own bytes ml ret nm) (hd : decode bytes pc = .ok (.lsub, 1)) (hz : x - y = z) (nx : Go wd p l e R s m args below meth c Z EL Q kc ks m0 mine h locs cells slots (mkF m (pc + 1) Ls (.long z :: st))) : Go wd p l e R s m args below meth c Z EL Q kc ks m0 mine h locs cells slots (mkF m pc Ls (.long y :: .long x :: st)) := by subst hz; exact nx.pure fun T t H hr => XT.lsub H C.hx rfl (hb C.hby hd) rfl hr
theorem g_lmul {x y : Int64} (z : Int64) (C : Cx wd p s m meth c Z a0 EL own bytes ml ret nm) (hd : decode bytes pc = .ok (.lmul, 1)) (hz : x * y = z) (nx : Go wd p l e R s m args below meth c Z EL Q kc ks m0 mine h locs cells slots (mkF m (pc + 1) Ls (.long z :: st))) : Go wd p l e R s m args below meth c Z EL Q kc ks m0 mine h locs cells slots (mkF m pc Ls (.long y :: .long x :: st)) := by subst hz; exact nx.pure fun T t H hr => XT.lmul H C.hx rfl (hb C.hby hd) rfl hr
theorem g_land {x y : Int64} (z : Int64) (C : Cx wd p s m meth c Z a0 EL own bytes ml ret nm) (hd : decode bytes pc = .ok (.land, 1)) (hz : x &&& y = z) (nx : Go wd p l e R s m args below meth c Z EL Q kc ks m0 mine h locs cells slots (mkF m (pc + 1) Ls (.long z :: st))) : Go wd p l e R s m args below meth c Z EL Q kc ks m0 mine h locs cells slots (mkF m pc Ls (.long y :: .long x :: st)) := by subst hz; exact nx.pure fun T t H hr => XT.land H C.hx rfl (hb C.hby hd) rfl hr
theorem g_lor {x y : Int64} (z : Int64) (C : Cx wd p s m meth c Z a0 EL own bytes ml ret nm) (hd : decode bytes pc = .ok (.lor, 1)) (hz : x ||| y = z) (nx : Go wd p l e R s m args below meth c Z EL Q kc ks m0 mine h locs cells slots (mkF m (pc + 1) Ls (.long z :: st))) : Go wd p l e R s m args below meth c Z EL Q kc ks m0 mine h locs cells slots (mkF m pc Ls (.long y :: .long x :: st)) := by subst hz; exact nx.pure fun T t H hr => XT.lor H C.hx rfl (hb C.hby hd) rfl hr
theorem g_ldiv {x y : Int64} (z : Int64) (C : Cx wd p s m meth c Z a0 EL own bytes ml ret nm) (hd : decode bytes pc = .ok (.ldiv, 1)) (hy : y ≠ 0) (hz : x / y = z) (nx : Go wd p l e R s m args below meth c Z EL Q kc ks m0 mine h locs cells slots (mkF m (pc + 1) Ls (.long z :: st))) : Go wd p l e R s m args below meth c Z EL Q kc ks m0 mine h locs cells slots (mkF m pc Ls (.long y :: .long x :: st)) := by subst hz; exact nx.pure fun T t H hr => XT.ldiv H C.hx rfl (hb C.hby hd) rfl hy hr
theorem g_lshl {x : Int64} {y : Int32} (z : Int64) (C : Cx wd p s m meth c Z a0 EL own bytes ml ret nm) (hd : decode bytes pc = .ok (.lshl, 1)) (hz : x <<< (y.toInt64 &&& 63) = z) (nx : Go wd p l e R s m args below meth c Z EL Q kc ks m0 mine h locs cells slots (mkF m (pc + 1) Ls (.long z :: st))) : Go wd p l e R s m args below meth c Z EL Q kc ks m0 mine h locs cells slots (mkF m pc Ls (.int y :: .long x :: st)) := by subst hz; exact nx.pure fun T t H hr => XT.lshl H C.hx rfl (hb C.hby hd) rfl hr
theorem g_lshr {x : Int64} {y : Int32} (z : Int64) (C : Cx wd p s m meth c Z a0 EL own bytes ml ret nm) (hd : decode bytes pc = .ok (.lshr, 1)) (hz : x >>> (y.toInt64 &&& 63) = z) (nx : Go wd p l e R s m args below meth c Z EL Q kc ks m0 mine h locs cells slots (mkF m (pc + 1) Ls (.long z :: st))) : Go wd p l e R s m args below meth c Z EL Q kc ks m0 mine h locs cells slots (mkF m pc Ls (.int y :: .long x :: st)) := by subst hz; exact nx.pure fun T t H hr => XT.lshr H C.hx rfl (hb C.hby hd) rfl hr
theorem g_lushr {x : Int64} {y : Int32} (z : Int64) (C : Cx wd p s m meth c Z a0 EL own bytes ml ret nm) (hd : decode bytes pc = .ok (.lushr, 1)) (hz : XT.ushrL x y = z) (nx : Go wd p l e R s m args below meth c Z EL Q kc ks m0 mine h locs cells slots (mkF m (pc + 1) Ls (.long z :: st))) : Go wd p l e R s m args below meth c Z EL Q kc ks m0 mine h locs cells slots (mkF m pc Ls (.int y :: .long x :: st)) := by subst hz; exact nx.pure fun T t H hr => XT.lushr H C.hx rfl (hb C.hby hd) rfl hr
theorem g_lneg {x : Int64} (z : Int64) (C : Cx wd p s m meth c Z a0 EL own bytes ml ret nm) (hd : decode bytes pc = .ok (.lneg, 1)) (hz : -x = z) (nx : Go wd p l e R s m args below meth c Z EL Q kc ks m0 mine h locs cells slots (mkF m (pc + 1) Ls (.long z :: st))) : Go wd p l e R s m args below meth c Z EL Q kc ks m0 mine h locs cells slots (mkF m pc Ls (.long x :: st)) := by subst hz; exact nx.pure fun T t H hr => XT.lneg H C.hx rfl (hb C.hby hd) rfl hr
theorem g_lcmp {x y : Int64} (C : Cx wd p s m meth c Z a0 EL own bytes ml ret nm) (hd : decode bytes pc = .ok (.lcmp, 1))  (nx : Go wd p l e R s m args below meth c Z EL Q kc ks m0 mine h locs cells slots (mkF m (pc + 1) Ls (.int (XT.cmpL x y) :: st))) : Go wd p l e R s m args below meth c Z EL Q kc ks m0 mine h locs cells slots (mkF m pc Ls (.long y :: .long x :: st)) := nx.pure fun T t H hr => XT.lcmp H C.hx rfl (hb C.hby hd) rfl hr
theorem g_iinc {k : Nat} {cst : Int} {x : Int32} (z : Int32) (l' : Array Slot) (C : Cx wd p s m meth c Z a0 EL own bytes ml ret nm) (hd : decode bytes pc = .ok (.iinc k cst, 3)) (hl : Ls[k]? = some (.val (.int x))) (hz : x + Int32.ofInt cst = z) (hl' : storeLocals Ls k (.int z) = some l') (nx : Go wd p l e R s m args below meth c Z EL Q kc ks m0 mine h locs cells slots (mkF m (pc + 3) l' (st))) : Go wd p l e R s m args below meth c Z EL Q kc ks m0 mine h locs cells slots (mkF m pc Ls (st)) := by subst hz; exact nx.pure fun T t H hr => XS.iinc H C.hx rfl (hb C.hby hd) hl hl' hr
theorem g_dup {x : Value} (C : Cx wd p s m meth c Z a0 EL own bytes ml ret nm) (hd : decode bytes pc = .ok (.dup, 1)) (hc : x.category = 1) (nx : Go wd p l e R s m args below meth c Z EL Q kc ks m0 mine h locs cells slots (mkF m (pc + 1) Ls (x :: x :: st))) : Go wd p l e R s m args below meth c Z EL Q kc ks m0 mine h locs cells slots (mkF m pc Ls (x :: st)) := nx.pure fun T t H hr => XS.dup H C.hx rfl (hb C.hby hd) rfl hc hr
theorem g_pop {x : Value} (C : Cx wd p s m meth c Z a0 EL own bytes ml ret nm) (hd : decode bytes pc = .ok (.pop, 1)) (hc : x.category = 1) (nx : Go wd p l e R s m args below meth c Z EL Q kc ks m0 mine h locs cells slots (mkF m (pc + 1) Ls (st))) : Go wd p l e R s m args below meth c Z EL Q kc ks m0 mine h locs cells slots (mkF m pc Ls (x :: st)) := nx.pure fun T t H hr => XT.pop H C.hx rfl (hb C.hby hd) rfl hc hr
theorem g_dupX1 {x y : Value} (C : Cx wd p s m meth c Z a0 EL own bytes ml ret nm) (hd : decode bytes pc = .ok (.dup_x1, 1)) (hc : x.category = 1) (hc' : y.category = 1) (nx : Go wd p l e R s m args below meth c Z EL Q kc ks m0 mine h locs cells slots (mkF m (pc + 1) Ls (x :: y :: x :: st))) : Go wd p l e R s m args below meth c Z EL Q kc ks m0 mine h locs cells slots (mkF m pc Ls (x :: y :: st)) := nx.pure fun T t H hr => XT.dupX1 H C.hx rfl (hb C.hby hd) rfl hc hc' hr
theorem g_dup2 {x y : Value} (C : Cx wd p s m meth c Z a0 EL own bytes ml ret nm) (hd : decode bytes pc = .ok (.dup2, 1)) (hc : x.category = 1) (hc' : y.category = 1) (nx : Go wd p l e R s m args below meth c Z EL Q kc ks m0 mine h locs cells slots (mkF m (pc + 1) Ls (x :: y :: x :: y :: st))) : Go wd p l e R s m args below meth c Z EL Q kc ks m0 mine h locs cells slots (mkF m pc Ls (x :: y :: st)) := nx.pure fun T t H hr => XT.dup2 H C.hx rfl (hb C.hby hd) rfl hc hc' hr
theorem g_goto {o : Int} (pc' : Nat) (C : Cx wd p s m meth c Z a0 EL own bytes ml ret nm) (hd : decode bytes pc = .ok (.goto o, 3)) (ho : 0 ≤ (pc : Int) + o) (hp : ((pc : Int) + o).toNat = pc') (nx : Go wd p l e R s m args below meth c Z EL Q kc ks m0 mine h locs cells slots (mkF m pc' Ls (st))) : Go wd p l e R s m args below meth c Z EL Q kc ks m0 mine h locs cells slots (mkF m pc Ls (st)) := nx.pure fun T t H hr => XS.goto H C.hx rfl rfl (hb C.hby hd) ho hp hr
theorem g_ifT {cd : ClassFile.Cond} {x : Int32} {o : Int} (pc' : Nat) (C : Cx wd p s m meth c Z a0 EL own bytes ml ret nm) (hd : decode bytes pc = .ok (.ifCond cd o, 3)) (hc : hC cd x 0) (ho : 0 ≤ (pc : Int) + o) (hp : ((pc : Int) + o).toNat = pc') (nx : Go wd p l e R s m args below meth c Z EL Q kc ks m0 mine h locs cells slots (mkF m pc' Ls (st))) : Go wd p l e R s m args below meth c Z EL Q kc ks m0 mine h locs cells slots (mkF m pc Ls (.int x :: st)) := nx.pure fun T t H hr => XS.ifYes H C.hx rfl rfl (hb C.hby hd) rfl (by rw [if0]; exact hC_t hc) ho hp hr
theorem g_ifF {cd : ClassFile.Cond} {x : Int32} {o : Int} (C : Cx wd p s m meth c Z a0 EL own bytes ml ret nm) (hd : decode bytes pc = .ok (.ifCond cd o, 3)) (hc : nC cd x 0) (nx : Go wd p l e R s m args below meth c Z EL Q kc ks m0 mine h locs cells slots (mkF m (pc + 3) Ls (st))) : Go wd p l e R s m args below meth c Z EL Q kc ks m0 mine h locs cells slots (mkF m pc Ls (.int x :: st)) := nx.pure fun T t H hr => XS.ifNo H C.hx rfl (hb C.hby hd) rfl (by rw [if0]; exact nC_f hc) hr
theorem g_icmpT {cd : ClassFile.Cond} {x y : Int32} {o : Int} (pc' : Nat) (C : Cx wd p s m meth c Z a0 EL own bytes ml ret nm) (hd : decode bytes pc = .ok (.if_icmp cd o, 3)) (hc : hC cd x y) (ho : 0 ≤ (pc : Int) + o) (hp : ((pc : Int) + o).toNat = pc') (nx : Go wd p l e R s m args below meth c Z EL Q kc ks m0 mine h locs cells slots (mkF m pc' Ls (st))) : Go wd p l e R s m args below meth c Z EL Q kc ks m0 mine h locs cells slots (mkF m pc Ls (.int y :: .int x :: st)) := nx.pure fun T t H hr => XS.icmpYes H C.hx rfl rfl (hb C.hby hd) rfl (hC_t hc) ho hp hr
theorem g_icmpF {cd : ClassFile.Cond} {x y : Int32} {o : Int} (C : Cx wd p s m meth c Z a0 EL own bytes ml ret nm) (hd : decode bytes pc = .ok (.if_icmp cd o, 3)) (hc : nC cd x y) (nx : Go wd p l e R s m args below meth c Z EL Q kc ks m0 mine h locs cells slots (mkF m (pc + 3) Ls (st))) : Go wd p l e R s m args below meth c Z EL Q kc ks m0 mine h locs cells slots (mkF m pc Ls (.int y :: .int x :: st)) := nx.pure fun T t H hr => XS.icmpNo H C.hx rfl (hb C.hby hd) rfl (nC_f hc) hr
theorem g_acmpT {cd : ClassFile.ACond} {x y : Value} {o : Int} (pc' : Nat) (C : Cx wd p s m meth c Z a0 EL own bytes ml ret nm) (hd : decode bytes pc = .ok (.if_acmp cd o, 3)) (hx : x.isRef = true) (hy : y.isRef = true) (hc : aC cd x y) (ho : 0 ≤ (pc : Int) + o) (hp : ((pc : Int) + o).toNat = pc') (nx : Go wd p l e R s m args below meth c Z EL Q kc ks m0 mine h locs cells slots (mkF m pc' Ls (st))) : Go wd p l e R s m args below meth c Z EL Q kc ks m0 mine h locs cells slots (mkF m pc Ls (y :: x :: st)) := nx.pure fun T t H hr => XT.acmpYes H C.hx rfl rfl (hb C.hby hd) rfl hx hy (aC_t hc) ho hp hr
theorem g_acmpF {cd : ClassFile.ACond} {x y : Value} {o : Int} (C : Cx wd p s m meth c Z a0 EL own bytes ml ret nm) (hd : decode bytes pc = .ok (.if_acmp cd o, 3)) (hx : x.isRef = true) (hy : y.isRef = true) (hc : aN cd x y) (nx : Go wd p l e R s m args below meth c Z EL Q kc ks m0 mine h locs cells slots (mkF m (pc + 3) Ls (st))) : Go wd p l e R s m args below meth c Z EL Q kc ks m0 mine h locs cells slots (mkF m pc Ls (y :: x :: st)) := nx.pure fun T t H hr => XT.acmpNo H C.hx rfl (hb C.hby hd) rfl hx hy (aN_f hc) hr
theorem g_leave_ {v : Option Value} {g : JFrame} (C : Cx wd p s m meth c Z a0 EL own bytes ml ret nm) (hv : meth.sig.returnType = none → v = none) (hq : Q v h) (hc : cells ≤ kc) (hs : slots ≤ ks)
    (stp : ∀ (T : State) (vm0 : Vm) (fs : List Frame), Stand p l e R (s.setVm vm0) m args below meth c T locs cells slots → (∀ (f : JFrame) (acts : List Action), f.method = m → f.locked = none → f.entered = [] → (doReturn e (T.setTop f) acts v).1 = T.setFrames fs) → Steps p.tables e below (T.setTop g) (T.setFrames fs)) :
    Go wd p l e R s m args below meth c Z EL Q kc ks m0 mine h locs cells slots g := fun T vm0 X eT V => by
  obtain ⟨⟨v1, v2, ⟨k0, v3, v4⟩, v5⟩, v6, v7, v8, v9⟩ := V
  have hlk := C.hlk
  obtain ⟨fs, hr, hrun, hended, hW, hsame⟩ := X.leave hv hlk
  obtain ⟨u1, u2, u3⟩ := v3.ended (U := T.setFrames fs) hW (by show k0 ≤ T.heap.size; rw [eT]; exact v4) hsame
  have hC : CHr Z EL vm0 h T.vm h := CHv.at X v2 C.hEW v5.1
  refine ⟨_, _, stp T vm0 fs X hr, hrun, hended, v, locs, rfl, ?_, ?_, FinE.mono ⟨fun q => ?_, ⟨v, rfl⟩, u1, u2, u3⟩ hc hs, ?_, ?_, v9⟩
  · show Q v T.heap
    rw [eT]; exact hq
  · show CHr Z EL s.vm s.heap T.vm T.heap
    rw [eT]; exact v5.trans hC
  · have e1 : vm0 = s.vm := v1 q
    subst e1
    exact ⟨⟨v, rfl⟩, hW, hsame⟩
  · show Ext Z.heap T.heap
    rw [eT]; exact v7
  · show Keep s.heap T.heap m0
    rw [eT]; exact v8
theorem g_retV {i : Instr} {t : FieldType} {w : Value} (C : Cx wd p s m meth c Z a0 EL own bytes ml (some t) nm) (hd : decode bytes pc = .ok (i, 1)) (hn : narrow t w = w)
    (hi : (i = .ireturn ∧ (t = .int ∨ t = .boolean ∨ t = .byte ∨ t = .char ∨ t = .short) ∧ ∃ z, w = .int z) ∨ (i = .lreturn ∧ t = .long ∧ ∃ z, w = .long z) ∨ (i = .dreturn ∧ t = .double ∧ ∃ z, w = .double z) ∨ (i = .freturn ∧ t = .float ∧ ∃ z, w = .float z) ∨ (i = .areturn ∧ t.isReference = true ∧ w.isRef = true))
    (hq : Q (some w) h) (hc : cells ≤ kc) (hs : slots ≤ ks) : Go wd p l e R s m args below meth c Z EL Q kc ks m0 mine h locs cells slots (mkF m pc Ls (w :: st)) :=
  g_leave_ C (fun q => by rw [C.hret] at q; cases q) hq hc hs fun T vm0 fs X hr => retOut X C.hx C.hret hn hi (hb C.hby hd) hr
theorem g_retI {z : Int32} (C : Cx wd p s m meth c Z a0 EL own bytes ml (some .int) nm) (hd : decode bytes pc = .ok (.ireturn, 1)) (hq : Q (some (.int z)) h) (hc : cells ≤ kc) (hs : slots ≤ ks) : Go wd p l e R s m args below meth c Z EL Q kc ks m0 mine h locs cells slots (mkF m pc Ls (.int z :: st)) :=
  g_retV C hd rfl (Or.inl ⟨rfl, Or.inl rfl, z, rfl⟩) hq hc hs
theorem g_retA {t : FieldType} {w : Value} (C : Cx wd p s m meth c Z a0 EL own bytes ml (some t) nm) (hd : decode bytes pc = .ok (.areturn, 1)) (ht : t.isReference = true) (hw : w.isRef = true) (hq : Q (some w) h) (hc : cells ≤ kc) (hs : slots ≤ ks) : Go wd p l e R s m args below meth c Z EL Q kc ks m0 mine h locs cells slots (mkF m pc Ls (w :: st)) :=
  g_retV C hd (by cases t <;> first | (simp [FieldType.isReference] at ht; done) | rfl) (Or.inr (Or.inr (Or.inr (Or.inr ⟨rfl, ht, hw⟩)))) hq hc hs
/-- boolean, byte, char, short: what is left of z -/
theorem g_retN {z : Int32} {t : FieldType} (C : Cx wd p s m meth c Z a0 EL own bytes ml (some t) nm) (hd : decode bytes pc = .ok (.ireturn, 1)) (ht : t = .boolean ∨ t = .byte ∨ t = .char ∨ t = .short) (hq : Q (some (.int (nar t z))) h) (hc : cells ≤ kc) (hs : slots ≤ ks) : Go wd p l e R s m args below meth c Z EL Q kc ks m0 mine h locs cells slots (mkF m pc Ls (.int z :: st)) :=
  g_leave_ C (fun q => by rw [C.hret] at q; cases q) hq hc hs fun T vm0 fs X hr => RoadKit.retN X C.hx C.hret ht (hb C.hby hd) hr
theorem g_retU (C : Cx wd p s m meth c Z a0 EL own bytes ml none nm) (hd : decode bytes pc = .ok (.return_, 1)) (hq : Q none h) (hc : cells ≤ kc) (hs : slots ≤ ks) : Go wd p l e R s m args below meth c Z EL Q kc ks m0 mine h locs cells slots (mkF m pc Ls []) :=
  g_leave_ C (fun _ => rfl) hq hc hs fun T vm0 fs X hr => X.returnOut C.hx C.hret (hb C.hby hd) hr
theorem g_getfield {idx : Nat} {R0 O n d host : String} {v : Value} (C : Cx wd p s m meth c Z a0 EL own bytes ml ret nm) (hd : decode bytes pc = .ok (.getfield idx, 3)) (w : (Cond.fieldLink own idx R0 n d).before a0 Z = true ∨ (Cond.fieldLinkNest own idx R0 n d host).before a0 Z = true) (via : Via Z R0 O n d) (F : Fld Z h a O n d v)
    (nx : Go wd p l e R s m args below meth c Z EL Q kc ks m0 mine h locs cells slots (mkF m (pc + 3) Ls (v :: st))) : Go wd p l e R s m args below meth c Z EL Q kc ks m0 mine h locs cells slots (mkF m pc Ls (.ref a :: st)) := fun T vm0 X eT V => by
  obtain ⟨T', X', e', k1⟩ := RoadKit.getF X C.hx V.hZ' (V.hown C) w via eT F (g := mkF m pc Ls (.ref a :: st)) rfl rfl (hb C.hby hd)
  obtain ⟨s₂, o, k, r⟩ := nx T' vm0 X' e' V
  exact ⟨s₂, o, k1 _ k, r⟩
theorem g_getstatic {idx : Nat} {R0 O n d host : String} {v : Value} (C : Cx wd p s m meth c Z a0 EL own bytes ml ret nm) (hd : decode bytes pc = .ok (.getstatic idx, 3)) (w : (Cond.fieldLink own idx R0 n d).before a0 Z = true ∨ (Cond.fieldLinkNest own idx R0 n d host).before a0 Z = true) (via : Via Z R0 O n d) (F : Sta Z Z.heap O n d v)
    (nx : Go wd p l e R s m args below meth c Z EL Q kc ks m0 mine h locs cells slots (mkF m (pc + 3) Ls (v :: st))) : Go wd p l e R s m args below meth c Z EL Q kc ks m0 mine h locs cells slots (mkF m pc Ls st) := fun T vm0 X eT V => by
  obtain ⟨T', X', e', k1⟩ := getS2 X C.hx V.hZ' (V.hown C) w via eT (Sta.ext V.old F) (g := mkF m pc Ls st) rfl (hb C.hby hd)
  obtain ⟨s₂, o, k, r⟩ := nx T' vm0 X' e' V
  exact ⟨s₂, o, k1 _ k, r⟩
theorem g_putfield {idx kk : Nat} {R0 O n d host Cn : String} {v old : Value} {ty : FieldType} (C : Cx wd p s m meth c Z a0 EL own bytes ml ret nm) (hd : decode bytes pc = .ok (.putfield idx, 3)) (w : (Cond.fieldLink own idx R0 n d).before a0 Z = true ∨ (Cond.fieldLinkNest own idx R0 n d host).before a0 Z = true) (via : Via Z R0 O n d) (F : Fld Z h a O n d old) (E : Exa Z h a Cn)
    (L : (Cond.lays Cn O n d).before a0 Z = true ∨ ((Cond.laysFinal Cn O n d).before a0 Z = true ∧ own = O ∧ nm = "<init>")) (wi : (Cond.instantiable Cn kk).before a0 Z = true) (hty : parseFieldDescriptor d = some ty) (hn : narrow ty v = v) (hf : fits ty v = true) (hm : a ∈ mine)
    (nx : ∀ h', Wr h h' a (RoadKit.slotOf Z O n d) v → Keep h h' [a] → Go wd p l e R s m args below meth c Z EL Q kc ks m0 mine h' (locs ++ [⟨a, RoadKit.slotOf Z O n d⟩]) cells slots (mkF m (pc + 3) Ls st)) : Go wd p l e R s m args below meth c Z EL Q kc ks m0 mine h locs cells slots (mkF m pc Ls (v :: .ref a :: st)) := fun T vm0 X eT V => by
  have L' : (Cond.lays Cn O n d).before a0 Z = true ∨ ((Cond.laysFinal Cn O n d).before a0 Z = true ∧ own = O ∧ meth.name = "<init>") := L.imp id fun q => ⟨q.1, q.2.1, by rw [C.hnm]; exact q.2.2⟩
  obtain ⟨T', h', X', e', W, k1⟩ := putF X C.hx V.hZ' (V.hown C) w via eT F E L' wi hty hn hf (g := mkF m pc Ls (v :: .ref a :: st)) rfl rfl (hb C.hby hd)
  obtain ⟨s₂, o, k, r⟩ := nx h' W (Keep.of_wr W) T' vm0 X' e' (V.keep (Keep.of_wr W) (fun x hx => by rw [List.mem_singleton.mp hx]; exact hm) (V.wr1 hm))
  exact ⟨s₂, o, k1 _ k, r⟩
theorem g_new_ {idx kk : Nat} {Cn : String} (C : Cx wd p s m meth c Z a0 EL own bytes ml ret nm) (hd : decode bytes pc = .ok (.new idx, 3)) (w : (Cond.classLink own idx Cn).before a0 Z = true) (wi : (Cond.instantiable Cn kk).before a0 Z = true) (wz : (Cond.initialized Cn).before a0 Z = true) (hc : cells + 1 ≤ R.cells) (hs : slots + kk ≤ R.slots)
    (nx : ∀ (a : Addr) (h' : Heap), a = h.size → Ext h h' → a < h'.size → Exa Z h' a Cn → (∀ {O n d : String} {ty : FieldType}, Laid Z a0 Cn O n d → parseFieldDescriptor d = some ty → Fld Z h' a O n d (defaultValue ty)) → Go wd p l e R s m args below meth c Z EL Q kc ks m0 (a :: mine) h' locs (cells + 1) (slots + kk) (mkF m (pc + 3) Ls (.ref a :: st))) : Go wd p l e R s m args below meth c Z EL Q kc ks m0 mine h locs cells slots (mkF m pc Ls st) := fun T vm0 X eT V => by
  obtain ⟨T', h', X', e', E, A, D, -, k1⟩ := newO X C.hx V.hZ' (V.hown C) w wi wz eT (g := mkF m pc Ls st) rfl (hb C.hby hd) hc hs
  obtain ⟨s₂, o, k, r⟩ := nx h.size h' rfl E A.lt A D T' vm0 X' e' (V.new E A.lt)
  exact ⟨s₂, o, k1 _ k, r⟩
theorem g_objInit {idx : Nat} (C : Cx wd p s m meth c Z a0 EL own bytes ml ret nm) (hd : decode bytes pc = .ok (.invokespecial idx, 3)) (w1 : (Cond.methodLink own idx Lib.objectInit).before a0 Z = true) (w2 : (Cond.instanceMethod Lib.objectInit).before a0 Z = true) (w3 : (Cond.code Lib.objectInit ⟨#[0xb1]⟩ 1 none).before a0 Z = true)
    (hsz : Ls.size = ml) (hf : 1 ≤ R.frames) (hl : (st.map fun v => v.category).sum + 12 ≤ R.locals) (nx : Go wd p l e R s m args below meth c Z EL Q kc ks m0 mine h locs cells slots (mkF m (pc + 3) Ls st)) : Go wd p l e R s m args below meth c Z EL Q kc ks m0 mine h locs cells slots (mkF m pc Ls (.ref a :: st)) := fun T vm0 X eT V => by
  obtain ⟨T', X', e', k1⟩ := initO X C.hx V.hZ' (V.hown C) w1 w2 w3 eT (g := mkF m pc Ls (.ref a :: st)) rfl (by rw [C.hml]; exact hsz) rfl (hb C.hby hd) hf (W := (st.map fun v => v.category).sum) (by show 2 * 0 + _ ≤ _; omega) hl
  obtain ⟨s₂, o, k, r⟩ := nx T' vm0 X' e' V
  exact ⟨s₂, o, k1 _ k, r⟩
theorem g_castY {idx : Nat} {K : String} (C : Cx wd p s m meth c Z a0 EL own bytes ml ret nm) (hd : decode bytes pc = .ok (.checkcast idx, 3)) (w : (Cond.classLink own idx K).before a0 Z = true) (I : Ins Z h a K true) (nx : Go wd p l e R s m args below meth c Z EL Q kc ks m0 mine h locs cells slots (mkF m (pc + 3) Ls (.ref a :: st))) : Go wd p l e R s m args below meth c Z EL Q kc ks m0 mine h locs cells slots (mkF m pc Ls (.ref a :: st)) := fun T vm0 X eT V => by
  obtain ⟨T', X', e', k1⟩ := RoadKit.castY X C.hx V.hZ' (V.hown C) w eT I (g := mkF m pc Ls (.ref a :: st)) rfl rfl (hb C.hby hd)
  obtain ⟨s₂, o, k, r⟩ := nx T' vm0 X' e' V
  exact ⟨s₂, o, k1 _ k, r⟩
theorem g_instY {idx : Nat} {K : String} (C : Cx wd p s m meth c Z a0 EL own bytes ml ret nm) (hd : decode bytes pc = .ok (.instanceof idx, 3)) (w : (Cond.classLink own idx K).before a0 Z = true) (I : Ins Z h a K true) (nx : Go wd p l e R s m args below meth c Z EL Q kc ks m0 mine h locs cells slots (mkF m (pc + 3) Ls (.int 1 :: st))) : Go wd p l e R s m args below meth c Z EL Q kc ks m0 mine h locs cells slots (mkF m pc Ls (.ref a :: st)) := fun T vm0 X eT V => by
  obtain ⟨T', X', e', k1⟩ := RoadKit.instY X C.hx V.hZ' (V.hown C) w eT I (g := mkF m pc Ls (.ref a :: st)) rfl rfl (hb C.hby hd)
  obtain ⟨s₂, o, k, r⟩ := nx T' vm0 X' e' V
  exact ⟨s₂, o, k1 _ k, r⟩
theorem Av.lt (A : Av Z h a ty vs) : a < h.size := by obtain ⟨c, A, -⟩ := A; exact A.lt
theorem Av.keep (A : Av Z h a ty vs) (K : Keep h h' ws) (q : a ∉ ws) : Av Z h' a ty vs := by
  obtain ⟨c, A, r⟩ := A
  exact ⟨c, ⟨K.2.1 _ _ A.1 q, A.2⟩, r⟩
theorem Av.ext (A : Av Z h a ty vs) (E : Ext h h') : Av Z h' a ty vs := A.keep (keep_ext E) (fun q => nomatch q)
theorem Av.set {i : Nat} (A : Av Z h a ty vs) (W : Wr h h' a i v) (hf : fits ty v = true) : Av Z h' a ty (vs.set i v) := by
  obtain ⟨c, A, rfl, h2, h3⟩ := A
  refine ⟨c.setSlot i v, A.same W, by simp [Cell.setSlot], by simpa using h2, fun w hw => ?_⟩
  rcases List.mem_or_eq_of_mem_set hw with q | rfl
  · exact h3 w q
  · exact hf
theorem Av.of_arv {k : ClassId} {z : Int32} {d : Value} (A : Arv Z h a k ty z vs d) (hl : z.toNatClampNeg = vs.length) : Av Z h a ty vs := by
  obtain ⟨c, A, -, hs, hz, H, G⟩ := A
  have e1 : c.slots.toList = vs := by
    apply List.ext_getElem?
    intro i
    rw [Array.getElem?_toList]
    by_cases q : i < c.slots.size
    · rw [H i q, List.getD_eq_getElem?_getD, List.getElem?_eq_getElem (by omega)]; rfl
    · rw [Array.getElem?_eq_none (by omega), List.getElem?_eq_none (by omega)]
  refine ⟨c, A, e1, ?_, fun w hw => ?_⟩
  · have := (back32 hz).2; omega
  · obtain ⟨i, hi, rfl⟩ := List.mem_iff_getElem.mp hw
    have := G i (by omega)
    rwa [List.getD_eq_getElem?_getD, List.getElem?_eq_getElem hi] at this
theorem toNat_ofNat {n : Nat} (hn : n < 2147483648) : (Int32.ofNat n).toNatClampNeg = n ∧ ¬ Int32.ofNat n < 0 := by
  have e := Int32.toInt_ofNat_small (n := n) hn
  refine ⟨by simp only [Int32.toNatClampNeg, e]; omega, fun q => ?_⟩
  have := Int32.lt_iff_toInt_lt.mp q
  rw [e] at this
  simp at this
  omega
theorem Arv.of_av {d : Value} (A : Av Z h a ty vs) : ∃ k, Arv Z h a k ty (Int32.ofNat vs.length) vs d := by
  obtain ⟨c, A, rfl, h2, h3⟩ := A
  obtain ⟨q1, q2⟩ := toNat_ofNat h2
  refine ⟨c.cls, c, A, rfl, by rw [q1]; simp, q2, fun i hi => ?_, fun i hi => ?_⟩
  · rw [List.getD_eq_getElem?_getD, Array.getElem?_toList, Array.getElem?_eq_getElem hi]; rfl
  · rw [List.getD_eq_getElem?_getD, Array.getElem?_toList, Array.getElem?_eq_getElem hi]
    exact h3 _ (Array.mem_toList_iff.mpr (Array.getElem_mem hi))
theorem g_alen {z : Int32} (C : Cx wd p s m meth c Z a0 EL own bytes ml ret nm) (hd : decode bytes pc = .ok (.arraylength, 1)) (A : Av Z h a ty vs) (hz : Int32.ofNat vs.length = z) (nx : Go wd p l e R s m args below meth c Z EL Q kc ks m0 mine h locs cells slots (mkF m (pc + 1) Ls (.int z :: st))) : Go wd p l e R s m args below meth c Z EL Q kc ks m0 mine h locs cells slots (mkF m pc Ls (.ref a :: st)) := fun T vm0 X eT V => by
  obtain ⟨cl, Ar, rfl, -, -⟩ := A
  obtain ⟨s₂, o, k, r⟩ := nx T vm0 X eT V
  refine ⟨s₂, o, X.arraylength C.hx (by rw [eT]; exact Ar.1) (State.isArrayOf_alike V.hZ'.alike Ar.2.1) (g := mkF m pc Ls (.ref a :: st)) rfl rfl (hb C.hby hd) _ ?_, r⟩
  have e1 : cl.slots.size.toInt32 = z := by rw [← hz, Array.length_toList]
  rw [e1]; exact k
theorem g_iaload {j : Int32} {v : Value} (i : Nat) (C : Cx wd p s m meth c Z a0 EL own bytes ml ret nm) (hd : decode bytes pc = .ok (.iaload, 1)) (A : Av Z h a .int vs) (hj : ¬ j < 0) (hi : j.toNatClampNeg = i) (hv : vs[i]? = some v) (nx : Go wd p l e R s m args below meth c Z EL Q kc ks m0 mine h locs cells slots (mkF m (pc + 1) Ls (v :: st))) : Go wd p l e R s m args below meth c Z EL Q kc ks m0 mine h locs cells slots (mkF m pc Ls (.int j :: .ref a :: st)) := fun T vm0 X eT V => by
  obtain ⟨cl, Ar, rfl, -, -⟩ := A
  obtain ⟨s₂, o, k, r⟩ := nx T vm0 X eT V
  rw [Array.getElem?_toList] at hv
  have hlt := (Array.getElem?_eq_some_iff.mp hv).1
  exact ⟨s₂, o, X.iaload C.hx (by rw [eT]; exact Ar.1) (State.isArrayOf_alike V.hZ'.alike Ar.2.1) Ar.2.2 (fun q => q.elim hj (by omega)) (by rw [hi]; exact hv) (g := mkF m pc Ls (.int j :: .ref a :: st)) rfl rfl (hb C.hby hd) _ k, r⟩
theorem g_iastore {j : Int32} {x : Int32} (i : Nat) (C : Cx wd p s m meth c Z a0 EL own bytes ml ret nm) (hd : decode bytes pc = .ok (.iastore, 1)) (A : Av Z h a .int vs) (hj : ¬ j < 0) (hi : j.toNatClampNeg = i) (hlt : i < vs.length) (hm : a ∈ mine) (nx : ∀ h', Keep h h' [a] → h'.size = h.size → Av Z h' a .int (vs.set i (.int x)) → Go wd p l e R s m args below meth c Z EL Q kc ks m0 mine h' (locs ++ [⟨a, i⟩]) cells slots (mkF m (pc + 1) Ls st)) : Go wd p l e R s m args below meth c Z EL Q kc ks m0 mine h locs cells slots (mkF m pc Ls (.int x :: .int j :: .ref a :: st)) := fun T vm0 X eT V => by
  have A' := A
  obtain ⟨cl, Ar, e1, -, -⟩ := A
  subst hi
  obtain ⟨T', h', X', e', W, k1⟩ := stI X C.hx V.hZ' eT Ar (j := j) (x := x) (fun q => q.elim hj (by rw [← Array.length_toList, e1]; omega)) (g := mkF m pc Ls (.int x :: .int j :: .ref a :: st)) rfl rfl (hb C.hby hd)
  obtain ⟨s₂, o, k, r⟩ := nx h' (Keep.of_wr W) W.size (A'.set W rfl) T' vm0 X' e' (V.keep (Keep.of_wr W) (fun x hx => by rw [List.mem_singleton.mp hx]; exact hm) (V.wr1 hm))
  exact ⟨s₂, o, k1 _ k, r⟩
theorem g_newarray_ {aty : ArrayType} {n : Int32} {ad : String} (cap : Nat) (vs : List Value) (C : Cx wd p s m meth c Z a0 EL own bytes ml ret nm) (hd : decode bytes pc = .ok (.newarray aty, 2)) (w : (Cond.arrayClass (newarray.typeOf aty)).before a0 Z = true) (hn : ¬ n < 0) (hcap : n.toNatClampNeg ≤ cap) (hbig : cap * 8 ≤ 536870912) (had : "[" ++ (newarray.typeOf aty).toString = ad) (hvs : List.replicate n.toNatClampNeg (defaultValue (newarray.typeOf aty)) = vs) (hc : cells + 1 ≤ R.cells) (hs : slots + cap ≤ R.slots)
    (nx : ∀ (a : Addr) (h' : Heap), a = h.size → Ext h h' → a < h'.size → Exa Z h' a ad → Av Z h' a (newarray.typeOf aty) vs → Go wd p l e R s m args below meth c Z EL Q kc ks m0 (a :: mine) h' locs (cells + 1) (slots + cap) (mkF m (pc + 2) Ls (.ref a :: st))) : Go wd p l e R s m args below meth c Z EL Q kc ks m0 mine h locs cells slots (mkF m pc Ls (.int n :: st)) := fun T vm0 X eT V => by
  obtain ⟨T', h', cA, X', e', E, A, A2, k1⟩ := newPE X C.hx V.hZ' w eT (g := mkF m pc Ls (.int n :: st)) rfl (hb C.hby hd) rfl hn hcap hbig hc hs had
  have hav : Av Z h' h.size (newarray.typeOf aty) vs := by
    refine ⟨_, A, by rw [← hvs]; simp [newA], ?_, fun w hw => ?_⟩
    · rw [← hvs]; simp; have := (back32 hn).2; omega
    · rw [← hvs] at hw
      rw [(List.mem_replicate.mp hw).2]; cases aty <;> rfl
  obtain ⟨s₂, o, k, r⟩ := nx h.size h' rfl E A.lt A2 hav T' vm0 X' e' (V.new E A.lt)
  exact ⟨s₂, o, k1 _ k, r⟩
theorem g_clone_ {idx : Nat} {ad : String} (cap : Nat) (C : Cx wd p s m meth c Z a0 EL own bytes ml ret nm) (hd : decode bytes pc = .ok (.invokevirtual idx, 3)) (w1 : (Cond.methodLink own idx ⟨ad, "clone", "()Ljava/lang/Object;"⟩).before a0 Z = true) (w2 : (Cond.sameMethod ad "java/lang/Object" "clone" "()Ljava/lang/Object;").before a0 Z = true) (w3 : (Cond.native ⟨"java/lang/Object", "clone", "()Ljava/lang/Object;"⟩).before a0 Z = true)
    (w4 : (Cond.instanceMethod ⟨"java/lang/Object", "clone", "()Ljava/lang/Object;"⟩).before a0 Z = true) (w5 : (Cond.selects ad ⟨ad, "clone", "()Ljava/lang/Object;"⟩ ⟨"java/lang/Object", "clone", "()Ljava/lang/Object;"⟩).before a0 Z = true) (w6 : (Cond.castable ad "java/lang/Cloneable").before a0 Z = true)
    (A : Av Z h a ty vs) (E : Exa Z h a ad) (hcap : vs.length ≤ cap) (hsz : Ls.size = ml) (hf : 1 ≤ R.frames) (hl : (st.map fun v => v.category).sum + 14 ≤ R.locals) (hc : cells + 1 ≤ R.cells) (hs : slots + cap ≤ R.slots)
    (nx : ∀ (b : Addr) (h' : Heap), b = h.size → Ext h h' → b < h'.size → Exa Z h' b ad → Av Z h' b ty vs → Go wd p l e R s m args below meth c Z EL Q kc ks m0 (b :: mine) h' locs (cells + 1) (slots + cap) (mkF m (pc + 3) Ls (.ref b :: st))) : Go wd p l e R s m args below meth c Z EL Q kc ks m0 mine h locs cells slots (mkF m pc Ls (.ref a :: st)) := fun T vm0 X eT V => by
  obtain ⟨cl, Ar, rfl, h2, h3⟩ := A
  have FC : FitC Z cl := fitC_of Ar fun i hi v hv => h3 v (by rw [Array.getElem?_eq_getElem hi] at hv; cases hv; exact Array.mem_toList_iff.mpr (Array.getElem_mem hi))
  obtain ⟨T', h', X', e', E', A', A2, k1⟩ := cloneA X C.hx V.hZ' (V.hown C) w1 w2 w3 w4 w5 w6 eT Ar E FC (g := mkF m pc Ls (.ref a :: st)) rfl (by rw [C.hml]; exact hsz) rfl (hb C.hby hd) hf (W := (st.map fun v => v.category).sum) (by show 2 * 0 + _ ≤ _; omega) hl (by rw [← Array.length_toList]; exact hcap) hc hs
  obtain ⟨s₂, o, k, r⟩ := nx h.size h' rfl E' A'.lt A2 ⟨_, A', rfl, h2, h3⟩ T' vm0 X' e' (V.new E' A'.lt)
  exact ⟨s₂, o, k1 _ k, r⟩
/-! calls -/
theorem safe0 {x : Addr} : Safe Z [] vm h x := fun ⟨_, q, _⟩ => nomatch q
theorem chv0 : CHv Z [] vm h := fun _ q => nomatch q
variable {y z : MethodName} {bytes' : ByteArray} {ml' : Nat} {ret' : Option FieldType} {rm : Room} {Q' : Option Value → Heap → Prop} {mine' : List Addr} {as' : Array Value} {len W : Nat}
theorem backN (M : MetW false l Z [] y bytes' ml' ret' [] rm as' mine' h Q') (hZ : Z.Warmed39 s.vm) (wc : (Cond.code y bytes' ml' ret').before a0 Z = true) (wz : (Cond.initialized y.cls).before a0 Z = true) (hf : rm.frames + 1 ≤ R.frames) (hl : W + (ml' + 11) + rm.locals ≤ R.locals) (hm : ∀ x ∈ mine', x < h.size ∧ Z.heap.size ≤ x) (hold : Ext Z.heap h) :
    Back l R p e below s args y len W (fun A a => a = as' ∧ A.U.heap = h ∧ A.cells + rm.cells ≤ R.cells ∧ A.slots + rm.slots ≤ R.slots)
      (fun A _ v B => ∃ L, Q' v B.U.heap ∧ B.locs = A.locs ++ L ∧ B.cells = A.cells + rm.cells ∧ B.slots = A.slots + rm.slots ∧ Keep h B.U.heap mine' ∧ Fr Z.heap.size L) :=
  Back.of_free (bytes := bytes') (maxL := ml') (ret := ret') (E := fun _ first o t L k n => k = rm.cells ∧ n = rm.slots ∧ (∃ v, o = .returned v ∧ Q' v t.heap) ∧ Keep first.heap t.heap mine' ∧ Fr Z.heap.size L) M hf hl
    (fun m meth c A a Y hp => have hU : Z.Warmed39 A.U.vm := wtrans hZ Y.warmed
      ⟨by show (Cond.and _ .tt).before a A.U = true; rw [Cond.before_and, mv hU wc]; rfl, mv hU wc, mv hU wz, hp.2.2.1, hp.2.2.2⟩)
    (fun m meth c A a g mk Y hp => ⟨hp.1, wtrans hZ Y.warmed, hp.2.1, chv0, fun x hx => ⟨(hm x hx).1, safe0, (hm x hx).2⟩, hold⟩) (fun _ _ _ _ _ _ _ _ _ => trivial)
    (fun _ _ _ _ ⟨v, L, h1, h2, h3, h4, h5, h6, h7⟩ => ⟨L, _, _, h4.1 rfl, rfl, rfl, ⟨v, h1, h2⟩, h6, h7⟩)
    (fun m meth c A a g mk v t L k n Y hp _ _ ⟨e1, e2, ⟨v', e3, e4⟩, e5, e6⟩ => by
      cases e3; subst e1 e2
      refine ⟨L, e4, rfl, rfl, rfl, ?_, e6⟩
      rw [← hp.2.1]; exact e5)
theorem backW {vm0 : Vm} (M : MetW true l Z EL y bytes' ml' ret' [] rm as' mine' h Q') (hZ : Z.Warmed39 vm0) (wc : (Cond.code y bytes' ml' ret').before a0 Z = true) (wz : (Cond.initialized y.cls).before a0 Z = true) (hf : rm.frames + 1 ≤ R.frames) (hl : W + (ml' + 11) + rm.locals ≤ R.locals) (hEL : EW Z a0 EL) (H : CHv Z EL vm0 h) (hm : ∀ x ∈ mine', x < h.size ∧ Safe Z EL vm0 h x ∧ Z.heap.size ≤ x) (hold : Ext Z.heap h) :
    BackS l R p e below (s.setVm vm0) args y len W (fun A a => a = as' ∧ A.U.heap = h ∧ A.cells + rm.cells ≤ R.cells ∧ A.slots + rm.slots ≤ R.slots)
      (fun A _ v B => ∃ L, Q' v B.U.heap ∧ B.locs = A.locs ++ L ∧ B.cells = A.cells + rm.cells ∧ B.slots = A.slots + rm.slots ∧ CHr Z EL vm0 h B.U.vm B.U.heap ∧ Keep h B.U.heap mine' ∧ Fr Z.heap.size L) :=
  BackS.of_freeW (bytes := bytes') (maxL := ml') (ret := ret') (E := fun _ first o t L k n => k = rm.cells ∧ n = rm.slots ∧ (∃ v, o = .returned v ∧ Q' v t.heap) ∧ CHr Z EL first.vm first.heap t.vm t.heap ∧ Keep first.heap t.heap mine' ∧ Fr Z.heap.size L) M hf hl
    (fun m meth c A a Y hp => have hU : Z.Warmed39 A.U.vm := wtrans (s := s.setVm vm0) hZ Y.warmed
      ⟨by show (Cond.and _ .tt).before a A.U = true; rw [Cond.before_and, mv hU wc]; rfl, mv hU wc, mv hU wz, hp.2.2.1, hp.2.2.2⟩)
    (fun m meth c A a g mk Y hp => ⟨hp.1, wtrans (s := s.setVm vm0) hZ Y.warmed, hp.2.1, (CHv.at Y hZ hEL H).1, fun x hx => ⟨(hm x hx).1, (CHv.at Y hZ hEL H).safe (hm x hx).1 (hm x hx).2.1, (hm x hx).2.2⟩, hold⟩) (fun _ _ _ _ _ _ _ _ _ => trivial)
    (fun _ _ _ _ ⟨v, L, h1, h2, h3, h4, h5, h6, h7⟩ => ⟨L, _, _, h4.2, rfl, rfl, ⟨v, h1, h2⟩, h3, h6, h7⟩)
    (fun m meth c A a g mk v t L k n Y hp _ _ ⟨e1, e2, ⟨v', e3, e4⟩, e5, e6, e7⟩ => by
      cases e3; subst e1 e2
      refine ⟨L, e4, rfl, rfl, rfl, (CHv.at Y hZ hEL H).trans ?_, ?_, e7⟩
      · rw [← hp.2.1]; exact e5
      · rw [← hp.2.1]; exact e6)
theorem Vi.call {vm0 vm1 : Vm} {n : Nat} {locs' : List Loc} (V : Vi true Z s EL m0 mine locs vm0 h) (hS : (s.setVm vm0).Since vm1 n) (hn : n ≤ h'.size) (hg : h.size ≤ n) (R2 : CHr Z EL vm0 h vm1 h') (K : Keep h h' ws) (hw : ∀ x ∈ ws, x ∈ mine) (hF : Fr Z.heap.size locs') : Vi true Z s EL m0 mine locs' vm1 h' := by
  have V' := V.keep K hw hF
  obtain ⟨⟨v1, v2, ⟨k0, v3, v4⟩, v5⟩, v6, v7, v8, v9⟩ := V
  exact ⟨⟨fun q => (nomatch q), State.Warmed39.trans (t := s.setVm vm0) v2 hS.1, ⟨n, v3.trans hS (Nat.le_trans v4 hg), hn⟩, v5.trans R2⟩, fun x hx => ⟨(V'.2.1 x hx).1, R2.safe (v6 x hx).1 (v6 x hx).2.1, (V'.2.1 x hx).2.2⟩, V'.2.2⟩
theorem g_invokestatic {idx : Nat} {st0 : List Value} (argsL rest : List Value) (W : Nat) (C : Cx wd p s m meth c Z a0 EL own bytes ml ret nm) (hd : decode bytes pc = .ok (.invokestatic idx, 3)) (w1 : (Cond.methodLink own idx y).before a0 Z = true) (w2 : (Cond.static y).before a0 Z = true) (w3 : (Cond.initialized y.cls).before a0 Z = true) (w4 : (Cond.code y bytes' ml' ret').before a0 Z = true) (hy : y.cls ≠ "java/lang/invoke/MethodHandle" ∧ y.cls ≠ "java/lang/invoke/VarHandle") (M : MetW wd l Z EL y bytes' ml' ret' [] rm argsL.toArray mine' h Q') (hlen : ∀ sig, parseMethodDescriptor y.desc = some sig → argsL.length = sig.parameters.length) (hst : st0 = argsL.reverse ++ rest) (hsz : Ls.size = ml) (hW : (rest.map fun v => v.category).sum ≤ W) (hf : rm.frames + 1 ≤ R.frames) (hl : W + (ml' + 11) + rm.locals ≤ R.locals) (hc : cells + rm.cells ≤ R.cells) (hs : slots + rm.slots ≤ R.slots) (hm : ∀ x ∈ mine', x ∈ mine) (nx : ∀ (v : Option Value) (h' : Heap) (L : List Loc), Q' v h' → Keep h h' mine' → Go wd p l e R s m args below meth c Z EL Q kc ks m0 mine h' (locs ++ L) (cells + rm.cells) (slots + rm.slots) (mkF m (pc + 3) Ls (v.toList ++ rest))) : Go wd p l e R s m args below meth c Z EL Q kc ks m0 mine h locs cells slots (mkF m pc Ls st0) := fun T vm0 X eT V => by
  subst hst
  have h2W : 2 * 0 + (rest.map fun v => v.category).sum ≤ W := by omega
  cases wd with
  | false =>
    have hE := C.hwd rfl
    subst hE
    have e1 : vm0 = s.vm := V.1.1 rfl
    subst e1
    obtain ⟨v, vm₁, ⟨T', L', k', n'⟩, -, X', ⟨L, hq, l1, l2, l3, hK, hF⟩, k1⟩ := Jvm.LawKit.callS X C.hx (V.hown C) (mvT V.hZ' w1) (mvT V.hZ' w2) (mvT V.hZ' w3) (mvT V.hZ' w4) hy (backN (len := 3) (W := W) M V.hZ' w4 w3 hf hl (fun x hx => ⟨(V.2.1 x (hm x hx)).1, (V.2.1 x (hm x hx)).2.2.1⟩) V.old) (g := mkF m pc Ls _) rfl (by rw [C.hml]; exact hsz) hlen rfl h2W (hb C.hby hd) (fun _ _ => ⟨rfl, eT, hc, hs⟩)
    dsimp only [Pt.U, Pt.locs, Pt.cells, Pt.slots] at X' l1 l2 l3 k1 hq hK
    subst l1 l2 l3
    obtain ⟨s₂, o, k, r⟩ := nx v _ L hq hK T' s.vm X' rfl (V.keep hK hm (Fr.app V.fr hF))
    exact ⟨s₂, o, k1 _ k, r⟩
  | true =>
    obtain ⟨v, vm₁, ⟨T', L', k', n'⟩, -, X', hS, hg, ⟨L, hq, l1, l2, l3, hR, hK, hF⟩, k1⟩ := callSS X C.hx (V.hown C) (mvT V.hZ' w1) (mvT V.hZ' w2) (mvT V.hZ' w3) (mvT V.hZ' w4) hy (backW (len := 3) (W := W) M V.hZ w4 w3 hf hl C.hEW V.held (fun x hx => ⟨(V.2.1 x (hm x hx)).1, (V.2.1 x (hm x hx)).2.1, (V.2.1 x (hm x hx)).2.2.1⟩) V.old) (g := mkF m pc Ls _) rfl (by rw [C.hml]; exact hsz) hlen rfl h2W (hb C.hby hd) (fun _ _ => ⟨rfl, eT, hc, hs⟩)
    dsimp only [Pt.U, Pt.locs, Pt.cells, Pt.slots] at X' l1 l2 l3 k1 hq hg hS hR hK
    subst l1 l2 l3
    rw [eT] at hg
    obtain ⟨s₂, o, k, r⟩ := nx v _ L hq hK T' T'.vm X' rfl (V.call hS (Nat.le_refl _) hg hR hK hm (Fr.app V.fr hF))
    exact ⟨s₂, o, k1.trans k, r⟩
theorem g_invokespecial {idx : Nat} {st0 : List Value} (argsL rest : List Value) (W : Nat) (C : Cx wd p s m meth c Z a0 EL own bytes ml ret nm) (hd : decode bytes pc = .ok (.invokespecial idx, 3)) (hyi : y.name = "<init>") (w1 : (Cond.methodLink own idx y).before a0 Z = true) (w2 : (Cond.instanceMethod y).before a0 Z = true) (w3 : (Cond.initialized y.cls).before a0 Z = true) (w4 : (Cond.code y bytes' ml' none).before a0 Z = true) (hy : y.cls ≠ "java/lang/invoke/MethodHandle" ∧ y.cls ≠ "java/lang/invoke/VarHandle") (M : MetW wd l Z EL y bytes' ml' none [] rm (.ref a :: argsL).toArray mine' h Q') (hlen : ∀ sig, parseMethodDescriptor y.desc = some sig → argsL.length = sig.parameters.length) (hst : st0 = argsL.reverse ++ .ref a :: rest) (hsz : Ls.size = ml) (hW : (rest.map fun v => v.category).sum ≤ W) (hf : rm.frames + 1 ≤ R.frames) (hl : W + (ml' + 11) + rm.locals ≤ R.locals) (hc : cells + rm.cells ≤ R.cells) (hs : slots + rm.slots ≤ R.slots) (hm : ∀ x ∈ mine', x ∈ mine) (nx : ∀ (v : Option Value) (h' : Heap) (L : List Loc), Q' v h' → Keep h h' mine' → Go wd p l e R s m args below meth c Z EL Q kc ks m0 mine h' (locs ++ L) (cells + rm.cells) (slots + rm.slots) (mkF m (pc + 3) Ls (v.toList ++ rest))) : Go wd p l e R s m args below meth c Z EL Q kc ks m0 mine h locs cells slots (mkF m pc Ls st0) := fun T vm0 X eT V => by
  subst hst
  have h2W : 2 * 0 + (rest.map fun v => v.category).sum ≤ W := by omega
  cases wd with
  | false =>
    have hE := C.hwd rfl
    subst hE
    have e1 : vm0 = s.vm := V.1.1 rfl
    subst e1
    obtain ⟨v, vm₁, ⟨T', L', k', n'⟩, -, X', ⟨L, hq, l1, l2, l3, hK, hF⟩, k1⟩ := X.specialBack C.hx hyi (V.hown C) (mvT V.hZ' w1) (mvT V.hZ' w2) (mvT V.hZ' w4) hy (backN (len := 3) (W := W) M V.hZ' w4 w3 hf hl (fun x hx => ⟨(V.2.1 x (hm x hx)).1, (V.2.1 x (hm x hx)).2.2.1⟩) V.old) (g := mkF m pc Ls _) rfl (by rw [C.hml]; exact hsz) (Steps.refl _) hlen rfl h2W (hb C.hby hd) (fun _ _ => ⟨rfl, eT, hc, hs⟩)
    dsimp only [Pt.U, Pt.locs, Pt.cells, Pt.slots] at X' l1 l2 l3 k1 hq hK
    subst l1 l2 l3
    obtain ⟨s₂, o, k, r⟩ := nx v _ L hq hK T' s.vm X' rfl (V.keep hK hm (Fr.app V.fr hF))
    exact ⟨s₂, o, k1.trans k, r⟩
  | true =>
    obtain ⟨v, vm₁, ⟨T', L', k', n'⟩, -, X', hS, hg, ⟨L, hq, l1, l2, l3, hR, hK, hF⟩, k1⟩ := X.specialBackS C.hx hyi (V.hown C) (mvT V.hZ' w1) (mvT V.hZ' w2) (mvT V.hZ' w4) hy (backW (len := 3) (W := W) M V.hZ w4 w3 hf hl C.hEW V.held (fun x hx => ⟨(V.2.1 x (hm x hx)).1, (V.2.1 x (hm x hx)).2.1, (V.2.1 x (hm x hx)).2.2.1⟩) V.old) (g := mkF m pc Ls _) rfl (by rw [C.hml]; exact hsz) (Steps.refl _) hlen rfl h2W (hb C.hby hd) (fun _ _ => ⟨rfl, eT, hc, hs⟩)
    dsimp only [Pt.U, Pt.locs, Pt.cells, Pt.slots] at X' l1 l2 l3 k1 hq hg hS hR hK
    subst l1 l2 l3
    rw [eT] at hg
    obtain ⟨s₂, o, k, r⟩ := nx v _ L hq hK T' T'.vm X' rfl (V.call hS (Nat.le_refl _) hg hR hK hm (Fr.app V.fr hF))
    exact ⟨s₂, o, k1.trans k, r⟩
theorem g_invokevirtual {idx : Nat} {st0 : List Value} {Cn : String} (argsL rest : List Value) (W : Nat) (C : Cx wd p s m meth c Z a0 EL own bytes ml ret nm) (hd : decode bytes pc = .ok (.invokevirtual idx, 3)) (w1 : (Cond.methodLink own idx y).before a0 Z = true) (w5 : (Cond.declares y).before a0 Z = true) (w6 : (Cond.selects Cn y z).before a0 Z = true) (w2 : (Cond.instanceMethod z).before a0 Z = true) (w3 : (Cond.initialized z.cls).before a0 Z = true) (w4 : (Cond.code z bytes' ml' ret').before a0 Z = true) (hnf : ∀ U : State, Z.Warmed39 U.vm → NotFace U y) (hy : y.cls ≠ "java/lang/invoke/MethodHandle" ∧ y.cls ≠ "java/lang/invoke/VarHandle") (E : Exa Z h a Cn) (M : MetW wd l Z EL z bytes' ml' ret' [] rm (.ref a :: argsL).toArray mine' h Q') (hlen : ∀ sig, parseMethodDescriptor y.desc = some sig → argsL.length = sig.parameters.length) (hst : st0 = argsL.reverse ++ .ref a :: rest) (hsz : Ls.size = ml) (hW : (rest.map fun v => v.category).sum ≤ W) (hf : rm.frames + 1 ≤ R.frames) (hl : W + (ml' + 11) + rm.locals ≤ R.locals) (hc : cells + rm.cells ≤ R.cells) (hs : slots + rm.slots ≤ R.slots) (hm : ∀ x ∈ mine', x ∈ mine) (nx : ∀ (v : Option Value) (h' : Heap) (L : List Loc), Q' v h' → Keep h h' mine' → Go wd p l e R s m args below meth c Z EL Q kc ks m0 mine h' (locs ++ L) (cells + rm.cells) (slots + rm.slots) (mkF m (pc + 3) Ls (v.toList ++ rest))) : Go wd p l e R s m args below meth c Z EL Q kc ks m0 mine h locs cells slots (mkF m pc Ls st0) := fun T vm0 X eT V => by
  subst hst
  have h2W : 2 * 0 + (rest.map fun v => v.category).sum ≤ W := by omega
  obtain ⟨cB, kB, qa, qb, qc⟩ := isOf V.hZ' eT E
  cases wd with
  | false =>
    have hE := C.hwd rfl
    subst hE
    have e1 : vm0 = s.vm := V.1.1 rfl
    subst e1
    obtain ⟨v, vm₁, ⟨T', L', k', n'⟩, -, X', ⟨L, hq, l1, l2, l3, hK, hF⟩, k1⟩ := X.virtualBack C.hx (V.hown C) (mvT V.hZ' w1) (mvT V.hZ' w5) (hnf _ V.hZ') (mvT V.hZ' w6) (mvT V.hZ' w2) hy (backN (len := 3) (W := W) M V.hZ' w4 w3 hf hl (fun x hx => ⟨(V.2.1 x (hm x hx)).1, (V.2.1 x (hm x hx)).2.2.1⟩) V.old) qa qc (g := mkF m pc Ls _) rfl (by rw [C.hml]; exact hsz) (Steps.refl _) hlen rfl h2W (hb C.hby hd) (fun _ _ => ⟨rfl, eT, hc, hs⟩)
    dsimp only [Pt.U, Pt.locs, Pt.cells, Pt.slots] at X' l1 l2 l3 k1 hq hK
    subst l1 l2 l3
    obtain ⟨s₂, o, k, r⟩ := nx v _ L hq hK T' s.vm X' rfl (V.keep hK hm (Fr.app V.fr hF))
    exact ⟨s₂, o, k1.trans k, r⟩
  | true =>
    obtain ⟨v, vm₁, ⟨T', L', k', n'⟩, -, X', hS, hg, ⟨L, hq, l1, l2, l3, hR, hK, hF⟩, k1⟩ := X.virtualBackS C.hx (V.hown C) (mvT V.hZ' w1) (mvT V.hZ' w5) (hnf _ V.hZ') (mvT V.hZ' w6) (mvT V.hZ' w2) hy (backW (len := 3) (W := W) M V.hZ w4 w3 hf hl C.hEW V.held (fun x hx => ⟨(V.2.1 x (hm x hx)).1, (V.2.1 x (hm x hx)).2.1, (V.2.1 x (hm x hx)).2.2.1⟩) V.old) qa qc (g := mkF m pc Ls _) rfl (by rw [C.hml]; exact hsz) (Steps.refl _) hlen rfl h2W (hb C.hby hd) (fun _ _ => ⟨rfl, eT, hc, hs⟩)
    dsimp only [Pt.U, Pt.locs, Pt.cells, Pt.slots] at X' l1 l2 l3 k1 hq hg hS hR hK
    subst l1 l2 l3
    rw [eT] at hg
    obtain ⟨s₂, o, k, r⟩ := nx v _ L hq hK T' T'.vm X' rfl (V.call hS (Nat.le_refl _) hg hR hK hm (Fr.app V.fr hF))
    exact ⟨s₂, o, k1.trans k, r⟩
theorem g_invokeprivate {idx : Nat} {st0 : List Value} {Cn : String} (argsL rest : List Value) (W : Nat) (C : Cx wd p s m meth c Z a0 EL own bytes ml ret nm) (hd : decode bytes pc = .ok (.invokevirtual idx, 3)) (w1 : (Cond.methodLink own idx y).before a0 Z = true) (w2 : (Cond.instanceMethod y).before a0 Z = true) (w6 : (Cond.selects y.cls y y).before a0 Z = true) (w7 : (Cond.privateMethod y).before a0 Z = true) (w3 : (Cond.initialized y.cls).before a0 Z = true) (w4 : (Cond.code y bytes' ml' ret').before a0 Z = true) (hy : y.cls ≠ "java/lang/invoke/MethodHandle" ∧ y.cls ≠ "java/lang/invoke/VarHandle") (E : Exa Z h a Cn) (M : MetW wd l Z EL y bytes' ml' ret' [] rm (.ref a :: argsL).toArray mine' h Q') (hlen : ∀ sig, parseMethodDescriptor y.desc = some sig → argsL.length = sig.parameters.length) (hst : st0 = argsL.reverse ++ .ref a :: rest) (hsz : Ls.size = ml) (hW : (rest.map fun v => v.category).sum ≤ W) (hf : rm.frames + 1 ≤ R.frames) (hl : W + (ml' + 11) + rm.locals ≤ R.locals) (hc : cells + rm.cells ≤ R.cells) (hs : slots + rm.slots ≤ R.slots) (hm : ∀ x ∈ mine', x ∈ mine) (nx : ∀ (v : Option Value) (h' : Heap) (L : List Loc), Q' v h' → Keep h h' mine' → Go wd p l e R s m args below meth c Z EL Q kc ks m0 mine h' (locs ++ L) (cells + rm.cells) (slots + rm.slots) (mkF m (pc + 3) Ls (v.toList ++ rest))) : Go wd p l e R s m args below meth c Z EL Q kc ks m0 mine h locs cells slots (mkF m pc Ls st0) := fun T vm0 X eT V => by
  subst hst
  have h2W : 2 * 0 + (rest.map fun v => v.category).sum ≤ W := by omega
  obtain ⟨cl0, qa, qb⟩ := E.cell
  cases wd with
  | false =>
    have hE := C.hwd rfl
    subst hE
    have e1 : vm0 = s.vm := V.1.1 rfl
    subst e1
    obtain ⟨v, vm₁, ⟨T', L', k', n'⟩, -, X', ⟨L, hq, l1, l2, l3, hK, hF⟩, k1⟩ := X.privateBack C.hx (V.hown C) (mvT V.hZ' w1) (mvT V.hZ' w2) (mvT V.hZ' w6) (Cond.privateMethod_at (args := args) (mvP V.hZ' w7)) (mvT V.hZ' w4) hy (backN (len := 3) (W := W) M V.hZ' w4 w3 hf hl (fun x hx => ⟨(V.2.1 x (hm x hx)).1, (V.2.1 x (hm x hx)).2.2.1⟩) V.old) (g := mkF m pc Ls _) rfl (by rw [C.hml]; exact hsz) (Steps.refl _) (by rw [eT]; exact qa) qb hlen rfl h2W (hb C.hby hd) (fun _ _ => ⟨rfl, eT, hc, hs⟩)
    dsimp only [Pt.U, Pt.locs, Pt.cells, Pt.slots] at X' l1 l2 l3 k1 hq hK
    subst l1 l2 l3
    obtain ⟨s₂, o, k, r⟩ := nx v _ L hq hK T' s.vm X' rfl (V.keep hK hm (Fr.app V.fr hF))
    exact ⟨s₂, o, k1.trans k, r⟩
  | true =>
    obtain ⟨v, vm₁, ⟨T', L', k', n'⟩, -, X', hS, hg, ⟨L, hq, l1, l2, l3, hR, hK, hF⟩, k1⟩ := X.privateBackS C.hx (V.hown C) (mvT V.hZ' w1) (mvT V.hZ' w2) (mvT V.hZ' w6) (Cond.privateMethod_at (args := args) (mvP V.hZ' w7)) (mvT V.hZ' w4) hy (backW (len := 3) (W := W) M V.hZ w4 w3 hf hl C.hEW V.held (fun x hx => ⟨(V.2.1 x (hm x hx)).1, (V.2.1 x (hm x hx)).2.1, (V.2.1 x (hm x hx)).2.2.1⟩) V.old) (g := mkF m pc Ls _) rfl (by rw [C.hml]; exact hsz) (Steps.refl _) (by rw [eT]; exact qa) qb hlen rfl h2W (hb C.hby hd) (fun _ _ => ⟨rfl, eT, hc, hs⟩)
    dsimp only [Pt.U, Pt.locs, Pt.cells, Pt.slots] at X' l1 l2 l3 k1 hq hg hS hR hK
    subst l1 l2 l3
    rw [eT] at hg
    obtain ⟨s₂, o, k, r⟩ := nx v _ L hq hK T' T'.vm X' rfl (V.call hS (Nat.le_refl _) hg hR hK hm (Fr.app V.fr hF))
    exact ⟨s₂, o, k1.trans k, r⟩
/-- the Class object of the class Cn is made, at a -/
def MirC (Z : State) (Cn : String) (a : Addr) : Prop := ∃ c k, Z.vm.findClass Cn = some c ∧ Z.vm.classes[c]? = some k ∧ k.mirror = some a
theorem MirC.at {Cn : String} {args' : Array Value} (M : MirC Z Cn a) (hZ : Z.Warmed39 s.vm) : (Term.mirror Cn).eval args' s none [] s = some (.ref a) := by
  obtain ⟨c, k, h1, h2, h3⟩ := M
  obtain ⟨k', q, e⟩ := hZ.alike.2.2 _ _ h2
  have hm : k'.mirror = some a := by rw [e]; exact h3
  simp [Term.eval, hZ.alike.findClass, h1, q, hm]
theorem g_arraycopy {idx : Nat} {b : Addr} {ty' : FieldType} {sp dp nn : Int32} {vd : List Value} (us vd' : List Value) (C : Cx wd p s m meth c Z a0 EL own bytes ml ret nm) (hd : decode bytes pc = .ok (.invokestatic idx, 3)) (w1 : (Cond.methodLink own idx Jvm.Stand.acN).before a0 Z = true) (w2 : (Cond.native Jvm.Stand.acN).before a0 Z = true) (w3 : (Cond.static Jvm.Stand.acN).before a0 Z = true) (w4 : (Cond.initialized "java/lang/System").before a0 Z = true)
    (A : Av Z h a ty vs) (B : Av Z h b ty' vd) (hty : (ty = ty' ∧ refKind ty = false) ∨ (refKind ty = true ∧ refKind ty' = true ∧ StoL Z h b us)) (h1 : ¬ sp < 0) (h2 : ¬ dp < 0) (h3 : ¬ nn < 0) (h4 : sp.toNatClampNeg + nn.toNatClampNeg ≤ vs.length) (h5 : dp.toNatClampNeg + nn.toNatClampNeg ≤ vd.length)
    (hus : us = (List.range nn.toNatClampNeg).map fun i => vs.getD (sp.toNatClampNeg + i) .null) (hvd : vd.take dp.toNatClampNeg ++ us ++ vd.drop (dp.toNatClampNeg + nn.toNatClampNeg) = vd') (hm : b ∈ mine)
    (hsz : Ls.size = ml) (hf : 1 ≤ R.frames) (hl : (st.map fun v => v.category).sum + (nativeFrameWords "java/lang/System" "arraycopy" 5 + 11) ≤ R.locals)
    (nx : ∀ (h' : Heap) (locs' : List Loc), Keep h h' [b] → Av Z h' b ty' vd' → Go wd p l e R s m args below meth c Z EL Q kc ks m0 mine h' locs' cells slots (mkF m (pc + 3) Ls st)) : Go wd p l e R s m args below meth c Z EL Q kc ks m0 mine h locs cells slots (mkF m pc Ls (.int nn :: .int dp :: .ref b :: .int sp :: .ref a :: st)) := fun T vm0 X eT V => by
  have la : vs.length < 2147483648 := by obtain ⟨_, _, _, q, _⟩ := A; exact q
  have lb : vd.length < 2147483648 := by obtain ⟨_, _, _, q, _⟩ := B; exact q
  obtain ⟨ka, A'⟩ := Arv.of_av (d := .null) A
  obtain ⟨kb, B'⟩ := Arv.of_av (d := .null) B
  obtain ⟨na, -⟩ := toNat_ofNat la
  obtain ⟨nb, -⟩ := toNat_ofNat lb
  obtain ⟨T', h', L, X', e', hF, K, A2, k1⟩ := cpA X C.hx V.hZ' (V.hown C) w1 w2 w3 w4 eT A' B' hty h1 h2 h3 (by rw [na]; exact h4) (by rw [nb]; exact h5) hus h5 V.fr (V.2.1 b hm).2.2.1 (g := mkF m pc Ls (.int nn :: .int dp :: .ref b :: .int sp :: .ref a :: st)) rfl (by rw [C.hml]; exact hsz) rfl (hb C.hby hd) hf (W := (st.map fun v => v.category).sum) (by show 2 * 0 + _ ≤ _; omega) hl
  rw [hvd] at A2
  have hl' : vd'.length = vd.length := by
    rw [← hvd, hus]; simp; omega
  obtain ⟨s₂, o, k, r⟩ := nx h' L K (Av.of_arv A2 (by rw [nb, hl'])) T' vm0 X' e' (V.keep K (fun x hx => by rw [List.mem_singleton.mp hx]; exact hm) hF)
  exact ⟨s₂, o, k1 _ k, r⟩
/-- a cell that a callee made is the walk's own from now on -/
theorem Go.take {x : Addr} {Cn : String} {g : JFrame} (E : Exa Z h x Cn) (h1 : Cn ≠ "java/lang/String") (h2 : Cn ≠ "[B") (hz : Z.heap.size ≤ x) (hs : s.heap.size ≤ x) (nx : Go wd p l e R s m args below meth c Z EL Q kc ks m0 (x :: mine) h locs cells slots g) : Go wd p l e R s m args below meth c Z EL Q kc ks m0 mine h locs cells slots g :=
  fun T vm0 X eT V => nx T vm0 X eT ⟨V.1, fun y hy => by
    rcases List.mem_cons.mp hy with rfl | hy
    · exact ⟨E.lt, Safe.exa V.hZ.alike E h1 h2, hz, Or.inr hs⟩
    · exact V.2.1 y hy, V.2.2⟩
theorem Go.loop {α : Type} (μ : α → Nat) (P : α → JFrame) (I : α → Heap → Prop) (step : ∀ (x : α) (h : Heap) (locs : List Loc), I x h → (∀ (y : α) (h' : Heap) (locs' : List Loc), μ y < μ x → I y h' → Go wd p l e R s m args below meth c Z EL Q kc ks m0 mine h' locs' cells slots (P y)) → Go wd p l e R s m args below meth c Z EL Q kc ks m0 mine h locs cells slots (P x)) (x : α) (hI : I x h) : Go wd p l e R s m args below meth c Z EL Q kc ks m0 mine h locs cells slots (P x) := by
  have key : ∀ (n : Nat) (x : α) (h : Heap) (locs : List Loc), μ x < n → I x h → Go wd p l e R s m args below meth c Z EL Q kc ks m0 mine h locs cells slots (P x) := by
    intro n
    induction n with
    | zero => intro x h locs hn; exact absurd hn (Nat.not_lt_zero _)
    | succ n ih => intro x h locs hn hI; exact step x h locs hI (fun y h' locs' hy hI' => ih y h' locs' (by omega) hI')
  exact key (μ x + 1) x h locs (Nat.lt_succ_self _) hI
theorem g_lswHit {dflt o q : Int} {pairs : Array (Int × Int)} {i : Int32} {ln : Nat} (pc' : Nat) (C : Cx wd p s m meth c Z a0 EL own bytes ml ret nm) (hd : decode bytes pc = .ok (.lookupswitch dflt pairs, ln)) (hso : (pairs.toList.zip (pairs.toList.drop 1)).all (fun (a, next) => a.1 < next.1) = true) (hf : pairs.find? (·.1 == i.toInt) = some (q, o)) (ho : 0 ≤ (pc : Int) + o) (hp : ((pc : Int) + o).toNat = pc') (nx : Go wd p l e R s m args below meth c Z EL Q kc ks m0 mine h locs cells slots (mkF m pc' Ls st)) : Go wd p l e R s m args below meth c Z EL Q kc ks m0 mine h locs cells slots (mkF m pc Ls (.int i :: st)) := fun T vm0 X eT V => by
  obtain ⟨s₂, o', k, r⟩ := nx T vm0 X eT V
  exact ⟨s₂, o', X.lookupswitchHit C.hx (g := mkF m pc Ls (.int i :: st)) rfl rfl (hb C.hby hd) hso hf ho _ (by subst hp; exact k), r⟩
theorem g_lswMiss {o : Int} {pairs : Array (Int × Int)} {i : Int32} {ln : Nat} (pc' : Nat) (C : Cx wd p s m meth c Z a0 EL own bytes ml ret nm) (hd : decode bytes pc = .ok (.lookupswitch o pairs, ln)) (hso : (pairs.toList.zip (pairs.toList.drop 1)).all (fun (a, next) => a.1 < next.1) = true) (hf : pairs.find? (·.1 == i.toInt) = none) (ho : 0 ≤ (pc : Int) + o) (hp : ((pc : Int) + o).toNat = pc') (nx : Go wd p l e R s m args below meth c Z EL Q kc ks m0 mine h locs cells slots (mkF m pc' Ls st)) : Go wd p l e R s m args below meth c Z EL Q kc ks m0 mine h locs cells slots (mkF m pc Ls (.int i :: st)) := fun T vm0 X eT V => by
  obtain ⟨s₂, o', k, r⟩ := nx T vm0 X eT V
  exact ⟨s₂, o', X.lookupswitchMiss C.hx (g := mkF m pc Ls (.int i :: st)) rfl rfl (hb C.hby hd) hso hf ho _ (by subst hp; exact k), r⟩
/-- the array at a of the law's start holds v at i -/
def El (Z : State) (a : Addr) (ty : FieldType) (i : Nat) (v : Value) : Prop := ∃ cl, Arr Z Z.heap a cl ty ∧ cl.slots[i]? = some v
theorem g_aaloadZ {j : Int32} {v : Value} {i : Nat} (C : Cx wd p s m meth c Z a0 EL own bytes ml ret nm) (hd : decode bytes pc = .ok (.aaload, 1)) (A : El Z a ty i v) (hty : ty.isReference = true) (hj : ¬ j < 0) (hi : j.toNatClampNeg = i) (nx : Go wd p l e R s m args below meth c Z EL Q kc ks m0 mine h locs cells slots (mkF m (pc + 1) Ls (v :: st))) : Go wd p l e R s m args below meth c Z EL Q kc ks m0 mine h locs cells slots (mkF m pc Ls (.int j :: .ref a :: st)) := fun T vm0 X eT V => by
  obtain ⟨cl, Ar, hv⟩ := A
  obtain ⟨s₂, o, k, r⟩ := nx T vm0 X eT V
  have Ar' := Ar.ext V.old
  have hlt := (Array.getElem?_eq_some_iff.mp hv).1
  exact ⟨s₂, o, X.aaload C.hx (by rw [eT]; exact Ar'.1) (State.isArrayOf_alike V.hZ'.alike Ar'.2.1) hty Ar'.2.2 (fun q => q.elim hj (by omega)) (by rw [hi]; exact hv) (g := mkF m pc Ls (.int j :: .ref a :: st)) rfl rfl (hb C.hby hd) _ k, r⟩
theorem Go.loopAt {α : Type} {g : JFrame} (μ : α → Nat) (P : α → JFrame) (I : α → Heap → Prop) (step : ∀ (x : α) (h : Heap) (locs : List Loc), I x h → (∀ (y : α) (h' : Heap) (locs' : List Loc), μ y < μ x → I y h' → Go wd p l e R s m args below meth c Z EL Q kc ks m0 mine h' locs' cells slots (P y)) → Go wd p l e R s m args below meth c Z EL Q kc ks m0 mine h locs cells slots (P x)) (u : (∀ (x : α) (h' : Heap) (locs' : List Loc), I x h' → Go wd p l e R s m args below meth c Z EL Q kc ks m0 mine h' locs' cells slots (P x)) → Go wd p l e R s m args below meth c Z EL Q kc ks m0 mine h locs cells slots g) : Go wd p l e R s m args below meth c Z EL Q kc ks m0 mine h locs cells slots g :=
  u (fun x _ _ hI => Go.loop μ P I step x hI)
theorem gF {idx : Nat} {O n d : String} {v : Value} {b : Addr} (C : Cx wd p s m meth c Z a0 EL own bytes ml ret nm) (hd : decode bytes pc = .ok (.getfield idx, 3)) (w : (Cond.fieldLink own idx O n d).before a0 Z = true) (F : Fld Z h b O n d v) (nx : Go wd p l e R s m args below meth c Z EL Q kc ks m0 mine h locs cells slots (mkF m (pc + 3) Ls (v :: st))) : Go wd p l e R s m args below meth c Z EL Q kc ks m0 mine h locs cells slots (mkF m pc Ls (.ref b :: st)) := g_getfield (host := "") C hd (Or.inl w) Via.refl F nx
/-- the array at a holds objects of Cn -/
def OvA (Z : State) (h : Heap) (a : Addr) (Cn : String) : Prop := ∃ cA cl, h[a]? = some cl ∧ cl.cls = cA ∧ Ovr Z cA Cn
theorem OvA.keep {Cn : String} (F : OvA Z h a Cn) (K : Keep h h' ws) : OvA Z h' a Cn := by
  obtain ⟨cA, cl, q1, q2, O⟩ := F
  obtain ⟨cl', r1, r2, -⟩ := K.2.2 _ _ q1
  exact ⟨cA, cl', r1, r2.trans q2, O⟩
/-- a String of Latin-1 chars cs, its bytes at t -/
def Str (Z : State) (h : Heap) (x t : Addr) (cs : List Int32) : Prop :=
  Exa Z h x "java/lang/String" ∧ Fld Z h x "java/lang/String" "coder" "B" (.int 0) ∧ Fld Z h x "java/lang/String" "value" "[B" (.ref t) ∧ Av Z h t .byte (cs.map fun c => Value.int c.toInt8.toInt32)
theorem Str.keep {x t : Addr} {cs : List Int32} (F : Str Z h x t cs) (K : Keep h h' ws) (q1 : x ∉ ws) (q2 : t ∉ ws) : Str Z h' x t cs := ⟨F.1.keep K, F.2.1.keep K q1, F.2.2.1.keep K q1, F.2.2.2.keep K q2⟩
theorem Str.ext {x t : Addr} {cs : List Int32} (F : Str Z h x t cs) (E : Ext h h') : Str Z h' x t cs := F.keep (keep_ext E) (fun q => nomatch q) (fun q => nomatch q)
theorem g_ldc2w {idx : Nat} (z : Int64) (C : Cx wd p s m meth c Z a0 EL own bytes ml ret nm) (hd : decode bytes pc = .ok (.ldc2_w idx, 3)) (w : (Cond.constantLong own idx z).before a0 Z = true) (nx : Go wd p l e R s m args below meth c Z EL Q kc ks m0 mine h locs cells slots (mkF m (pc + 3) Ls (.long z :: st))) : Go wd p l e R s m args below meth c Z EL Q kc ks m0 mine h locs cells slots (mkF m pc Ls st) := fun T vm0 X eT V => by
  obtain ⟨s₂, o, k, r⟩ := nx T vm0 X eT V
  exact ⟨s₂, o, X.ldc2J C.hx (V.hown C) (mvT V.hZ' w) (g := mkF m pc Ls st) rfl (hb C.hby hd) k, r⟩
theorem g_ldcInt {idx : Nat} (z : Int32) (C : Cx wd p s m meth c Z a0 EL own bytes ml ret nm) (hd : decode bytes pc = .ok (.ldc idx, 2)) (w : (Cond.constant own idx z).before a0 Z = true) (nx : Go wd p l e R s m args below meth c Z EL Q kc ks m0 mine h locs cells slots (mkF m (pc + 2) Ls (.int z :: st))) : Go wd p l e R s m args below meth c Z EL Q kc ks m0 mine h locs cells slots (mkF m pc Ls st) := fun T vm0 X eT V => by
  obtain ⟨s₂, o, k, r⟩ := nx T vm0 X eT V
  exact ⟨s₂, o, X.ldcI C.hx (V.hown C) (mvT V.hZ' w) (g := mkF m pc Ls st) rfl (hb C.hby hd) k, r⟩
theorem g_ldcwInt {idx : Nat} (z : Int32) (C : Cx wd p s m meth c Z a0 EL own bytes ml ret nm) (hd : decode bytes pc = .ok (.ldc_w idx, 3)) (w : (Cond.constant own idx z).before a0 Z = true) (nx : Go wd p l e R s m args below meth c Z EL Q kc ks m0 mine h locs cells slots (mkF m (pc + 3) Ls (.int z :: st))) : Go wd p l e R s m args below meth c Z EL Q kc ks m0 mine h locs cells slots (mkF m pc Ls st) := fun T vm0 X eT V => by
  obtain ⟨s₂, o, k, r⟩ := nx T vm0 X eT V
  exact ⟨s₂, o, X.ldcWI C.hx (V.hown C) (mvT V.hZ' w) (g := mkF m pc Ls st) rfl (hb C.hby hd) k, r⟩
theorem cl_lt {x y : Int64} : XT.cmpL x y < 0 ↔ x < y := by rw [← lw_lt]; rfl
theorem cl_gt {x y : Int64} : 0 < XT.cmpL x y ↔ y < x := by rw [← lw_gt]; rfl
theorem cl_eq {x y : Int64} : XT.cmpL x y = 0 ↔ x = y := by rw [← lw_eq]; rfl
theorem cl_ne_t {x y : Int64} (q : ¬ x = y) : hC .ne (XT.cmpL x y) 0 := fun z => q (cl_eq.mp z)
theorem cl_ne_f {x y : Int64} (q : x = y) : nC .ne (XT.cmpL x y) 0 := cl_eq.mpr q
theorem cl_lt_t {x y : Int64} (q : x < y) : hC .lt (XT.cmpL x y) 0 := cl_lt.mpr q
theorem cl_lt_f {x y : Int64} (q : ¬ x < y) : nC .lt (XT.cmpL x y) 0 := fun z => q (cl_lt.mp z)
theorem cl_ge_t {x y : Int64} (q : ¬ x < y) : hC .ge (XT.cmpL x y) 0 := fun z => q (cl_lt.mp z)
theorem cl_ge_f {x y : Int64} (q : x < y) : nC .ge (XT.cmpL x y) 0 := cl_lt.mpr q
theorem cl_gt_t {x y : Int64} (q : y < x) : hC .gt (XT.cmpL x y) 0 := cl_gt.mpr q
theorem cl_gt_f {x y : Int64} (q : ¬ y < x) : nC .gt (XT.cmpL x y) 0 := fun z => q (cl_gt.mp z)
theorem cl_le_t {x y : Int64} (q : ¬ y < x) : hC .le (XT.cmpL x y) 0 := fun z => q (cl_gt.mp z)
theorem cl_le_f {x y : Int64} (q : y < x) : nC .le (XT.cmpL x y) 0 := cl_gt.mpr q
end K
theorem gA {wd : Bool} {p : Program} {l : Launch} {e : Env} {R : Room} {s : State} {m : MethodId} {args : Array Value} {below : List Frame} {meth : Method} {c : Code} {Z : State} {EL : List (String × Nat)} {Q : Option Value → Heap → Prop} {kc ks : Nat} {m0 mine : List Addr} {h : Heap} {locs : List Loc} {cells slots : Nat} {g : JFrame} (g' : JFrame) (nx : Go wd p l e R s m args below meth c Z EL Q kc ks m0 mine h locs cells slots g') (hg : g = g' := by rfl) : Go wd p l e R s m args below meth c Z EL Q kc ks m0 mine h locs cells slots g := hg ▸ nx
def rM (f c s l : Nat) : Room := { frames := f, cells := c, slots := s, locals := l }
def eM (Z : State) (h : Heap) (a : Addr) : Prop := Exa Z h a "java/math/MutableBigInteger"
def fV (Z : State) (h : Heap) (a : Addr) (v : Value) : Prop := Fld Z h a "java/math/MutableBigInteger" "value" "[I" v
def fI (Z : State) (h : Heap) (a : Addr) (v : Value) : Prop := Fld Z h a "java/math/MutableBigInteger" "intLen" "I" v
def fO (Z : State) (h : Heap) (a : Addr) (v : Value) : Prop := Fld Z h a "java/math/MutableBigInteger" "offset" "I" v
theorem lL {a b c : Nat} (h : a < b) (k : b ≤ c) : a < c := Nat.lt_of_lt_of_le h k
theorem lT {a b c : Nat} (h : a ≤ b) (k : b ≤ c) : a ≤ c := Nat.le_trans h k
theorem mm {α : Type} {l : List α} {a : α} (i : Nat) (h : l[i]? = some a) : a ∈ l := List.mem_of_getElem? h
theorem bL {a b : Nat} (h : Nat.ble a b = true) : a ≤ b := Nat.le_of_ble_eq_true h
theorem mO {l : Launch} {Z : State} {y : MethodName} {bytes : ByteArray} {ml : Nat} {ret : Option FieldType} {wsc : List Cond} {rm : Room} {as' : Array Value} {m0 : List Addr} {h : Heap} {Q : Option Value → Heap → Prop} (a0 : Array Value) (Ls : Array Slot)
    (body : ∀ (p : Program) (e : Env) (s : State) (m : MethodId) (below : List Frame) (meth : Method) (c : Code), s.heap = h → Cx false p s m meth c Z a0 [] y.cls bytes ml ret y.name → Go false p l e rm s m as' below meth c Z [] Q rm.cells rm.slots m0 m0 h [] 0 0 (mkF m 0 Ls []))
    (hpn : plainName y.cls = true := by first | (simp [plainName, overriddenIn]; done) | decide +kernel) (hef : ∀ m : MethodId, entryFrame m as' ml = mkF m 0 Ls [] := by intro m; first | (simp [entryFrame, mkF, argsToLocals, Value.category]; done) | rfl) : MetW false l Z [] y bytes ml ret wsc rm as' m0 h Q :=
  MetW.of (a0 := a0) hpn hef EW.nil (fun _ => rfl) body
end Jvm.Wk9

namespace Jvm.Pilot.@@N@@
open Jvm Jvm.ClassFile Sem Op Lib Jvm.Free Jvm.Stand Jvm.LawKit Jvm.RoadKit Bundle Jvm.Pilot.@@N@@.Jvm.D Jvm.Wk9
theorem own_mask255 (x : Int32) : ¬ (x &&& 255) < 0 ∧ ¬ (255 : Int32) < (x &&& 255) := by
  have h := c_and x 255 (by decide)
  have e : (255 : Int32).toInt = 255 := by decide
  rw [e] at h
  refine ⟨fun q => ?_, fun q => ?_⟩
  · have := Int32.lt_iff_toInt_lt.mp q
    have e0 : (0 : Int32).toInt = 0 := by decide
    omega
  · have := Int32.lt_iff_toInt_lt.mp q
    omega
theorem own_narc {x : Int32} (h : ¬ x < 0 ∧ ¬ (255 : Int32) < x) : nar .char x = x := by
  have h1 := h.1
  have h2 := h.2
  rw [Int32.lt_iff_toInt_lt] at h1 h2
  have e0 : (0 : Int32).toInt = 0 := by decide
  have e1 : (255 : Int32).toInt = 255 := by decide
  have k := c_i2c x
  apply Int32.toInt_inj.mp
  show (x.toUInt32.toUInt16.toUInt32.toInt32).toInt = x.toInt
  omega
theorem own_all0 {P : Int32 → Prop} : ∀ c ∈ ([] : List Int32), P c := fun _ h => nomatch h
theorem own_allS {P : Int32 → Prop} {y : Int32} {L : List Int32} (q : P y) (r : ∀ c ∈ L, P c) : ∀ c ∈ y :: L, P c := fun c h => by
  rcases List.mem_cons.mp h with rfl | h
  · exact q
  · exact r c h
theorem own_narb (x : Int32) : nar .byte x.toInt8.toInt32 = x.toInt8.toInt32 := by
  show x.toInt8.toInt32.toInt8.toInt32 = x.toInt8.toInt32
  simp
set_option maxRecDepth 65536
set_option maxHeartbeats 80000000
theorem hW {Z : State} {a0 : Array Value} (hw : ∀ d ∈ tables_1, d.before a0 Z = true) (i : Nat) {d : Jvm.Cond} (h : tables_1[i]? = some d) : d.before a0 Z = true := hw _ (List.mem_of_getElem? h)
def k0 : ByteArray := jdk_18_method_1_code
def k1 : ByteArray := jdk_2097_method_102_code
def k2 : ByteArray := jdk_2097_method_121_code
def k3 : ByteArray := jdk_2097_method_122_code
def k4 : ByteArray := jdk_2097_method_124_code
def k5 : ByteArray := jdk_2097_method_25_code
def k6 : ByteArray := jdk_2097_method_29_code
def k7 : ByteArray := jdk_2097_method_30_code
def k8 : ByteArray := jdk_2097_method_40_code
def k9 : ByteArray := jdk_2097_method_42_code
def k10 : ByteArray := jdk_2097_method_43_code
def k11 : ByteArray := jdk_2097_method_61_code
def k12 : ByteArray := jdk_2097_method_62_code
def k13 : ByteArray := jdk_2097_method_73_code
def k14 : ByteArray := jdk_2097_method_74_code
def k15 : ByteArray := jdk_2097_method_79_code
def k16 : ByteArray := jdk_2097_method_81_code
def k17 : ByteArray := jdk_2101_method_13_code
def k18 : ByteArray := jdk_2101_method_15_code
def k19 : ByteArray := jdk_2101_method_18_code
def k20 : ByteArray := jdk_2101_method_1_code
def k21 : ByteArray := jdk_2101_method_21_code
def k22 : ByteArray := jdk_2101_method_35_code
def k23 : ByteArray := jdk_2101_method_3_code
def k24 : ByteArray := jdk_2101_method_41_code
def k25 : ByteArray := jdk_2101_method_42_code
def k26 : ByteArray := jdk_2101_method_4_code
def k27 : ByteArray := jdk_2101_method_50_code
def k28 : ByteArray := jdk_2101_method_53_code
def k29 : ByteArray := jdk_2101_method_57_code
def k30 : ByteArray := jdk_2101_method_72_code
def k31 : ByteArray := jdk_2101_method_73_code
def k32 : ByteArray := jdk_2101_method_74_code
def k33 : ByteArray := jdk_2101_method_7_code
def k34 : ByteArray := jdk_2101_method_9_code
def k35 : ByteArray := jdk_29_method_59_code
def k36 : ByteArray := jdk_33_method_47_code
def k37 : ByteArray := jdk_33_method_48_code
def k38 : ByteArray := jdk_33_method_49_code
def k39 : ByteArray := jdk_65_method_123_code
def k40 : ByteArray := method_2_code
def k41 : ByteArray := method_3_code
def k42 : ByteArray := prog_15_method_13_code
def k43 : ByteArray := prog_15_method_16_code
def k44 : ByteArray := prog_15_method_17_code
def k45 : ByteArray := prog_15_method_1_code
def k46 : ByteArray := prog_15_method_2_code
def k47 : ByteArray := prog_15_method_3_code
def k48 : ByteArray := prog_15_method_4_code
theorem s69_50 {Z : State} {a0 : Array Value} (hw : ∀ d ∈ tables_1, d.before a0 Z = true) : Jvm.RoadKit.slotOf Z "java/math/MutableBigInteger" "value" "[I" ≠ Jvm.RoadKit.slotOf Z "java/math/MutableBigInteger" "offset" "I" := slot_ne (Or.inl (hW hw 69 rfl)) (Or.inl (hW hw 50 rfl)) (by decide) (t := (.array .int)) (t' := .int) (by decide) (by decide)
theorem s54_50 {Z : State} {a0 : Array Value} (hw : ∀ d ∈ tables_1, d.before a0 Z = true) : Jvm.RoadKit.slotOf Z "java/math/MutableBigInteger" "intLen" "I" ≠ Jvm.RoadKit.slotOf Z "java/math/MutableBigInteger" "offset" "I" := slot_ne (Or.inl (hW hw 54 rfl)) (Or.inl (hW hw 50 rfl)) (by decide) (t := .int) (t' := .int) (by decide) (by decide)
theorem s54_69 {Z : State} {a0 : Array Value} (hw : ∀ d ∈ tables_1, d.before a0 Z = true) : Jvm.RoadKit.slotOf Z "java/math/MutableBigInteger" "intLen" "I" ≠ Jvm.RoadKit.slotOf Z "java/math/MutableBigInteger" "value" "[I" := slot_ne (Or.inl (hW hw 54 rfl)) (Or.inl (hW hw 69 rfl)) (by decide) (t := .int) (t' := (.array .int)) (by decide) (by decide)
theorem s50_69 {Z : State} {a0 : Array Value} (hw : ∀ d ∈ tables_1, d.before a0 Z = true) : Jvm.RoadKit.slotOf Z "java/math/MutableBigInteger" "offset" "I" ≠ Jvm.RoadKit.slotOf Z "java/math/MutableBigInteger" "value" "[I" := slot_ne (Or.inl (hW hw 50 rfl)) (Or.inl (hW hw 69 rfl)) (by decide) (t := .int) (t' := (.array .int)) (by decide) (by decide)
theorem s69_54 {Z : State} {a0 : Array Value} (hw : ∀ d ∈ tables_1, d.before a0 Z = true) : Jvm.RoadKit.slotOf Z "java/math/MutableBigInteger" "value" "[I" ≠ Jvm.RoadKit.slotOf Z "java/math/MutableBigInteger" "intLen" "I" := slot_ne (Or.inl (hW hw 69 rfl)) (Or.inl (hW hw 54 rfl)) (by decide) (t := (.array .int)) (t' := .int) (by decide) (by decide)
theorem s50_54 {Z : State} {a0 : Array Value} (hw : ∀ d ∈ tables_1, d.before a0 Z = true) : Jvm.RoadKit.slotOf Z "java/math/MutableBigInteger" "offset" "I" ≠ Jvm.RoadKit.slotOf Z "java/math/MutableBigInteger" "intLen" "I" := slot_ne (Or.inl (hW hw 50 rfl)) (Or.inl (hW hw 54 rfl)) (by decide) (t := .int) (t' := .int) (by decide) (by decide)
theorem s52_35 {Z : State} {a0 : Array Value} (hw : ∀ d ∈ tables_1, d.before a0 Z = true) : Jvm.RoadKit.slotOf Z "java/math/BigInteger" "mag" "[I" ≠ Jvm.RoadKit.slotOf Z "java/math/BigInteger" "signum" "I" := slot_ne (Or.inr (hW hw 52 rfl)) (Or.inr (hW hw 35 rfl)) (by decide) (t := (.array .int)) (t' := .int) (by decide) (by decide)
theorem s35_52 {Z : State} {a0 : Array Value} (hw : ∀ d ∈ tables_1, d.before a0 Z = true) : Jvm.RoadKit.slotOf Z "java/math/BigInteger" "signum" "I" ≠ Jvm.RoadKit.slotOf Z "java/math/BigInteger" "mag" "[I" := slot_ne (Or.inr (hW hw 35 rfl)) (Or.inr (hW hw 52 rfl)) (by decide) (t := .int) (t' := (.array .int)) (by decide) (by decide)
theorem s22_20 {Z : State} {a0 : Array Value} (hw : ∀ d ∈ tables_1, d.before a0 Z = true) : Jvm.RoadKit.slotOf Z "com/example/envelope/envelope/curves/Rational" "denominator" "Ljava/math/BigInteger;" ≠ Jvm.RoadKit.slotOf Z "com/example/envelope/envelope/curves/Rational" "numerator" "Ljava/math/BigInteger;" := slot_ne (Or.inr (hW hw 22 rfl)) (Or.inr (hW hw 20 rfl)) (by decide) (t := (.object "java/math/BigInteger")) (t' := (.object "java/math/BigInteger")) (by decide) (by decide)
theorem s20_22 {Z : State} {a0 : Array Value} (hw : ∀ d ∈ tables_1, d.before a0 Z = true) : Jvm.RoadKit.slotOf Z "com/example/envelope/envelope/curves/Rational" "numerator" "Ljava/math/BigInteger;" ≠ Jvm.RoadKit.slotOf Z "com/example/envelope/envelope/curves/Rational" "denominator" "Ljava/math/BigInteger;" := slot_ne (Or.inr (hW hw 20 rfl)) (Or.inr (hW hw 22 rfl)) (by decide) (t := (.object "java/math/BigInteger")) (t' := (.object "java/math/BigInteger")) (by decide) (by decide)
theorem pd0 : parseMethodDescriptor "(I)I" = some ⟨[.int], some .int⟩ := by decide +kernel
theorem pd1 : parseMethodDescriptor "([II)[I" = some ⟨[(.array .int), .int], some (.array .int)⟩ := by decide +kernel
theorem pd2 : parseMethodDescriptor "()V" = some ⟨[], none⟩ := by decide +kernel
theorem pd3 : parseMethodDescriptor "(J)V" = some ⟨[.long], none⟩ := by decide +kernel
theorem pd4 : parseMethodDescriptor "(I)V" = some ⟨[.int], none⟩ := by decide +kernel
theorem pd5 : parseMethodDescriptor "(Ljava/math/MutableBigInteger;)I" = some ⟨[(.object "java/math/MutableBigInteger")], some .int⟩ := by decide +kernel
theorem pd6 : parseMethodDescriptor "()I" = some ⟨[], some .int⟩ := by decide +kernel
theorem pd7 : parseMethodDescriptor "(II)I" = some ⟨[.int, .int], some .int⟩ := by decide +kernel
theorem pd8 : parseMethodDescriptor "(Ljava/math/MutableBigInteger;)Ljava/math/MutableBigInteger;" = some ⟨[(.object "java/math/MutableBigInteger")], some (.object "java/math/MutableBigInteger")⟩ := by decide +kernel
theorem pd9 : parseMethodDescriptor "()[I" = some ⟨[], some (.array .int)⟩ := by decide +kernel
theorem pd10 : parseMethodDescriptor "([II)V" = some ⟨[(.array .int), .int], none⟩ := by decide +kernel
theorem pd11 : parseMethodDescriptor "()Ljava/math/BigInteger;" = some ⟨[], some (.object "java/math/BigInteger")⟩ := by decide +kernel
theorem pd12 : parseMethodDescriptor "(Ljava/math/BigInteger;)V" = some ⟨[(.object "java/math/BigInteger")], none⟩ := by decide +kernel
theorem pd13 : parseMethodDescriptor "(I)Ljava/math/BigInteger;" = some ⟨[.int], some (.object "java/math/BigInteger")⟩ := by decide +kernel
theorem pd14 : parseMethodDescriptor "(ILjava/math/MutableBigInteger;)I" = some ⟨[.int, (.object "java/math/MutableBigInteger")], some .int⟩ := by decide +kernel
theorem pd15 : parseMethodDescriptor "([I)V" = some ⟨[(.array .int)], none⟩ := by decide +kernel
theorem pd16 : parseMethodDescriptor "(Ljava/math/MutableBigInteger;Ljava/math/MutableBigInteger;Z)Ljava/math/MutableBigInteger;" = some ⟨[(.object "java/math/MutableBigInteger"), (.object "java/math/MutableBigInteger"), .boolean], some (.object "java/math/MutableBigInteger")⟩ := by decide +kernel
theorem pd17 : parseMethodDescriptor "(Ljava/math/BigInteger;)Ljava/math/BigInteger;" = some ⟨[(.object "java/math/BigInteger")], some (.object "java/math/BigInteger")⟩ := by decide +kernel
theorem pd18 : parseMethodDescriptor "([III)Ljava/math/BigInteger;" = some ⟨[(.array .int), .int, .int], some (.object "java/math/BigInteger")⟩ := by decide +kernel
theorem pd19 : parseMethodDescriptor "(Ljava/math/BigInteger;ZZI)Ljava/math/BigInteger;" = some ⟨[(.object "java/math/BigInteger"), .boolean, .boolean, .int], some (.object "java/math/BigInteger")⟩ := by decide +kernel
theorem pd20 : parseMethodDescriptor "(Ljava/math/BigInteger;)I" = some ⟨[(.object "java/math/BigInteger")], some .int⟩ := by decide +kernel
theorem pd21 : parseMethodDescriptor "(J)Ljava/math/BigInteger;" = some ⟨[.long], some (.object "java/math/BigInteger")⟩ := by decide +kernel
theorem pd22 : parseMethodDescriptor "(Ljava/math/BigInteger;Ljava/math/BigInteger;)V" = some ⟨[(.object "java/math/BigInteger"), (.object "java/math/BigInteger")], none⟩ := by decide +kernel
theorem pd23 : parseMethodDescriptor "(Ljava/math/BigInteger;Ljava/math/BigInteger;)Lcom/example/envelope/envelope/curves/Rational;" = some ⟨[(.object "java/math/BigInteger"), (.object "java/math/BigInteger")], some (.object "com/example/envelope/envelope/curves/Rational")⟩ := by decide +kernel
theorem pd24 : parseMethodDescriptor "(Ljava/lang/Object;)Z" = some ⟨[(.object "java/lang/Object")], some .boolean⟩ := by decide +kernel
theorem pd25 : parseMethodDescriptor "(J)Lcom/example/envelope/envelope/curves/Rational;" = some ⟨[.long], some (.object "com/example/envelope/envelope/curves/Rational")⟩ := by decide +kernel
theorem pd26 : parseMethodDescriptor "(JJ)Lcom/example/envelope/envelope/curves/Rational;" = some ⟨[.long, .long], some (.object "com/example/envelope/envelope/curves/Rational")⟩ := by decide +kernel
theorem pd27 : parseMethodDescriptor "(J)I" = some ⟨[.long], some .int⟩ := by decide +kernel
theorem pd28 : parseMethodDescriptor "(Lcom/example/envelope/envelope/curves/Rational;)I" = some ⟨[(.object "com/example/envelope/envelope/curves/Rational")], some .int⟩ := by decide +kernel
theorem dA_0 : decode k37 0 = .ok (.iload_n 0, 1) := by decide +kernel
theorem dA_1 : decode k37 1 = .ok (.iconst (-1), 1) := by decide +kernel
theorem dA_2 : decode k37 2 = .ok (.ixor, 1) := by decide +kernel
theorem dA_3 : decode k37 3 = .ok (.iload_n 0, 1) := by decide +kernel
theorem dA_4 : decode k37 4 = .ok (.iconst 1, 1) := by decide +kernel
theorem dA_5 : decode k37 5 = .ok (.isub, 1) := by decide +kernel
theorem dA_6 : decode k37 6 = .ok (.iand, 1) := by decide +kernel
theorem dA_7 : decode k37 7 = .ok (.istore_n 0, 1) := by decide +kernel
theorem dA_8 : decode k37 8 = .ok (.iload_n 0, 1) := by decide +kernel
theorem dA_9 : decode k37 9 = .ok (.ifCond .gt 8, 3) := by decide +kernel
theorem dA_12 : decode k37 12 = .ok (.iload_n 0, 1) := by decide +kernel
theorem dA_13 : decode k37 13 = .ok (.bipush 32, 2) := by decide +kernel
theorem dA_15 : decode k37 15 = .ok (.iand, 1) := by decide +kernel
theorem dA_16 : decode k37 16 = .ok (.ireturn, 1) := by decide +kernel
theorem dA_17 : decode k37 17 = .ok (.iconst 1, 1) := by decide +kernel
theorem dA_18 : decode k37 18 = .ok (.istore_n 1, 1) := by decide +kernel
theorem dA_19 : decode k37 19 = .ok (.iload_n 0, 1) := by decide +kernel
theorem dA_20 : decode k37 20 = .ok (.ldc_w 264, 3) := by decide +kernel
theorem dA_23 : decode k37 23 = .ok (.if_icmp .le 11, 3) := by decide +kernel
theorem dA_26 : decode k37 26 = .ok (.iinc 1 16, 3) := by decide +kernel
theorem dA_29 : decode k37 29 = .ok (.iload_n 0, 1) := by decide +kernel
theorem dA_30 : decode k37 30 = .ok (.bipush 16, 2) := by decide +kernel
theorem dA_32 : decode k37 32 = .ok (.iushr, 1) := by decide +kernel
theorem dA_33 : decode k37 33 = .ok (.istore_n 0, 1) := by decide +kernel
theorem dA_34 : decode k37 34 = .ok (.iload_n 0, 1) := by decide +kernel
theorem dA_35 : decode k37 35 = .ok (.sipush 256, 3) := by decide +kernel
theorem dA_38 : decode k37 38 = .ok (.if_icmp .le 11, 3) := by decide +kernel
theorem dA_41 : decode k37 41 = .ok (.iinc 1 8, 3) := by decide +kernel
theorem dA_44 : decode k37 44 = .ok (.iload_n 0, 1) := by decide +kernel
theorem dA_45 : decode k37 45 = .ok (.bipush 8, 2) := by decide +kernel
theorem dA_47 : decode k37 47 = .ok (.iushr, 1) := by decide +kernel
theorem dA_48 : decode k37 48 = .ok (.istore_n 0, 1) := by decide +kernel
theorem dA_49 : decode k37 49 = .ok (.iload_n 0, 1) := by decide +kernel
theorem dA_50 : decode k37 50 = .ok (.bipush 16, 2) := by decide +kernel
theorem dA_52 : decode k37 52 = .ok (.if_icmp .le 10, 3) := by decide +kernel
theorem dA_55 : decode k37 55 = .ok (.iinc 1 4, 3) := by decide +kernel
theorem dA_58 : decode k37 58 = .ok (.iload_n 0, 1) := by decide +kernel
theorem dA_59 : decode k37 59 = .ok (.iconst 4, 1) := by decide +kernel
theorem dA_60 : decode k37 60 = .ok (.iushr, 1) := by decide +kernel
theorem dA_61 : decode k37 61 = .ok (.istore_n 0, 1) := by decide +kernel
theorem dA_62 : decode k37 62 = .ok (.iload_n 0, 1) := by decide +kernel
theorem dA_63 : decode k37 63 = .ok (.iconst 4, 1) := by decide +kernel
theorem dA_64 : decode k37 64 = .ok (.if_icmp .le 10, 3) := by decide +kernel
theorem dA_67 : decode k37 67 = .ok (.iinc 1 2, 3) := by decide +kernel
theorem dA_70 : decode k37 70 = .ok (.iload_n 0, 1) := by decide +kernel
theorem dA_71 : decode k37 71 = .ok (.iconst 2, 1) := by decide +kernel
theorem dA_72 : decode k37 72 = .ok (.iushr, 1) := by decide +kernel
theorem dA_73 : decode k37 73 = .ok (.istore_n 0, 1) := by decide +kernel
theorem dA_74 : decode k37 74 = .ok (.iload_n 1, 1) := by decide +kernel
theorem dA_75 : decode k37 75 = .ok (.iload_n 0, 1) := by decide +kernel
theorem dA_76 : decode k37 76 = .ok (.iconst 1, 1) := by decide +kernel
theorem dA_77 : decode k37 77 = .ok (.iushr, 1) := by decide +kernel
theorem dA_78 : decode k37 78 = .ok (.iadd, 1) := by decide +kernel
theorem dA_79 : decode k37 79 = .ok (.ireturn, 1) := by decide +kernel
theorem m_ntz (l : Launch) (Z : State) (a0 : Array Value) (hw : ∀ d ∈ tables_1, d.before a0 Z = true) (x : Int32) (h : Heap) :
    MetW false l Z [] (⟨"java/lang/Integer", "numberOfTrailingZeros", "(I)I"⟩ : MethodName) k37 2 (some .int) [] (rM 0 0 0 0) #[(.int x)] [] h (fun v h' => v = some (.int (JP.Integer_numberOfTrailingZeros_I.val x))) := by
  refine mO a0 #[.val (.int x), .unset] (fun _ _ _ m_ _ _ _ hs0 C => ?_)
  refine g_iloadN C dA_0 rfl <| g_iconst (-1) C dA_1 (by decide) <| g_ixor _ C dA_2 rfl <| g_iloadN C dA_3 rfl <| g_iconst 1 C dA_4 (by decide) <| g_isub _ C dA_5 rfl <| g_iand _ C dA_6 rfl <| g_istoreN #[.val (.int ((x ^^^ (-1 : Int32)) &&& (x - (1 : Int32)))), .unset] C dA_7 rfl <| g_iloadN C dA_8 rfl ?_
  by_cases cc1 : (0 : Int32) < ((x ^^^ (-1 : Int32)) &&& (x - (1 : Int32)))
  · refine g_ifT 17 C dA_9 (show (0 : Int32) < ((x ^^^ (-1 : Int32)) &&& (x - (1 : Int32))) from cc1) (by decide) (by decide) ?_
    refine g_iconst 1 C dA_17 (by decide) <| g_istoreN #[.val (.int ((x ^^^ (-1 : Int32)) &&& (x - (1 : Int32)))), .val (.int 1)] C dA_18 rfl <| g_iloadN C dA_19 rfl <| g_ldcwInt 65536 C dA_20 (hW hw 107 rfl) ?_
    by_cases cc2 : (65536 : Int32) < ((x ^^^ (-1 : Int32)) &&& (x - (1 : Int32)))
    · refine g_icmpF C dA_23 (show (65536 : Int32) < ((x ^^^ (-1 : Int32)) &&& (x - (1 : Int32))) from cc2) ?_
      refine g_iinc (17 : Int32) #[.val (.int ((x ^^^ (-1 : Int32)) &&& (x - (1 : Int32)))), .val (.int 17)] C dA_26 rfl (by decide) rfl <| g_iloadN C dA_29 rfl <| g_bipush 16 C dA_30 (by decide) <| g_iushr _ C dA_32 rfl <| g_istoreN #[.val (.int (XT.ushr ((x ^^^ (-1 : Int32)) &&& (x - (1 : Int32))) (16 : Int32))), .val (.int 17)] C dA_33 rfl <| g_iloadN C dA_34 rfl <| g_sipush 256 C dA_35 (by decide) ?_
      by_cases cc3 : (256 : Int32) < (XT.ushr ((x ^^^ (-1 : Int32)) &&& (x - (1 : Int32))) (16 : Int32))
      · refine g_icmpF C dA_38 (show (256 : Int32) < (XT.ushr ((x ^^^ (-1 : Int32)) &&& (x - (1 : Int32))) (16 : Int32)) from cc3) ?_
        refine g_iinc (25 : Int32) #[.val (.int (XT.ushr ((x ^^^ (-1 : Int32)) &&& (x - (1 : Int32))) (16 : Int32))), .val (.int 25)] C dA_41 rfl (by decide) rfl <| g_iloadN C dA_44 rfl <| g_bipush 8 C dA_45 (by decide) <| g_iushr _ C dA_47 rfl <| g_istoreN #[.val (.int (XT.ushr (XT.ushr ((x ^^^ (-1 : Int32)) &&& (x - (1 : Int32))) (16 : Int32)) (8 : Int32))), .val (.int 25)] C dA_48 rfl <| g_iloadN C dA_49 rfl <| g_bipush 16 C dA_50 (by decide) ?_
        by_cases cc4 : (16 : Int32) < (XT.ushr (XT.ushr ((x ^^^ (-1 : Int32)) &&& (x - (1 : Int32))) (16 : Int32)) (8 : Int32))
        · refine g_icmpF C dA_52 (show (16 : Int32) < (XT.ushr (XT.ushr ((x ^^^ (-1 : Int32)) &&& (x - (1 : Int32))) (16 : Int32)) (8 : Int32)) from cc4) ?_
          refine g_iinc (29 : Int32) #[.val (.int (XT.ushr (XT.ushr ((x ^^^ (-1 : Int32)) &&& (x - (1 : Int32))) (16 : Int32)) (8 : Int32))), .val (.int 29)] C dA_55 rfl (by decide) rfl <| g_iloadN C dA_58 rfl <| g_iconst 4 C dA_59 (by decide) <| g_iushr _ C dA_60 rfl <| g_istoreN #[.val (.int (XT.ushr (XT.ushr (XT.ushr ((x ^^^ (-1 : Int32)) &&& (x - (1 : Int32))) (16 : Int32)) (8 : Int32)) (4 : Int32))), .val (.int 29)] C dA_61 rfl <| g_iloadN C dA_62 rfl <| g_iconst 4 C dA_63 (by decide) ?_
          by_cases cc5 : (4 : Int32) < (XT.ushr (XT.ushr (XT.ushr ((x ^^^ (-1 : Int32)) &&& (x - (1 : Int32))) (16 : Int32)) (8 : Int32)) (4 : Int32))
          · refine g_icmpF C dA_64 (show (4 : Int32) < (XT.ushr (XT.ushr (XT.ushr ((x ^^^ (-1 : Int32)) &&& (x - (1 : Int32))) (16 : Int32)) (8 : Int32)) (4 : Int32)) from cc5) ?_
            refine g_iinc (31 : Int32) #[.val (.int (XT.ushr (XT.ushr (XT.ushr ((x ^^^ (-1 : Int32)) &&& (x - (1 : Int32))) (16 : Int32)) (8 : Int32)) (4 : Int32))), .val (.int 31)] C dA_67 rfl (by decide) rfl <| g_iloadN C dA_70 rfl <| g_iconst 2 C dA_71 (by decide) <| g_iushr _ C dA_72 rfl <| g_istoreN #[.val (.int (XT.ushr (XT.ushr (XT.ushr (XT.ushr ((x ^^^ (-1 : Int32)) &&& (x - (1 : Int32))) (16 : Int32)) (8 : Int32)) (4 : Int32)) (2 : Int32))), .val (.int 31)] C dA_73 rfl <| g_iloadN C dA_74 rfl <| g_iloadN C dA_75 rfl <| g_iconst 1 C dA_76 (by decide) <| g_iushr _ C dA_77 rfl <| g_iadd _ C dA_78 rfl ?_
            have hq : JP.Integer_numberOfTrailingZeros_I.val x = ((31 : Int32) + (XT.ushr (XT.ushr (XT.ushr (XT.ushr (XT.ushr ((x ^^^ (-1 : Int32)) &&& (x - (1 : Int32))) (16 : Int32)) (8 : Int32)) (4 : Int32)) (2 : Int32)) (1 : Int32))) := by simp only [JP.Integer_numberOfTrailingZeros_I.val]; simp only [eq_true cc1, eq_true cc2, eq_true cc3, eq_true cc4, eq_true cc5]; first | rfl | simp | (simp; rfl)
            exact g_retI C dA_79 (by rw [hq]) (by decide) (by decide)
          · refine g_icmpT 74 C dA_64 (show ¬ (4 : Int32) < (XT.ushr (XT.ushr (XT.ushr ((x ^^^ (-1 : Int32)) &&& (x - (1 : Int32))) (16 : Int32)) (8 : Int32)) (4 : Int32)) from cc5) (by decide) (by decide) ?_
            refine g_iloadN C dA_74 rfl <| g_iloadN C dA_75 rfl <| g_iconst 1 C dA_76 (by decide) <| g_iushr _ C dA_77 rfl <| g_iadd _ C dA_78 rfl ?_
            have hq : JP.Integer_numberOfTrailingZeros_I.val x = ((29 : Int32) + (XT.ushr (XT.ushr (XT.ushr (XT.ushr ((x ^^^ (-1 : Int32)) &&& (x - (1 : Int32))) (16 : Int32)) (8 : Int32)) (4 : Int32)) (1 : Int32))) := by simp only [JP.Integer_numberOfTrailingZeros_I.val]; simp only [eq_true cc1, eq_true cc2, eq_true cc3, eq_true cc4, eq_false cc5]; first | rfl | simp | (simp; rfl)
            exact g_retI C dA_79 (by rw [hq]) (by decide) (by decide)
        · refine g_icmpT 62 C dA_52 (show ¬ (16 : Int32) < (XT.ushr (XT.ushr ((x ^^^ (-1 : Int32)) &&& (x - (1 : Int32))) (16 : Int32)) (8 : Int32)) from cc4) (by decide) (by decide) ?_
          refine g_iloadN C dA_62 rfl <| g_iconst 4 C dA_63 (by decide) ?_
          by_cases cc6 : (4 : Int32) < (XT.ushr (XT.ushr ((x ^^^ (-1 : Int32)) &&& (x - (1 : Int32))) (16 : Int32)) (8 : Int32))
          · refine g_icmpF C dA_64 (show (4 : Int32) < (XT.ushr (XT.ushr ((x ^^^ (-1 : Int32)) &&& (x - (1 : Int32))) (16 : Int32)) (8 : Int32)) from cc6) ?_
            refine g_iinc (27 : Int32) #[.val (.int (XT.ushr (XT.ushr ((x ^^^ (-1 : Int32)) &&& (x - (1 : Int32))) (16 : Int32)) (8 : Int32))), .val (.int 27)] C dA_67 rfl (by decide) rfl <| g_iloadN C dA_70 rfl <| g_iconst 2 C dA_71 (by decide) <| g_iushr _ C dA_72 rfl <| g_istoreN #[.val (.int (XT.ushr (XT.ushr (XT.ushr ((x ^^^ (-1 : Int32)) &&& (x - (1 : Int32))) (16 : Int32)) (8 : Int32)) (2 : Int32))), .val (.int 27)] C dA_73 rfl <| g_iloadN C dA_74 rfl <| g_iloadN C dA_75 rfl <| g_iconst 1 C dA_76 (by decide) <| g_iushr _ C dA_77 rfl <| g_iadd _ C dA_78 rfl ?_
            have hq : JP.Integer_numberOfTrailingZeros_I.val x = ((27 : Int32) + (XT.ushr (XT.ushr (XT.ushr (XT.ushr ((x ^^^ (-1 : Int32)) &&& (x - (1 : Int32))) (16 : Int32)) (8 : Int32)) (2 : Int32)) (1 : Int32))) := by simp only [JP.Integer_numberOfTrailingZeros_I.val]; simp only [eq_true cc1, eq_true cc2, eq_true cc3, eq_false cc4, eq_true cc6]; first | rfl | simp | (simp; rfl)
            exact g_retI C dA_79 (by rw [hq]) (by decide) (by decide)
          · refine g_icmpT 74 C dA_64 (show ¬ (4 : Int32) < (XT.ushr (XT.ushr ((x ^^^ (-1 : Int32)) &&& (x - (1 : Int32))) (16 : Int32)) (8 : Int32)) from cc6) (by decide) (by decide) ?_
            refine g_iloadN C dA_74 rfl <| g_iloadN C dA_75 rfl <| g_iconst 1 C dA_76 (by decide) <| g_iushr _ C dA_77 rfl <| g_iadd _ C dA_78 rfl ?_
            have hq : JP.Integer_numberOfTrailingZeros_I.val x = ((25 : Int32) + (XT.ushr (XT.ushr (XT.ushr ((x ^^^ (-1 : Int32)) &&& (x - (1 : Int32))) (16 : Int32)) (8 : Int32)) (1 : Int32))) := by simp only [JP.Integer_numberOfTrailingZeros_I.val]; simp only [eq_true cc1, eq_true cc2, eq_true cc3, eq_false cc4, eq_false cc6]; first | rfl | simp | (simp; rfl)
            exact g_retI C dA_79 (by rw [hq]) (by decide) (by decide)
      · refine g_icmpT 49 C dA_38 (show ¬ (256 : Int32) < (XT.ushr ((x ^^^ (-1 : Int32)) &&& (x - (1 : Int32))) (16 : Int32)) from cc3) (by decide) (by decide) ?_
        refine g_iloadN C dA_49 rfl <| g_bipush 16 C dA_50 (by decide) ?_
        by_cases cc7 : (16 : Int32) < (XT.ushr ((x ^^^ (-1 : Int32)) &&& (x - (1 : Int32))) (16 : Int32))
        · refine g_icmpF C dA_52 (show (16 : Int32) < (XT.ushr ((x ^^^ (-1 : Int32)) &&& (x - (1 : Int32))) (16 : Int32)) from cc7) ?_
          refine g_iinc (21 : Int32) #[.val (.int (XT.ushr ((x ^^^ (-1 : Int32)) &&& (x - (1 : Int32))) (16 : Int32))), .val (.int 21)] C dA_55 rfl (by decide) rfl <| g_iloadN C dA_58 rfl <| g_iconst 4 C dA_59 (by decide) <| g_iushr _ C dA_60 rfl <| g_istoreN #[.val (.int (XT.ushr (XT.ushr ((x ^^^ (-1 : Int32)) &&& (x - (1 : Int32))) (16 : Int32)) (4 : Int32))), .val (.int 21)] C dA_61 rfl <| g_iloadN C dA_62 rfl <| g_iconst 4 C dA_63 (by decide) ?_
          by_cases cc8 : (4 : Int32) < (XT.ushr (XT.ushr ((x ^^^ (-1 : Int32)) &&& (x - (1 : Int32))) (16 : Int32)) (4 : Int32))
          · refine g_icmpF C dA_64 (show (4 : Int32) < (XT.ushr (XT.ushr ((x ^^^ (-1 : Int32)) &&& (x - (1 : Int32))) (16 : Int32)) (4 : Int32)) from cc8) ?_
            refine g_iinc (23 : Int32) #[.val (.int (XT.ushr (XT.ushr ((x ^^^ (-1 : Int32)) &&& (x - (1 : Int32))) (16 : Int32)) (4 : Int32))), .val (.int 23)] C dA_67 rfl (by decide) rfl <| g_iloadN C dA_70 rfl <| g_iconst 2 C dA_71 (by decide) <| g_iushr _ C dA_72 rfl <| g_istoreN #[.val (.int (XT.ushr (XT.ushr (XT.ushr ((x ^^^ (-1 : Int32)) &&& (x - (1 : Int32))) (16 : Int32)) (4 : Int32)) (2 : Int32))), .val (.int 23)] C dA_73 rfl <| g_iloadN C dA_74 rfl <| g_iloadN C dA_75 rfl <| g_iconst 1 C dA_76 (by decide) <| g_iushr _ C dA_77 rfl <| g_iadd _ C dA_78 rfl ?_
            have hq : JP.Integer_numberOfTrailingZeros_I.val x = ((23 : Int32) + (XT.ushr (XT.ushr (XT.ushr (XT.ushr ((x ^^^ (-1 : Int32)) &&& (x - (1 : Int32))) (16 : Int32)) (4 : Int32)) (2 : Int32)) (1 : Int32))) := by simp only [JP.Integer_numberOfTrailingZeros_I.val]; simp only [eq_true cc1, eq_true cc2, eq_false cc3, eq_true cc7, eq_true cc8]; first | rfl | simp | (simp; rfl)
            exact g_retI C dA_79 (by rw [hq]) (by decide) (by decide)
          · refine g_icmpT 74 C dA_64 (show ¬ (4 : Int32) < (XT.ushr (XT.ushr ((x ^^^ (-1 : Int32)) &&& (x - (1 : Int32))) (16 : Int32)) (4 : Int32)) from cc8) (by decide) (by decide) ?_
            refine g_iloadN C dA_74 rfl <| g_iloadN C dA_75 rfl <| g_iconst 1 C dA_76 (by decide) <| g_iushr _ C dA_77 rfl <| g_iadd _ C dA_78 rfl ?_
            have hq : JP.Integer_numberOfTrailingZeros_I.val x = ((21 : Int32) + (XT.ushr (XT.ushr (XT.ushr ((x ^^^ (-1 : Int32)) &&& (x - (1 : Int32))) (16 : Int32)) (4 : Int32)) (1 : Int32))) := by simp only [JP.Integer_numberOfTrailingZeros_I.val]; simp only [eq_true cc1, eq_true cc2, eq_false cc3, eq_true cc7, eq_false cc8]; first | rfl | simp | (simp; rfl)
            exact g_retI C dA_79 (by rw [hq]) (by decide) (by decide)
        · refine g_icmpT 62 C dA_52 (show ¬ (16 : Int32) < (XT.ushr ((x ^^^ (-1 : Int32)) &&& (x - (1 : Int32))) (16 : Int32)) from cc7) (by decide) (by decide) ?_
          refine g_iloadN C dA_62 rfl <| g_iconst 4 C dA_63 (by decide) ?_
          by_cases cc9 : (4 : Int32) < (XT.ushr ((x ^^^ (-1 : Int32)) &&& (x - (1 : Int32))) (16 : Int32))
          · refine g_icmpF C dA_64 (show (4 : Int32) < (XT.ushr ((x ^^^ (-1 : Int32)) &&& (x - (1 : Int32))) (16 : Int32)) from cc9) ?_
            refine g_iinc (19 : Int32) #[.val (.int (XT.ushr ((x ^^^ (-1 : Int32)) &&& (x - (1 : Int32))) (16 : Int32))), .val (.int 19)] C dA_67 rfl (by decide) rfl <| g_iloadN C dA_70 rfl <| g_iconst 2 C dA_71 (by decide) <| g_iushr _ C dA_72 rfl <| g_istoreN #[.val (.int (XT.ushr (XT.ushr ((x ^^^ (-1 : Int32)) &&& (x - (1 : Int32))) (16 : Int32)) (2 : Int32))), .val (.int 19)] C dA_73 rfl <| g_iloadN C dA_74 rfl <| g_iloadN C dA_75 rfl <| g_iconst 1 C dA_76 (by decide) <| g_iushr _ C dA_77 rfl <| g_iadd _ C dA_78 rfl ?_
            have hq : JP.Integer_numberOfTrailingZeros_I.val x = ((19 : Int32) + (XT.ushr (XT.ushr (XT.ushr ((x ^^^ (-1 : Int32)) &&& (x - (1 : Int32))) (16 : Int32)) (2 : Int32)) (1 : Int32))) := by simp only [JP.Integer_numberOfTrailingZeros_I.val]; simp only [eq_true cc1, eq_true cc2, eq_false cc3, eq_false cc7, eq_true cc9]; first | rfl | simp | (simp; rfl)
            exact g_retI C dA_79 (by rw [hq]) (by decide) (by decide)
          · refine g_icmpT 74 C dA_64 (show ¬ (4 : Int32) < (XT.ushr ((x ^^^ (-1 : Int32)) &&& (x - (1 : Int32))) (16 : Int32)) from cc9) (by decide) (by decide) ?_
            refine g_iloadN C dA_74 rfl <| g_iloadN C dA_75 rfl <| g_iconst 1 C dA_76 (by decide) <| g_iushr _ C dA_77 rfl <| g_iadd _ C dA_78 rfl ?_
            have hq : JP.Integer_numberOfTrailingZeros_I.val x = ((17 : Int32) + (XT.ushr (XT.ushr ((x ^^^ (-1 : Int32)) &&& (x - (1 : Int32))) (16 : Int32)) (1 : Int32))) := by simp only [JP.Integer_numberOfTrailingZeros_I.val]; simp only [eq_true cc1, eq_true cc2, eq_false cc3, eq_false cc7, eq_false cc9]; first | rfl | simp | (simp; rfl)
            exact g_retI C dA_79 (by rw [hq]) (by decide) (by decide)
    · refine g_icmpT 34 C dA_23 (show ¬ (65536 : Int32) < ((x ^^^ (-1 : Int32)) &&& (x - (1 : Int32))) from cc2) (by decide) (by decide) ?_
      refine g_iloadN C dA_34 rfl <| g_sipush 256 C dA_35 (by decide) ?_
      by_cases cc10 : (256 : Int32) < ((x ^^^ (-1 : Int32)) &&& (x - (1 : Int32)))
      · refine g_icmpF C dA_38 (show (256 : Int32) < ((x ^^^ (-1 : Int32)) &&& (x - (1 : Int32))) from cc10) ?_
        refine g_iinc (9 : Int32) #[.val (.int ((x ^^^ (-1 : Int32)) &&& (x - (1 : Int32)))), .val (.int 9)] C dA_41 rfl (by decide) rfl <| g_iloadN C dA_44 rfl <| g_bipush 8 C dA_45 (by decide) <| g_iushr _ C dA_47 rfl <| g_istoreN #[.val (.int (XT.ushr ((x ^^^ (-1 : Int32)) &&& (x - (1 : Int32))) (8 : Int32))), .val (.int 9)] C dA_48 rfl <| g_iloadN C dA_49 rfl <| g_bipush 16 C dA_50 (by decide) ?_
        by_cases cc11 : (16 : Int32) < (XT.ushr ((x ^^^ (-1 : Int32)) &&& (x - (1 : Int32))) (8 : Int32))
        · refine g_icmpF C dA_52 (show (16 : Int32) < (XT.ushr ((x ^^^ (-1 : Int32)) &&& (x - (1 : Int32))) (8 : Int32)) from cc11) ?_
          refine g_iinc (13 : Int32) #[.val (.int (XT.ushr ((x ^^^ (-1 : Int32)) &&& (x - (1 : Int32))) (8 : Int32))), .val (.int 13)] C dA_55 rfl (by decide) rfl <| g_iloadN C dA_58 rfl <| g_iconst 4 C dA_59 (by decide) <| g_iushr _ C dA_60 rfl <| g_istoreN #[.val (.int (XT.ushr (XT.ushr ((x ^^^ (-1 : Int32)) &&& (x - (1 : Int32))) (8 : Int32)) (4 : Int32))), .val (.int 13)] C dA_61 rfl <| g_iloadN C dA_62 rfl <| g_iconst 4 C dA_63 (by decide) ?_
          by_cases cc12 : (4 : Int32) < (XT.ushr (XT.ushr ((x ^^^ (-1 : Int32)) &&& (x - (1 : Int32))) (8 : Int32)) (4 : Int32))
          · refine g_icmpF C dA_64 (show (4 : Int32) < (XT.ushr (XT.ushr ((x ^^^ (-1 : Int32)) &&& (x - (1 : Int32))) (8 : Int32)) (4 : Int32)) from cc12) ?_
            refine g_iinc (15 : Int32) #[.val (.int (XT.ushr (XT.ushr ((x ^^^ (-1 : Int32)) &&& (x - (1 : Int32))) (8 : Int32)) (4 : Int32))), .val (.int 15)] C dA_67 rfl (by decide) rfl <| g_iloadN C dA_70 rfl <| g_iconst 2 C dA_71 (by decide) <| g_iushr _ C dA_72 rfl <| g_istoreN #[.val (.int (XT.ushr (XT.ushr (XT.ushr ((x ^^^ (-1 : Int32)) &&& (x - (1 : Int32))) (8 : Int32)) (4 : Int32)) (2 : Int32))), .val (.int 15)] C dA_73 rfl <| g_iloadN C dA_74 rfl <| g_iloadN C dA_75 rfl <| g_iconst 1 C dA_76 (by decide) <| g_iushr _ C dA_77 rfl <| g_iadd _ C dA_78 rfl ?_
            have hq : JP.Integer_numberOfTrailingZeros_I.val x = ((15 : Int32) + (XT.ushr (XT.ushr (XT.ushr (XT.ushr ((x ^^^ (-1 : Int32)) &&& (x - (1 : Int32))) (8 : Int32)) (4 : Int32)) (2 : Int32)) (1 : Int32))) := by simp only [JP.Integer_numberOfTrailingZeros_I.val]; simp only [eq_true cc1, eq_false cc2, eq_true cc10, eq_true cc11, eq_true cc12]; first | rfl | simp | (simp; rfl)
            exact g_retI C dA_79 (by rw [hq]) (by decide) (by decide)
          · refine g_icmpT 74 C dA_64 (show ¬ (4 : Int32) < (XT.ushr (XT.ushr ((x ^^^ (-1 : Int32)) &&& (x - (1 : Int32))) (8 : Int32)) (4 : Int32)) from cc12) (by decide) (by decide) ?_
            refine g_iloadN C dA_74 rfl <| g_iloadN C dA_75 rfl <| g_iconst 1 C dA_76 (by decide) <| g_iushr _ C dA_77 rfl <| g_iadd _ C dA_78 rfl ?_
            have hq : JP.Integer_numberOfTrailingZeros_I.val x = ((13 : Int32) + (XT.ushr (XT.ushr (XT.ushr ((x ^^^ (-1 : Int32)) &&& (x - (1 : Int32))) (8 : Int32)) (4 : Int32)) (1 : Int32))) := by simp only [JP.Integer_numberOfTrailingZeros_I.val]; simp only [eq_true cc1, eq_false cc2, eq_true cc10, eq_true cc11, eq_false cc12]; first | rfl | simp | (simp; rfl)
            exact g_retI C dA_79 (by rw [hq]) (by decide) (by decide)
        · refine g_icmpT 62 C dA_52 (show ¬ (16 : Int32) < (XT.ushr ((x ^^^ (-1 : Int32)) &&& (x - (1 : Int32))) (8 : Int32)) from cc11) (by decide) (by decide) ?_
          refine g_iloadN C dA_62 rfl <| g_iconst 4 C dA_63 (by decide) ?_
          by_cases cc13 : (4 : Int32) < (XT.ushr ((x ^^^ (-1 : Int32)) &&& (x - (1 : Int32))) (8 : Int32))
          · refine g_icmpF C dA_64 (show (4 : Int32) < (XT.ushr ((x ^^^ (-1 : Int32)) &&& (x - (1 : Int32))) (8 : Int32)) from cc13) ?_
            refine g_iinc (11 : Int32) #[.val (.int (XT.ushr ((x ^^^ (-1 : Int32)) &&& (x - (1 : Int32))) (8 : Int32))), .val (.int 11)] C dA_67 rfl (by decide) rfl <| g_iloadN C dA_70 rfl <| g_iconst 2 C dA_71 (by decide) <| g_iushr _ C dA_72 rfl <| g_istoreN #[.val (.int (XT.ushr (XT.ushr ((x ^^^ (-1 : Int32)) &&& (x - (1 : Int32))) (8 : Int32)) (2 : Int32))), .val (.int 11)] C dA_73 rfl <| g_iloadN C dA_74 rfl <| g_iloadN C dA_75 rfl <| g_iconst 1 C dA_76 (by decide) <| g_iushr _ C dA_77 rfl <| g_iadd _ C dA_78 rfl ?_
            have hq : JP.Integer_numberOfTrailingZeros_I.val x = ((11 : Int32) + (XT.ushr (XT.ushr (XT.ushr ((x ^^^ (-1 : Int32)) &&& (x - (1 : Int32))) (8 : Int32)) (2 : Int32)) (1 : Int32))) := by simp only [JP.Integer_numberOfTrailingZeros_I.val]; simp only [eq_true cc1, eq_false cc2, eq_true cc10, eq_false cc11, eq_true cc13]; first | rfl | simp | (simp; rfl)
            exact g_retI C dA_79 (by rw [hq]) (by decide) (by decide)
          · refine g_icmpT 74 C dA_64 (show ¬ (4 : Int32) < (XT.ushr ((x ^^^ (-1 : Int32)) &&& (x - (1 : Int32))) (8 : Int32)) from cc13) (by decide) (by decide) ?_
            refine g_iloadN C dA_74 rfl <| g_iloadN C dA_75 rfl <| g_iconst 1 C dA_76 (by decide) <| g_iushr _ C dA_77 rfl <| g_iadd _ C dA_78 rfl ?_
            have hq : JP.Integer_numberOfTrailingZeros_I.val x = ((9 : Int32) + (XT.ushr (XT.ushr ((x ^^^ (-1 : Int32)) &&& (x - (1 : Int32))) (8 : Int32)) (1 : Int32))) := by simp only [JP.Integer_numberOfTrailingZeros_I.val]; simp only [eq_true cc1, eq_false cc2, eq_true cc10, eq_false cc11, eq_false cc13]; first | rfl | simp | (simp; rfl)
            exact g_retI C dA_79 (by rw [hq]) (by decide) (by decide)
      · refine g_icmpT 49 C dA_38 (show ¬ (256 : Int32) < ((x ^^^ (-1 : Int32)) &&& (x - (1 : Int32))) from cc10) (by decide) (by decide) ?_
        refine g_iloadN C dA_49 rfl <| g_bipush 16 C dA_50 (by decide) ?_
        by_cases cc14 : (16 : Int32) < ((x ^^^ (-1 : Int32)) &&& (x - (1 : Int32)))
        · refine g_icmpF C dA_52 (show (16 : Int32) < ((x ^^^ (-1 : Int32)) &&& (x - (1 : Int32))) from cc14) ?_
          refine g_iinc (5 : Int32) #[.val (.int ((x ^^^ (-1 : Int32)) &&& (x - (1 : Int32)))), .val (.int 5)] C dA_55 rfl (by decide) rfl <| g_iloadN C dA_58 rfl <| g_iconst 4 C dA_59 (by decide) <| g_iushr _ C dA_60 rfl <| g_istoreN #[.val (.int (XT.ushr ((x ^^^ (-1 : Int32)) &&& (x - (1 : Int32))) (4 : Int32))), .val (.int 5)] C dA_61 rfl <| g_iloadN C dA_62 rfl <| g_iconst 4 C dA_63 (by decide) ?_
          by_cases cc15 : (4 : Int32) < (XT.ushr ((x ^^^ (-1 : Int32)) &&& (x - (1 : Int32))) (4 : Int32))
          · refine g_icmpF C dA_64 (show (4 : Int32) < (XT.ushr ((x ^^^ (-1 : Int32)) &&& (x - (1 : Int32))) (4 : Int32)) from cc15) ?_
            refine g_iinc (7 : Int32) #[.val (.int (XT.ushr ((x ^^^ (-1 : Int32)) &&& (x - (1 : Int32))) (4 : Int32))), .val (.int 7)] C dA_67 rfl (by decide) rfl <| g_iloadN C dA_70 rfl <| g_iconst 2 C dA_71 (by decide) <| g_iushr _ C dA_72 rfl <| g_istoreN #[.val (.int (XT.ushr (XT.ushr ((x ^^^ (-1 : Int32)) &&& (x - (1 : Int32))) (4 : Int32)) (2 : Int32))), .val (.int 7)] C dA_73 rfl <| g_iloadN C dA_74 rfl <| g_iloadN C dA_75 rfl <| g_iconst 1 C dA_76 (by decide) <| g_iushr _ C dA_77 rfl <| g_iadd _ C dA_78 rfl ?_
            have hq : JP.Integer_numberOfTrailingZeros_I.val x = ((7 : Int32) + (XT.ushr (XT.ushr (XT.ushr ((x ^^^ (-1 : Int32)) &&& (x - (1 : Int32))) (4 : Int32)) (2 : Int32)) (1 : Int32))) := by simp only [JP.Integer_numberOfTrailingZeros_I.val]; simp only [eq_true cc1, eq_false cc2, eq_false cc10, eq_true cc14, eq_true cc15]; first | rfl | simp | (simp; rfl)
            exact g_retI C dA_79 (by rw [hq]) (by decide) (by decide)
          · refine g_icmpT 74 C dA_64 (show ¬ (4 : Int32) < (XT.ushr ((x ^^^ (-1 : Int32)) &&& (x - (1 : Int32))) (4 : Int32)) from cc15) (by decide) (by decide) ?_
            refine g_iloadN C dA_74 rfl <| g_iloadN C dA_75 rfl <| g_iconst 1 C dA_76 (by decide) <| g_iushr _ C dA_77 rfl <| g_iadd _ C dA_78 rfl ?_
            have hq : JP.Integer_numberOfTrailingZeros_I.val x = ((5 : Int32) + (XT.ushr (XT.ushr ((x ^^^ (-1 : Int32)) &&& (x - (1 : Int32))) (4 : Int32)) (1 : Int32))) := by simp only [JP.Integer_numberOfTrailingZeros_I.val]; simp only [eq_true cc1, eq_false cc2, eq_false cc10, eq_true cc14, eq_false cc15]; first | rfl | simp | (simp; rfl)
            exact g_retI C dA_79 (by rw [hq]) (by decide) (by decide)
        · refine g_icmpT 62 C dA_52 (show ¬ (16 : Int32) < ((x ^^^ (-1 : Int32)) &&& (x - (1 : Int32))) from cc14) (by decide) (by decide) ?_
          refine g_iloadN C dA_62 rfl <| g_iconst 4 C dA_63 (by decide) ?_
          by_cases cc16 : (4 : Int32) < ((x ^^^ (-1 : Int32)) &&& (x - (1 : Int32)))
          · refine g_icmpF C dA_64 (show (4 : Int32) < ((x ^^^ (-1 : Int32)) &&& (x - (1 : Int32))) from cc16) ?_
            refine g_iinc (3 : Int32) #[.val (.int ((x ^^^ (-1 : Int32)) &&& (x - (1 : Int32)))), .val (.int 3)] C dA_67 rfl (by decide) rfl <| g_iloadN C dA_70 rfl <| g_iconst 2 C dA_71 (by decide) <| g_iushr _ C dA_72 rfl <| g_istoreN #[.val (.int (XT.ushr ((x ^^^ (-1 : Int32)) &&& (x - (1 : Int32))) (2 : Int32))), .val (.int 3)] C dA_73 rfl <| g_iloadN C dA_74 rfl <| g_iloadN C dA_75 rfl <| g_iconst 1 C dA_76 (by decide) <| g_iushr _ C dA_77 rfl <| g_iadd _ C dA_78 rfl ?_
            have hq : JP.Integer_numberOfTrailingZeros_I.val x = ((3 : Int32) + (XT.ushr (XT.ushr ((x ^^^ (-1 : Int32)) &&& (x - (1 : Int32))) (2 : Int32)) (1 : Int32))) := by simp only [JP.Integer_numberOfTrailingZeros_I.val]; simp only [eq_true cc1, eq_false cc2, eq_false cc10, eq_false cc14, eq_true cc16]; first | rfl | simp | (simp; rfl)
            exact g_retI C dA_79 (by rw [hq]) (by decide) (by decide)
          · refine g_icmpT 74 C dA_64 (show ¬ (4 : Int32) < ((x ^^^ (-1 : Int32)) &&& (x - (1 : Int32))) from cc16) (by decide) (by decide) ?_
            refine g_iloadN C dA_74 rfl <| g_iloadN C dA_75 rfl <| g_iconst 1 C dA_76 (by decide) <| g_iushr _ C dA_77 rfl <| g_iadd _ C dA_78 rfl ?_
            have hq : JP.Integer_numberOfTrailingZeros_I.val x = ((1 : Int32) + (XT.ushr ((x ^^^ (-1 : Int32)) &&& (x - (1 : Int32))) (1 : Int32))) := by simp only [JP.Integer_numberOfTrailingZeros_I.val]; simp only [eq_true cc1, eq_false cc2, eq_false cc10, eq_false cc14, eq_false cc16]; first | rfl | simp | (simp; rfl)
            exact g_retI C dA_79 (by rw [hq]) (by decide) (by decide)
  · refine g_ifF C dA_9 (show ¬ (0 : Int32) < ((x ^^^ (-1 : Int32)) &&& (x - (1 : Int32))) from cc1) ?_
    refine g_iloadN C dA_12 rfl <| g_bipush 32 C dA_13 (by decide) <| g_iand _ C dA_15 rfl ?_
    have hq : JP.Integer_numberOfTrailingZeros_I.val x = (((x ^^^ (-1 : Int32)) &&& (x - (1 : Int32))) &&& (32 : Int32)) := by simp only [JP.Integer_numberOfTrailingZeros_I.val]; simp only [eq_false cc1]; first | rfl | simp | (simp; rfl)
    exact g_retI C dA_16 (by rw [hq]) (by decide) (by decide)
theorem dB_0 : decode k36 0 = .ok (.iload_n 0, 1) := by decide +kernel
theorem dB_1 : decode k36 1 = .ok (.ifCond .gt 14, 3) := by decide +kernel
theorem dB_4 : decode k36 4 = .ok (.iload_n 0, 1) := by decide +kernel
theorem dB_5 : decode k36 5 = .ok (.ifCond .ne 8, 3) := by decide +kernel
theorem dB_8 : decode k36 8 = .ok (.bipush 32, 2) := by decide +kernel
theorem dB_10 : decode k36 10 = .ok (.goto 4, 3) := by decide +kernel
theorem dB_13 : decode k36 13 = .ok (.iconst 0, 1) := by decide +kernel
theorem dB_14 : decode k36 14 = .ok (.ireturn, 1) := by decide +kernel
theorem dB_15 : decode k36 15 = .ok (.bipush 31, 2) := by decide +kernel
theorem dB_17 : decode k36 17 = .ok (.istore_n 1, 1) := by decide +kernel
theorem dB_18 : decode k36 18 = .ok (.iload_n 0, 1) := by decide +kernel
theorem dB_19 : decode k36 19 = .ok (.ldc_w 264, 3) := by decide +kernel
theorem dB_22 : decode k36 22 = .ok (.if_icmp .lt 11, 3) := by decide +kernel
theorem dB_25 : decode k36 25 = .ok (.iinc 1 (-16), 3) := by decide +kernel
theorem dB_28 : decode k36 28 = .ok (.iload_n 0, 1) := by decide +kernel
theorem dB_29 : decode k36 29 = .ok (.bipush 16, 2) := by decide +kernel
theorem dB_31 : decode k36 31 = .ok (.iushr, 1) := by decide +kernel
theorem dB_32 : decode k36 32 = .ok (.istore_n 0, 1) := by decide +kernel
theorem dB_33 : decode k36 33 = .ok (.iload_n 0, 1) := by decide +kernel
theorem dB_34 : decode k36 34 = .ok (.sipush 256, 3) := by decide +kernel
theorem dB_37 : decode k36 37 = .ok (.if_icmp .lt 11, 3) := by decide +kernel
theorem dB_40 : decode k36 40 = .ok (.iinc 1 (-8), 3) := by decide +kernel
theorem dB_43 : decode k36 43 = .ok (.iload_n 0, 1) := by decide +kernel
theorem dB_44 : decode k36 44 = .ok (.bipush 8, 2) := by decide +kernel
theorem dB_46 : decode k36 46 = .ok (.iushr, 1) := by decide +kernel
theorem dB_47 : decode k36 47 = .ok (.istore_n 0, 1) := by decide +kernel
theorem dB_48 : decode k36 48 = .ok (.iload_n 0, 1) := by decide +kernel
theorem dB_49 : decode k36 49 = .ok (.bipush 16, 2) := by decide +kernel
theorem dB_51 : decode k36 51 = .ok (.if_icmp .lt 10, 3) := by decide +kernel
theorem dB_54 : decode k36 54 = .ok (.iinc 1 (-4), 3) := by decide +kernel
theorem dB_57 : decode k36 57 = .ok (.iload_n 0, 1) := by decide +kernel
theorem dB_58 : decode k36 58 = .ok (.iconst 4, 1) := by decide +kernel
theorem dB_59 : decode k36 59 = .ok (.iushr, 1) := by decide +kernel
theorem dB_60 : decode k36 60 = .ok (.istore_n 0, 1) := by decide +kernel
theorem dB_61 : decode k36 61 = .ok (.iload_n 0, 1) := by decide +kernel
theorem dB_62 : decode k36 62 = .ok (.iconst 4, 1) := by decide +kernel
theorem dB_63 : decode k36 63 = .ok (.if_icmp .lt 10, 3) := by decide +kernel
theorem dB_66 : decode k36 66 = .ok (.iinc 1 (-2), 3) := by decide +kernel
theorem dB_69 : decode k36 69 = .ok (.iload_n 0, 1) := by decide +kernel
theorem dB_70 : decode k36 70 = .ok (.iconst 2, 1) := by decide +kernel
theorem dB_71 : decode k36 71 = .ok (.iushr, 1) := by decide +kernel
theorem dB_72 : decode k36 72 = .ok (.istore_n 0, 1) := by decide +kernel
theorem dB_73 : decode k36 73 = .ok (.iload_n 1, 1) := by decide +kernel
theorem dB_74 : decode k36 74 = .ok (.iload_n 0, 1) := by decide +kernel
theorem dB_75 : decode k36 75 = .ok (.iconst 1, 1) := by decide +kernel
theorem dB_76 : decode k36 76 = .ok (.iushr, 1) := by decide +kernel
theorem dB_77 : decode k36 77 = .ok (.isub, 1) := by decide +kernel
theorem dB_78 : decode k36 78 = .ok (.ireturn, 1) := by decide +kernel
theorem m_nlz (l : Launch) (Z : State) (a0 : Array Value) (hw : ∀ d ∈ tables_1, d.before a0 Z = true) (x : Int32) (h : Heap) :
    MetW false l Z [] (⟨"java/lang/Integer", "numberOfLeadingZeros", "(I)I"⟩ : MethodName) k36 2 (some .int) [] (rM 0 0 0 0) #[(.int x)] [] h (fun v h' => v = some (.int (JP.Integer_numberOfLeadingZeros_I.val x))) := by
  refine mO a0 #[.val (.int x), .unset] (fun _ _ _ m_ _ _ _ hs0 C => ?_)
  refine g_iloadN C dB_0 rfl ?_
  by_cases cc1 : (0 : Int32) < x
  · refine g_ifT 15 C dB_1 (show (0 : Int32) < x from cc1) (by decide) (by decide) ?_
    refine g_bipush 31 C dB_15 (by decide) <| g_istoreN #[.val (.int x), .val (.int 31)] C dB_17 rfl <| g_iloadN C dB_18 rfl <| g_ldcwInt 65536 C dB_19 (hW hw 107 rfl) ?_
    by_cases cc2 : x < (65536 : Int32)
    · refine g_icmpT 33 C dB_22 (show x < (65536 : Int32) from cc2) (by decide) (by decide) ?_
      refine g_iloadN C dB_33 rfl <| g_sipush 256 C dB_34 (by decide) ?_
      by_cases cc3 : x < (256 : Int32)
      · refine g_icmpT 48 C dB_37 (show x < (256 : Int32) from cc3) (by decide) (by decide) ?_
        refine g_iloadN C dB_48 rfl <| g_bipush 16 C dB_49 (by decide) ?_
        by_cases cc4 : x < (16 : Int32)
        · refine g_icmpT 61 C dB_51 (show x < (16 : Int32) from cc4) (by decide) (by decide) ?_
          refine g_iloadN C dB_61 rfl <| g_iconst 4 C dB_62 (by decide) ?_
          by_cases cc5 : x < (4 : Int32)
          · refine g_icmpT 73 C dB_63 (show x < (4 : Int32) from cc5) (by decide) (by decide) ?_
            refine g_iloadN C dB_73 rfl <| g_iloadN C dB_74 rfl <| g_iconst 1 C dB_75 (by decide) <| g_iushr _ C dB_76 rfl <| g_isub _ C dB_77 rfl ?_
            have hq : JP.Integer_numberOfLeadingZeros_I.val x = ((31 : Int32) - (XT.ushr x (1 : Int32))) := by simp only [JP.Integer_numberOfLeadingZeros_I.val]; simp only [eq_true cc1, eq_true cc2, eq_true cc3, eq_true cc4, eq_true cc5]; first | rfl | simp | (simp; rfl)
            exact g_retI C dB_78 (by rw [hq]) (by decide) (by decide)
          · refine g_icmpF C dB_63 (show ¬ x < (4 : Int32) from cc5) ?_
            refine g_iinc (29 : Int32) #[.val (.int x), .val (.int 29)] C dB_66 rfl (by decide) rfl <| g_iloadN C dB_69 rfl <| g_iconst 2 C dB_70 (by decide) <| g_iushr _ C dB_71 rfl <| g_istoreN #[.val (.int (XT.ushr x (2 : Int32))), .val (.int 29)] C dB_72 rfl <| g_iloadN C dB_73 rfl <| g_iloadN C dB_74 rfl <| g_iconst 1 C dB_75 (by decide) <| g_iushr _ C dB_76 rfl <| g_isub _ C dB_77 rfl ?_
            have hq : JP.Integer_numberOfLeadingZeros_I.val x = ((29 : Int32) - (XT.ushr (XT.ushr x (2 : Int32)) (1 : Int32))) := by simp only [JP.Integer_numberOfLeadingZeros_I.val]; simp only [eq_true cc1, eq_true cc2, eq_true cc3, eq_true cc4, eq_false cc5]; first | rfl | simp | (simp; rfl)
            exact g_retI C dB_78 (by rw [hq]) (by decide) (by decide)
        · refine g_icmpF C dB_51 (show ¬ x < (16 : Int32) from cc4) ?_
          refine g_iinc (27 : Int32) #[.val (.int x), .val (.int 27)] C dB_54 rfl (by decide) rfl <| g_iloadN C dB_57 rfl <| g_iconst 4 C dB_58 (by decide) <| g_iushr _ C dB_59 rfl <| g_istoreN #[.val (.int (XT.ushr x (4 : Int32))), .val (.int 27)] C dB_60 rfl <| g_iloadN C dB_61 rfl <| g_iconst 4 C dB_62 (by decide) ?_
          by_cases cc6 : (XT.ushr x (4 : Int32)) < (4 : Int32)
          · refine g_icmpT 73 C dB_63 (show (XT.ushr x (4 : Int32)) < (4 : Int32) from cc6) (by decide) (by decide) ?_
            refine g_iloadN C dB_73 rfl <| g_iloadN C dB_74 rfl <| g_iconst 1 C dB_75 (by decide) <| g_iushr _ C dB_76 rfl <| g_isub _ C dB_77 rfl ?_
            have hq : JP.Integer_numberOfLeadingZeros_I.val x = ((27 : Int32) - (XT.ushr (XT.ushr x (4 : Int32)) (1 : Int32))) := by simp only [JP.Integer_numberOfLeadingZeros_I.val]; simp only [eq_true cc1, eq_true cc2, eq_true cc3, eq_false cc4, eq_true cc6]; first | rfl | simp | (simp; rfl)
            exact g_retI C dB_78 (by rw [hq]) (by decide) (by decide)
          · refine g_icmpF C dB_63 (show ¬ (XT.ushr x (4 : Int32)) < (4 : Int32) from cc6) ?_
            refine g_iinc (25 : Int32) #[.val (.int (XT.ushr x (4 : Int32))), .val (.int 25)] C dB_66 rfl (by decide) rfl <| g_iloadN C dB_69 rfl <| g_iconst 2 C dB_70 (by decide) <| g_iushr _ C dB_71 rfl <| g_istoreN #[.val (.int (XT.ushr (XT.ushr x (4 : Int32)) (2 : Int32))), .val (.int 25)] C dB_72 rfl <| g_iloadN C dB_73 rfl <| g_iloadN C dB_74 rfl <| g_iconst 1 C dB_75 (by decide) <| g_iushr _ C dB_76 rfl <| g_isub _ C dB_77 rfl ?_
            have hq : JP.Integer_numberOfLeadingZeros_I.val x = ((25 : Int32) - (XT.ushr (XT.ushr (XT.ushr x (4 : Int32)) (2 : Int32)) (1 : Int32))) := by simp only [JP.Integer_numberOfLeadingZeros_I.val]; simp only [eq_true cc1, eq_true cc2, eq_true cc3, eq_false cc4, eq_false cc6]; first | rfl | simp | (simp; rfl)
            exact g_retI C dB_78 (by rw [hq]) (by decide) (by decide)
      · refine g_icmpF C dB_37 (show ¬ x < (256 : Int32) from cc3) ?_
        refine g_iinc (23 : Int32) #[.val (.int x), .val (.int 23)] C dB_40 rfl (by decide) rfl <| g_iloadN C dB_43 rfl <| g_bipush 8 C dB_44 (by decide) <| g_iushr _ C dB_46 rfl <| g_istoreN #[.val (.int (XT.ushr x (8 : Int32))), .val (.int 23)] C dB_47 rfl <| g_iloadN C dB_48 rfl <| g_bipush 16 C dB_49 (by decide) ?_
        by_cases cc7 : (XT.ushr x (8 : Int32)) < (16 : Int32)
        · refine g_icmpT 61 C dB_51 (show (XT.ushr x (8 : Int32)) < (16 : Int32) from cc7) (by decide) (by decide) ?_
          refine g_iloadN C dB_61 rfl <| g_iconst 4 C dB_62 (by decide) ?_
          by_cases cc8 : (XT.ushr x (8 : Int32)) < (4 : Int32)
          · refine g_icmpT 73 C dB_63 (show (XT.ushr x (8 : Int32)) < (4 : Int32) from cc8) (by decide) (by decide) ?_
            refine g_iloadN C dB_73 rfl <| g_iloadN C dB_74 rfl <| g_iconst 1 C dB_75 (by decide) <| g_iushr _ C dB_76 rfl <| g_isub _ C dB_77 rfl ?_
            have hq : JP.Integer_numberOfLeadingZeros_I.val x = ((23 : Int32) - (XT.ushr (XT.ushr x (8 : Int32)) (1 : Int32))) := by simp only [JP.Integer_numberOfLeadingZeros_I.val]; simp only [eq_true cc1, eq_true cc2, eq_false cc3, eq_true cc7, eq_true cc8]; first | rfl | simp | (simp; rfl)
            exact g_retI C dB_78 (by rw [hq]) (by decide) (by decide)
          · refine g_icmpF C dB_63 (show ¬ (XT.ushr x (8 : Int32)) < (4 : Int32) from cc8) ?_
            refine g_iinc (21 : Int32) #[.val (.int (XT.ushr x (8 : Int32))), .val (.int 21)] C dB_66 rfl (by decide) rfl <| g_iloadN C dB_69 rfl <| g_iconst 2 C dB_70 (by decide) <| g_iushr _ C dB_71 rfl <| g_istoreN #[.val (.int (XT.ushr (XT.ushr x (8 : Int32)) (2 : Int32))), .val (.int 21)] C dB_72 rfl <| g_iloadN C dB_73 rfl <| g_iloadN C dB_74 rfl <| g_iconst 1 C dB_75 (by decide) <| g_iushr _ C dB_76 rfl <| g_isub _ C dB_77 rfl ?_
            have hq : JP.Integer_numberOfLeadingZeros_I.val x = ((21 : Int32) - (XT.ushr (XT.ushr (XT.ushr x (8 : Int32)) (2 : Int32)) (1 : Int32))) := by simp only [JP.Integer_numberOfLeadingZeros_I.val]; simp only [eq_true cc1, eq_true cc2, eq_false cc3, eq_true cc7, eq_false cc8]; first | rfl | simp | (simp; rfl)
            exact g_retI C dB_78 (by rw [hq]) (by decide) (by decide)
        · refine g_icmpF C dB_51 (show ¬ (XT.ushr x (8 : Int32)) < (16 : Int32) from cc7) ?_
          refine g_iinc (19 : Int32) #[.val (.int (XT.ushr x (8 : Int32))), .val (.int 19)] C dB_54 rfl (by decide) rfl <| g_iloadN C dB_57 rfl <| g_iconst 4 C dB_58 (by decide) <| g_iushr _ C dB_59 rfl <| g_istoreN #[.val (.int (XT.ushr (XT.ushr x (8 : Int32)) (4 : Int32))), .val (.int 19)] C dB_60 rfl <| g_iloadN C dB_61 rfl <| g_iconst 4 C dB_62 (by decide) ?_
          by_cases cc9 : (XT.ushr (XT.ushr x (8 : Int32)) (4 : Int32)) < (4 : Int32)
          · refine g_icmpT 73 C dB_63 (show (XT.ushr (XT.ushr x (8 : Int32)) (4 : Int32)) < (4 : Int32) from cc9) (by decide) (by decide) ?_
            refine g_iloadN C dB_73 rfl <| g_iloadN C dB_74 rfl <| g_iconst 1 C dB_75 (by decide) <| g_iushr _ C dB_76 rfl <| g_isub _ C dB_77 rfl ?_
            have hq : JP.Integer_numberOfLeadingZeros_I.val x = ((19 : Int32) - (XT.ushr (XT.ushr (XT.ushr x (8 : Int32)) (4 : Int32)) (1 : Int32))) := by simp only [JP.Integer_numberOfLeadingZeros_I.val]; simp only [eq_true cc1, eq_true cc2, eq_false cc3, eq_false cc7, eq_true cc9]; first | rfl | simp | (simp; rfl)
            exact g_retI C dB_78 (by rw [hq]) (by decide) (by decide)
          · refine g_icmpF C dB_63 (show ¬ (XT.ushr (XT.ushr x (8 : Int32)) (4 : Int32)) < (4 : Int32) from cc9) ?_
            refine g_iinc (17 : Int32) #[.val (.int (XT.ushr (XT.ushr x (8 : Int32)) (4 : Int32))), .val (.int 17)] C dB_66 rfl (by decide) rfl <| g_iloadN C dB_69 rfl <| g_iconst 2 C dB_70 (by decide) <| g_iushr _ C dB_71 rfl <| g_istoreN #[.val (.int (XT.ushr (XT.ushr (XT.ushr x (8 : Int32)) (4 : Int32)) (2 : Int32))), .val (.int 17)] C dB_72 rfl <| g_iloadN C dB_73 rfl <| g_iloadN C dB_74 rfl <| g_iconst 1 C dB_75 (by decide) <| g_iushr _ C dB_76 rfl <| g_isub _ C dB_77 rfl ?_
            have hq : JP.Integer_numberOfLeadingZeros_I.val x = ((17 : Int32) - (XT.ushr (XT.ushr (XT.ushr (XT.ushr x (8 : Int32)) (4 : Int32)) (2 : Int32)) (1 : Int32))) := by simp only [JP.Integer_numberOfLeadingZeros_I.val]; simp only [eq_true cc1, eq_true cc2, eq_false cc3, eq_false cc7, eq_false cc9]; first | rfl | simp | (simp; rfl)
            exact g_retI C dB_78 (by rw [hq]) (by decide) (by decide)
    · refine g_icmpF C dB_22 (show ¬ x < (65536 : Int32) from cc2) ?_
      refine g_iinc (15 : Int32) #[.val (.int x), .val (.int 15)] C dB_25 rfl (by decide) rfl <| g_iloadN C dB_28 rfl <| g_bipush 16 C dB_29 (by decide) <| g_iushr _ C dB_31 rfl <| g_istoreN #[.val (.int (XT.ushr x (16 : Int32))), .val (.int 15)] C dB_32 rfl <| g_iloadN C dB_33 rfl <| g_sipush 256 C dB_34 (by decide) ?_
      by_cases cc10 : (XT.ushr x (16 : Int32)) < (256 : Int32)
      · refine g_icmpT 48 C dB_37 (show (XT.ushr x (16 : Int32)) < (256 : Int32) from cc10) (by decide) (by decide) ?_
        refine g_iloadN C dB_48 rfl <| g_bipush 16 C dB_49 (by decide) ?_
        by_cases cc11 : (XT.ushr x (16 : Int32)) < (16 : Int32)
        · refine g_icmpT 61 C dB_51 (show (XT.ushr x (16 : Int32)) < (16 : Int32) from cc11) (by decide) (by decide) ?_
          refine g_iloadN C dB_61 rfl <| g_iconst 4 C dB_62 (by decide) ?_
          by_cases cc12 : (XT.ushr x (16 : Int32)) < (4 : Int32)
          · refine g_icmpT 73 C dB_63 (show (XT.ushr x (16 : Int32)) < (4 : Int32) from cc12) (by decide) (by decide) ?_
            refine g_iloadN C dB_73 rfl <| g_iloadN C dB_74 rfl <| g_iconst 1 C dB_75 (by decide) <| g_iushr _ C dB_76 rfl <| g_isub _ C dB_77 rfl ?_
            have hq : JP.Integer_numberOfLeadingZeros_I.val x = ((15 : Int32) - (XT.ushr (XT.ushr x (16 : Int32)) (1 : Int32))) := by simp only [JP.Integer_numberOfLeadingZeros_I.val]; simp only [eq_true cc1, eq_false cc2, eq_true cc10, eq_true cc11, eq_true cc12]; first | rfl | simp | (simp; rfl)
            exact g_retI C dB_78 (by rw [hq]) (by decide) (by decide)
          · refine g_icmpF C dB_63 (show ¬ (XT.ushr x (16 : Int32)) < (4 : Int32) from cc12) ?_
            refine g_iinc (13 : Int32) #[.val (.int (XT.ushr x (16 : Int32))), .val (.int 13)] C dB_66 rfl (by decide) rfl <| g_iloadN C dB_69 rfl <| g_iconst 2 C dB_70 (by decide) <| g_iushr _ C dB_71 rfl <| g_istoreN #[.val (.int (XT.ushr (XT.ushr x (16 : Int32)) (2 : Int32))), .val (.int 13)] C dB_72 rfl <| g_iloadN C dB_73 rfl <| g_iloadN C dB_74 rfl <| g_iconst 1 C dB_75 (by decide) <| g_iushr _ C dB_76 rfl <| g_isub _ C dB_77 rfl ?_
            have hq : JP.Integer_numberOfLeadingZeros_I.val x = ((13 : Int32) - (XT.ushr (XT.ushr (XT.ushr x (16 : Int32)) (2 : Int32)) (1 : Int32))) := by simp only [JP.Integer_numberOfLeadingZeros_I.val]; simp only [eq_true cc1, eq_false cc2, eq_true cc10, eq_true cc11, eq_false cc12]; first | rfl | simp | (simp; rfl)
            exact g_retI C dB_78 (by rw [hq]) (by decide) (by decide)
        · refine g_icmpF C dB_51 (show ¬ (XT.ushr x (16 : Int32)) < (16 : Int32) from cc11) ?_
          refine g_iinc (11 : Int32) #[.val (.int (XT.ushr x (16 : Int32))), .val (.int 11)] C dB_54 rfl (by decide) rfl <| g_iloadN C dB_57 rfl <| g_iconst 4 C dB_58 (by decide) <| g_iushr _ C dB_59 rfl <| g_istoreN #[.val (.int (XT.ushr (XT.ushr x (16 : Int32)) (4 : Int32))), .val (.int 11)] C dB_60 rfl <| g_iloadN C dB_61 rfl <| g_iconst 4 C dB_62 (by decide) ?_
          by_cases cc13 : (XT.ushr (XT.ushr x (16 : Int32)) (4 : Int32)) < (4 : Int32)
          · refine g_icmpT 73 C dB_63 (show (XT.ushr (XT.ushr x (16 : Int32)) (4 : Int32)) < (4 : Int32) from cc13) (by decide) (by decide) ?_
            refine g_iloadN C dB_73 rfl <| g_iloadN C dB_74 rfl <| g_iconst 1 C dB_75 (by decide) <| g_iushr _ C dB_76 rfl <| g_isub _ C dB_77 rfl ?_
            have hq : JP.Integer_numberOfLeadingZeros_I.val x = ((11 : Int32) - (XT.ushr (XT.ushr (XT.ushr x (16 : Int32)) (4 : Int32)) (1 : Int32))) := by simp only [JP.Integer_numberOfLeadingZeros_I.val]; simp only [eq_true cc1, eq_false cc2, eq_true cc10, eq_false cc11, eq_true cc13]; first | rfl | simp | (simp; rfl)
            exact g_retI C dB_78 (by rw [hq]) (by decide) (by decide)
          · refine g_icmpF C dB_63 (show ¬ (XT.ushr (XT.ushr x (16 : Int32)) (4 : Int32)) < (4 : Int32) from cc13) ?_
            refine g_iinc (9 : Int32) #[.val (.int (XT.ushr (XT.ushr x (16 : Int32)) (4 : Int32))), .val (.int 9)] C dB_66 rfl (by decide) rfl <| g_iloadN C dB_69 rfl <| g_iconst 2 C dB_70 (by decide) <| g_iushr _ C dB_71 rfl <| g_istoreN #[.val (.int (XT.ushr (XT.ushr (XT.ushr x (16 : Int32)) (4 : Int32)) (2 : Int32))), .val (.int 9)] C dB_72 rfl <| g_iloadN C dB_73 rfl <| g_iloadN C dB_74 rfl <| g_iconst 1 C dB_75 (by decide) <| g_iushr _ C dB_76 rfl <| g_isub _ C dB_77 rfl ?_
            have hq : JP.Integer_numberOfLeadingZeros_I.val x = ((9 : Int32) - (XT.ushr (XT.ushr (XT.ushr (XT.ushr x (16 : Int32)) (4 : Int32)) (2 : Int32)) (1 : Int32))) := by simp only [JP.Integer_numberOfLeadingZeros_I.val]; simp only [eq_true cc1, eq_false cc2, eq_true cc10, eq_false cc11, eq_false cc13]; first | rfl | simp | (simp; rfl)
            exact g_retI C dB_78 (by rw [hq]) (by decide) (by decide)
      · refine g_icmpF C dB_37 (show ¬ (XT.ushr x (16 : Int32)) < (256 : Int32) from cc10) ?_
        refine g_iinc (7 : Int32) #[.val (.int (XT.ushr x (16 : Int32))), .val (.int 7)] C dB_40 rfl (by decide) rfl <| g_iloadN C dB_43 rfl <| g_bipush 8 C dB_44 (by decide) <| g_iushr _ C dB_46 rfl <| g_istoreN #[.val (.int (XT.ushr (XT.ushr x (16 : Int32)) (8 : Int32))), .val (.int 7)] C dB_47 rfl <| g_iloadN C dB_48 rfl <| g_bipush 16 C dB_49 (by decide) ?_
        by_cases cc14 : (XT.ushr (XT.ushr x (16 : Int32)) (8 : Int32)) < (16 : Int32)
        · refine g_icmpT 61 C dB_51 (show (XT.ushr (XT.ushr x (16 : Int32)) (8 : Int32)) < (16 : Int32) from cc14) (by decide) (by decide) ?_
          refine g_iloadN C dB_61 rfl <| g_iconst 4 C dB_62 (by decide) ?_
          by_cases cc15 : (XT.ushr (XT.ushr x (16 : Int32)) (8 : Int32)) < (4 : Int32)
          · refine g_icmpT 73 C dB_63 (show (XT.ushr (XT.ushr x (16 : Int32)) (8 : Int32)) < (4 : Int32) from cc15) (by decide) (by decide) ?_
            refine g_iloadN C dB_73 rfl <| g_iloadN C dB_74 rfl <| g_iconst 1 C dB_75 (by decide) <| g_iushr _ C dB_76 rfl <| g_isub _ C dB_77 rfl ?_
            have hq : JP.Integer_numberOfLeadingZeros_I.val x = ((7 : Int32) - (XT.ushr (XT.ushr (XT.ushr x (16 : Int32)) (8 : Int32)) (1 : Int32))) := by simp only [JP.Integer_numberOfLeadingZeros_I.val]; simp only [eq_true cc1, eq_false cc2, eq_false cc10, eq_true cc14, eq_true cc15]; first | rfl | simp | (simp; rfl)
            exact g_retI C dB_78 (by rw [hq]) (by decide) (by decide)
          · refine g_icmpF C dB_63 (show ¬ (XT.ushr (XT.ushr x (16 : Int32)) (8 : Int32)) < (4 : Int32) from cc15) ?_
            refine g_iinc (5 : Int32) #[.val (.int (XT.ushr (XT.ushr x (16 : Int32)) (8 : Int32))), .val (.int 5)] C dB_66 rfl (by decide) rfl <| g_iloadN C dB_69 rfl <| g_iconst 2 C dB_70 (by decide) <| g_iushr _ C dB_71 rfl <| g_istoreN #[.val (.int (XT.ushr (XT.ushr (XT.ushr x (16 : Int32)) (8 : Int32)) (2 : Int32))), .val (.int 5)] C dB_72 rfl <| g_iloadN C dB_73 rfl <| g_iloadN C dB_74 rfl <| g_iconst 1 C dB_75 (by decide) <| g_iushr _ C dB_76 rfl <| g_isub _ C dB_77 rfl ?_
            have hq : JP.Integer_numberOfLeadingZeros_I.val x = ((5 : Int32) - (XT.ushr (XT.ushr (XT.ushr (XT.ushr x (16 : Int32)) (8 : Int32)) (2 : Int32)) (1 : Int32))) := by simp only [JP.Integer_numberOfLeadingZeros_I.val]; simp only [eq_true cc1, eq_false cc2, eq_false cc10, eq_true cc14, eq_false cc15]; first | rfl | simp | (simp; rfl)
            exact g_retI C dB_78 (by rw [hq]) (by decide) (by decide)
        · refine g_icmpF C dB_51 (show ¬ (XT.ushr (XT.ushr x (16 : Int32)) (8 : Int32)) < (16 : Int32) from cc14) ?_
          refine g_iinc (3 : Int32) #[.val (.int (XT.ushr (XT.ushr x (16 : Int32)) (8 : Int32))), .val (.int 3)] C dB_54 rfl (by decide) rfl <| g_iloadN C dB_57 rfl <| g_iconst 4 C dB_58 (by decide) <| g_iushr _ C dB_59 rfl <| g_istoreN #[.val (.int (XT.ushr (XT.ushr (XT.ushr x (16 : Int32)) (8 : Int32)) (4 : Int32))), .val (.int 3)] C dB_60 rfl <| g_iloadN C dB_61 rfl <| g_iconst 4 C dB_62 (by decide) ?_
          by_cases cc16 : (XT.ushr (XT.ushr (XT.ushr x (16 : Int32)) (8 : Int32)) (4 : Int32)) < (4 : Int32)
          · refine g_icmpT 73 C dB_63 (show (XT.ushr (XT.ushr (XT.ushr x (16 : Int32)) (8 : Int32)) (4 : Int32)) < (4 : Int32) from cc16) (by decide) (by decide) ?_
            refine g_iloadN C dB_73 rfl <| g_iloadN C dB_74 rfl <| g_iconst 1 C dB_75 (by decide) <| g_iushr _ C dB_76 rfl <| g_isub _ C dB_77 rfl ?_
            have hq : JP.Integer_numberOfLeadingZeros_I.val x = ((3 : Int32) - (XT.ushr (XT.ushr (XT.ushr (XT.ushr x (16 : Int32)) (8 : Int32)) (4 : Int32)) (1 : Int32))) := by simp only [JP.Integer_numberOfLeadingZeros_I.val]; simp only [eq_true cc1, eq_false cc2, eq_false cc10, eq_false cc14, eq_true cc16]; first | rfl | simp | (simp; rfl)
            exact g_retI C dB_78 (by rw [hq]) (by decide) (by decide)
          · refine g_icmpF C dB_63 (show ¬ (XT.ushr (XT.ushr (XT.ushr x (16 : Int32)) (8 : Int32)) (4 : Int32)) < (4 : Int32) from cc16) ?_
            refine g_iinc (1 : Int32) #[.val (.int (XT.ushr (XT.ushr (XT.ushr x (16 : Int32)) (8 : Int32)) (4 : Int32))), .val (.int 1)] C dB_66 rfl (by decide) rfl <| g_iloadN C dB_69 rfl <| g_iconst 2 C dB_70 (by decide) <| g_iushr _ C dB_71 rfl <| g_istoreN #[.val (.int (XT.ushr (XT.ushr (XT.ushr (XT.ushr x (16 : Int32)) (8 : Int32)) (4 : Int32)) (2 : Int32))), .val (.int 1)] C dB_72 rfl <| g_iloadN C dB_73 rfl <| g_iloadN C dB_74 rfl <| g_iconst 1 C dB_75 (by decide) <| g_iushr _ C dB_76 rfl <| g_isub _ C dB_77 rfl ?_
            have hq : JP.Integer_numberOfLeadingZeros_I.val x = ((1 : Int32) - (XT.ushr (XT.ushr (XT.ushr (XT.ushr (XT.ushr x (16 : Int32)) (8 : Int32)) (4 : Int32)) (2 : Int32)) (1 : Int32))) := by simp only [JP.Integer_numberOfLeadingZeros_I.val]; simp only [eq_true cc1, eq_false cc2, eq_false cc10, eq_false cc14, eq_false cc16]; first | rfl | simp | (simp; rfl)
            exact g_retI C dB_78 (by rw [hq]) (by decide) (by decide)
  · refine g_ifF C dB_1 (show ¬ (0 : Int32) < x from cc1) ?_
    refine g_iloadN C dB_4 rfl ?_
    by_cases cc17 : x = (0 : Int32)
    · refine g_ifF C dB_5 (show x = (0 : Int32) from cc17) ?_
      refine g_bipush 32 C dB_8 (by decide) <| g_goto 14 C dB_10 (by decide) (by decide) ?_
      have hq : JP.Integer_numberOfLeadingZeros_I.val x = (32 : Int32) := by simp only [JP.Integer_numberOfLeadingZeros_I.val]; simp only [eq_false cc1, eq_true cc17]; first | rfl | simp | (simp; rfl)
      exact g_retI C dB_14 (by rw [hq]) (by decide) (by decide)
    · refine g_ifT 13 C dB_5 (show ¬ x = (0 : Int32) from cc17) (by decide) (by decide) ?_
      refine g_iconst 0 C dB_13 (by decide) ?_
      have hq : JP.Integer_numberOfLeadingZeros_I.val x = (0 : Int32) := by simp only [JP.Integer_numberOfLeadingZeros_I.val]; simp only [eq_false cc1, eq_false cc17]; first | rfl | simp | (simp; rfl)
      exact g_retI C dB_14 (by rw [hq]) (by decide) (by decide)
theorem own_ushrN (x : Int32) {t : Nat} (ht : t < 32) : (XT.ushr x (Int32.ofNat t)).toBitVec.toNat = x.toBitVec.toNat / 2 ^ t := by
  have e : ((Int32.ofNat t) &&& 31).toUInt32.toNat = t := by
    have : ∀ t : Fin 32, ((Int32.ofNat t.1) &&& 31).toUInt32.toNat = t.1 := by decide
    exact this ⟨t, ht⟩
  show (x.toUInt32 >>> ((Int32.ofNat t) &&& 31).toUInt32).toNat = _
  rw [UInt32.toNat_shiftRight, e, Nat.mod_eq_of_lt ht, Nat.shiftRight_eq_div_pow]
  rfl
theorem own_ntz {x : Int32} (hx : ¬ x = 0) : ∃ t, t < 32 ∧ JP.Integer_numberOfTrailingZeros_I.val x = Int32.ofNat t ∧ JM.Low x.toBitVec.toNat t := by
  have h0 : x.toBitVec.toNat ≠ 0 := fun e => hx (Int32.toBitVec_inj.mp (BitVec.eq_of_toNat_eq (by rw [e]; rfl)))
  obtain ⟨t, h⟩ := JM.low_ex _ h0
  exact ⟨t, h.lt x.toBitVec.isLt, JM.ntz32 h, h⟩
theorem own_sh {x : Int32} (hx : ¬ x = 0) : ¬ XT.ushr x (JP.Integer_numberOfTrailingZeros_I.val x) = 0 ∧ (XT.ushr x (JP.Integer_numberOfTrailingZeros_I.val x)).toBitVec.toNat ≤ x.toBitVec.toNat ∧ ¬ JP.Integer_numberOfTrailingZeros_I.val x < 0 := by
  obtain ⟨t, ht, hv, h⟩ := own_ntz hx
  rw [hv]
  refine ⟨fun e => ?_, ?_, ?_⟩
  · have := congrArg (fun z : Int32 => z.toBitVec.toNat) e
    simp only [own_ushrN x ht] at this
    have h2 := h.2
    rw [this] at h2
    cases h2
  · rw [own_ushrN x ht]; exact Nat.div_le_self _ _
  · have : ∀ t : Fin 32, ¬ Int32.ofNat t.1 < 0 := by decide
    exact this ⟨t, ht⟩
theorem own_pred {a : Int32} (h0 : ¬ a = 0) : (a - 1).toBitVec.toNat = a.toBitVec.toNat - 1 ∧ 0 < a.toBitVec.toNat := by
  have h1 : a.toBitVec.toNat ≠ 0 := fun e => h0 (Int32.toBitVec_inj.mp (BitVec.eq_of_toNat_eq (by rw [e]; rfl)))
  have := a.toBitVec.isLt
  refine ⟨?_, by omega⟩
  rw [Int32.toBitVec_sub, BitVec.toNat_sub]; show (2 ^ 32 - 1 + a.toBitVec.toNat) % 2 ^ 32 = _; omega
theorem own_gt1 {a : Int32} (h0 : ¬ a = 0) (h1 : ¬ a = 1) : (-2147483647 : Int32) < a + (-2147483648) := by
  have h2 : a.toBitVec.toNat ≠ 0 := fun e => h0 (Int32.toBitVec_inj.mp (BitVec.eq_of_toNat_eq (by rw [e]; rfl)))
  have h3 : a.toBitVec.toNat ≠ 1 := fun e => h1 (Int32.toBitVec_inj.mp (BitVec.eq_of_toNat_eq (by rw [e]; rfl)))
  have h4 := a.toBitVec.isLt
  rw [Int32.lt_iff_toInt_lt]
  show (-2147483647 : Int32).toInt < (a + (-2147483648)).toBitVec.toInt
  rw [Int32.toBitVec_add, BitVec.toInt_eq_toNat_cond, BitVec.toNat_add]
  have e1 : ((-2147483648 : Int32)).toBitVec.toNat = 2147483648 := by decide
  have e2 : (-2147483647 : Int32).toInt = -2147483647 := by decide
  rw [e1, e2]
  split <;> omega
theorem own_sub1 {a : Int32} (h0 : ¬ a = 0) (h1 : ¬ a = 1) : ¬ a - 1 = 0 := fun e => h1 (by
  have q := (own_pred h0)
  have e2 := congrArg (fun z : Int32 => z.toBitVec.toNat) e
  simp only [q.1] at e2
  have e3 : (0 : Int32).toBitVec.toNat = 0 := rfl
  rw [e3] at e2
  exact Int32.toBitVec_inj.mp (BitVec.eq_of_toNat_eq (by show _ = 1; omega)))
theorem own_turn {a : Int32} (h0 : ¬ a = 0) (h1 : ¬ a = 1) : (XT.ushr (a - 1) (JP.Integer_numberOfTrailingZeros_I.val (a - 1))).toBitVec.toNat < a.toBitVec.toNat := by
  have q := own_pred h0
  have r := (own_sh (own_sub1 h0 h1)).2.1
  omega
theorem dC_0 : decode k32 0 = .ok (.iload_n 1, 1) := by decide +kernel
theorem dC_1 : decode k32 1 = .ok (.ifCond .ne 5, 3) := by decide +kernel
theorem dC_6 : decode k32 6 = .ok (.iload_n 0, 1) := by decide +kernel
theorem dC_7 : decode k32 7 = .ok (.ifCond .ne 5, 3) := by decide +kernel
theorem dC_10 : decode k32 10 = .ok (.iload_n 1, 1) := by decide +kernel
theorem dC_11 : decode k32 11 = .ok (.ireturn, 1) := by decide +kernel
theorem dC_12 : decode k32 12 = .ok (.iload_n 0, 1) := by decide +kernel
theorem dC_13 : decode k32 13 = .ok (.invokestatic 89, 3) := by decide +kernel
theorem dC_16 : decode k32 16 = .ok (.istore_n 2, 1) := by decide +kernel
theorem dC_17 : decode k32 17 = .ok (.iload_n 1, 1) := by decide +kernel
theorem dC_18 : decode k32 18 = .ok (.invokestatic 89, 3) := by decide +kernel
theorem dC_21 : decode k32 21 = .ok (.istore_n 3, 1) := by decide +kernel
theorem dC_22 : decode k32 22 = .ok (.iload_n 0, 1) := by decide +kernel
theorem dC_23 : decode k32 23 = .ok (.iload_n 2, 1) := by decide +kernel
theorem dC_24 : decode k32 24 = .ok (.iushr, 1) := by decide +kernel
theorem dC_25 : decode k32 25 = .ok (.istore_n 0, 1) := by decide +kernel
theorem dC_26 : decode k32 26 = .ok (.iload_n 1, 1) := by decide +kernel
theorem dC_27 : decode k32 27 = .ok (.iload_n 3, 1) := by decide +kernel
theorem dC_28 : decode k32 28 = .ok (.iushr, 1) := by decide +kernel
theorem dC_29 : decode k32 29 = .ok (.istore_n 1, 1) := by decide +kernel
theorem dC_30 : decode k32 30 = .ok (.iload_n 2, 1) := by decide +kernel
theorem dC_31 : decode k32 31 = .ok (.iload_n 3, 1) := by decide +kernel
theorem dC_32 : decode k32 32 = .ok (.if_icmp .ge 7, 3) := by decide +kernel
theorem dC_39 : decode k32 39 = .ok (.iload_n 3, 1) := by decide +kernel
theorem dC_40 : decode k32 40 = .ok (.istore 4, 2) := by decide +kernel
theorem dC_42 : decode k32 42 = .ok (.iload_n 0, 1) := by decide +kernel
theorem dC_43 : decode k32 43 = .ok (.iload_n 1, 1) := by decide +kernel
theorem dC_44 : decode k32 44 = .ok (.if_icmp .eq 42, 3) := by decide +kernel
theorem dC_47 : decode k32 47 = .ok (.iload_n 0, 1) := by decide +kernel
theorem dC_48 : decode k32 48 = .ok (.ldc 88, 2) := by decide +kernel
theorem dC_50 : decode k32 50 = .ok (.iadd, 1) := by decide +kernel
theorem dC_51 : decode k32 51 = .ok (.iload_n 1, 1) := by decide +kernel
theorem dC_52 : decode k32 52 = .ok (.ldc 88, 2) := by decide +kernel
theorem dC_54 : decode k32 54 = .ok (.iadd, 1) := by decide +kernel
theorem dC_55 : decode k32 55 = .ok (.if_icmp .le 17, 3) := by decide +kernel
theorem dC_58 : decode k32 58 = .ok (.iload_n 0, 1) := by decide +kernel
theorem dC_59 : decode k32 59 = .ok (.iload_n 1, 1) := by decide +kernel
theorem dC_60 : decode k32 60 = .ok (.isub, 1) := by decide +kernel
theorem dC_61 : decode k32 61 = .ok (.istore_n 0, 1) := by decide +kernel
theorem dC_62 : decode k32 62 = .ok (.iload_n 0, 1) := by decide +kernel
theorem dC_63 : decode k32 63 = .ok (.iload_n 0, 1) := by decide +kernel
theorem dC_64 : decode k32 64 = .ok (.invokestatic 89, 3) := by decide +kernel
theorem dC_67 : decode k32 67 = .ok (.iushr, 1) := by decide +kernel
theorem dC_68 : decode k32 68 = .ok (.istore_n 0, 1) := by decide +kernel
theorem dC_69 : decode k32 69 = .ok (.goto (-27), 3) := by decide +kernel
theorem dC_86 : decode k32 86 = .ok (.iload_n 0, 1) := by decide +kernel
theorem dC_87 : decode k32 87 = .ok (.iload 4, 2) := by decide +kernel
theorem dC_89 : decode k32 89 = .ok (.ishl, 1) := by decide +kernel
theorem dC_90 : decode k32 90 = .ok (.ireturn, 1) := by decide +kernel
theorem m_bgcd1 (l : Launch) (Z : State) (a0 : Array Value) (hw : ∀ d ∈ tables_1, d.before a0 Z = true) (x : Int32) (h : Heap) :
    MetW false l Z [] (⟨"java/math/MutableBigInteger", "binaryGcd", "(II)I"⟩ : MethodName) k32 5 (some .int) [] (rM 1 0 0 14) #[(.int x), (.int 1)] [] h (fun v h' => v = some (.int 1)) := by
  refine mO a0 #[.val (.int x), .val (.int 1), .unset, .unset, .unset] (fun _ _ _ m_ _ _ _ hs0 C => ?_)
  refine g_iloadN C dC_0 rfl <| g_ifT 6 C dC_1 (show ¬ (1 : Int32) = (0 : Int32) by decide) (by decide) (by decide) <| g_iloadN C dC_6 rfl ?_
  by_cases cc1 : x = (0 : Int32)
  · refine g_ifF C dC_7 (show x = (0 : Int32) from cc1) ?_
    refine g_iloadN C dC_10 rfl ?_
    exact g_retI C dC_11 rfl (by decide) (by decide)
  · refine g_ifT 12 C dC_7 (show ¬ x = (0 : Int32) from cc1) (by decide) (by decide) ?_
    refine g_iloadN C dC_12 rfl ?_
    refine g_invokestatic [(.int x)] [] 0 C dC_13 (hW hw 94 rfl) (hW hw 95 rfl) (hW hw 96 rfl) (hW hw 97 rfl) (by decide) (m_ntz l Z a0 hw _ _) (lenOf pd0 rfl) rfl rfl (bL rfl) (by decide) (by decide) (by decide) (by decide) all0 (fun v2 h3 L4 q5 K6 => ?_)
    obtain rfl := q5
    refine gA (mkF m_ 16 #[.val (.int x), .val (.int 1), .unset, .unset, .unset] [(.int (JP.Integer_numberOfTrailingZeros_I.val x))]) <| g_istoreN #[.val (.int x), .val (.int 1), .val (.int (JP.Integer_numberOfTrailingZeros_I.val x)), .unset, .unset] C dC_16 rfl <| g_iloadN C dC_17 rfl ?_
    refine g_invokestatic [(.int 1)] [] 0 C dC_18 (hW hw 94 rfl) (hW hw 95 rfl) (hW hw 96 rfl) (hW hw 97 rfl) (by decide) (m_ntz l Z a0 hw _ _) (lenOf pd0 rfl) rfl rfl (bL rfl) (by decide) (by decide) (by decide) (by decide) all0 (fun v7 h8 L9 q10 K11 => ?_)
    obtain rfl := q10
    simp only [show JP.Integer_numberOfTrailingZeros_I.val (1 : Int32) = (0 : Int32) from by decide]
    refine gA (mkF m_ 21 #[.val (.int x), .val (.int 1), .val (.int (JP.Integer_numberOfTrailingZeros_I.val x)), .unset, .unset] [(.int 0)]) <| g_istoreN #[.val (.int x), .val (.int 1), .val (.int (JP.Integer_numberOfTrailingZeros_I.val x)), .val (.int 0), .unset] C dC_21 rfl <| g_iloadN C dC_22 rfl <| g_iloadN C dC_23 rfl <| g_iushr _ C dC_24 rfl <| g_istoreN #[.val (.int (XT.ushr x (JP.Integer_numberOfTrailingZeros_I.val x))), .val (.int 1), .val (.int (JP.Integer_numberOfTrailingZeros_I.val x)), .val (.int 0), .unset] C dC_25 rfl <| g_iloadN C dC_26 rfl <| g_iloadN C dC_27 rfl <| g_iushr 1 C dC_28 (by decide) <| g_istoreN #[.val (.int (XT.ushr x (JP.Integer_numberOfTrailingZeros_I.val x))), .val (.int 1), .val (.int (JP.Integer_numberOfTrailingZeros_I.val x)), .val (.int 0), .unset] C dC_29 rfl <| g_iloadN C dC_30 rfl ?_
    refine g_iloadN C dC_31 rfl <| g_icmpT 39 C dC_32 (show ¬ (JP.Integer_numberOfTrailingZeros_I.val x) < (0 : Int32) from (own_sh cc1).2.2) (by decide) (by decide) <| g_iloadN C dC_39 rfl <| g_istore #[.val (.int (XT.ushr x (JP.Integer_numberOfTrailingZeros_I.val x))), .val (.int 1), .val (.int (JP.Integer_numberOfTrailingZeros_I.val x)), .val (.int 0), .val (.int 0)] C dC_40 rfl ?_
    refine Go.loop (α := {a : Int32 // ¬ a = 0}) (fun q => q.1.toBitVec.toNat) (fun q => mkF m_ 42 #[.val (.int q.1), .val (.int 1), .val (.int (JP.Integer_numberOfTrailingZeros_I.val x)), .val (.int 0), .val (.int 0)] []) (fun _ _ => True) (fun q hh LL _ ih => ?_) ⟨(XT.ushr x (JP.Integer_numberOfTrailingZeros_I.val x)), (own_sh cc1).1⟩ trivial
    obtain ⟨a, ha⟩ := q
    refine gA (mkF m_ 42 #[.val (.int a), .val (.int 1), .val (.int (JP.Integer_numberOfTrailingZeros_I.val x)), .val (.int 0), .val (.int 0)] []) <| g_iloadN C dC_42 rfl <| g_iloadN C dC_43 rfl ?_
    by_cases cc12 : a = (1 : Int32)
    · refine g_icmpT 86 C dC_44 (show a = (1 : Int32) from cc12) (by decide) (by decide) ?_
      refine g_iloadN C dC_86 rfl <| g_iload C dC_87 rfl <| g_ishl _ C dC_89 rfl ?_
      exact g_retI C dC_90 (by rw [cc12]; rfl) (by decide) (by decide)
    · refine g_icmpF C dC_44 (show ¬ a = (1 : Int32) from cc12) ?_
      refine g_iloadN C dC_47 rfl <| g_ldcInt (-2147483648) C dC_48 (hW hw 106 rfl) <| g_iadd _ C dC_50 rfl <| g_iloadN C dC_51 rfl <| g_ldcInt (-2147483648) C dC_52 (hW hw 106 rfl) <| g_iadd (-2147483647) C dC_54 (by decide) <| g_icmpF C dC_55 (show (-2147483647 : Int32) < (a + (-2147483648 : Int32)) from (own_gt1 ha cc12)) <| g_iloadN C dC_58 rfl <| g_iloadN C dC_59 rfl <| g_isub _ C dC_60 rfl <| g_istoreN #[.val (.int (a - (1 : Int32))), .val (.int 1), .val (.int (JP.Integer_numberOfTrailingZeros_I.val x)), .val (.int 0), .val (.int 0)] C dC_61 rfl ?_
      refine g_iloadN C dC_62 rfl <| g_iloadN C dC_63 rfl ?_
      refine g_invokestatic [(.int (a - (1 : Int32)))] [(.int (a - (1 : Int32)))] 1 C dC_64 (hW hw 94 rfl) (hW hw 95 rfl) (hW hw 96 rfl) (hW hw 97 rfl) (by decide) (m_ntz l Z a0 hw _ _) (lenOf pd0 rfl) rfl rfl (bL rfl) (by decide) (by decide) (by decide) (by decide) all0 (fun v13 h14 L15 q16 K17 => ?_)
      obtain rfl := q16
      refine gA (mkF m_ 67 #[.val (.int (a - (1 : Int32))), .val (.int 1), .val (.int (JP.Integer_numberOfTrailingZeros_I.val x)), .val (.int 0), .val (.int 0)] [(.int (JP.Integer_numberOfTrailingZeros_I.val (a - (1 : Int32)))), (.int (a - (1 : Int32)))]) <| g_iushr _ C dC_67 rfl <| g_istoreN #[.val (.int (XT.ushr (a - (1 : Int32)) (JP.Integer_numberOfTrailingZeros_I.val (a - (1 : Int32))))), .val (.int 1), .val (.int (JP.Integer_numberOfTrailingZeros_I.val x)), .val (.int 0), .val (.int 0)] C dC_68 rfl <| g_goto 42 C dC_69 (by decide) (by decide) ?_
      exact ih ⟨_, (own_sh (own_sub1 ha cc12)).1⟩ _ _ (own_turn ha cc12) trivial
/-- what an int that isn't negative is worth -/
theorem own_nn {x : Int32} (h : x.toBitVec.toNat < 2147483648) : x.toInt = x.toBitVec.toNat := by
  show x.toBitVec.toInt = _
  rw [BitVec.toInt_eq_toNat_of_lt (by omega)]
theorem own_pos {x : Int32} (h : 0 < x) : x.toBitVec.toNat < 2147483648 ∧ 0 < x.toBitVec.toNat := by
  rw [Int32.lt_iff_toInt_lt] at h
  have e : (0 : Int32).toInt = 0 := by decide
  rw [e] at h
  have h2 : x.toInt = x.toBitVec.toInt := rfl
  rw [h2, BitVec.toInt_eq_toNat_cond] at h
  have := x.toBitVec.isLt
  split at h <;> omega
theorem own_ltN {x : Int32} {k : Nat} (h : x.toBitVec.toNat < 2147483648) (hk : k < 2147483648) : x < Int32.ofNat k ↔ x.toBitVec.toNat < k := by
  rw [Int32.lt_iff_toInt_lt, own_nn h, Int32.toInt_ofNat_small hk]
  omega
def nF4 (a c : Int32) : Int32 := if a < 4 then c - (XT.ushr a 1) else (c + (-2)) - (XT.ushr (XT.ushr a 2) 1)
def nF16 (a c : Int32) : Int32 := if a < 16 then nF4 a c else nF4 (XT.ushr a 4) (c + (-4))
def nF256 (a c : Int32) : Int32 := if a < 256 then nF16 a c else nF16 (XT.ushr a 8) (c + (-8))
def nF6 (a c : Int32) : Int32 := if a < 65536 then nF256 a c else nF256 (XT.ushr a 16) (c + (-16))
theorem own_nlzF {p : Int32} (hp : 0 < p) : JP.Integer_numberOfLeadingZeros_I.val p = nF6 p 31 := by
  unfold JP.Integer_numberOfLeadingZeros_I.val
  rw [if_pos hp]
  rfl
/-- p shifted right by s is a, and c is 31 - s -/
def NI (p a c : Int32) (s w : Nat) : Prop := a.toBitVec.toNat = p.toBitVec.toNat / 2 ^ s ∧ 0 < a.toBitVec.toNat ∧ a.toBitVec.toNat < w ∧ c = Int32.ofNat (31 - s) ∧ s + 1 < 32
theorem own_ni {p a c c' : Int32} {s w k w' : Nat} (h : NI p a c s w) (hk : k < 32) (hge : ¬ a.toBitVec.toNat < 2 ^ k) (hw : w ≤ w' * 2 ^ k) (hs : s + k + 1 < 32) (hc : Int32.ofNat (31 - s) + c' = Int32.ofNat (31 - (s + k))) : NI p (XT.ushr a (Int32.ofNat k)) (c + c') (s + k) w' := by
  obtain ⟨h1, h2, h3, h4, h5⟩ := h
  have e := own_ushrN a hk
  have hp := Nat.two_pow_pos k
  refine ⟨?_, ?_, ?_, by rw [h4, hc], hs⟩
  · rw [e, h1, Nat.div_div_eq_div_mul, Nat.pow_add]
  · rw [e]; exact Nat.div_pos (by omega) hp
  · rw [e]; exact Nat.div_lt_of_lt_mul (by rw [Nat.mul_comm]; omega)
def Res (p r : Int32) : Prop := ∃ k, k < 32 ∧ r = Int32.ofNat (31 - k) ∧ 2 ^ k ≤ p.toBitVec.toNat ∧ p.toBitVec.toNat < 2 ^ (k + 1)
theorem own_le {p a c : Int32} {s : Nat} (h : NI p a c s 4) : Res p (c - XT.ushr a 1) := by
  obtain ⟨h1, h2, h3, rfl, h5⟩ := h
  have e : (XT.ushr a 1).toBitVec.toNat = a.toBitVec.toNat / 2 := own_ushrN a (t := 1) (by decide)
  have hp := Nat.two_pow_pos s
  by_cases q : a.toBitVec.toNat < 2
  · have e0 : XT.ushr a 1 = 0 := Int32.toBitVec_inj.mp (BitVec.eq_of_toNat_eq (by rw [e]; show _ = 0; omega))
    have g1 : 1 ≤ p.toBitVec.toNat / 2 ^ s := by omega
    have g2 := (Nat.le_div_iff_mul_le hp).mp g1
    have g3 : p.toBitVec.toNat / 2 ^ s < 2 := by omega
    have g4 := (Nat.div_lt_iff_lt_mul hp).mp g3
    exact ⟨s, by omega, by rw [e0]; simp, by omega, by rw [Nat.pow_succ]; omega⟩
  · have e0 : XT.ushr a 1 = 1 := Int32.toBitVec_inj.mp (BitVec.eq_of_toNat_eq (by rw [e]; show _ = 1; omega))
    have g1 : 2 ≤ p.toBitVec.toNat / 2 ^ s := by omega
    have g2 := (Nat.le_div_iff_mul_le hp).mp g1
    have g3 : p.toBitVec.toNat / 2 ^ s < 4 := by omega
    have g4 := (Nat.div_lt_iff_lt_mul hp).mp g3
    refine ⟨s + 1, by omega, ?_, by rw [Nat.pow_succ]; omega, by rw [Nat.pow_succ, Nat.pow_succ]; omega⟩
    rw [e0]
    have : ∀ s : Fin 31, Int32.ofNat (31 - s.1) - 1 = Int32.ofNat (31 - (s.1 + 1)) := by decide
    exact this ⟨s, by omega⟩
theorem own_f4 {p a c : Int32} {s : Nat} (h : NI p a c s 16) (hs : s + 3 < 32) : Res p (nF4 a c) := by
  unfold nF4
  have hb : a.toBitVec.toNat < 2147483648 := by have := h.2.2.1; omega
  split
  · rename_i q
    exact own_le ⟨h.1, h.2.1, (own_ltN (k := 4) hb (by decide)).mp q, h.2.2.2⟩
  · rename_i q
    have q' : ¬ a.toBitVec.toNat < 4 := fun z => q ((own_ltN (k := 4) hb (by decide)).mpr z)
    have hc : ∀ s : Fin 29, Int32.ofNat (31 - s.1) + (-2) = Int32.ofNat (31 - (s.1 + 2)) := by decide
    exact own_le (own_ni (k := 2) (w' := 4) h (by decide) q' (by decide) (by omega) (hc ⟨s, by omega⟩))
theorem own_f16 {p a c : Int32} {s : Nat} (h : NI p a c s 256) (hs : s + 7 < 32) : Res p (nF16 a c) := by
  unfold nF16
  have hb : a.toBitVec.toNat < 2147483648 := by have := h.2.2.1; omega
  split
  · rename_i q
    exact own_f4 ⟨h.1, h.2.1, (own_ltN (k := 16) hb (by decide)).mp q, h.2.2.2⟩ (by omega)
  · rename_i q
    have q' : ¬ a.toBitVec.toNat < 16 := fun z => q ((own_ltN (k := 16) hb (by decide)).mpr z)
    have hc : ∀ s : Fin 25, Int32.ofNat (31 - s.1) + (-4) = Int32.ofNat (31 - (s.1 + 4)) := by decide
    exact own_f4 (own_ni (k := 4) (w' := 16) h (by decide) q' (by decide) (by omega) (hc ⟨s, by omega⟩)) (by omega)
theorem own_f256 {p a c : Int32} {s : Nat} (h : NI p a c s 65536) (hs : s + 15 < 32) : Res p (nF256 a c) := by
  unfold nF256
  have hb : a.toBitVec.toNat < 2147483648 := by have := h.2.2.1; omega
  split
  · rename_i q
    exact own_f16 ⟨h.1, h.2.1, (own_ltN (k := 256) hb (by decide)).mp q, h.2.2.2⟩ (by omega)
  · rename_i q
    have q' : ¬ a.toBitVec.toNat < 256 := fun z => q ((own_ltN (k := 256) hb (by decide)).mpr z)
    have hc : ∀ s : Fin 17, Int32.ofNat (31 - s.1) + (-8) = Int32.ofNat (31 - (s.1 + 8)) := by decide
    exact own_f16 (own_ni (k := 8) (w' := 256) h (by decide) q' (by decide) (by omega) (hc ⟨s, by omega⟩)) (by omega)
theorem own_nlz {p : Int32} (hp : 0 < p) : Res p (JP.Integer_numberOfLeadingZeros_I.val p) := by
  rw [own_nlzF hp]
  obtain ⟨hb, h0⟩ := own_pos hp
  have h : NI p p 31 0 4294967296 := ⟨by simp, h0, by omega, rfl, by decide⟩
  unfold nF6
  split
  · rename_i q
    exact own_f256 ⟨h.1, h.2.1, (own_ltN (k := 65536) hb (by decide)).mp q, h.2.2.2⟩ (by decide)
  · rename_i q
    have q' : ¬ p.toBitVec.toNat < 65536 := fun z => q ((own_ltN (k := 65536) hb (by decide)).mpr z)
    exact own_f256 (own_ni (k := 16) (w' := 65536) h (by decide) q' (by decide) (by decide) (by decide)) (by decide)
theorem dD_0 : decode k20 0 = .ok (.aload_n 0, 1) := by decide +kernel
theorem dD_1 : decode k20 1 = .ok (.invokespecial 5, 3) := by decide +kernel
theorem dD_4 : decode k20 4 = .ok (.aload_n 0, 1) := by decide +kernel
theorem dD_5 : decode k20 5 = .ok (.iconst 0, 1) := by decide +kernel
theorem dD_6 : decode k20 6 = .ok (.putfield 11, 3) := by decide +kernel
theorem dD_9 : decode k20 9 = .ok (.aload_n 0, 1) := by decide +kernel
theorem dD_10 : decode k20 10 = .ok (.iconst 1, 1) := by decide +kernel
theorem dD_11 : decode k20 11 = .ok (.newarray .int, 2) := by decide +kernel
theorem dD_13 : decode k20 13 = .ok (.putfield 17, 3) := by decide +kernel
theorem dD_16 : decode k20 16 = .ok (.aload_n 0, 1) := by decide +kernel
theorem dD_17 : decode k20 17 = .ok (.iconst 0, 1) := by decide +kernel
theorem dD_18 : decode k20 18 = .ok (.putfield 21, 3) := by decide +kernel
theorem dD_21 : decode k20 21 = .ok (.return_, 1) := by decide +kernel
theorem m_mb0 (l : Launch) (Z : State) (a0 : Array Value) (hw : ∀ d ∈ tables_1, d.before a0 Z = true) (a : Addr) (h : Heap) (E : eM Z h a) (F0 : fV Z h a .null) (F1 : fI Z h a (.int 0)) (F2 : fO Z h a (.int 0)) :
    MetW false l Z [] (⟨"java/math/MutableBigInteger", "<init>", "()V"⟩ : MethodName) k20 1 none [] (rM 1 1 1 12) #[(.ref a)] [a] h (fun v h' => v = none ∧ ∃ b : Addr, h.size ≤ b ∧ eM Z h' a ∧ fV Z h' a (.ref b) ∧ fI Z h' a (.int 0) ∧ fO Z h' a (.int 0) ∧ Exa Z h' b "[I" ∧ Av Z h' b .int [(.int 0)]) := by
  refine mO a0 #[.val (.ref a)] (fun _ _ _ m_ _ _ _ hs0 C => ?_)
  refine g_aloadN C dD_0 rfl rfl <| g_objInit C dD_1 (hW hw 48 rfl) (hW hw 17 rfl) (hW hw 18 rfl) rfl (by decide) (bL rfl) <| g_aloadN C dD_4 rfl rfl <| g_iconst 0 C dD_5 (by decide) ?_
  refine g_putfield (host := "") C dD_6 (Or.inl (hW hw 49 rfl)) Via.refl F2 E (Or.inl (hW hw 50 rfl)) (hW hw 42 rfl) (ty := .int) (by decide) rfl rfl (mm 0 rfl) (fun h1 W2 K3 => ?_)
  have f4 := Fld.same W2 F2
  have f5 := Fld.other W2 F0 (Or.inr (s69_50 hw))
  have f6 := Fld.other W2 F1 (Or.inr (s54_50 hw))
  refine g_aloadN C dD_9 rfl rfl <| g_iconst 1 C dD_10 (by decide) ?_
  refine g_newarray_ (ad := "[I") 1 [(.int 0)] C dD_11 (hW hw 79 rfl) (by decide) (by decide) (by decide) (by decide) (by decide) (by decide) (by decide) (fun a7 h8 e9 E10 l11 f12 f13 => ?_)
  have K14 := keep_ext E10
  have f15 := (f5.keep K14 nin0)
  have f16 := ((E.keep K3).keep K14)
  have f17 := (f6.keep K14 nin0)
  have f18 := (f4.keep K14 nin0)
  refine g_putfield (host := "") C dD_13 (Or.inl (hW hw 68 rfl)) Via.refl f15 f16 (Or.inl (hW hw 69 rfl)) (hW hw 42 rfl) (ty := (.array .int)) (by decide) rfl rfl (mm 1 rfl) (fun h19 W20 K21 => ?_)
  have f22 := Fld.same W20 f15
  have f23 := Fld.other W20 f17 (Or.inr (s54_69 hw))
  have f24 := Fld.other W20 f18 (Or.inr (s50_69 hw))
  refine g_aloadN C dD_16 rfl rfl <| g_iconst 0 C dD_17 (by decide) ?_
  have f25 := (f16.keep K21)
  refine g_putfield (host := "") C dD_18 (Or.inl (hW hw 53 rfl)) Via.refl f23 f25 (Or.inl (hW hw 54 rfl)) (hW hw 42 rfl) (ty := .int) (by decide) rfl rfl (mm 1 rfl) (fun h26 W27 K28 => ?_)
  have f29 := Fld.same W27 f23
  have f30 := Fld.other W27 f22 (Or.inr (s69_54 hw))
  have f31 := Fld.other W27 f24 (Or.inr (s50_54 hw))
  have f32 := (f25.keep K28)
  have f33 := ((f12.keep K21).keep K28)
  have f34 := ((f13.keep K21 (ninS (Nat.ne_of_gt (lL (lL E.lt K3.1) (Nat.le_of_eq e9.symm))) nin0)).keep K28 (ninS (Nat.ne_of_gt (lL (lL E.lt K3.1) (Nat.le_of_eq e9.symm))) nin0))
  exact g_retU C dD_21 ⟨rfl, a7, lT K3.1 (Nat.le_of_eq e9.symm), f32, f30, f29, f31, f33, f34⟩ (by decide) (by decide)
theorem dE_0 : decode k39 0 = .ok (.iload_n 1, 1) := by decide +kernel
theorem dE_1 : decode k39 1 = .ok (.aload_n 0, 1) := by decide +kernel
theorem dE_2 : decode k39 2 = .ok (.arraylength, 1) := by decide +kernel
theorem dE_3 : decode k39 3 = .ok (.if_icmp .ne 11, 3) := by decide +kernel
theorem dE_6 : decode k39 6 = .ok (.aload_n 0, 1) := by decide +kernel
theorem dE_7 : decode k39 7 = .ok (.invokevirtual 316, 3) := by decide +kernel
theorem dE_10 : decode k39 10 = .ok (.checkcast 317, 3) := by decide +kernel
theorem dE_13 : decode k39 13 = .ok (.areturn, 1) := by decide +kernel
theorem m_copyOf1 (l : Launch) (Z : State) (a0 : Array Value) (hw : ∀ d ∈ tables_1, d.before a0 Z = true) (b : Addr) (m0 : Int32) (h : Heap) (Eb : Exa Z h b "[I") (A : Av Z h b .int [(.int m0)]) :
    MetW false l Z [] (⟨"java/util/Arrays", "copyOf", "([II)[I"⟩ : MethodName) k39 3 (some (.array Jvm.ClassFile.FieldType.int)) [] (rM 1 1 1 14) #[(.ref b), (.int 1)] [] h (fun v h' => ∃ d : Addr, v = some (.ref d) ∧ h.size ≤ d ∧ Exa Z h' d "[I" ∧ Av Z h' d .int [(.int m0)]) := by
  refine mO a0 #[.val (.ref b), .val (.int 1), .unset] (fun _ _ _ m_ _ _ _ hs0 C => ?_)
  refine g_iloadN C dE_0 rfl <| g_aloadN C dE_1 rfl rfl <| g_alen C dE_2 A (z := (1 : Int32)) rfl <| g_icmpF C dE_3 (show (1 : Int32) = (1 : Int32) by decide) <| g_aloadN C dE_6 rfl rfl ?_
  refine g_clone_ 1 C dE_7 (hW hw 59 rfl) (hW hw 60 rfl) (hW hw 64 rfl) (hW hw 62 rfl) (hW hw 63 rfl) (hW hw 65 rfl) A Eb (bL rfl) rfl (by decide) (bL rfl) (by decide) (by decide) (fun a1 h2 e3 E4 l5 f6 f7 => ?_)
  have K8 := keep_ext E4
  refine gA (mkF m_ 10 #[.val (.ref b), .val (.int 1), .unset] [(.ref a1)]) <| g_castY C dE_10 (hW hw 66 rfl) (Ins.self f6) ?_
  exact g_retA C dE_13 rfl rfl ⟨a1, rfl, lT (Nat.le_refl _) (Nat.le_of_eq e3.symm), f6, f7⟩ (by decide) (by decide)
theorem m_copyOf2 (l : Launch) (Z : State) (a0 : Array Value) (hw : ∀ d ∈ tables_1, d.before a0 Z = true) (b : Addr) (m0 m1 : Int32) (h : Heap) (Eb : Exa Z h b "[I") (A : Av Z h b .int [(.int m0), (.int m1)]) :
    MetW false l Z [] (⟨"java/util/Arrays", "copyOf", "([II)[I"⟩ : MethodName) k39 3 (some (.array Jvm.ClassFile.FieldType.int)) [] (rM 1 1 2 14) #[(.ref b), (.int 2)] [] h (fun v h' => ∃ d : Addr, v = some (.ref d) ∧ h.size ≤ d ∧ Exa Z h' d "[I" ∧ Av Z h' d .int [(.int m0), (.int m1)]) := by
  refine mO a0 #[.val (.ref b), .val (.int 2), .unset] (fun _ _ _ m_ _ _ _ hs0 C => ?_)
  refine g_iloadN C dE_0 rfl <| g_aloadN C dE_1 rfl rfl <| g_alen C dE_2 A (z := (2 : Int32)) rfl <| g_icmpF C dE_3 (show (2 : Int32) = (2 : Int32) by decide) <| g_aloadN C dE_6 rfl rfl ?_
  refine g_clone_ 2 C dE_7 (hW hw 59 rfl) (hW hw 60 rfl) (hW hw 64 rfl) (hW hw 62 rfl) (hW hw 63 rfl) (hW hw 65 rfl) A Eb (bL rfl) rfl (by decide) (bL rfl) (by decide) (by decide) (fun a1 h2 e3 E4 l5 f6 f7 => ?_)
  have K8 := keep_ext E4
  refine gA (mkF m_ 10 #[.val (.ref b), .val (.int 2), .unset] [(.ref a1)]) <| g_castY C dE_10 (hW hw 66 rfl) (Ins.self f6) ?_
  exact g_retA C dE_13 rfl rfl ⟨a1, rfl, lT (Nat.le_refl _) (Nat.le_of_eq e3.symm), f6, f7⟩ (by decide) (by decide)
theorem dF_0 : decode k26 0 = .ok (.aload_n 0, 1) := by decide +kernel
theorem dF_1 : decode k26 1 = .ok (.invokespecial 5, 3) := by decide +kernel
theorem dF_4 : decode k26 4 = .ok (.aload_n 0, 1) := by decide +kernel
theorem dF_5 : decode k26 5 = .ok (.iconst 0, 1) := by decide +kernel
theorem dF_6 : decode k26 6 = .ok (.putfield 11, 3) := by decide +kernel
theorem dF_9 : decode k26 9 = .ok (.aload_n 0, 1) := by decide +kernel
theorem dF_10 : decode k26 10 = .ok (.aload_n 1, 1) := by decide +kernel
theorem dF_11 : decode k26 11 = .ok (.getfield 24, 3) := by decide +kernel
theorem dF_14 : decode k26 14 = .ok (.arraylength, 1) := by decide +kernel
theorem dF_15 : decode k26 15 = .ok (.putfield 21, 3) := by decide +kernel
theorem dF_18 : decode k26 18 = .ok (.aload_n 0, 1) := by decide +kernel
theorem dF_19 : decode k26 19 = .ok (.aload_n 1, 1) := by decide +kernel
theorem dF_20 : decode k26 20 = .ok (.getfield 24, 3) := by decide +kernel
theorem dF_23 : decode k26 23 = .ok (.aload_n 0, 1) := by decide +kernel
theorem dF_24 : decode k26 24 = .ok (.getfield 21, 3) := by decide +kernel
theorem dF_27 : decode k26 27 = .ok (.invokestatic 27, 3) := by decide +kernel
theorem dF_30 : decode k26 30 = .ok (.putfield 17, 3) := by decide +kernel
theorem dF_33 : decode k26 33 = .ok (.return_, 1) := by decide +kernel
theorem m_mbB1 (l : Launch) (Z : State) (a0 : Array Value) (hw : ∀ d ∈ tables_1, d.before a0 Z = true) (a x b : Addr) (m0 : Int32) (h : Heap) (E : eM Z h a) (F0 : fV Z h a .null) (F1 : fI Z h a (.int 0)) (F2 : fO Z h a (.int 0)) (G : Fld Z h x "java/math/BigInteger" "mag" "[I" (.ref b)) (Eb : Exa Z h b "[I") (A : Av Z h b .int [(.int m0)]) (hxa : x ≠ a) (hba : b ≠ a) :
    MetW false l Z [] (⟨"java/math/MutableBigInteger", "<init>", "(Ljava/math/BigInteger;)V"⟩ : MethodName) k26 2 none [] (rM 2 1 1 29) #[(.ref a), (.ref x)] [a] h (fun v h' => v = none ∧ ∃ d : Addr, h.size ≤ d ∧ eM Z h' a ∧ fV Z h' a (.ref d) ∧ fI Z h' a (.int 1) ∧ fO Z h' a (.int 0) ∧ Exa Z h' d "[I" ∧ Av Z h' d .int [(.int m0)]) := by
  refine mO a0 #[.val (.ref a), .val (.ref x)] (fun _ _ _ m_ _ _ _ hs0 C => ?_)
  refine g_aloadN C dF_0 rfl rfl <| g_objInit C dF_1 (hW hw 48 rfl) (hW hw 17 rfl) (hW hw 18 rfl) rfl (by decide) (bL rfl) <| g_aloadN C dF_4 rfl rfl <| g_iconst 0 C dF_5 (by decide) ?_
  refine g_putfield (host := "") C dF_6 (Or.inl (hW hw 49 rfl)) Via.refl F2 E (Or.inl (hW hw 50 rfl)) (hW hw 42 rfl) (ty := .int) (by decide) rfl rfl (mm 0 rfl) (fun h1 W2 K3 => ?_)
  have f4 := Fld.same W2 F2
  have f5 := Fld.other W2 F0 (Or.inr (s69_50 hw))
  have f6 := Fld.other W2 F1 (Or.inr (s54_50 hw))
  refine g_aloadN C dF_9 rfl rfl <| g_aloadN C dF_10 rfl rfl ?_
  have f7 := (G.keep K3 (ninS hxa nin0))
  refine gF C dF_11 (hW hw 51 rfl) f7 ?_
  have f8 := (A.keep K3 (ninS hba nin0))
  refine g_alen C dF_14 f8 (z := (1 : Int32)) rfl ?_
  have f9 := (E.keep K3)
  refine g_putfield (host := "") C dF_15 (Or.inl (hW hw 53 rfl)) Via.refl f6 f9 (Or.inl (hW hw 54 rfl)) (hW hw 42 rfl) (ty := .int) (by decide) rfl rfl (mm 0 rfl) (fun h10 W11 K12 => ?_)
  have f13 := Fld.same W11 f6
  have f14 := Fld.other W11 f5 (Or.inr (s69_54 hw))
  have f15 := Fld.other W11 f4 (Or.inr (s50_54 hw))
  refine g_aloadN C dF_18 rfl rfl <| g_aloadN C dF_19 rfl rfl ?_
  have f16 := (f7.keep K12 (ninS hxa nin0))
  refine gF C dF_20 (hW hw 51 rfl) f16 <| g_aloadN C dF_23 rfl rfl <| gF C dF_24 (hW hw 53 rfl) f13 ?_
  have f21 := ((Eb.keep K3).keep K12)
  have f22 := (f8.keep K12 (ninS hba nin0))
  refine g_invokestatic [(.ref b), (.int 1)] [(.ref a)] 1 C dF_27 (hW hw 55 rfl) (hW hw 56 rfl) (hW hw 57 rfl) (hW hw 58 rfl) (by decide) (m_copyOf1 l Z a0 hw _ _ _ f21 f22) (lenOf pd1 rfl) rfl rfl (bL rfl) (by decide) (by decide) (by decide) (by decide) all0 (fun v23 h24 L25 q26 K27 => ?_)
  obtain ⟨d17, rfl, g18, f19, f20⟩ := q26
  refine gA (mkF m_ 30 #[.val (.ref a), .val (.ref x)] [(.ref d17), (.ref a)]) ?_
  have f28 := (f14.keep K27 nin0)
  have f29 := ((f9.keep K12).keep K27)
  have f30 := (f13.keep K27 nin0)
  have f31 := (f15.keep K27 nin0)
  refine g_putfield (host := "") C dF_30 (Or.inl (hW hw 68 rfl)) Via.refl f28 f29 (Or.inl (hW hw 69 rfl)) (hW hw 42 rfl) (ty := (.array .int)) (by decide) rfl rfl (mm 0 rfl) (fun h32 W33 K34 => ?_)
  have f35 := Fld.same W33 f28
  have f36 := Fld.other W33 f30 (Or.inr (s54_69 hw))
  have f37 := Fld.other W33 f31 (Or.inr (s50_69 hw))
  have f38 := (f29.keep K34)
  have f39 := (f19.keep K34)
  have f40 := (f20.keep K34 (ninS (Nat.ne_of_gt (lL (lL E.lt (lT K3.1 K12.1)) g18)) nin0))
  exact g_retU C dF_33 ⟨rfl, d17, lT (lT K3.1 K12.1) g18, f38, f35, f36, f37, f39, f40⟩ (by decide) (by decide)
theorem m_mbB2 (l : Launch) (Z : State) (a0 : Array Value) (hw : ∀ d ∈ tables_1, d.before a0 Z = true) (a x b : Addr) (m0 m1 : Int32) (h : Heap) (E : eM Z h a) (F0 : fV Z h a .null) (F1 : fI Z h a (.int 0)) (F2 : fO Z h a (.int 0)) (G : Fld Z h x "java/math/BigInteger" "mag" "[I" (.ref b)) (Eb : Exa Z h b "[I") (A : Av Z h b .int [(.int m0), (.int m1)]) (hxa : x ≠ a) (hba : b ≠ a) :
    MetW false l Z [] (⟨"java/math/MutableBigInteger", "<init>", "(Ljava/math/BigInteger;)V"⟩ : MethodName) k26 2 none [] (rM 2 1 2 29) #[(.ref a), (.ref x)] [a] h (fun v h' => v = none ∧ ∃ d : Addr, h.size ≤ d ∧ eM Z h' a ∧ fV Z h' a (.ref d) ∧ fI Z h' a (.int 2) ∧ fO Z h' a (.int 0) ∧ Exa Z h' d "[I" ∧ Av Z h' d .int [(.int m0), (.int m1)]) := by
  refine mO a0 #[.val (.ref a), .val (.ref x)] (fun _ _ _ m_ _ _ _ hs0 C => ?_)
  refine g_aloadN C dF_0 rfl rfl <| g_objInit C dF_1 (hW hw 48 rfl) (hW hw 17 rfl) (hW hw 18 rfl) rfl (by decide) (bL rfl) <| g_aloadN C dF_4 rfl rfl <| g_iconst 0 C dF_5 (by decide) ?_
  refine g_putfield (host := "") C dF_6 (Or.inl (hW hw 49 rfl)) Via.refl F2 E (Or.inl (hW hw 50 rfl)) (hW hw 42 rfl) (ty := .int) (by decide) rfl rfl (mm 0 rfl) (fun h1 W2 K3 => ?_)
  have f4 := Fld.same W2 F2
  have f5 := Fld.other W2 F0 (Or.inr (s69_50 hw))
  have f6 := Fld.other W2 F1 (Or.inr (s54_50 hw))
  refine g_aloadN C dF_9 rfl rfl <| g_aloadN C dF_10 rfl rfl ?_
  have f7 := (G.keep K3 (ninS hxa nin0))
  refine gF C dF_11 (hW hw 51 rfl) f7 ?_
  have f8 := (A.keep K3 (ninS hba nin0))
  refine g_alen C dF_14 f8 (z := (2 : Int32)) rfl ?_
  have f9 := (E.keep K3)
  refine g_putfield (host := "") C dF_15 (Or.inl (hW hw 53 rfl)) Via.refl f6 f9 (Or.inl (hW hw 54 rfl)) (hW hw 42 rfl) (ty := .int) (by decide) rfl rfl (mm 0 rfl) (fun h10 W11 K12 => ?_)
  have f13 := Fld.same W11 f6
  have f14 := Fld.other W11 f5 (Or.inr (s69_54 hw))
  have f15 := Fld.other W11 f4 (Or.inr (s50_54 hw))
  refine g_aloadN C dF_18 rfl rfl <| g_aloadN C dF_19 rfl rfl ?_
  have f16 := (f7.keep K12 (ninS hxa nin0))
  refine gF C dF_20 (hW hw 51 rfl) f16 <| g_aloadN C dF_23 rfl rfl <| gF C dF_24 (hW hw 53 rfl) f13 ?_
  have f21 := ((Eb.keep K3).keep K12)
  have f22 := (f8.keep K12 (ninS hba nin0))
  refine g_invokestatic [(.ref b), (.int 2)] [(.ref a)] 1 C dF_27 (hW hw 55 rfl) (hW hw 56 rfl) (hW hw 57 rfl) (hW hw 58 rfl) (by decide) (m_copyOf2 l Z a0 hw _ _ _ _ f21 f22) (lenOf pd1 rfl) rfl rfl (bL rfl) (by decide) (by decide) (by decide) (by decide) all0 (fun v23 h24 L25 q26 K27 => ?_)
  obtain ⟨d17, rfl, g18, f19, f20⟩ := q26
  refine gA (mkF m_ 30 #[.val (.ref a), .val (.ref x)] [(.ref d17), (.ref a)]) ?_
  have f28 := (f14.keep K27 nin0)
  have f29 := ((f9.keep K12).keep K27)
  have f30 := (f13.keep K27 nin0)
  have f31 := (f15.keep K27 nin0)
  refine g_putfield (host := "") C dF_30 (Or.inl (hW hw 68 rfl)) Via.refl f28 f29 (Or.inl (hW hw 69 rfl)) (hW hw 42 rfl) (ty := (.array .int)) (by decide) rfl rfl (mm 0 rfl) (fun h32 W33 K34 => ?_)
  have f35 := Fld.same W33 f28
  have f36 := Fld.other W33 f30 (Or.inr (s54_69 hw))
  have f37 := Fld.other W33 f31 (Or.inr (s50_69 hw))
  have f38 := (f29.keep K34)
  have f39 := (f19.keep K34)
  have f40 := (f20.keep K34 (ninS (Nat.ne_of_gt (lL (lL E.lt (lT K3.1 K12.1)) g18)) nin0))
  exact g_retU C dF_33 ⟨rfl, d17, lT (lT K3.1 K12.1) g18, f38, f35, f36, f37, f39, f40⟩ (by decide) (by decide)
theorem dG_0 : decode k19 0 = .ok (.aload_n 0, 1) := by decide +kernel
theorem dG_1 : decode k19 1 = .ok (.getfield 21, 3) := by decide +kernel
theorem dG_4 : decode k19 4 = .ok (.ifCond .ne 5, 3) := by decide +kernel
theorem dG_9 : decode k19 9 = .ok (.aload_n 0, 1) := by decide +kernel
theorem dG_10 : decode k19 10 = .ok (.getfield 21, 3) := by decide +kernel
theorem dG_13 : decode k19 13 = .ok (.iconst 1, 1) := by decide +kernel
theorem dG_14 : decode k19 14 = .ok (.isub, 1) := by decide +kernel
theorem dG_15 : decode k19 15 = .ok (.istore_n 1, 1) := by decide +kernel
theorem dG_16 : decode k19 16 = .ok (.iload_n 1, 1) := by decide +kernel
theorem dG_17 : decode k19 17 = .ok (.ifCond .le 23, 3) := by decide +kernel
theorem dG_40 : decode k19 40 = .ok (.aload_n 0, 1) := by decide +kernel
theorem dG_41 : decode k19 41 = .ok (.getfield 17, 3) := by decide +kernel
theorem dG_44 : decode k19 44 = .ok (.iload_n 1, 1) := by decide +kernel
theorem dG_45 : decode k19 45 = .ok (.aload_n 0, 1) := by decide +kernel
theorem dG_46 : decode k19 46 = .ok (.getfield 11, 3) := by decide +kernel
theorem dG_49 : decode k19 49 = .ok (.iadd, 1) := by decide +kernel
theorem dG_50 : decode k19 50 = .ok (.iaload, 1) := by decide +kernel
theorem dG_51 : decode k19 51 = .ok (.istore_n 2, 1) := by decide +kernel
theorem dG_52 : decode k19 52 = .ok (.iload_n 2, 1) := by decide +kernel
theorem dG_53 : decode k19 53 = .ok (.ifCond .ne 5, 3) := by decide +kernel
theorem dG_58 : decode k19 58 = .ok (.aload_n 0, 1) := by decide +kernel
theorem dG_59 : decode k19 59 = .ok (.getfield 21, 3) := by decide +kernel
theorem dG_62 : decode k19 62 = .ok (.iconst 1, 1) := by decide +kernel
theorem dG_63 : decode k19 63 = .ok (.isub, 1) := by decide +kernel
theorem dG_64 : decode k19 64 = .ok (.iload_n 1, 1) := by decide +kernel
theorem dG_65 : decode k19 65 = .ok (.isub, 1) := by decide +kernel
theorem dG_66 : decode k19 66 = .ok (.iconst 5, 1) := by decide +kernel
theorem dG_67 : decode k19 67 = .ok (.ishl, 1) := by decide +kernel
theorem dG_68 : decode k19 68 = .ok (.iload_n 2, 1) := by decide +kernel
theorem dG_69 : decode k19 69 = .ok (.invokestatic 89, 3) := by decide +kernel
theorem dG_72 : decode k19 72 = .ok (.iadd, 1) := by decide +kernel
theorem dG_73 : decode k19 73 = .ok (.ireturn, 1) := by decide +kernel
theorem m_glsb1 (l : Launch) (Z : State) (a0 : Array Value) (hw : ∀ d ∈ tables_1, d.before a0 Z = true) (a b : Addr) (m0 : Int32) (h : Heap) (E : eM Z h a) (F0 : fV Z h a (.ref b)) (F1 : fI Z h a (.int 1)) (F2 : fO Z h a (.int 0)) (A : Av Z h b .int [(.int m0)]) (k0 : ¬ m0 = 0) :
    MetW false l Z [] (⟨"java/math/MutableBigInteger", "getLowestSetBit", "()I"⟩ : MethodName) k19 3 (some .int) [] (rM 1 0 0 14) #[(.ref a)] [] h (fun v h' => v = some (.int (0 + JP.Integer_numberOfTrailingZeros_I.val m0))) := by
  refine mO a0 #[.val (.ref a), .unset, .unset] (fun _ _ _ m_ _ _ _ hs0 C => ?_)
  refine g_aloadN C dG_0 rfl rfl <| gF C dG_1 (hW hw 53 rfl) F1 <| g_ifT 9 C dG_4 (show ¬ (1 : Int32) = (0 : Int32) by decide) (by decide) (by decide) <| g_aloadN C dG_9 rfl rfl <| gF C dG_10 (hW hw 53 rfl) F1 <| g_iconst 1 C dG_13 (by decide) <| g_isub 0 C dG_14 (by decide) <| g_istoreN #[.val (.ref a), .val (.int 0), .unset] C dG_15 rfl <| g_iloadN C dG_16 rfl <| g_ifT 40 C dG_17 (show ¬ (0 : Int32) < (0 : Int32) by decide) (by decide) (by decide) <| g_aloadN C dG_40 rfl rfl ?_
  refine gF C dG_41 (hW hw 68 rfl) F0 <| g_iloadN C dG_44 rfl <| g_aloadN C dG_45 rfl rfl <| gF C dG_46 (hW hw 49 rfl) F2 <| g_iadd 0 C dG_49 (by decide) <| g_iaload 0 C dG_50 A (by decide) (by decide) rfl <| g_istoreN #[.val (.ref a), .val (.int 0), .val (.int m0)] C dG_51 rfl <| g_iloadN C dG_52 rfl <| g_ifT 58 C dG_53 (show ¬ m0 = (0 : Int32) from k0) (by decide) (by decide) <| g_aloadN C dG_58 rfl rfl <| gF C dG_59 (hW hw 53 rfl) F1 ?_
  refine g_iconst 1 C dG_62 (by decide) <| g_isub 0 C dG_63 (by decide) <| g_iloadN C dG_64 rfl <| g_isub 0 C dG_65 (by decide) <| g_iconst 5 C dG_66 (by decide) <| g_ishl 0 C dG_67 (by decide) <| g_iloadN C dG_68 rfl ?_
  refine g_invokestatic [(.int m0)] [(.int 0)] 1 C dG_69 (hW hw 94 rfl) (hW hw 95 rfl) (hW hw 96 rfl) (hW hw 97 rfl) (by decide) (m_ntz l Z a0 hw _ _) (lenOf pd0 rfl) rfl rfl (bL rfl) (by decide) (by decide) (by decide) (by decide) all0 (fun v1 h2 L3 q4 K5 => ?_)
  obtain rfl := q4
  refine gA (mkF m_ 72 #[.val (.ref a), .val (.int 0), .val (.int m0)] [(.int (JP.Integer_numberOfTrailingZeros_I.val m0)), (.int 0)]) <| g_iadd _ C dG_72 rfl ?_
  exact g_retI C dG_73 rfl (by decide) (by decide)
theorem dG_20 : decode k19 20 = .ok (.aload_n 0, 1) := by decide +kernel
theorem dG_21 : decode k19 21 = .ok (.getfield 17, 3) := by decide +kernel
theorem dG_24 : decode k19 24 = .ok (.iload_n 1, 1) := by decide +kernel
theorem dG_25 : decode k19 25 = .ok (.aload_n 0, 1) := by decide +kernel
theorem dG_26 : decode k19 26 = .ok (.getfield 11, 3) := by decide +kernel
theorem dG_29 : decode k19 29 = .ok (.iadd, 1) := by decide +kernel
theorem dG_30 : decode k19 30 = .ok (.iaload, 1) := by decide +kernel
theorem dG_31 : decode k19 31 = .ok (.ifCond .ne 9, 3) := by decide +kernel
theorem m_glsb2a (l : Launch) (Z : State) (a0 : Array Value) (hw : ∀ d ∈ tables_1, d.before a0 Z = true) (a b : Addr) (m0 m1 : Int32) (h : Heap) (E : eM Z h a) (F0 : fV Z h a (.ref b)) (F1 : fI Z h a (.int 2)) (F2 : fO Z h a (.int 0)) (A : Av Z h b .int [(.int m0), (.int m1)]) (k1 : ¬ m1 = 0) :
    MetW false l Z [] (⟨"java/math/MutableBigInteger", "getLowestSetBit", "()I"⟩ : MethodName) k19 3 (some .int) [] (rM 1 0 0 14) #[(.ref a)] [] h (fun v h' => v = some (.int (0 + JP.Integer_numberOfTrailingZeros_I.val m1))) := by
  refine mO a0 #[.val (.ref a), .unset, .unset] (fun _ _ _ m_ _ _ _ hs0 C => ?_)
  refine g_aloadN C dG_0 rfl rfl <| gF C dG_1 (hW hw 53 rfl) F1 <| g_ifT 9 C dG_4 (show ¬ (2 : Int32) = (0 : Int32) by decide) (by decide) (by decide) <| g_aloadN C dG_9 rfl rfl <| gF C dG_10 (hW hw 53 rfl) F1 <| g_iconst 1 C dG_13 (by decide) <| g_isub 1 C dG_14 (by decide) <| g_istoreN #[.val (.ref a), .val (.int 1), .unset] C dG_15 rfl <| g_iloadN C dG_16 rfl <| g_ifF C dG_17 (show (0 : Int32) < (1 : Int32) by decide) <| g_aloadN C dG_20 rfl rfl ?_
  refine gF C dG_21 (hW hw 68 rfl) F0 <| g_iloadN C dG_24 rfl <| g_aloadN C dG_25 rfl rfl <| gF C dG_26 (hW hw 49 rfl) F2 <| g_iadd 1 C dG_29 (by decide) <| g_iaload 1 C dG_30 A (by decide) (by decide) rfl <| g_ifT 40 C dG_31 (show ¬ m1 = (0 : Int32) from k1) (by decide) (by decide) <| g_aloadN C dG_40 rfl rfl <| gF C dG_41 (hW hw 68 rfl) F0 <| g_iloadN C dG_44 rfl <| g_aloadN C dG_45 rfl rfl ?_
  refine gF C dG_46 (hW hw 49 rfl) F2 <| g_iadd 1 C dG_49 (by decide) <| g_iaload 1 C dG_50 A (by decide) (by decide) rfl <| g_istoreN #[.val (.ref a), .val (.int 1), .val (.int m1)] C dG_51 rfl <| g_iloadN C dG_52 rfl <| g_ifT 58 C dG_53 (show ¬ m1 = (0 : Int32) from k1) (by decide) (by decide) <| g_aloadN C dG_58 rfl rfl <| gF C dG_59 (hW hw 53 rfl) F1 <| g_iconst 1 C dG_62 (by decide) <| g_isub 1 C dG_63 (by decide) <| g_iloadN C dG_64 rfl ?_
  refine g_isub 0 C dG_65 (by decide) <| g_iconst 5 C dG_66 (by decide) <| g_ishl 0 C dG_67 (by decide) <| g_iloadN C dG_68 rfl ?_
  refine g_invokestatic [(.int m1)] [(.int 0)] 1 C dG_69 (hW hw 94 rfl) (hW hw 95 rfl) (hW hw 96 rfl) (hW hw 97 rfl) (by decide) (m_ntz l Z a0 hw _ _) (lenOf pd0 rfl) rfl rfl (bL rfl) (by decide) (by decide) (by decide) (by decide) all0 (fun v1 h2 L3 q4 K5 => ?_)
  obtain rfl := q4
  refine gA (mkF m_ 72 #[.val (.ref a), .val (.int 1), .val (.int m1)] [(.int (JP.Integer_numberOfTrailingZeros_I.val m1)), (.int 0)]) <| g_iadd _ C dG_72 rfl ?_
  exact g_retI C dG_73 rfl (by decide) (by decide)
theorem dG_34 : decode k19 34 = .ok (.iinc 1 (-1), 3) := by decide +kernel
theorem dG_37 : decode k19 37 = .ok (.goto (-21), 3) := by decide +kernel
theorem m_glsb2b (l : Launch) (Z : State) (a0 : Array Value) (hw : ∀ d ∈ tables_1, d.before a0 Z = true) (a b : Addr) (m0 : Int32) (h : Heap) (E : eM Z h a) (F0 : fV Z h a (.ref b)) (F1 : fI Z h a (.int 2)) (F2 : fO Z h a (.int 0)) (A : Av Z h b .int [(.int m0), (.int 0)]) (k0 : ¬ m0 = 0) :
    MetW false l Z [] (⟨"java/math/MutableBigInteger", "getLowestSetBit", "()I"⟩ : MethodName) k19 3 (some .int) [] (rM 1 0 0 14) #[(.ref a)] [] h (fun v h' => v = some (.int (32 + JP.Integer_numberOfTrailingZeros_I.val m0))) := by
  refine mO a0 #[.val (.ref a), .unset, .unset] (fun _ _ _ m_ _ _ _ hs0 C => ?_)
  refine g_aloadN C dG_0 rfl rfl <| gF C dG_1 (hW hw 53 rfl) F1 <| g_ifT 9 C dG_4 (show ¬ (2 : Int32) = (0 : Int32) by decide) (by decide) (by decide) <| g_aloadN C dG_9 rfl rfl <| gF C dG_10 (hW hw 53 rfl) F1 <| g_iconst 1 C dG_13 (by decide) <| g_isub 1 C dG_14 (by decide) <| g_istoreN #[.val (.ref a), .val (.int 1), .unset] C dG_15 rfl <| g_iloadN C dG_16 rfl <| g_ifF C dG_17 (show (0 : Int32) < (1 : Int32) by decide) <| g_aloadN C dG_20 rfl rfl ?_
  refine gF C dG_21 (hW hw 68 rfl) F0 <| g_iloadN C dG_24 rfl <| g_aloadN C dG_25 rfl rfl <| gF C dG_26 (hW hw 49 rfl) F2 <| g_iadd 1 C dG_29 (by decide) <| g_iaload 1 C dG_30 A (by decide) (by decide) rfl <| g_ifF C dG_31 (show (0 : Int32) = (0 : Int32) by decide) <| g_iinc (0 : Int32) #[.val (.ref a), .val (.int 0), .unset] C dG_34 rfl (by decide) rfl <| g_goto 16 C dG_37 (by decide) (by decide) <| g_iloadN C dG_16 rfl <| g_ifT 40 C dG_17 (show ¬ (0 : Int32) < (0 : Int32) by decide) (by decide) (by decide) ?_
  refine g_aloadN C dG_40 rfl rfl <| gF C dG_41 (hW hw 68 rfl) F0 <| g_iloadN C dG_44 rfl <| g_aloadN C dG_45 rfl rfl <| gF C dG_46 (hW hw 49 rfl) F2 <| g_iadd 0 C dG_49 (by decide) <| g_iaload 0 C dG_50 A (by decide) (by decide) rfl <| g_istoreN #[.val (.ref a), .val (.int 0), .val (.int m0)] C dG_51 rfl <| g_iloadN C dG_52 rfl <| g_ifT 58 C dG_53 (show ¬ m0 = (0 : Int32) from k0) (by decide) (by decide) <| g_aloadN C dG_58 rfl rfl ?_
  refine gF C dG_59 (hW hw 53 rfl) F1 <| g_iconst 1 C dG_62 (by decide) <| g_isub 1 C dG_63 (by decide) <| g_iloadN C dG_64 rfl <| g_isub 1 C dG_65 (by decide) <| g_iconst 5 C dG_66 (by decide) <| g_ishl 32 C dG_67 (by decide) <| g_iloadN C dG_68 rfl ?_
  refine g_invokestatic [(.int m0)] [(.int 32)] 1 C dG_69 (hW hw 94 rfl) (hW hw 95 rfl) (hW hw 96 rfl) (hW hw 97 rfl) (by decide) (m_ntz l Z a0 hw _ _) (lenOf pd0 rfl) rfl rfl (bL rfl) (by decide) (by decide) (by decide) (by decide) all0 (fun v1 h2 L3 q4 K5 => ?_)
  obtain rfl := q4
  refine gA (mkF m_ 72 #[.val (.ref a), .val (.int 0), .val (.int m0)] [(.int (JP.Integer_numberOfTrailingZeros_I.val m0)), (.int 32)]) <| g_iadd _ C dG_72 rfl ?_
  exact g_retI C dG_73 rfl (by decide) (by decide)
/-- an int's worth without a sign -/
def uN (m : Int32) : Nat := m.toBitVec.toNat
theorem uN_lt (m : Int32) : uN m < 4294967296 := m.toBitVec.isLt
theorem uN_int (m : Int32) : ((uN m : Int) - m.toInt) % 4294967296 = 0 := by
  have e : m.toInt = m.toBitVec.toInt := rfl
  rw [e, BitVec.toInt_eq_toNat_cond]
  have := m.toBitVec.isLt
  unfold uN
  split <;> omega
theorem uN_inj {a b : Int32} : uN a = uN b ↔ a = b := ⟨fun e => Int32.toBitVec_inj.mp (BitVec.eq_of_toNat_eq e), fun e => by rw [e]⟩
theorem uN_zero {a : Int32} : uN a = 0 ↔ a = 0 := by rw [show (0 : Nat) = uN 0 from rfl]; exact uN_inj
theorem own_i32 {a b : Int32} (h : (a.toInt - b.toInt) % 4294967296 = 0) : a = b := by
  have l1 := a.toInt_lt; have l2 := a.le_toInt; have l3 := b.toInt_lt; have l4 := b.le_toInt
  have e1 : (2 : Int) ^ 31 = 2147483648 := by decide
  simp only [e1] at l1 l2 l3 l4
  exact Int32.toInt_inj.mp (by omega)
theorem own_u (m : Int32) : (m.toInt64 &&& (4294967295 : Int64)).toInt = uN m := by
  rw [c_maskL _ _ 32 (by decide) (by decide), c_i2l]
  have h1 := uN_int m; have h2 := uN_lt m
  have e1 : ((2 ^ 32 : Nat) : Int) = 4294967296 := by decide
  rw [e1]; omega
theorem own_ult {a b : Int32} : (a.toInt64 &&& (4294967295 : Int64)) < (b.toInt64 &&& (4294967295 : Int64)) ↔ uN a < uN b := by
  rw [Int64.lt_iff_toInt_lt, own_u, own_u]; omega
theorem own_d0 (q : Int32) : (((q.toInt64 &&& (4294967295 : Int64)) - (1 : Int64)) + (0 : Int64)).toInt = (uN q : Int) - 1 := by
  have h1 := c_lsub (q.toInt64 &&& (4294967295 : Int64)) 1
  have h2 := c_ladd ((q.toInt64 &&& (4294967295 : Int64)) - (1 : Int64)) 0
  have e1 : (1 : Int64).toInt = 1 := by decide
  have e0 : (0 : Int64).toInt = 0 := by decide
  rw [own_u, e1] at h1
  rw [e0] at h2
  have b1 := (((q.toInt64 &&& (4294967295 : Int64)) - (1 : Int64)) + (0 : Int64)).toInt_lt
  have b2 := (((q.toInt64 &&& (4294967295 : Int64)) - (1 : Int64)) + (0 : Int64)).le_toInt
  have e2 : (2 : Int) ^ 63 = 9223372036854775808 := by decide
  simp only [e2] at b1 b2
  have := uN_lt q
  omega
theorem own_dA (q : Int32) : (((q.toInt64 &&& (4294967295 : Int64)) - (1 : Int64)) + (0 : Int64)).toInt32 = q - 1 := by
  apply own_i32
  have h1 := c_l2i (((q.toInt64 &&& (4294967295 : Int64)) - (1 : Int64)) + (0 : Int64))
  have h2 := c_isub q 1
  have h3 := uN_int q
  rw [own_d0] at h1
  have e1 : (1 : Int32).toInt = 1 := by decide
  rw [e1] at h2
  omega
theorem own_dAn {q : Int32} (h : ¬ q = 0) : ¬ (((q.toInt64 &&& (4294967295 : Int64)) - (1 : Int64)) + (0 : Int64)) < (0 : Int64) := by
  rw [Int64.lt_iff_toInt_lt, own_d0]
  have e0 : (0 : Int64).toInt = 0 := by decide
  have : uN q ≠ 0 := fun e => h (uN_zero.mp e)
  rw [e0]; omega
theorem own_p0 (p : Int32) : ((p.toInt64 &&& (4294967295 : Int64)) + (-1 : Int64)).toInt = (uN p : Int) - 1 := by
  have h2 := c_ladd (p.toInt64 &&& (4294967295 : Int64)) (-1)
  have e1 : (-1 : Int64).toInt = -1 := by decide
  rw [own_u, e1] at h2
  have b1 := ((p.toInt64 &&& (4294967295 : Int64)) + (-1 : Int64)).toInt_lt
  have b2 := ((p.toInt64 &&& (4294967295 : Int64)) + (-1 : Int64)).le_toInt
  have e2 : (2 : Int) ^ 63 = 9223372036854775808 := by decide
  simp only [e2] at b1 b2
  have := uN_lt p
  omega
theorem own_pA (p : Int32) : ((p.toInt64 &&& (4294967295 : Int64)) + (-1 : Int64)).toInt32 = p - 1 := by
  apply own_i32
  have h1 := c_l2i ((p.toInt64 &&& (4294967295 : Int64)) + (-1 : Int64))
  have h2 := c_isub p 1
  have h3 := uN_int p
  rw [own_p0] at h1
  have e1 : (1 : Int32).toInt = 1 := by decide
  rw [e1] at h2
  omega
theorem own_pAn {p : Int32} (h : ¬ p = 0) : ¬ ((p.toInt64 &&& (4294967295 : Int64)) + (-1 : Int64)) < (0 : Int64) := by
  rw [Int64.lt_iff_toInt_lt, own_p0]
  have e0 : (0 : Int64).toInt = 0 := by decide
  have : uN p ≠ 0 := fun e => h (uN_zero.mp e)
  rw [e0]; omega
theorem own_div1 (m : Int32) : ((m.toInt64 &&& (4294967295 : Int64)) / (1 : Int64)).toInt32 = m := by
  apply own_i32
  have h1 := c_l2i ((m.toInt64 &&& (4294967295 : Int64)) / (1 : Int64))
  have h2 := (c_ldiv (m.toInt64 &&& (4294967295 : Int64)) 1 1 (by decide) (by decide)).1 (by rw [own_u]; omega)
  rw [h2, own_u] at h1
  have h3 := uN_int m
  omega
theorem own_rem1 (m : Int32) : ((m.toInt64 &&& (4294967295 : Int64)) - (m.toInt64 * (1 : Int64))).toInt32 = 0 := by
  apply own_i32
  have h1 := c_l2i ((m.toInt64 &&& (4294967295 : Int64)) - (m.toInt64 * (1 : Int64)))
  have h2 := c_lsub (m.toInt64 &&& (4294967295 : Int64)) (m.toInt64 * (1 : Int64))
  have h3 := c_lmul m.toInt64 1
  have e1 : (1 : Int64).toInt = 1 := by decide
  have e0 : (0 : Int32).toInt = 0 := by decide
  rw [e1, c_i2l] at h3
  rw [own_u] at h2
  have h4 := uN_int m
  rw [e0]
  omega
theorem own_or0 (m : Int32) : ((0 : Int64) ||| (m.toInt64 &&& (4294967295 : Int64))) = (m.toInt64 &&& (4294967295 : Int64)) := by simp
theorem own_nn64 (m : Int32) : ¬ (m.toInt64 &&& (4294967295 : Int64)) < (0 : Int64) := by
  rw [Int64.lt_iff_toInt_lt, own_u]
  have e0 : (0 : Int64).toInt = 0 := by decide
  rw [e0]; omega
theorem own_ge1L {m : Int32} (h : ¬ m = 0) : ¬ (m.toInt64 &&& (4294967295 : Int64)) < (1 : Int64) := by
  rw [Int64.lt_iff_toInt_lt, own_u]
  have e0 : (1 : Int64).toInt = 1 := by decide
  have : uN m ≠ 0 := fun e => h (uN_zero.mp e)
  rw [e0]; omega
theorem own_ge1 {a : Int32} (h0 : ¬ a = 0) : ¬ a + (-2147483648 : Int32) < (-2147483647 : Int32) := by
  rw [Int32.lt_iff_toInt_lt]
  have h1 := c_iadd a (-2147483648)
  have e1 : (-2147483648 : Int32).toInt = -2147483648 := by decide
  have e2 : (-2147483647 : Int32).toInt = -2147483647 := by decide
  have h2 := uN_int a
  have h3 := uN_lt a
  have h4 : uN a ≠ 0 := fun e => h0 (uN_zero.mp e)
  have l1 := (a + (-2147483648 : Int32)).le_toInt
  have e3 : (2 : Int) ^ 31 = 2147483648 := by decide
  simp only [e3] at l1
  have l3 := a.toInt_lt; have l4 := a.le_toInt
  simp only [e3] at l3 l4
  rw [e1] at h1
  rw [e2]
  omega
/-- a BigInteger's sign and limbs -/
def sg (v : Int64) : Int32 := if v < 0 then -1 else if v = 0 then 0 else 1
def ab (v : Int64) : Int64 := if v < 0 then -v else v
def mg (v : Int64) : List Int32 := if v = 0 then [] else if (XT.ushrL (ab v) (32 : Int32)).toInt32 = 0 then [(ab v).toInt32] else [(XT.ushrL (ab v) (32 : Int32)).toInt32, (ab v).toInt32]
/-- a list of limbs that BigInteger keeps -/
def Canon (s : Int32) (ms : List Int32) : Prop := (s = 0 ∧ ms = []) ∨ ((s = 1 ∨ s = -1) ∧ ((∃ m, ¬ m = 0 ∧ ms = [m]) ∨ ∃ p q, ¬ p = 0 ∧ ms = [p, q]))
def worth : List Int32 → Nat
  | [] => 0
  | [m] => uN m
  | [p, q] => uN p * 4294967296 + uN q
  | _ => 0
def cmpM : List Int32 → List Int32 → Int32
  | [a], [b] => if a = b then 0 else if (a.toInt64 &&& (4294967295 : Int64)) < (b.toInt64 &&& (4294967295 : Int64)) then -1 else 1
  | [_], [_, _] => -1
  | [_, _], [_] => 1
  | [a, c], [b, d] => if a = b then (if c = d then 0 else if (c.toInt64 &&& (4294967295 : Int64)) < (d.toInt64 &&& (4294967295 : Int64)) then -1 else 1) else if (a.toInt64 &&& (4294967295 : Int64)) < (b.toInt64 &&& (4294967295 : Int64)) then -1 else 1
  | _, _ => 0
def cmpB (s : Int32) (ms : List Int32) (s' : Int32) (ms' : List Int32) : Int32 := if s = s' then (if s = 1 then cmpM ms ms' else if s = -1 then cmpM ms' ms else 0) else if s' < s then 1 else -1
def eqB (s : Int32) (ms : List Int32) (s' : Int32) (ms' : List Int32) : Int32 := if s = s' ∧ ms = ms' then 1 else 0
theorem uN_eq {a b : Int32} : a = b ↔ uN a = uN b := uN_inj.symm
theorem own_tri (x y : Int32) : (if x = y then (0 : Int32) else if (x.toInt64 &&& (4294967295 : Int64)) < (y.toInt64 &&& (4294967295 : Int64)) then -1 else 1) = if uN x < uN y then -1 else if uN x = uN y then 0 else 1 := by
  by_cases h : x = y
  · subst h; simp
  · have h' : ¬ uN x = uN y := fun e => h (uN_inj.mp e)
    rw [if_neg h, if_neg h']
    by_cases q : uN x < uN y
    · rw [if_pos (own_ult.mpr q), if_pos q]
    · rw [if_neg (fun z => q (own_ult.mp z)), if_neg q]
theorem own_cmpM {s : Int32} {ms ns : List Int32} (h1 : Canon s ms) (h2 : Canon s ns) (hs : ¬ s = 0) : cmpM ms ns = if worth ms < worth ns then -1 else if worth ms = worth ns then 0 else 1 := by
  rcases h1 with ⟨h, -⟩ | ⟨-, ⟨a, ha, rfl⟩ | ⟨a, c, ha, rfl⟩⟩
  · exact absurd h hs
  · rcases h2 with ⟨h, -⟩ | ⟨-, ⟨b, hb, rfl⟩ | ⟨b, d, hb, rfl⟩⟩
    · exact absurd h hs
    · exact own_tri a b
    · have h1 := uN_lt a; have h2 := uN_lt b; have h3 := uN_lt d
      have h4 : uN b ≠ 0 := fun e => hb (uN_zero.mp e)
      show (-1 : Int32) = if uN a < uN b * 4294967296 + uN d then -1 else if uN a = uN b * 4294967296 + uN d then 0 else 1
      rw [if_pos (by omega)]
  · rcases h2 with ⟨h, -⟩ | ⟨-, ⟨b, hb, rfl⟩ | ⟨b, d, hb, rfl⟩⟩
    · exact absurd h hs
    · have h1 := uN_lt a; have h2 := uN_lt b; have h3 := uN_lt c
      have h4 : uN a ≠ 0 := fun e => ha (uN_zero.mp e)
      show (1 : Int32) = if uN a * 4294967296 + uN c < uN b then -1 else if uN a * 4294967296 + uN c = uN b then 0 else 1
      rw [if_neg (by omega), if_neg (by omega)]
    · have h1 := uN_lt a; have h2 := uN_lt b; have h3 := uN_lt c; have h4 := uN_lt d
      show (if a = b then (if c = d then (0 : Int32) else if (c.toInt64 &&& (4294967295 : Int64)) < (d.toInt64 &&& (4294967295 : Int64)) then -1 else 1) else if (a.toInt64 &&& (4294967295 : Int64)) < (b.toInt64 &&& (4294967295 : Int64)) then -1 else 1) = if uN a * 4294967296 + uN c < uN b * 4294967296 + uN d then -1 else if uN a * 4294967296 + uN c = uN b * 4294967296 + uN d then 0 else 1
      by_cases h : a = b
      · subst h
        rw [if_pos rfl, own_tri]
        by_cases q : uN c < uN d
        · rw [if_pos q, if_pos (by omega)]
        · rw [if_neg q, if_neg (show ¬ uN a * 4294967296 + uN c < uN a * 4294967296 + uN d by omega)]
          by_cases q' : uN c = uN d
          · rw [if_pos q', if_pos (by omega)]
          · rw [if_neg q', if_neg (by omega)]
      · have h' : ¬ uN a = uN b := fun e => h (uN_inj.mp e)
        rw [if_neg h]
        by_cases q : uN a < uN b
        · rw [if_pos (own_ult.mpr q), if_pos (by omega)]
        · rw [if_neg (fun z => q (own_ult.mp z)), if_neg (by omega), if_neg (by omega)]
theorem own_abN (v : Int64) : (ab v).toBitVec.toNat = v.toInt.natAbs := by
  have e2 : (2 : Int) ^ 63 = 9223372036854775808 := by decide
  have b1 := v.toInt_lt; have b2 := v.le_toInt
  simp only [e2] at b1 b2
  have e0 : (0 : Int64).toInt = 0 := by decide
  have key : ∀ w : Int64, w.toInt = if w.toBitVec.toNat < 9223372036854775808 then (w.toBitVec.toNat : Int) else (w.toBitVec.toNat : Int) - 18446744073709551616 := fun w => by
    have e : w.toInt = w.toBitVec.toInt := rfl
    have := w.toBitVec.isLt
    rw [e, BitVec.toInt_eq_toNat_cond]
    split <;> split <;> omega
  unfold ab
  by_cases h : v < 0
  · rw [if_pos h]
    rw [Int64.lt_iff_toInt_lt, e0] at h
    have h1 := c_lneg v
    have h2 := key (-v)
    have h3 := (-v).toBitVec.isLt
    split at h2 <;> omega
  · rw [if_neg h]
    rw [Int64.lt_iff_toInt_lt, e0] at h
    have h2 := key v
    have h3 := v.toBitVec.isLt
    split at h2 <;> omega
theorem own_hiN (v : Int64) : uN (XT.ushrL (ab v) (32 : Int32)).toInt32 = v.toInt.natAbs / 4294967296 := by
  unfold uN
  have h3 := (ab v).toBitVec.isLt
  rw [JM.low32, JM.high32, own_abN] at *
  omega
theorem own_loN (v : Int64) : uN (ab v).toInt32 = v.toInt.natAbs % 4294967296 := by
  unfold uN
  rw [JM.low32, own_abN]
theorem own_v0 {v : Int64} : v = 0 ↔ v.toInt = 0 := by
  rw [← Int64.toInt_inj]; exact Iff.rfl
theorem own_canon (v : Int64) : Canon (sg v) (mg v) ∧ worth (mg v) = v.toInt.natAbs := by
  have e0 : (0 : Int64).toInt = 0 := by decide
  by_cases h : v = 0
  · subst h; exact ⟨Or.inl ⟨by decide, by decide⟩, by decide⟩
  · have h' : ¬ v.toInt = 0 := fun e => h (own_v0.mpr e)
    have hi := own_hiN v
    have lo := own_loN v
    have hs : sg v = 1 ∨ sg v = -1 := by
      unfold sg; rw [if_neg h]; split
      · exact Or.inr rfl
      · exact Or.inl rfl
    unfold mg
    rw [if_neg h]
    split
    · rename_i q
      rw [← uN_zero] at q
      refine ⟨Or.inr ⟨hs, Or.inl ⟨_, fun e => ?_, rfl⟩⟩, ?_⟩
      · rw [← uN_zero] at e; omega
      · simp only [worth]; omega
    · rename_i q
      refine ⟨Or.inr ⟨hs, Or.inr ⟨_, _, q, rfl⟩⟩, ?_⟩
      simp only [worth]; omega
theorem own_sg (v : Int64) : (sg v = -1 ∧ v.toInt < 0) ∨ (sg v = 0 ∧ v.toInt = 0) ∨ (sg v = 1 ∧ 0 < v.toInt) := by
  have e0 : (0 : Int64).toInt = 0 := by decide
  unfold sg
  by_cases h : v < 0
  · rw [if_pos h]; exact Or.inl ⟨rfl, by rw [Int64.lt_iff_toInt_lt, e0] at h; exact h⟩
  · rw [if_neg h]
    by_cases q : v = 0
    · rw [if_pos q]; exact Or.inr (Or.inl ⟨rfl, own_v0.mp q⟩)
    · rw [if_neg q]
      refine Or.inr (Or.inr ⟨rfl, ?_⟩)
      rw [Int64.lt_iff_toInt_lt, e0] at h
      have q2 : ¬ v.toInt = 0 := fun e => q (own_v0.mpr e)
      omega
theorem own_cmp (a b : Int64) : cmpB (sg a) (mg a) (sg b) (mg b) = if a < b then -1 else if a = b then 0 else 1 := by
  have ha := own_canon a; have hb := own_canon b
  have e : (a = b) ↔ a.toInt = b.toInt := Int64.toInt_inj.symm
  simp only [Int64.lt_iff_toInt_lt, e]
  unfold cmpB
  rcases own_sg a with ⟨sa, qa⟩ | ⟨sa, qa⟩ | ⟨sa, qa⟩ <;> rcases own_sg b with ⟨sb, qb⟩ | ⟨sb, qb⟩ | ⟨sb, qb⟩ <;> rw [sa, sb]
  · rw [if_pos rfl, if_neg (by decide), if_pos rfl, own_cmpM (sb ▸ hb.1) (sa ▸ ha.1) (by decide), ha.2, hb.2]
    repeat' split
    all_goals first | rfl | omega
  · rw [if_neg (by decide), if_neg (by decide), if_pos (by omega)]
  · rw [if_neg (by decide), if_neg (by decide), if_pos (by omega)]
  · rw [if_neg (by decide), if_pos (by decide), if_neg (by omega), if_neg (by omega)]
  · rw [if_pos rfl, if_neg (by decide), if_neg (by decide), if_neg (by omega), if_pos (by omega)]
  · rw [if_neg (by decide), if_neg (by decide), if_pos (by omega)]
  · rw [if_neg (by decide), if_pos (by decide), if_neg (by omega), if_neg (by omega)]
  · rw [if_neg (by decide), if_pos (by decide), if_neg (by omega), if_neg (by omega)]
  · rw [if_pos rfl, if_pos rfl, own_cmpM (sa ▸ ha.1) (sb ▸ hb.1) (by decide), ha.2, hb.2]
    repeat' split
    all_goals first | rfl | omega
theorem own_eq (a b : Int64) : eqB (sg a) (mg a) (sg b) (mg b) = if a = b then 1 else 0 := by
  unfold eqB
  by_cases h : a = b
  · subst h; rw [if_pos ⟨rfl, rfl⟩, if_pos rfl]
  · rw [if_neg h, if_neg]
    rintro ⟨h1, h2⟩
    have h3 := congrArg worth h2
    rw [(own_canon a).2, (own_canon b).2] at h3
    apply h
    apply Int64.toInt_inj.mp
    rcases own_sg a with ⟨sa, qa⟩ | ⟨sa, qa⟩ | ⟨sa, qa⟩ <;> rcases own_sg b with ⟨sb, qb⟩ | ⟨sb, qb⟩ | ⟨sb, qb⟩ <;> rw [sa, sb] at h1 <;> first | omega | (exact absurd h1 (by decide))
theorem own_few {v : Int64} (h0 : (0 : Int64) < v) (h1 : ¬ (16 : Int64) < v) : ¬ v.toInt32 < 0 ∧ 1 ≤ v.toInt32.toNatClampNeg ∧ v.toInt32.toNatClampNeg ≤ 16 ∧ sg v = 1 ∧ mg v = [Int32.ofNat v.toInt32.toNatClampNeg] := by
  have key : ∀ k : Fin 17, k.1 ≠ 0 → (fun v : Int64 => ¬ v.toInt32 < 0 ∧ 1 ≤ v.toInt32.toNatClampNeg ∧ v.toInt32.toNatClampNeg ≤ 16 ∧ sg v = 1 ∧ mg v = [Int32.ofNat v.toInt32.toNatClampNeg]) (Int64.ofNat k.1) := by decide
  rw [Int64.lt_iff_toInt_lt] at h0 h1
  have e0 : (0 : Int64).toInt = 0 := by decide
  have e1 : (16 : Int64).toInt = 16 := by decide
  rw [e0] at h0; rw [e1] at h1
  obtain ⟨k, hk⟩ : ∃ k : Fin 17, v.toInt = k.1 := ⟨⟨v.toInt.toNat, by omega⟩, by show _ = ((v.toInt.toNat : Nat) : Int); omega⟩
  have hv : v = Int64.ofNat k.1 := Int64.toInt_inj.mp (by rw [hk, Int64.toInt_ofNat_of_lt (by omega)])
  rw [hv]
  exact key k (by omega)
theorem own_fewN {v : Int64} (h0 : v < (0 : Int64)) (h1 : ¬ v < (-16 : Int64)) : ¬ (-v).toInt32 < 0 ∧ 1 ≤ (-v).toInt32.toNatClampNeg ∧ (-v).toInt32.toNatClampNeg ≤ 16 ∧ sg v = -1 ∧ mg v = [Int32.ofNat (-v).toInt32.toNatClampNeg] := by
  have key : ∀ k : Fin 17, k.1 ≠ 0 → (fun v : Int64 => ¬ (-v).toInt32 < 0 ∧ 1 ≤ (-v).toInt32.toNatClampNeg ∧ (-v).toInt32.toNatClampNeg ≤ 16 ∧ sg v = -1 ∧ mg v = [Int32.ofNat (-v).toInt32.toNatClampNeg]) (-(Int64.ofNat k.1)) := by decide
  rw [Int64.lt_iff_toInt_lt] at h0 h1
  have e0 : (0 : Int64).toInt = 0 := by decide
  have e1 : (-16 : Int64).toInt = -16 := by decide
  rw [e0] at h0; rw [e1] at h1
  obtain ⟨k, hk⟩ : ∃ k : Fin 17, v.toInt = -(k.1 : Int) := ⟨⟨(-v.toInt).toNat, by omega⟩, by show _ = -(((-v.toInt).toNat : Nat) : Int); omega⟩
  have hv : v = -(Int64.ofNat k.1) := by
    apply Int64.toInt_inj.mp
    have h2 := c_lneg (Int64.ofNat k.1)
    rw [Int64.toInt_ofNat_of_lt (by omega)] at h2
    have b1 := (-(Int64.ofNat k.1)).toInt_lt; have b2 := (-(Int64.ofNat k.1)).le_toInt
    have e2 : (2 : Int) ^ 63 = 9223372036854775808 := by decide
    simp only [e2] at b1 b2
    omega
  rw [hv]
  exact key k (by omega)
/-- a BigInteger at x of sign s with the limbs ms -/
def Big (Z : State) (h : Heap) (x : Addr) (s : Int32) (ms : List Int32) : Prop :=
  ∃ b : Addr, Exa Z h x "java/math/BigInteger" ∧ Fld Z h x "java/math/BigInteger" "signum" "I" (.int s) ∧ Fld Z h x "java/math/BigInteger" "mag" "[I" (.ref b) ∧ Exa Z h b "[I" ∧ Av Z h b .int (ms.map Value.int)
theorem Big.keep {Z : State} {h h' : Heap} {x : Addr} {s : Int32} {ms : List Int32} (F : Big Z h x s ms) (K : Keep h h' []) : Big Z h' x s ms := by
  obtain ⟨b, f1, f2, f3, f4, f5⟩ := F
  exact ⟨b, f1.keep K, f2.keep K nin0, f3.keep K nin0, f4.keep K, f5.keep K nin0⟩
theorem Big.ext {Z : State} {h h' : Heap} {x : Addr} {s : Int32} {ms : List Int32} (F : Big Z h x s ms) (E : Ext h h') : Big Z h' x s ms := F.keep (keep_ext E)
theorem Av.same2 {Z : State} {h : Heap} {a : Addr} {ty : FieldType} {vs ws : List Value} (A : Av Z h a ty vs) (B : Av Z h a ty ws) : vs = ws := by
  obtain ⟨c, A1, rfl, -⟩ := A
  obtain ⟨d, B1, rfl, -⟩ := B
  cases A1.1.symm.trans B1.1
  rfl
theorem Fld.one {Z : State} {h : Heap} {a : Addr} {C n d : String} {v w : Value} (F : Fld Z h a C n d v) (G : Fld Z h a C n d w) : v = w := Classical.byContradiction fun q => Fld.ne F G q rfl
theorem own_mapI : ∀ (ms ns : List Int32), ms.map Value.int = ns.map Value.int → ms = ns
  | [], [], _ => rfl
  | [], _ :: _, e => nomatch e
  | _ :: _, [], e => nomatch e
  | a :: l, b :: r, e => by
    simp only [List.map_cons] at e
    injection e with e1 e2
    injection e1 with e1
    rw [e1, own_mapI l r e2]
theorem Big.one {Z : State} {h : Heap} {x : Addr} {s s' : Int32} {ms ms' : List Int32} (F : Big Z h x s ms) (G : Big Z h x s' ms') : s = s' ∧ ms = ms' := by
  obtain ⟨b, f1, f2, f3, f4, f5⟩ := F
  obtain ⟨b', g1, g2, g3, g4, g5⟩ := G
  have e1 := Fld.one f2 g2
  have e2 := Fld.one f3 g3
  injection e1 with e1
  injection e2 with e2
  subst e2
  exact ⟨e1, own_mapI _ _ (Av.same2 f5 g5)⟩
/-- the table of the small constants of one sign -/
def Tab (Z : State) (ps : Addr) (s : Int32) : Prop := ∀ j : Nat, 1 ≤ j → j ≤ 16 → ∃ x : Addr, El Z ps (.object "java/math/BigInteger") j (.ref x) ∧ Big Z Z.heap x s [Int32.ofNat j]
/-- what BigInteger's statics hold at the start -/
def Start (Z : State) (ps ns one zero : Addr) : Prop :=
  Sta Z Z.heap "java/math/BigInteger" "posConst" "[Ljava/math/BigInteger;" (.ref ps) ∧ Tab Z ps 1 ∧ Sta Z Z.heap "java/math/BigInteger" "negConst" "[Ljava/math/BigInteger;" (.ref ns) ∧ Tab Z ns (-1) ∧ Sta Z Z.heap "java/math/BigInteger" "ONE" "Ljava/math/BigInteger;" (.ref one) ∧ Big Z Z.heap one 1 [1] ∧ Sta Z Z.heap "java/math/BigInteger" "ZERO" "Ljava/math/BigInteger;" (.ref zero) ∧ Big Z Z.heap zero 0 []
theorem own_sizeS {Z : State} {a0 : Array Value} {t : Term} {b : Addr} {ty : FieldType} {z : Int32} (ev : t.eval a0 Z none [] Z = some (.ref b)) (w1 : (Cond.arrayOf t ty).before a0 Z = true) (w2 : (Cond.eq (.length t) (.int z)).before a0 Z = true) : ∃ c, Arr Z Z.heap b c ty ∧ (c.slots.size : Int) = z.toInt := by
  obtain ⟨c, A⟩ := Arr.start ev (Cond.before_iff.mp w1)
  have L : (Term.length t).eval a0 Z none [] Z = some (.int z) := eqv_i (Term.int_eval z) (Cond.before_iff.mp w2)
  simp only [Term.eval, ev, Option.bind_eq_bind, Option.bind_some] at L
  obtain ⟨cell, h1, h2⟩ := Option.bind_eq_some_iff.mp L
  have h3 := (State.arrayAt?_spec h1).1
  cases A.1.symm.trans h3
  split at h2
  · rename_i hlt
    have e1 : c.slots.size.toInt32 = z := Value.int.inj (Option.some.inj h2)
    exact ⟨c, A, by rw [← e1]; exact (Int32.toInt_ofNat_of_lt hlt).symm⟩
  · cases h2
theorem own_bigS {Z : State} {a0 : Array Value} {t : Term} {s k : Int32} (w0 : (Cond.exactly t "java/math/BigInteger").before a0 Z = true) (w1 : (Cond.eq (.field t "java/math/BigInteger" "signum" "I") (.int s)).before a0 Z = true) (w2 : (Cond.arrayOf (.field t "java/math/BigInteger" "mag" "[I") .int).before a0 Z = true) (w3 : (Cond.exactly (.field t "java/math/BigInteger" "mag" "[I") "[I").before a0 Z = true) (w4 : (Cond.eq (.length (.field t "java/math/BigInteger" "mag" "[I")) (.int 1)).before a0 Z = true) (w5 : (Cond.eq (.elem (.field t "java/math/BigInteger" "mag" "[I") (.int 0)) (.int k)).before a0 Z = true) :
    ∃ x : Addr, t.eval a0 Z none [] Z = some (.ref x) ∧ Big Z Z.heap x s [k] := by
  obtain ⟨x, ex⟩ := exa_v (Cond.before_iff.mp w0)
  obtain ⟨b, eb⟩ := exa_v (Cond.before_iff.mp w3)
  obtain ⟨c, A, hs⟩ := own_sizeS eb w2 w4
  have h1 : c.slots.size = 1 := by
    have : (1 : Int32).toInt = 1 := rfl
    omega
  obtain ⟨-, h2⟩ := elem_in (eqv_i (Term.int_eval k) (Cond.before_iff.mp w5)) eb (Term.int_eval 0) A.1
  refine ⟨x, ex, b, Exa.start ex (Cond.before_iff.mp w0), Fld.start ((fld_at ex).symm.trans (eqv_i (Term.int_eval s) (Cond.before_iff.mp w1))), Fld.start ((fld_at ex).symm.trans eb), Exa.start eb (Cond.before_iff.mp w3), c, A, ?_, (by show 1 < 2147483648; decide), ?_⟩
  · have hl : c.slots.toList.length = 1 := by rw [Array.length_toList]; exact h1
    have h0 : c.slots.toList[0]? = some (.int k) := by rw [Array.getElem?_toList]; exact h2
    revert hl h0
    generalize c.slots.toList = L
    intro hl h0
    match L, hl with
    | [v], _ =>
      have e : v = .int k := by simpa using h0
      rw [e]; rfl
  · intro v hv
    have : v = .int k := by simpa using hv
    rw [this]; rfl
theorem own_zeroS {Z : State} {a0 : Array Value} {t : Term} {s : Int32} (w0 : (Cond.exactly t "java/math/BigInteger").before a0 Z = true) (w1 : (Cond.eq (.field t "java/math/BigInteger" "signum" "I") (.int s)).before a0 Z = true) (w2 : (Cond.arrayOf (.field t "java/math/BigInteger" "mag" "[I") .int).before a0 Z = true) (w3 : (Cond.exactly (.field t "java/math/BigInteger" "mag" "[I") "[I").before a0 Z = true) (w4 : (Cond.eq (.length (.field t "java/math/BigInteger" "mag" "[I")) (.int 0)).before a0 Z = true) :
    ∃ x : Addr, t.eval a0 Z none [] Z = some (.ref x) ∧ Big Z Z.heap x s [] := by
  obtain ⟨x, ex⟩ := exa_v (Cond.before_iff.mp w0)
  obtain ⟨b, eb⟩ := exa_v (Cond.before_iff.mp w3)
  obtain ⟨c, A, hs⟩ := own_sizeS eb w2 w4
  have h1 : c.slots.size = 0 := by
    have : (0 : Int32).toInt = 0 := rfl
    omega
  refine ⟨x, ex, b, Exa.start ex (Cond.before_iff.mp w0), Fld.start ((fld_at ex).symm.trans (eqv_i (Term.int_eval s) (Cond.before_iff.mp w1))), Fld.start ((fld_at ex).symm.trans eb), Exa.start eb (Cond.before_iff.mp w3), c, A, ?_, by decide, fun _ q => nomatch q⟩
  simpa using h1
theorem own_tabE {Z : State} {a0 : Array Value} {u : Term} {ps : Addr} {s k : Int32} {j : Nat} (ep : u.eval a0 Z none [] Z = some (.ref ps)) (wa : (Cond.arrayOf u (.object "java/math/BigInteger")).before a0 Z = true) (hj : k.toNatClampNeg = j) (w0 : (Cond.exactly (.elem u (.int k)) "java/math/BigInteger").before a0 Z = true) (w1 : (Cond.eq (.field (.elem u (.int k)) "java/math/BigInteger" "signum" "I") (.int s)).before a0 Z = true) (w2 : (Cond.arrayOf (.field (.elem u (.int k)) "java/math/BigInteger" "mag" "[I") .int).before a0 Z = true) (w3 : (Cond.exactly (.field (.elem u (.int k)) "java/math/BigInteger" "mag" "[I") "[I").before a0 Z = true) (w4 : (Cond.eq (.length (.field (.elem u (.int k)) "java/math/BigInteger" "mag" "[I")) (.int 1)).before a0 Z = true) (w5 : (Cond.eq (.elem (.field (.elem u (.int k)) "java/math/BigInteger" "mag" "[I") (.int 0)) (.int k)).before a0 Z = true) :
    ∃ x : Addr, (Term.elem u (.int k)).eval a0 Z none [] Z = some (.ref x) ∧ El Z ps (.object "java/math/BigInteger") j (.ref x) ∧ Big Z Z.heap x s [k] := by
  obtain ⟨x, ex, B⟩ := own_bigS w0 w1 w2 w3 w4 w5
  obtain ⟨c, A⟩ := Arr.start ep (Cond.before_iff.mp wa)
  obtain ⟨-, h2⟩ := elem_in ex ep (Term.int_eval k) A.1
  exact ⟨x, ex, ⟨c, A, by rw [← hj]; exact h2⟩, B⟩
theorem own_eqR {Z : State} {a0 : Array Value} {a b : Term} {x : Addr} (ha : a.eval a0 Z none [] Z = some (.ref x)) (h : (Cond.eq a b).before a0 Z = true) : b.eval a0 Z none [] Z = some (.ref x) := by
  obtain ⟨x', y, h1, h2, k1, -⟩ := cmp_v (Or.inl (Cond.before_iff.mp h))
  cases ha.symm.trans h1
  have hy : y.isRef = true := k1.2
  have e := gotT (eq_R h1 h2 rfl hy) (Cond.before_iff.mp h)
  rw [h2, ← e]
/-- the shift counts that gcd uses -/
theorem own_k0 {m : Int32} (h : ¬ m = 0) : ¬ (0 + JP.Integer_numberOfTrailingZeros_I.val m) < 0 ∧ XT.ushr (0 + JP.Integer_numberOfTrailingZeros_I.val m) 5 = 0 := by
  obtain ⟨t, ht, hv, -⟩ := own_ntz h
  rw [hv]
  have : ∀ t : Fin 32, ¬ (0 + Int32.ofNat t.1) < 0 ∧ XT.ushr (0 + Int32.ofNat t.1) 5 = 0 := by decide
  exact this ⟨t, ht⟩
theorem own_k32 {m : Int32} (h : ¬ m = 0) : ¬ (32 + JP.Integer_numberOfTrailingZeros_I.val m) < 0 ∧ XT.ushr (32 + JP.Integer_numberOfTrailingZeros_I.val m) 5 = 1 := by
  obtain ⟨t, ht, hv, -⟩ := own_ntz h
  rw [hv]
  have : ∀ t : Fin 32, ¬ (32 + Int32.ofNat t.1) < 0 ∧ XT.ushr (32 + Int32.ofNat t.1) 5 = 1 := by decide
  exact this ⟨t, ht⟩
theorem own_and31 (k : Int32) : ∃ t : Nat, t < 32 ∧ k &&& 31 = Int32.ofNat t := by
  refine ⟨k.toBitVec.toNat % 32, Nat.mod_lt _ (by decide), ?_⟩
  apply Int32.toBitVec_inj.mp
  apply BitVec.eq_of_toNat_eq
  show (k.toBitVec &&& 31#32).toNat = (k.toBitVec.toNat % 32) % 2 ^ 32
  rw [BitVec.toNat_and, show (31#32).toNat = 2 ^ 5 - 1 from rfl, Nat.and_two_pow_sub_one_eq_mod]
  omega
theorem own_rsh {p k : Int32} (hp : ¬ p = 0) (h0 : ¬ k &&& 31 = 0) (h1 : k &&& 31 < 32 - JP.Integer_numberOfLeadingZeros_I.val p) : ¬ XT.ushr p (k &&& 31) = 0 ∧ uN (XT.ushr p (k &&& 31)) < uN p := by
  obtain ⟨t, ht, hk⟩ := own_and31 k
  rw [hk] at h0 h1 ⊢
  have t0 : t ≠ 0 := fun e => h0 (by rw [e]; rfl)
  have hN : uN p ≠ 0 := fun e => hp (uN_zero.mp e)
  have hlt := uN_lt p
  have key : 1 ≤ uN p / 2 ^ t := by
    by_cases hpos : 0 < p
    · obtain ⟨j, hj, hv, hle, -⟩ := own_nlz hpos
      rw [hv] at h1
      have hb : ∀ (j t : Fin 32), Int32.ofNat t.1 < 32 - Int32.ofNat (31 - j.1) → t.1 ≤ j.1 := by decide
      have htj := hb ⟨j, hj⟩ ⟨t, ht⟩ h1
      have : 2 ^ t ≤ 2 ^ j := Nat.pow_le_pow_right (by decide) htj
      exact (Nat.le_div_iff_mul_le (Nat.two_pow_pos t)).mpr (by unfold uN; omega)
    · have h2 : 2147483648 ≤ uN p := by
        have h3 := uN_int p
        rw [Int32.lt_iff_toInt_lt] at hpos
        have e0 : (0 : Int32).toInt = 0 := by decide
        have l1 := p.le_toInt
        have e3 : (2 : Int) ^ 31 = 2147483648 := by decide
        simp only [e3] at l1
        omega
      have : 2 ^ t ≤ 2 ^ 31 := Nat.pow_le_pow_right (by decide) (by omega)
      exact (Nat.le_div_iff_mul_le (Nat.two_pow_pos t)).mpr (by omega)
  have e : uN (XT.ushr p (Int32.ofNat t)) = uN p / 2 ^ t := own_ushrN p ht
  refine ⟨fun q => ?_, ?_⟩
  · rw [← uN_zero, e] at q; omega
  · rw [e]
    exact Nat.div_lt_self (by omega) (Nat.one_lt_two_pow t0)
theorem eN_0 : decode k0 0 = .ok (.aload_n 0, 1) := by decide +kernel
theorem eN_1 : decode k0 1 = .ok (.invokespecial 1, 3) := by decide +kernel
theorem eN_4 : decode k0 4 = .ok (.return_, 1) := by decide +kernel
theorem m_num (l : Launch) (Z : State) (a0 : Array Value) (hw : ∀ d ∈ tables_1, d.before a0 Z = true) (a : Addr) (h : Heap) :
    MetW false l Z [] (⟨"java/lang/Number", "<init>", "()V"⟩ : MethodName) k0 1 none [] (rM 1 0 0 12) #[(.ref a)] [] h (fun v h' => v = none) := by
  refine mO a0 #[.val (.ref a)] (fun _ _ _ m_ _ _ _ hs0 C => ?_)
  refine g_aloadN C eN_0 rfl rfl <| g_objInit C eN_1 (hW hw 130 rfl) (hW hw 17 rfl) (hW hw 18 rfl) rfl (by decide) (bL rfl) ?_
  exact g_retU C eN_4 rfl (by decide) (by decide)
theorem eBA_0 : decode k5 0 = .ok (.aload_n 0, 1) := by decide +kernel
theorem eBA_1 : decode k5 1 = .ok (.invokespecial 3, 3) := by decide +kernel
theorem eBA_4 : decode k5 4 = .ok (.aload_n 0, 1) := by decide +kernel
theorem eBA_5 : decode k5 5 = .ok (.aload_n 1, 1) := by decide +kernel
theorem eBA_6 : decode k5 6 = .ok (.arraylength, 1) := by decide +kernel
theorem eBA_7 : decode k5 7 = .ok (.ifCond .ne 7, 3) := by decide +kernel
theorem eBA_14 : decode k5 14 = .ok (.iload_n 2, 1) := by decide +kernel
theorem eBA_15 : decode k5 15 = .ok (.putfield 32, 3) := by decide +kernel
theorem eBA_18 : decode k5 18 = .ok (.aload_n 0, 1) := by decide +kernel
theorem eBA_19 : decode k5 19 = .ok (.aload_n 1, 1) := by decide +kernel
theorem eBA_20 : decode k5 20 = .ok (.putfield 28, 3) := by decide +kernel
theorem eBA_23 : decode k5 23 = .ok (.aload_n 0, 1) := by decide +kernel
theorem eBA_24 : decode k5 24 = .ok (.getfield 28, 3) := by decide +kernel
theorem eBA_27 : decode k5 27 = .ok (.arraylength, 1) := by decide +kernel
theorem eBA_28 : decode k5 28 = .ok (.ldc 43, 2) := by decide +kernel
theorem eBA_30 : decode k5 30 = .ok (.if_icmp .lt 7, 3) := by decide +kernel
theorem eBA_37 : decode k5 37 = .ok (.return_, 1) := by decide +kernel
theorem m_biA1 (l : Launch) (Z : State) (a0 : Array Value) (hw : ∀ d ∈ tables_1, d.before a0 Z = true) (a b : Addr) (s : Int32) (m0 : Int32) (h : Heap) (E : Exa Z h a "java/math/BigInteger") (F0 : Fld Z h a "java/math/BigInteger" "signum" "I" (.int 0)) (F1 : Fld Z h a "java/math/BigInteger" "mag" "[I" .null) (Eb : Exa Z h b "[I") (A : Av Z h b .int [(.int m0)]) (hba : b ≠ a) :
    MetW false l Z [] (⟨"java/math/BigInteger", "<init>", "([II)V"⟩ : MethodName) k5 3 none [] (rM 2 0 0 24) #[(.ref a), (.ref b), (.int s)] [a] h (fun v h' => v = none ∧ Big Z h' a s [m0]) := by
  refine mO a0 #[.val (.ref a), .val (.ref b), .val (.int s)] (fun _ _ _ m_ _ _ _ hs0 C => ?_)
  refine g_aloadN C eBA_0 rfl rfl ?_
  refine g_invokespecial [] [] 0 C eBA_1 rfl (hW hw 124 rfl) (hW hw 125 rfl) (hW hw 128 rfl) (hW hw 129 rfl) (by decide) (m_num l Z a0 hw _ _) (lenOf pd2 rfl) rfl rfl (bL rfl) (by decide) (by decide) (by decide) (by decide) all0 (fun v1 h2 L3 q4 K5 => ?_)
  obtain rfl := q4
  refine gA (mkF m_ 4 #[.val (.ref a), .val (.ref b), .val (.int s)] []) <| g_aloadN C eBA_4 rfl rfl <| g_aloadN C eBA_5 rfl rfl ?_
  have f6 := (A.keep K5 nin0)
  refine g_alen C eBA_6 f6 (z := (1 : Int32)) rfl <| g_ifT 14 C eBA_7 (show ¬ (1 : Int32) = (0 : Int32) by decide) (by decide) (by decide) <| g_iloadN C eBA_14 rfl ?_
  have f7 := (F0.keep K5 nin0)
  have f8 := (E.keep K5)
  have f9 := (F1.keep K5 nin0)
  refine g_putfield (host := "") C eBA_15 (Or.inl (hW hw 34 rfl)) Via.refl f7 f8 (Or.inr ⟨(hW hw 35 rfl), rfl, rfl⟩) (hW hw 114 rfl) (ty := .int) (by decide) rfl rfl (mm 0 rfl) (fun h10 W11 K12 => ?_)
  have f13 := Fld.same W11 f7
  have f14 := Fld.other W11 f9 (Or.inr (s52_35 hw))
  refine g_aloadN C eBA_18 rfl rfl <| g_aloadN C eBA_19 rfl rfl ?_
  have f15 := (f8.keep K12)
  refine g_putfield (host := "") C eBA_20 (Or.inl (hW hw 131 rfl)) Via.refl f14 f15 (Or.inr ⟨(hW hw 52 rfl), rfl, rfl⟩) (hW hw 114 rfl) (ty := (.array .int)) (by decide) rfl rfl (mm 0 rfl) (fun h16 W17 K18 => ?_)
  have f19 := Fld.same W17 f14
  have f20 := Fld.other W17 f13 (Or.inr (s35_52 hw))
  refine g_aloadN C eBA_23 rfl rfl <| gF C eBA_24 (hW hw 131 rfl) f19 ?_
  have f21 := ((f6.keep K12 (ninS hba nin0)).keep K18 (ninS hba nin0))
  refine g_alen C eBA_27 f21 (z := (1 : Int32)) rfl <| g_ldcInt 67108864 C eBA_28 (hW hw 132 rfl) <| g_icmpT 37 C eBA_30 (show (1 : Int32) < (67108864 : Int32) by decide) (by decide) (by decide) ?_
  have f22 := (f15.keep K18)
  have f23 := (((Eb.keep K5).keep K12).keep K18)
  exact g_retU C eBA_37 ⟨rfl, b, f22, f20, f19, f23, f21⟩ (by decide) (by decide)
theorem m_biA2 (l : Launch) (Z : State) (a0 : Array Value) (hw : ∀ d ∈ tables_1, d.before a0 Z = true) (a b : Addr) (s : Int32) (m0 m1 : Int32) (h : Heap) (E : Exa Z h a "java/math/BigInteger") (F0 : Fld Z h a "java/math/BigInteger" "signum" "I" (.int 0)) (F1 : Fld Z h a "java/math/BigInteger" "mag" "[I" .null) (Eb : Exa Z h b "[I") (A : Av Z h b .int [(.int m0), (.int m1)]) (hba : b ≠ a) :
    MetW false l Z [] (⟨"java/math/BigInteger", "<init>", "([II)V"⟩ : MethodName) k5 3 none [] (rM 2 0 0 24) #[(.ref a), (.ref b), (.int s)] [a] h (fun v h' => v = none ∧ Big Z h' a s [m0, m1]) := by
  refine mO a0 #[.val (.ref a), .val (.ref b), .val (.int s)] (fun _ _ _ m_ _ _ _ hs0 C => ?_)
  refine g_aloadN C eBA_0 rfl rfl ?_
  refine g_invokespecial [] [] 0 C eBA_1 rfl (hW hw 124 rfl) (hW hw 125 rfl) (hW hw 128 rfl) (hW hw 129 rfl) (by decide) (m_num l Z a0 hw _ _) (lenOf pd2 rfl) rfl rfl (bL rfl) (by decide) (by decide) (by decide) (by decide) all0 (fun v1 h2 L3 q4 K5 => ?_)
  obtain rfl := q4
  refine gA (mkF m_ 4 #[.val (.ref a), .val (.ref b), .val (.int s)] []) <| g_aloadN C eBA_4 rfl rfl <| g_aloadN C eBA_5 rfl rfl ?_
  have f6 := (A.keep K5 nin0)
  refine g_alen C eBA_6 f6 (z := (2 : Int32)) rfl <| g_ifT 14 C eBA_7 (show ¬ (2 : Int32) = (0 : Int32) by decide) (by decide) (by decide) <| g_iloadN C eBA_14 rfl ?_
  have f7 := (F0.keep K5 nin0)
  have f8 := (E.keep K5)
  have f9 := (F1.keep K5 nin0)
  refine g_putfield (host := "") C eBA_15 (Or.inl (hW hw 34 rfl)) Via.refl f7 f8 (Or.inr ⟨(hW hw 35 rfl), rfl, rfl⟩) (hW hw 114 rfl) (ty := .int) (by decide) rfl rfl (mm 0 rfl) (fun h10 W11 K12 => ?_)
  have f13 := Fld.same W11 f7
  have f14 := Fld.other W11 f9 (Or.inr (s52_35 hw))
  refine g_aloadN C eBA_18 rfl rfl <| g_aloadN C eBA_19 rfl rfl ?_
  have f15 := (f8.keep K12)
  refine g_putfield (host := "") C eBA_20 (Or.inl (hW hw 131 rfl)) Via.refl f14 f15 (Or.inr ⟨(hW hw 52 rfl), rfl, rfl⟩) (hW hw 114 rfl) (ty := (.array .int)) (by decide) rfl rfl (mm 0 rfl) (fun h16 W17 K18 => ?_)
  have f19 := Fld.same W17 f14
  have f20 := Fld.other W17 f13 (Or.inr (s35_52 hw))
  refine g_aloadN C eBA_23 rfl rfl <| gF C eBA_24 (hW hw 131 rfl) f19 ?_
  have f21 := ((f6.keep K12 (ninS hba nin0)).keep K18 (ninS hba nin0))
  refine g_alen C eBA_27 f21 (z := (2 : Int32)) rfl <| g_ldcInt 67108864 C eBA_28 (hW hw 132 rfl) <| g_icmpT 37 C eBA_30 (show (2 : Int32) < (67108864 : Int32) by decide) (by decide) (by decide) ?_
  have f22 := (f15.keep K18)
  have f23 := (((Eb.keep K5).keep K12).keep K18)
  exact g_retU C eBA_37 ⟨rfl, b, f22, f20, f19, f23, f21⟩ (by decide) (by decide)
theorem eBJ_0 : decode k7 0 = .ok (.aload_n 0, 1) := by decide +kernel
theorem eBJ_1 : decode k7 1 = .ok (.invokespecial 3, 3) := by decide +kernel
theorem eBJ_4 : decode k7 4 = .ok (.lload_n 1, 1) := by decide +kernel
theorem eBJ_5 : decode k7 5 = .ok (.lconst 0, 1) := by decide +kernel
theorem eBJ_6 : decode k7 6 = .ok (.lcmp, 1) := by decide +kernel
theorem eBJ_7 : decode k7 7 = .ok (.ifCond .ge 14, 3) := by decide +kernel
theorem eBJ_10 : decode k7 10 = .ok (.lload_n 1, 1) := by decide +kernel
theorem eBJ_11 : decode k7 11 = .ok (.lneg, 1) := by decide +kernel
theorem eBJ_12 : decode k7 12 = .ok (.lstore_n 1, 1) := by decide +kernel
theorem eBJ_13 : decode k7 13 = .ok (.aload_n 0, 1) := by decide +kernel
theorem eBJ_14 : decode k7 14 = .ok (.iconst (-1), 1) := by decide +kernel
theorem eBJ_15 : decode k7 15 = .ok (.putfield 32, 3) := by decide +kernel
theorem eBJ_18 : decode k7 18 = .ok (.goto 8, 3) := by decide +kernel
theorem eBJ_21 : decode k7 21 = .ok (.aload_n 0, 1) := by decide +kernel
theorem eBJ_22 : decode k7 22 = .ok (.iconst 1, 1) := by decide +kernel
theorem eBJ_23 : decode k7 23 = .ok (.putfield 32, 3) := by decide +kernel
theorem eBJ_26 : decode k7 26 = .ok (.lload_n 1, 1) := by decide +kernel
theorem eBJ_27 : decode k7 27 = .ok (.bipush 32, 2) := by decide +kernel
theorem eBJ_29 : decode k7 29 = .ok (.lushr, 1) := by decide +kernel
theorem eBJ_30 : decode k7 30 = .ok (.l2i, 1) := by decide +kernel
theorem eBJ_31 : decode k7 31 = .ok (.istore_n 3, 1) := by decide +kernel
theorem eBJ_32 : decode k7 32 = .ok (.iload_n 3, 1) := by decide +kernel
theorem eBJ_33 : decode k7 33 = .ok (.ifCond .ne 21, 3) := by decide +kernel
theorem eBJ_36 : decode k7 36 = .ok (.aload_n 0, 1) := by decide +kernel
theorem eBJ_37 : decode k7 37 = .ok (.iconst 1, 1) := by decide +kernel
theorem eBJ_38 : decode k7 38 = .ok (.newarray .int, 2) := by decide +kernel
theorem eBJ_40 : decode k7 40 = .ok (.putfield 28, 3) := by decide +kernel
theorem eBJ_43 : decode k7 43 = .ok (.aload_n 0, 1) := by decide +kernel
theorem eBJ_44 : decode k7 44 = .ok (.getfield 28, 3) := by decide +kernel
theorem eBJ_47 : decode k7 47 = .ok (.iconst 0, 1) := by decide +kernel
theorem eBJ_48 : decode k7 48 = .ok (.lload_n 1, 1) := by decide +kernel
theorem eBJ_49 : decode k7 49 = .ok (.l2i, 1) := by decide +kernel
theorem eBJ_50 : decode k7 50 = .ok (.iastore, 1) := by decide +kernel
theorem eBJ_51 : decode k7 51 = .ok (.goto 25, 3) := by decide +kernel
theorem eBJ_54 : decode k7 54 = .ok (.aload_n 0, 1) := by decide +kernel
theorem eBJ_55 : decode k7 55 = .ok (.iconst 2, 1) := by decide +kernel
theorem eBJ_56 : decode k7 56 = .ok (.newarray .int, 2) := by decide +kernel
theorem eBJ_58 : decode k7 58 = .ok (.putfield 28, 3) := by decide +kernel
theorem eBJ_61 : decode k7 61 = .ok (.aload_n 0, 1) := by decide +kernel
theorem eBJ_62 : decode k7 62 = .ok (.getfield 28, 3) := by decide +kernel
theorem eBJ_65 : decode k7 65 = .ok (.iconst 0, 1) := by decide +kernel
theorem eBJ_66 : decode k7 66 = .ok (.iload_n 3, 1) := by decide +kernel
theorem eBJ_67 : decode k7 67 = .ok (.iastore, 1) := by decide +kernel
theorem eBJ_68 : decode k7 68 = .ok (.aload_n 0, 1) := by decide +kernel
theorem eBJ_69 : decode k7 69 = .ok (.getfield 28, 3) := by decide +kernel
theorem eBJ_72 : decode k7 72 = .ok (.iconst 1, 1) := by decide +kernel
theorem eBJ_73 : decode k7 73 = .ok (.lload_n 1, 1) := by decide +kernel
theorem eBJ_74 : decode k7 74 = .ok (.l2i, 1) := by decide +kernel
theorem eBJ_75 : decode k7 75 = .ok (.iastore, 1) := by decide +kernel
theorem eBJ_76 : decode k7 76 = .ok (.return_, 1) := by decide +kernel
theorem m_biJ (l : Launch) (Z : State) (a0 : Array Value) (hw : ∀ d ∈ tables_1, d.before a0 Z = true) (a : Addr) (v : Int64) (hv : ¬ v = 0) (h : Heap) (E : Exa Z h a "java/math/BigInteger") (F0 : Fld Z h a "java/math/BigInteger" "signum" "I" (.int 0)) (F1 : Fld Z h a "java/math/BigInteger" "mag" "[I" .null) :
    MetW false l Z [] (⟨"java/math/BigInteger", "<init>", "(J)V"⟩ : MethodName) k7 4 none [] (rM 2 1 2 24) #[(.ref a), (.long v)] [a] h (fun v_ h' => v_ = none ∧ Big Z h' a (sg v) (mg v)) := by
  refine mO a0 #[.val (.ref a), .val (.long v), .second, .unset] (fun _ _ _ m_ _ _ _ hs0 C => ?_)
  refine g_aloadN C eBJ_0 rfl rfl ?_
  refine g_invokespecial [] [] 0 C eBJ_1 rfl (hW hw 124 rfl) (hW hw 125 rfl) (hW hw 128 rfl) (hW hw 129 rfl) (by decide) (m_num l Z a0 hw _ _) (lenOf pd2 rfl) rfl rfl (bL rfl) (by decide) (by decide) (by decide) (by decide) all0 (fun v1 h2 L3 q4 K5 => ?_)
  obtain rfl := q4
  refine gA (mkF m_ 4 #[.val (.ref a), .val (.long v), .second, .unset] []) <| g_lloadN C eBJ_4 rfl <| g_lconst (0 : Int64) C eBJ_5 (by decide) <| g_lcmp C eBJ_6 ?_
  by_cases cc6 : v < (0 : Int64)
  · refine g_ifF C eBJ_7 (cl_ge_f cc6) ?_
    refine g_lloadN C eBJ_10 rfl <| g_lneg _ C eBJ_11 rfl <| g_lstoreN #[.val (.ref a), .val (.long (-v)), .second, .unset] C eBJ_12 rfl <| g_aloadN C eBJ_13 rfl rfl <| g_iconst (-1) C eBJ_14 (by decide) ?_
    have f7 := (F0.keep K5 nin0)
    have f8 := (E.keep K5)
    have f9 := (F1.keep K5 nin0)
    refine g_putfield (host := "") C eBJ_15 (Or.inl (hW hw 34 rfl)) Via.refl f7 f8 (Or.inr ⟨(hW hw 35 rfl), rfl, rfl⟩) (hW hw 114 rfl) (ty := .int) (by decide) rfl rfl (mm 0 rfl) (fun h10 W11 K12 => ?_)
    have f13 := Fld.same W11 f7
    have f14 := Fld.other W11 f9 (Or.inr (s52_35 hw))
    refine g_goto 26 C eBJ_18 (by decide) (by decide) <| g_lloadN C eBJ_26 rfl <| g_bipush 32 C eBJ_27 (by decide) <| g_lushr _ C eBJ_29 rfl <| g_l2i _ C eBJ_30 rfl <| g_istoreN #[.val (.ref a), .val (.long (-v)), .second, .val (.int ((XT.ushrL (-v) (32 : Int32)).toInt32))] C eBJ_31 rfl <| g_iloadN C eBJ_32 rfl ?_
    by_cases cc15 : ((XT.ushrL (-v) (32 : Int32)).toInt32) = (0 : Int32)
    · refine g_ifF C eBJ_33 (show ((XT.ushrL (-v) (32 : Int32)).toInt32) = (0 : Int32) from cc15) ?_
      refine g_aloadN C eBJ_36 rfl rfl <| g_iconst 1 C eBJ_37 (by decide) ?_
      refine g_newarray_ (ad := "[I") 1 [(.int 0)] C eBJ_38 (hW hw 79 rfl) (by decide) (by decide) (by decide) (by decide) (by decide) (by decide) (by decide) (fun a16 h17 e18 E19 l20 f21 f22 => ?_)
      have K23 := keep_ext E19
      have f24 := (f14.keep K23 nin0)
      have f25 := ((f8.keep K12).keep K23)
      have f26 := (f13.keep K23 nin0)
      refine g_putfield (host := "") C eBJ_40 (Or.inl (hW hw 131 rfl)) Via.refl f24 f25 (Or.inr ⟨(hW hw 52 rfl), rfl, rfl⟩) (hW hw 114 rfl) (ty := (.array .int)) (by decide) rfl rfl (mm 1 rfl) (fun h27 W28 K29 => ?_)
      have f30 := Fld.same W28 f24
      have f31 := Fld.other W28 f26 (Or.inr (s35_52 hw))
      refine g_aloadN C eBJ_43 rfl rfl <| gF C eBJ_44 (hW hw 131 rfl) f30 <| g_iconst 0 C eBJ_47 (by decide) <| g_lloadN C eBJ_48 rfl <| g_l2i _ C eBJ_49 rfl ?_
      have f32 := (f22.keep K29 (ninS (Nat.ne_of_gt (lL (lL E.lt (lT K5.1 K12.1)) (Nat.le_of_eq e18.symm))) nin0))
      refine g_iastore 0 C eBJ_50 f32 (by decide) (by decide) (bL rfl) (mm 0 rfl) (fun h33 K34 z35 f36 => ?_)
      have f37 : Av Z h33 a16 .int [(.int ((-v).toInt32))] := f36
      refine g_goto 76 C eBJ_51 (by decide) (by decide) ?_
      have hs : sg v = (-1 : Int32) := by simp [sg, hv, cc6, cc15]
      have hm : mg v = [((-v).toInt32)] := by simp [mg, ab, hv, cc6, cc15]
      have f38 := ((f25.keep K29).keep K34)
      have f39 := (f31.keep K34 (ninS (Nat.ne_of_lt (lL (lL E.lt (lT K5.1 K12.1)) (Nat.le_of_eq e18.symm))) nin0))
      have f40 := (f30.keep K34 (ninS (Nat.ne_of_lt (lL (lL E.lt (lT K5.1 K12.1)) (Nat.le_of_eq e18.symm))) nin0))
      have f41 := ((f21.keep K29).keep K34)
      exact g_retU C eBJ_76 ⟨rfl, by rw [hs, hm]; exact ⟨a16, f38, f39, f40, f41, f37⟩⟩ (by decide) (by decide)
    · refine g_ifT 54 C eBJ_33 (show ¬ ((XT.ushrL (-v) (32 : Int32)).toInt32) = (0 : Int32) from cc15) (by decide) (by decide) ?_
      refine g_aloadN C eBJ_54 rfl rfl <| g_iconst 2 C eBJ_55 (by decide) ?_
      refine g_newarray_ (ad := "[I") 2 [(.int 0), (.int 0)] C eBJ_56 (hW hw 79 rfl) (by decide) (by decide) (by decide) (by decide) (by decide) (by decide) (by decide) (fun a42 h43 e44 E45 l46 f47 f48 => ?_)
      have K49 := keep_ext E45
      have f50 := (f14.keep K49 nin0)
      have f51 := ((f8.keep K12).keep K49)
      have f52 := (f13.keep K49 nin0)
      refine g_putfield (host := "") C eBJ_58 (Or.inl (hW hw 131 rfl)) Via.refl f50 f51 (Or.inr ⟨(hW hw 52 rfl), rfl, rfl⟩) (hW hw 114 rfl) (ty := (.array .int)) (by decide) rfl rfl (mm 1 rfl) (fun h53 W54 K55 => ?_)
      have f56 := Fld.same W54 f50
      have f57 := Fld.other W54 f52 (Or.inr (s35_52 hw))
      refine g_aloadN C eBJ_61 rfl rfl <| gF C eBJ_62 (hW hw 131 rfl) f56 <| g_iconst 0 C eBJ_65 (by decide) <| g_iloadN C eBJ_66 rfl ?_
      have f58 := (f48.keep K55 (ninS (Nat.ne_of_gt (lL (lL E.lt (lT K5.1 K12.1)) (Nat.le_of_eq e44.symm))) nin0))
      refine g_iastore 0 C eBJ_67 f58 (by decide) (by decide) (bL rfl) (mm 0 rfl) (fun h59 K60 z61 f62 => ?_)
      have f63 : Av Z h59 a42 .int [(.int ((XT.ushrL (-v) (32 : Int32)).toInt32)), (.int 0)] := f62
      refine g_aloadN C eBJ_68 rfl rfl ?_
      have f64 := (f56.keep K60 (ninS (Nat.ne_of_lt (lL (lL E.lt (lT K5.1 K12.1)) (Nat.le_of_eq e44.symm))) nin0))
      refine gF C eBJ_69 (hW hw 131 rfl) f64 <| g_iconst 1 C eBJ_72 (by decide) <| g_lloadN C eBJ_73 rfl <| g_l2i _ C eBJ_74 rfl ?_
      refine g_iastore 1 C eBJ_75 f63 (by decide) (by decide) (bL rfl) (mm 0 rfl) (fun h65 K66 z67 f68 => ?_)
      have f69 : Av Z h65 a42 .int [(.int ((XT.ushrL (-v) (32 : Int32)).toInt32)), (.int ((-v).toInt32))] := f68
      have hs : sg v = (-1 : Int32) := by simp [sg, hv, cc6, cc15]
      have hm : mg v = [((XT.ushrL (-v) (32 : Int32)).toInt32), ((-v).toInt32)] := by simp [mg, ab, hv, cc6, cc15]
      have f70 := (((f51.keep K55).keep K60).keep K66)
      have f71 := ((f57.keep K60 (ninS (Nat.ne_of_lt (lL (lL E.lt (lT K5.1 K12.1)) (Nat.le_of_eq e44.symm))) nin0)).keep K66 (ninS (Nat.ne_of_lt (lL (lL E.lt (lT K5.1 K12.1)) (Nat.le_of_eq e44.symm))) nin0))
      have f72 := (f64.keep K66 (ninS (Nat.ne_of_lt (lL (lL E.lt (lT K5.1 K12.1)) (Nat.le_of_eq e44.symm))) nin0))
      have f73 := (((f47.keep K55).keep K60).keep K66)
      exact g_retU C eBJ_76 ⟨rfl, by rw [hs, hm]; exact ⟨a42, f70, f71, f72, f73, f69⟩⟩ (by decide) (by decide)
  · refine g_ifT 21 C eBJ_7 (cl_ge_t cc6) (by decide) (by decide) ?_
    refine g_aloadN C eBJ_21 rfl rfl <| g_iconst 1 C eBJ_22 (by decide) ?_
    have f74 := (F0.keep K5 nin0)
    have f75 := (E.keep K5)
    have f76 := (F1.keep K5 nin0)
    refine g_putfield (host := "") C eBJ_23 (Or.inl (hW hw 34 rfl)) Via.refl f74 f75 (Or.inr ⟨(hW hw 35 rfl), rfl, rfl⟩) (hW hw 114 rfl) (ty := .int) (by decide) rfl rfl (mm 0 rfl) (fun h77 W78 K79 => ?_)
    have f80 := Fld.same W78 f74
    have f81 := Fld.other W78 f76 (Or.inr (s52_35 hw))
    refine g_lloadN C eBJ_26 rfl <| g_bipush 32 C eBJ_27 (by decide) <| g_lushr _ C eBJ_29 rfl <| g_l2i _ C eBJ_30 rfl <| g_istoreN #[.val (.ref a), .val (.long v), .second, .val (.int ((XT.ushrL v (32 : Int32)).toInt32))] C eBJ_31 rfl <| g_iloadN C eBJ_32 rfl ?_
    by_cases cc82 : ((XT.ushrL v (32 : Int32)).toInt32) = (0 : Int32)
    · refine g_ifF C eBJ_33 (show ((XT.ushrL v (32 : Int32)).toInt32) = (0 : Int32) from cc82) ?_
      refine g_aloadN C eBJ_36 rfl rfl <| g_iconst 1 C eBJ_37 (by decide) ?_
      refine g_newarray_ (ad := "[I") 1 [(.int 0)] C eBJ_38 (hW hw 79 rfl) (by decide) (by decide) (by decide) (by decide) (by decide) (by decide) (by decide) (fun a83 h84 e85 E86 l87 f88 f89 => ?_)
      have K90 := keep_ext E86
      have f91 := (f81.keep K90 nin0)
      have f92 := ((f75.keep K79).keep K90)
      have f93 := (f80.keep K90 nin0)
      refine g_putfield (host := "") C eBJ_40 (Or.inl (hW hw 131 rfl)) Via.refl f91 f92 (Or.inr ⟨(hW hw 52 rfl), rfl, rfl⟩) (hW hw 114 rfl) (ty := (.array .int)) (by decide) rfl rfl (mm 1 rfl) (fun h94 W95 K96 => ?_)
      have f97 := Fld.same W95 f91
      have f98 := Fld.other W95 f93 (Or.inr (s35_52 hw))
      refine g_aloadN C eBJ_43 rfl rfl <| gF C eBJ_44 (hW hw 131 rfl) f97 <| g_iconst 0 C eBJ_47 (by decide) <| g_lloadN C eBJ_48 rfl <| g_l2i _ C eBJ_49 rfl ?_
      have f99 := (f89.keep K96 (ninS (Nat.ne_of_gt (lL (lL E.lt (lT K5.1 K79.1)) (Nat.le_of_eq e85.symm))) nin0))
      refine g_iastore 0 C eBJ_50 f99 (by decide) (by decide) (bL rfl) (mm 0 rfl) (fun h100 K101 z102 f103 => ?_)
      have f104 : Av Z h100 a83 .int [(.int (v.toInt32))] := f103
      refine g_goto 76 C eBJ_51 (by decide) (by decide) ?_
      have hs : sg v = (1 : Int32) := by simp [sg, hv, cc6, cc82]
      have hm : mg v = [(v.toInt32)] := by simp [mg, ab, hv, cc6, cc82]
      have f105 := ((f92.keep K96).keep K101)
      have f106 := (f98.keep K101 (ninS (Nat.ne_of_lt (lL (lL E.lt (lT K5.1 K79.1)) (Nat.le_of_eq e85.symm))) nin0))
      have f107 := (f97.keep K101 (ninS (Nat.ne_of_lt (lL (lL E.lt (lT K5.1 K79.1)) (Nat.le_of_eq e85.symm))) nin0))
      have f108 := ((f88.keep K96).keep K101)
      exact g_retU C eBJ_76 ⟨rfl, by rw [hs, hm]; exact ⟨a83, f105, f106, f107, f108, f104⟩⟩ (by decide) (by decide)
    · refine g_ifT 54 C eBJ_33 (show ¬ ((XT.ushrL v (32 : Int32)).toInt32) = (0 : Int32) from cc82) (by decide) (by decide) ?_
      refine g_aloadN C eBJ_54 rfl rfl <| g_iconst 2 C eBJ_55 (by decide) ?_
      refine g_newarray_ (ad := "[I") 2 [(.int 0), (.int 0)] C eBJ_56 (hW hw 79 rfl) (by decide) (by decide) (by decide) (by decide) (by decide) (by decide) (by decide) (fun a109 h110 e111 E112 l113 f114 f115 => ?_)
      have K116 := keep_ext E112
      have f117 := (f81.keep K116 nin0)
      have f118 := ((f75.keep K79).keep K116)
      have f119 := (f80.keep K116 nin0)
      refine g_putfield (host := "") C eBJ_58 (Or.inl (hW hw 131 rfl)) Via.refl f117 f118 (Or.inr ⟨(hW hw 52 rfl), rfl, rfl⟩) (hW hw 114 rfl) (ty := (.array .int)) (by decide) rfl rfl (mm 1 rfl) (fun h120 W121 K122 => ?_)
      have f123 := Fld.same W121 f117
      have f124 := Fld.other W121 f119 (Or.inr (s35_52 hw))
      refine g_aloadN C eBJ_61 rfl rfl <| gF C eBJ_62 (hW hw 131 rfl) f123 <| g_iconst 0 C eBJ_65 (by decide) <| g_iloadN C eBJ_66 rfl ?_
      have f125 := (f115.keep K122 (ninS (Nat.ne_of_gt (lL (lL E.lt (lT K5.1 K79.1)) (Nat.le_of_eq e111.symm))) nin0))
      refine g_iastore 0 C eBJ_67 f125 (by decide) (by decide) (bL rfl) (mm 0 rfl) (fun h126 K127 z128 f129 => ?_)
      have f130 : Av Z h126 a109 .int [(.int ((XT.ushrL v (32 : Int32)).toInt32)), (.int 0)] := f129
      refine g_aloadN C eBJ_68 rfl rfl ?_
      have f131 := (f123.keep K127 (ninS (Nat.ne_of_lt (lL (lL E.lt (lT K5.1 K79.1)) (Nat.le_of_eq e111.symm))) nin0))
      refine gF C eBJ_69 (hW hw 131 rfl) f131 <| g_iconst 1 C eBJ_72 (by decide) <| g_lloadN C eBJ_73 rfl <| g_l2i _ C eBJ_74 rfl ?_
      refine g_iastore 1 C eBJ_75 f130 (by decide) (by decide) (bL rfl) (mm 0 rfl) (fun h132 K133 z134 f135 => ?_)
      have f136 : Av Z h132 a109 .int [(.int ((XT.ushrL v (32 : Int32)).toInt32)), (.int (v.toInt32))] := f135
      have hs : sg v = (1 : Int32) := by simp [sg, hv, cc6, cc82]
      have hm : mg v = [((XT.ushrL v (32 : Int32)).toInt32), (v.toInt32)] := by simp [mg, ab, hv, cc6, cc82]
      have f137 := (((f118.keep K122).keep K127).keep K133)
      have f138 := ((f124.keep K127 (ninS (Nat.ne_of_lt (lL (lL E.lt (lT K5.1 K79.1)) (Nat.le_of_eq e111.symm))) nin0)).keep K133 (ninS (Nat.ne_of_lt (lL (lL E.lt (lT K5.1 K79.1)) (Nat.le_of_eq e111.symm))) nin0))
      have f139 := (f131.keep K133 (ninS (Nat.ne_of_lt (lL (lL E.lt (lT K5.1 K79.1)) (Nat.le_of_eq e111.symm))) nin0))
      have f140 := (((f114.keep K122).keep K127).keep K133)
      exact g_retU C eBJ_76 ⟨rfl, by rw [hs, hm]; exact ⟨a109, f137, f138, f139, f140, f136⟩⟩ (by decide) (by decide)
theorem own_s0 : sg 0 = 0 := by decide
theorem own_m0 : mg 0 = [] := by decide
theorem eVO_0 : decode k6 0 = .ok (.lload_n 0, 1) := by decide +kernel
theorem eVO_1 : decode k6 1 = .ok (.lconst 0, 1) := by decide +kernel
theorem eVO_2 : decode k6 2 = .ok (.lcmp, 1) := by decide +kernel
theorem eVO_3 : decode k6 3 = .ok (.ifCond .ne 7, 3) := by decide +kernel
theorem eVO_6 : decode k6 6 = .ok (.getstatic 22, 3) := by decide +kernel
theorem eVO_9 : decode k6 9 = .ok (.areturn, 1) := by decide +kernel
theorem eVO_10 : decode k6 10 = .ok (.lload_n 0, 1) := by decide +kernel
theorem eVO_11 : decode k6 11 = .ok (.lconst 0, 1) := by decide +kernel
theorem eVO_12 : decode k6 12 = .ok (.lcmp, 1) := by decide +kernel
theorem eVO_13 : decode k6 13 = .ok (.ifCond .le 18, 3) := by decide +kernel
theorem eVO_16 : decode k6 16 = .ok (.lload_n 0, 1) := by decide +kernel
theorem eVO_17 : decode k6 17 = .ok (.ldc2_w 345, 3) := by decide +kernel
theorem eVO_20 : decode k6 20 = .ok (.lcmp, 1) := by decide +kernel
theorem eVO_21 : decode k6 21 = .ok (.ifCond .gt 10, 3) := by decide +kernel
theorem eVO_24 : decode k6 24 = .ok (.getstatic 347, 3) := by decide +kernel
theorem eVO_27 : decode k6 27 = .ok (.lload_n 0, 1) := by decide +kernel
theorem eVO_28 : decode k6 28 = .ok (.l2i, 1) := by decide +kernel
theorem eVO_29 : decode k6 29 = .ok (.aaload, 1) := by decide +kernel
theorem eVO_30 : decode k6 30 = .ok (.areturn, 1) := by decide +kernel
theorem eVO_31 : decode k6 31 = .ok (.lload_n 0, 1) := by decide +kernel
theorem eVO_32 : decode k6 32 = .ok (.lconst 0, 1) := by decide +kernel
theorem eVO_33 : decode k6 33 = .ok (.lcmp, 1) := by decide +kernel
theorem eVO_34 : decode k6 34 = .ok (.ifCond .ge 19, 3) := by decide +kernel
theorem eVO_37 : decode k6 37 = .ok (.lload_n 0, 1) := by decide +kernel
theorem eVO_38 : decode k6 38 = .ok (.ldc2_w 351, 3) := by decide +kernel
theorem eVO_41 : decode k6 41 = .ok (.lcmp, 1) := by decide +kernel
theorem eVO_42 : decode k6 42 = .ok (.ifCond .lt 11, 3) := by decide +kernel
theorem eVO_45 : decode k6 45 = .ok (.getstatic 353, 3) := by decide +kernel
theorem eVO_48 : decode k6 48 = .ok (.lload_n 0, 1) := by decide +kernel
theorem eVO_49 : decode k6 49 = .ok (.lneg, 1) := by decide +kernel
theorem eVO_50 : decode k6 50 = .ok (.l2i, 1) := by decide +kernel
theorem eVO_51 : decode k6 51 = .ok (.aaload, 1) := by decide +kernel
theorem eVO_52 : decode k6 52 = .ok (.areturn, 1) := by decide +kernel
theorem eVO_53 : decode k6 53 = .ok (.new 23, 3) := by decide +kernel
theorem eVO_56 : decode k6 56 = .ok (.dup, 1) := by decide +kernel
theorem eVO_57 : decode k6 57 = .ok (.lload_n 0, 1) := by decide +kernel
theorem eVO_58 : decode k6 58 = .ok (.invokespecial 356, 3) := by decide +kernel
theorem eVO_61 : decode k6 61 = .ok (.areturn, 1) := by decide +kernel
theorem m_valueOf (l : Launch) (Z : State) (a0 : Array Value) (hw : ∀ d ∈ tables_1, d.before a0 Z = true) (v : Int64) (h : Heap) {ps ns one zero : Addr} (ST : Start Z ps ns one zero) :
    MetW false l Z [] (⟨"java/math/BigInteger", "valueOf", "(J)Ljava/math/BigInteger;"⟩ : MethodName) k6 2 (some (.object "java/math/BigInteger")) [] (rM 3 2 8 40) #[(.long v)] [] h (fun v_ h' => ∃ z : Addr, v_ = some (.ref z) ∧ Big Z h' z (sg v) (mg v)) := by
  refine mO a0 #[.val (.long v), .second] (fun _ _ _ m_ _ _ _ hs0 C => ?_)
  refine Go.know (fun hX hK _ => ?_)
  refine g_lloadN C eVO_0 rfl <| g_lconst (0 : Int64) C eVO_1 (by decide) <| g_lcmp C eVO_2 ?_
  by_cases cc1 : v = (0 : Int64)
  · refine g_ifF C eVO_3 (cl_ne_f cc1) ?_
    refine g_getstatic (host := "") C eVO_6 (Or.inl (hW hw 268 rfl)) Via.refl ST.2.2.2.2.2.2.1 ?_
    subst cc1
    exact g_retA C eVO_9 rfl rfl ⟨_, rfl, by rw [own_s0, own_m0]; exact ST.2.2.2.2.2.2.2.ext hX⟩ (by decide) (by decide)
  · refine g_ifT 10 C eVO_3 (cl_ne_t cc1) (by decide) (by decide) ?_
    refine g_lloadN C eVO_10 rfl <| g_lconst (0 : Int64) C eVO_11 (by decide) <| g_lcmp C eVO_12 ?_
    by_cases cc2 : (0 : Int64) < v
    · refine g_ifF C eVO_13 (cl_le_f cc2) ?_
      refine g_lloadN C eVO_16 rfl <| g_ldc2w (16 : Int64) C eVO_17 (hW hw 10 rfl) <| g_lcmp C eVO_20 ?_
      by_cases cc3 : (16 : Int64) < v
      · refine g_ifT 31 C eVO_21 (cl_gt_t cc3) (by decide) (by decide) ?_
        refine g_lloadN C eVO_31 rfl <| g_lconst (0 : Int64) C eVO_32 (by decide) <| g_lcmp C eVO_33 ?_
        by_cases cc4 : v < (0 : Int64)
        · refine g_ifF C eVO_34 (cl_ge_f cc4) ?_
          refine g_lloadN C eVO_37 rfl <| g_ldc2w (-16 : Int64) C eVO_38 (hW hw 236 rfl) <| g_lcmp C eVO_41 ?_
          by_cases cc5 : v < (-16 : Int64)
          · refine g_ifT 53 C eVO_42 (cl_lt_t cc5) (by decide) (by decide) ?_
            refine g_new_ C eVO_53 (hW hw 201 rfl) (hW hw 114 rfl) (hW hw 8 rfl) (by decide) (by decide) (fun a6 h7 e8 E9 l10 f11 D12 => ?_)
            have K13 := keep_ext E9
            have f14 : Fld Z h7 a6 "java/math/BigInteger" "signum" "I" (.int 0) := D12 (Or.inr (hW hw 35 rfl)) (ty := .int) (by decide)
            have f15 : Fld Z h7 a6 "java/math/BigInteger" "mag" "[I" .null := D12 (Or.inr (hW hw 52 rfl)) (ty := (.array .int)) (by decide)
            refine g_dup C eVO_56 rfl <| g_lloadN C eVO_57 rfl ?_
            refine g_invokespecial [(.long v)] [(.ref a6)] 1 C eVO_58 rfl (hW hw 237 rfl) (hW hw 238 rfl) (hW hw 8 rfl) (hW hw 239 rfl) (by decide) (m_biJ l Z a0 hw _ _ cc1 _ f11 f14 f15) (lenOf pd3 rfl) rfl rfl (bL rfl) (by decide) (by decide) (by decide) (by decide) (allS (mm 0 rfl) all0) (fun v22 h23 L24 q25 K26 => ?_)
            obtain ⟨rfl, hB⟩ := q25
            refine gA (mkF m_ 61 #[.val (.long v), .second] [(.ref a6)]) ?_
            exact g_retA C eVO_61 rfl rfl ⟨_, rfl, hB⟩ (by decide) (by decide)
          · refine g_ifF C eVO_42 (cl_lt_f cc5) ?_
            refine g_getstatic (host := "") C eVO_45 (Or.inl (hW hw 267 rfl)) Via.refl ST.2.2.1 <| g_lloadN C eVO_48 rfl <| g_lneg _ C eVO_49 rfl <| g_l2i _ C eVO_50 rfl ?_
            obtain ⟨t1, t2, t3, t4, t5⟩ := own_fewN cc4 cc5
            obtain ⟨xx, hE, hB⟩ := ST.2.2.2.1 _ t2 t3
            refine g_aaloadZ C eVO_51 hE rfl t1 rfl <| gA (mkF m_ 52 #[.val (.long v), .second] [(.ref xx)]) ?_
            exact g_retA C eVO_52 rfl rfl ⟨_, rfl, by rw [t4, t5]; exact hB.ext hX⟩ (by decide) (by decide)
        · refine g_ifT 53 C eVO_34 (cl_ge_t cc4) (by decide) (by decide) ?_
          refine g_new_ C eVO_53 (hW hw 201 rfl) (hW hw 114 rfl) (hW hw 8 rfl) (by decide) (by decide) (fun a27 h28 e29 E30 l31 f32 D33 => ?_)
          have K34 := keep_ext E30
          have f35 : Fld Z h28 a27 "java/math/BigInteger" "signum" "I" (.int 0) := D33 (Or.inr (hW hw 35 rfl)) (ty := .int) (by decide)
          have f36 : Fld Z h28 a27 "java/math/BigInteger" "mag" "[I" .null := D33 (Or.inr (hW hw 52 rfl)) (ty := (.array .int)) (by decide)
          refine g_dup C eVO_56 rfl <| g_lloadN C eVO_57 rfl ?_
          refine g_invokespecial [(.long v)] [(.ref a27)] 1 C eVO_58 rfl (hW hw 237 rfl) (hW hw 238 rfl) (hW hw 8 rfl) (hW hw 239 rfl) (by decide) (m_biJ l Z a0 hw _ _ cc1 _ f32 f35 f36) (lenOf pd3 rfl) rfl rfl (bL rfl) (by decide) (by decide) (by decide) (by decide) (allS (mm 0 rfl) all0) (fun v43 h44 L45 q46 K47 => ?_)
          obtain ⟨rfl, hB⟩ := q46
          refine gA (mkF m_ 61 #[.val (.long v), .second] [(.ref a27)]) ?_
          exact g_retA C eVO_61 rfl rfl ⟨_, rfl, hB⟩ (by decide) (by decide)
      · refine g_ifF C eVO_21 (cl_gt_f cc3) ?_
        refine g_getstatic (host := "") C eVO_24 (Or.inl (hW hw 11 rfl)) Via.refl ST.1 <| g_lloadN C eVO_27 rfl <| g_l2i _ C eVO_28 rfl ?_
        obtain ⟨t1, t2, t3, t4, t5⟩ := own_few cc2 cc3
        obtain ⟨xx, hE, hB⟩ := ST.2.1 _ t2 t3
        refine g_aaloadZ C eVO_29 hE rfl t1 rfl <| gA (mkF m_ 30 #[.val (.long v), .second] [(.ref xx)]) ?_
        exact g_retA C eVO_30 rfl rfl ⟨_, rfl, by rw [t4, t5]; exact hB.ext hX⟩ (by decide) (by decide)
    · refine g_ifT 31 C eVO_13 (cl_le_t cc2) (by decide) (by decide) ?_
      refine g_lloadN C eVO_31 rfl <| g_lconst (0 : Int64) C eVO_32 (by decide) <| g_lcmp C eVO_33 ?_
      by_cases cc48 : v < (0 : Int64)
      · refine g_ifF C eVO_34 (cl_ge_f cc48) ?_
        refine g_lloadN C eVO_37 rfl <| g_ldc2w (-16 : Int64) C eVO_38 (hW hw 236 rfl) <| g_lcmp C eVO_41 ?_
        by_cases cc49 : v < (-16 : Int64)
        · refine g_ifT 53 C eVO_42 (cl_lt_t cc49) (by decide) (by decide) ?_
          refine g_new_ C eVO_53 (hW hw 201 rfl) (hW hw 114 rfl) (hW hw 8 rfl) (by decide) (by decide) (fun a50 h51 e52 E53 l54 f55 D56 => ?_)
          have K57 := keep_ext E53
          have f58 : Fld Z h51 a50 "java/math/BigInteger" "signum" "I" (.int 0) := D56 (Or.inr (hW hw 35 rfl)) (ty := .int) (by decide)
          have f59 : Fld Z h51 a50 "java/math/BigInteger" "mag" "[I" .null := D56 (Or.inr (hW hw 52 rfl)) (ty := (.array .int)) (by decide)
          refine g_dup C eVO_56 rfl <| g_lloadN C eVO_57 rfl ?_
          refine g_invokespecial [(.long v)] [(.ref a50)] 1 C eVO_58 rfl (hW hw 237 rfl) (hW hw 238 rfl) (hW hw 8 rfl) (hW hw 239 rfl) (by decide) (m_biJ l Z a0 hw _ _ cc1 _ f55 f58 f59) (lenOf pd3 rfl) rfl rfl (bL rfl) (by decide) (by decide) (by decide) (by decide) (allS (mm 0 rfl) all0) (fun v66 h67 L68 q69 K70 => ?_)
          obtain ⟨rfl, hB⟩ := q69
          refine gA (mkF m_ 61 #[.val (.long v), .second] [(.ref a50)]) ?_
          exact g_retA C eVO_61 rfl rfl ⟨_, rfl, hB⟩ (by decide) (by decide)
        · refine g_ifF C eVO_42 (cl_lt_f cc49) ?_
          refine g_getstatic (host := "") C eVO_45 (Or.inl (hW hw 267 rfl)) Via.refl ST.2.2.1 <| g_lloadN C eVO_48 rfl <| g_lneg _ C eVO_49 rfl <| g_l2i _ C eVO_50 rfl ?_
          obtain ⟨t1, t2, t3, t4, t5⟩ := own_fewN cc48 cc49
          obtain ⟨xx, hE, hB⟩ := ST.2.2.2.1 _ t2 t3
          refine g_aaloadZ C eVO_51 hE rfl t1 rfl <| gA (mkF m_ 52 #[.val (.long v), .second] [(.ref xx)]) ?_
          exact g_retA C eVO_52 rfl rfl ⟨_, rfl, by rw [t4, t5]; exact hB.ext hX⟩ (by decide) (by decide)
      · refine g_ifT 53 C eVO_34 (cl_ge_t cc48) (by decide) (by decide) ?_
        refine g_new_ C eVO_53 (hW hw 201 rfl) (hW hw 114 rfl) (hW hw 8 rfl) (by decide) (by decide) (fun a71 h72 e73 E74 l75 f76 D77 => ?_)
        have K78 := keep_ext E74
        have f79 : Fld Z h72 a71 "java/math/BigInteger" "signum" "I" (.int 0) := D77 (Or.inr (hW hw 35 rfl)) (ty := .int) (by decide)
        have f80 : Fld Z h72 a71 "java/math/BigInteger" "mag" "[I" .null := D77 (Or.inr (hW hw 52 rfl)) (ty := (.array .int)) (by decide)
        refine g_dup C eVO_56 rfl <| g_lloadN C eVO_57 rfl ?_
        refine g_invokespecial [(.long v)] [(.ref a71)] 1 C eVO_58 rfl (hW hw 237 rfl) (hW hw 238 rfl) (hW hw 8 rfl) (hW hw 239 rfl) (by decide) (m_biJ l Z a0 hw _ _ cc1 _ f76 f79 f80) (lenOf pd3 rfl) rfl rfl (bL rfl) (by decide) (by decide) (by decide) (by decide) (allS (mm 0 rfl) all0) (fun v87 h88 L89 q90 K91 => ?_)
        obtain ⟨rfl, hB⟩ := q90
        refine gA (mkF m_ 61 #[.val (.long v), .second] [(.ref a71)]) ?_
        exact g_retA C eVO_61 rfl rfl ⟨_, rfl, hB⟩ (by decide) (by decide)
theorem eSG_0 : decode k16 0 = .ok (.aload_n 0, 1) := by decide +kernel
theorem eSG_1 : decode k16 1 = .ok (.getfield 32, 3) := by decide +kernel
theorem eSG_4 : decode k16 4 = .ok (.ireturn, 1) := by decide +kernel
theorem m_signum (l : Launch) (Z : State) (a0 : Array Value) (hw : ∀ d ∈ tables_1, d.before a0 Z = true) (x : Addr) (s : Int32) (h : Heap) (S : Fld Z h x "java/math/BigInteger" "signum" "I" (.int s)) :
    MetW false l Z [] (⟨"java/math/BigInteger", "signum", "()I"⟩ : MethodName) k16 1 (some .int) [] (rM 0 0 0 0) #[(.ref x)] [] h (fun v h' => v = some (.int s)) := by
  refine mO a0 #[.val (.ref x)] (fun _ _ _ m_ _ _ _ hs0 C => ?_)
  refine g_aloadN C eSG_0 rfl rfl <| gF C eSG_1 (hW hw 34 rfl) S ?_
  exact g_retI C eSG_4 rfl (by decide) (by decide)
theorem eAB_0 : decode k15 0 = .ok (.aload_n 0, 1) := by decide +kernel
theorem eAB_1 : decode k15 1 = .ok (.getfield 32, 3) := by decide +kernel
theorem eAB_4 : decode k15 4 = .ok (.ifCond .lt 7, 3) := by decide +kernel
theorem eAB_7 : decode k15 7 = .ok (.aload_n 0, 1) := by decide +kernel
theorem eAB_8 : decode k15 8 = .ok (.goto 7, 3) := by decide +kernel
theorem eAB_15 : decode k15 15 = .ok (.areturn, 1) := by decide +kernel
theorem m_abs (l : Launch) (Z : State) (a0 : Array Value) (hw : ∀ d ∈ tables_1, d.before a0 Z = true) (x : Addr) (h : Heap) (S : Fld Z h x "java/math/BigInteger" "signum" "I" (.int 1)) :
    MetW false l Z [] (⟨"java/math/BigInteger", "abs", "()Ljava/math/BigInteger;"⟩ : MethodName) k15 1 (some (.object "java/math/BigInteger")) [] (rM 0 0 0 0) #[(.ref x)] [] h (fun v h' => v = some (.ref x)) := by
  refine mO a0 #[.val (.ref x)] (fun _ _ _ m_ _ _ _ hs0 C => ?_)
  refine g_aloadN C eAB_0 rfl rfl <| gF C eAB_1 (hW hw 34 rfl) S <| g_ifF C eAB_4 (show ¬ (1 : Int32) < (0 : Int32) by decide) <| g_aloadN C eAB_7 rfl rfl <| g_goto 15 C eAB_8 (by decide) (by decide) ?_
  exact g_retA C eAB_15 rfl rfl rfl (by decide) (by decide)
theorem eMA_0 : decode k23 0 = .ok (.aload_n 0, 1) := by decide +kernel
theorem eMA_1 : decode k23 1 = .ok (.invokespecial 5, 3) := by decide +kernel
theorem eMA_4 : decode k23 4 = .ok (.aload_n 0, 1) := by decide +kernel
theorem eMA_5 : decode k23 5 = .ok (.iconst 0, 1) := by decide +kernel
theorem eMA_6 : decode k23 6 = .ok (.putfield 11, 3) := by decide +kernel
theorem eMA_9 : decode k23 9 = .ok (.aload_n 0, 1) := by decide +kernel
theorem eMA_10 : decode k23 10 = .ok (.aload_n 1, 1) := by decide +kernel
theorem eMA_11 : decode k23 11 = .ok (.putfield 17, 3) := by decide +kernel
theorem eMA_14 : decode k23 14 = .ok (.aload_n 0, 1) := by decide +kernel
theorem eMA_15 : decode k23 15 = .ok (.aload_n 1, 1) := by decide +kernel
theorem eMA_16 : decode k23 16 = .ok (.arraylength, 1) := by decide +kernel
theorem eMA_17 : decode k23 17 = .ok (.putfield 21, 3) := by decide +kernel
theorem eMA_20 : decode k23 20 = .ok (.return_, 1) := by decide +kernel
theorem m_mbA0 (l : Launch) (Z : State) (a0 : Array Value) (hw : ∀ d ∈ tables_1, d.before a0 Z = true) (a b : Addr) (h : Heap) (E : eM Z h a) (F0 : fV Z h a .null) (F1 : fI Z h a (.int 0)) (F2 : fO Z h a (.int 0)) (A : Av Z h b .int []) (hba : b ≠ a) :
    MetW false l Z [] (⟨"java/math/MutableBigInteger", "<init>", "([I)V"⟩ : MethodName) k23 2 none [] (rM 1 0 0 12) #[(.ref a), (.ref b)] [a] h (fun v h' => v = none ∧ eM Z h' a ∧ fV Z h' a (.ref b) ∧ fI Z h' a (.int 0) ∧ fO Z h' a (.int 0)) := by
  refine mO a0 #[.val (.ref a), .val (.ref b)] (fun _ _ _ m_ _ _ _ hs0 C => ?_)
  refine g_aloadN C eMA_0 rfl rfl <| g_objInit C eMA_1 (hW hw 48 rfl) (hW hw 17 rfl) (hW hw 18 rfl) rfl (by decide) (bL rfl) <| g_aloadN C eMA_4 rfl rfl <| g_iconst 0 C eMA_5 (by decide) ?_
  refine g_putfield (host := "") C eMA_6 (Or.inl (hW hw 49 rfl)) Via.refl F2 E (Or.inl (hW hw 50 rfl)) (hW hw 42 rfl) (ty := .int) (by decide) rfl rfl (mm 0 rfl) (fun h1 W2 K3 => ?_)
  have f4 := Fld.same W2 F2
  have f5 := Fld.other W2 F0 (Or.inr (s69_50 hw))
  have f6 := Fld.other W2 F1 (Or.inr (s54_50 hw))
  refine g_aloadN C eMA_9 rfl rfl <| g_aloadN C eMA_10 rfl rfl ?_
  have f7 := (E.keep K3)
  refine g_putfield (host := "") C eMA_11 (Or.inl (hW hw 68 rfl)) Via.refl f5 f7 (Or.inl (hW hw 69 rfl)) (hW hw 42 rfl) (ty := (.array .int)) (by decide) rfl rfl (mm 0 rfl) (fun h8 W9 K10 => ?_)
  have f11 := Fld.same W9 f5
  have f12 := Fld.other W9 f6 (Or.inr (s54_69 hw))
  have f13 := Fld.other W9 f4 (Or.inr (s50_69 hw))
  refine g_aloadN C eMA_14 rfl rfl <| g_aloadN C eMA_15 rfl rfl ?_
  have f14 := ((A.keep K3 (ninS hba nin0)).keep K10 (ninS hba nin0))
  refine g_alen C eMA_16 f14 (z := (0 : Int32)) rfl ?_
  have f15 := (f7.keep K10)
  refine g_putfield (host := "") C eMA_17 (Or.inl (hW hw 53 rfl)) Via.refl f12 f15 (Or.inl (hW hw 54 rfl)) (hW hw 42 rfl) (ty := .int) (by decide) rfl rfl (mm 0 rfl) (fun h16 W17 K18 => ?_)
  have f19 := Fld.same W17 f12
  have f20 := Fld.other W17 f11 (Or.inr (s69_54 hw))
  have f21 := Fld.other W17 f13 (Or.inr (s50_54 hw))
  have f22 := (f15.keep K18)
  exact g_retU C eMA_20 ⟨rfl, f22, f20, f19, f21⟩ (by decide) (by decide)
theorem m_mbA1 (l : Launch) (Z : State) (a0 : Array Value) (hw : ∀ d ∈ tables_1, d.before a0 Z = true) (a b : Addr) (m0 : Int32) (h : Heap) (E : eM Z h a) (F0 : fV Z h a .null) (F1 : fI Z h a (.int 0)) (F2 : fO Z h a (.int 0)) (A : Av Z h b .int [(.int m0)]) (hba : b ≠ a) :
    MetW false l Z [] (⟨"java/math/MutableBigInteger", "<init>", "([I)V"⟩ : MethodName) k23 2 none [] (rM 1 0 0 12) #[(.ref a), (.ref b)] [a] h (fun v h' => v = none ∧ eM Z h' a ∧ fV Z h' a (.ref b) ∧ fI Z h' a (.int 1) ∧ fO Z h' a (.int 0)) := by
  refine mO a0 #[.val (.ref a), .val (.ref b)] (fun _ _ _ m_ _ _ _ hs0 C => ?_)
  refine g_aloadN C eMA_0 rfl rfl <| g_objInit C eMA_1 (hW hw 48 rfl) (hW hw 17 rfl) (hW hw 18 rfl) rfl (by decide) (bL rfl) <| g_aloadN C eMA_4 rfl rfl <| g_iconst 0 C eMA_5 (by decide) ?_
  refine g_putfield (host := "") C eMA_6 (Or.inl (hW hw 49 rfl)) Via.refl F2 E (Or.inl (hW hw 50 rfl)) (hW hw 42 rfl) (ty := .int) (by decide) rfl rfl (mm 0 rfl) (fun h1 W2 K3 => ?_)
  have f4 := Fld.same W2 F2
  have f5 := Fld.other W2 F0 (Or.inr (s69_50 hw))
  have f6 := Fld.other W2 F1 (Or.inr (s54_50 hw))
  refine g_aloadN C eMA_9 rfl rfl <| g_aloadN C eMA_10 rfl rfl ?_
  have f7 := (E.keep K3)
  refine g_putfield (host := "") C eMA_11 (Or.inl (hW hw 68 rfl)) Via.refl f5 f7 (Or.inl (hW hw 69 rfl)) (hW hw 42 rfl) (ty := (.array .int)) (by decide) rfl rfl (mm 0 rfl) (fun h8 W9 K10 => ?_)
  have f11 := Fld.same W9 f5
  have f12 := Fld.other W9 f6 (Or.inr (s54_69 hw))
  have f13 := Fld.other W9 f4 (Or.inr (s50_69 hw))
  refine g_aloadN C eMA_14 rfl rfl <| g_aloadN C eMA_15 rfl rfl ?_
  have f14 := ((A.keep K3 (ninS hba nin0)).keep K10 (ninS hba nin0))
  refine g_alen C eMA_16 f14 (z := (1 : Int32)) rfl ?_
  have f15 := (f7.keep K10)
  refine g_putfield (host := "") C eMA_17 (Or.inl (hW hw 53 rfl)) Via.refl f12 f15 (Or.inl (hW hw 54 rfl)) (hW hw 42 rfl) (ty := .int) (by decide) rfl rfl (mm 0 rfl) (fun h16 W17 K18 => ?_)
  have f19 := Fld.same W17 f12
  have f20 := Fld.other W17 f11 (Or.inr (s69_54 hw))
  have f21 := Fld.other W17 f13 (Or.inr (s50_54 hw))
  have f22 := (f15.keep K18)
  exact g_retU C eMA_20 ⟨rfl, f22, f20, f19, f21⟩ (by decide) (by decide)
theorem m_mbA2 (l : Launch) (Z : State) (a0 : Array Value) (hw : ∀ d ∈ tables_1, d.before a0 Z = true) (a b : Addr) (m0 m1 : Int32) (h : Heap) (E : eM Z h a) (F0 : fV Z h a .null) (F1 : fI Z h a (.int 0)) (F2 : fO Z h a (.int 0)) (A : Av Z h b .int [(.int m0), (.int m1)]) (hba : b ≠ a) :
    MetW false l Z [] (⟨"java/math/MutableBigInteger", "<init>", "([I)V"⟩ : MethodName) k23 2 none [] (rM 1 0 0 12) #[(.ref a), (.ref b)] [a] h (fun v h' => v = none ∧ eM Z h' a ∧ fV Z h' a (.ref b) ∧ fI Z h' a (.int 2) ∧ fO Z h' a (.int 0)) := by
  refine mO a0 #[.val (.ref a), .val (.ref b)] (fun _ _ _ m_ _ _ _ hs0 C => ?_)
  refine g_aloadN C eMA_0 rfl rfl <| g_objInit C eMA_1 (hW hw 48 rfl) (hW hw 17 rfl) (hW hw 18 rfl) rfl (by decide) (bL rfl) <| g_aloadN C eMA_4 rfl rfl <| g_iconst 0 C eMA_5 (by decide) ?_
  refine g_putfield (host := "") C eMA_6 (Or.inl (hW hw 49 rfl)) Via.refl F2 E (Or.inl (hW hw 50 rfl)) (hW hw 42 rfl) (ty := .int) (by decide) rfl rfl (mm 0 rfl) (fun h1 W2 K3 => ?_)
  have f4 := Fld.same W2 F2
  have f5 := Fld.other W2 F0 (Or.inr (s69_50 hw))
  have f6 := Fld.other W2 F1 (Or.inr (s54_50 hw))
  refine g_aloadN C eMA_9 rfl rfl <| g_aloadN C eMA_10 rfl rfl ?_
  have f7 := (E.keep K3)
  refine g_putfield (host := "") C eMA_11 (Or.inl (hW hw 68 rfl)) Via.refl f5 f7 (Or.inl (hW hw 69 rfl)) (hW hw 42 rfl) (ty := (.array .int)) (by decide) rfl rfl (mm 0 rfl) (fun h8 W9 K10 => ?_)
  have f11 := Fld.same W9 f5
  have f12 := Fld.other W9 f6 (Or.inr (s54_69 hw))
  have f13 := Fld.other W9 f4 (Or.inr (s50_69 hw))
  refine g_aloadN C eMA_14 rfl rfl <| g_aloadN C eMA_15 rfl rfl ?_
  have f14 := ((A.keep K3 (ninS hba nin0)).keep K10 (ninS hba nin0))
  refine g_alen C eMA_16 f14 (z := (2 : Int32)) rfl ?_
  have f15 := (f7.keep K10)
  refine g_putfield (host := "") C eMA_17 (Or.inl (hW hw 53 rfl)) Via.refl f12 f15 (Or.inl (hW hw 54 rfl)) (hW hw 42 rfl) (ty := .int) (by decide) rfl rfl (mm 0 rfl) (fun h16 W17 K18 => ?_)
  have f19 := Fld.same W17 f12
  have f20 := Fld.other W17 f11 (Or.inr (s69_54 hw))
  have f21 := Fld.other W17 f13 (Or.inr (s50_54 hw))
  have f22 := (f15.keep K18)
  exact g_retU C eMA_20 ⟨rfl, f22, f20, f19, f21⟩ (by decide) (by decide)
theorem eMaA_0 : decode k35 0 = .ok (.iload_n 0, 1) := by decide +kernel
theorem eMaA_1 : decode k35 1 = .ok (.ifCond .ge 8, 3) := by decide +kernel
theorem eMaA_9 : decode k35 9 = .ok (.iload_n 0, 1) := by decide +kernel
theorem eMaA_10 : decode k35 10 = .ok (.ireturn, 1) := by decide +kernel
theorem m_mabs (l : Launch) (Z : State) (a0 : Array Value) (hw : ∀ d ∈ tables_1, d.before a0 Z = true) (x : Int32) (hx : ¬ x < 0) (h : Heap) :
    MetW false l Z [] (⟨"java/lang/Math", "abs", "(I)I"⟩ : MethodName) k35 1 (some .int) [] (rM 0 0 0 0) #[(.int x)] [] h (fun v h' => v = some (.int x)) := by
  refine MetW.ofF (Ls := #[.val (.int x)]) (a0 := a0) (by decide +kernel) (fun m => by first | (simp [entryFrame, mkF, argsToLocals, Value.category]; done) | rfl) EW.nil (fun _ => rfl) (fun p_ e_ s_ m_ below_ meth_ c_ hs0 C => ?_)
  refine g_iloadN C eMaA_0 rfl <| g_ifT 9 C eMaA_1 (show ¬ x < (0 : Int32) from hx) (by decide) (by decide) <| g_iloadN C eMaA_9 rfl ?_
  exact g_retI C eMaA_10 rfl (by decide) (by decide)
theorem eBL_0 : decode k14 0 = .ok (.bipush 32, 2) := by decide +kernel
theorem eBL_2 : decode k14 2 = .ok (.iload_n 0, 1) := by decide +kernel
theorem eBL_3 : decode k14 3 = .ok (.invokestatic 602, 3) := by decide +kernel
theorem eBL_6 : decode k14 6 = .ok (.isub, 1) := by decide +kernel
theorem eBL_7 : decode k14 7 = .ok (.ireturn, 1) := by decide +kernel
theorem m_blfi (l : Launch) (Z : State) (a0 : Array Value) (hw : ∀ d ∈ tables_1, d.before a0 Z = true) (x : Int32) (h : Heap) :
    MetW false l Z [] (⟨"java/math/BigInteger", "bitLengthForInt", "(I)I"⟩ : MethodName) k14 1 (some .int) [] (rM 1 0 0 14) #[(.int x)] [] h (fun v h' => v = some (.int (32 - JP.Integer_numberOfLeadingZeros_I.val x))) := by
  refine mO a0 #[.val (.int x)] (fun _ _ _ m_ _ _ _ hs0 C => ?_)
  refine g_bipush 32 C eBL_0 (by decide) <| g_iloadN C eBL_2 rfl ?_
  refine g_invokestatic [(.int x)] [(.int 32)] 1 C eBL_3 (hW hw 243 rfl) (hW hw 244 rfl) (hW hw 96 rfl) (hW hw 245 rfl) (by decide) (m_nlz l Z a0 hw _ _) (lenOf pd0 rfl) rfl rfl (bL rfl) (by decide) (by decide) (by decide) (by decide) all0 (fun v1 h2 L3 q4 K5 => ?_)
  obtain rfl := q4
  refine gA (mkF m_ 6 #[.val (.int x)] [(.int (JP.Integer_numberOfLeadingZeros_I.val x)), (.int 32)]) <| g_isub _ C eBL_6 rfl ?_
  exact g_retI C eBL_7 rfl (by decide) (by decide)
theorem ePL_0 : decode k25 0 = .ok (.aload_n 0, 1) := by decide +kernel
theorem ePL_1 : decode k25 1 = .ok (.getfield 17, 3) := by decide +kernel
theorem ePL_4 : decode k25 4 = .ok (.astore_n 2, 1) := by decide +kernel
theorem ePL_5 : decode k25 5 = .ok (.bipush 32, 2) := by decide +kernel
theorem ePL_7 : decode k25 7 = .ok (.iload_n 1, 1) := by decide +kernel
theorem ePL_8 : decode k25 8 = .ok (.isub, 1) := by decide +kernel
theorem ePL_9 : decode k25 9 = .ok (.istore_n 3, 1) := by decide +kernel
theorem ePL_10 : decode k25 10 = .ok (.aload_n 0, 1) := by decide +kernel
theorem ePL_11 : decode k25 11 = .ok (.getfield 11, 3) := by decide +kernel
theorem ePL_14 : decode k25 14 = .ok (.istore 4, 2) := by decide +kernel
theorem ePL_16 : decode k25 16 = .ok (.aload_n 2, 1) := by decide +kernel
theorem ePL_17 : decode k25 17 = .ok (.iload 4, 2) := by decide +kernel
theorem ePL_19 : decode k25 19 = .ok (.iaload, 1) := by decide +kernel
theorem ePL_20 : decode k25 20 = .ok (.istore 5, 2) := by decide +kernel
theorem ePL_22 : decode k25 22 = .ok (.iload 4, 2) := by decide +kernel
theorem ePL_24 : decode k25 24 = .ok (.aload_n 0, 1) := by decide +kernel
theorem ePL_25 : decode k25 25 = .ok (.getfield 21, 3) := by decide +kernel
theorem ePL_28 : decode k25 28 = .ok (.iadd, 1) := by decide +kernel
theorem ePL_29 : decode k25 29 = .ok (.iconst 1, 1) := by decide +kernel
theorem ePL_30 : decode k25 30 = .ok (.isub, 1) := by decide +kernel
theorem ePL_31 : decode k25 31 = .ok (.istore 6, 2) := by decide +kernel
theorem ePL_33 : decode k25 33 = .ok (.iload 4, 2) := by decide +kernel
theorem ePL_35 : decode k25 35 = .ok (.iload 6, 2) := by decide +kernel
theorem ePL_37 : decode k25 37 = .ok (.if_icmp .ge 34, 3) := by decide +kernel
theorem ePL_71 : decode k25 71 = .ok (.aload_n 2, 1) := by decide +kernel
theorem ePL_72 : decode k25 72 = .ok (.aload_n 0, 1) := by decide +kernel
theorem ePL_73 : decode k25 73 = .ok (.getfield 11, 3) := by decide +kernel
theorem ePL_76 : decode k25 76 = .ok (.aload_n 0, 1) := by decide +kernel
theorem ePL_77 : decode k25 77 = .ok (.getfield 21, 3) := by decide +kernel
theorem ePL_80 : decode k25 80 = .ok (.iadd, 1) := by decide +kernel
theorem ePL_81 : decode k25 81 = .ok (.iconst 1, 1) := by decide +kernel
theorem ePL_82 : decode k25 82 = .ok (.isub, 1) := by decide +kernel
theorem ePL_83 : decode k25 83 = .ok (.dup2, 1) := by decide +kernel
theorem ePL_84 : decode k25 84 = .ok (.iaload, 1) := by decide +kernel
theorem ePL_85 : decode k25 85 = .ok (.iload_n 1, 1) := by decide +kernel
theorem ePL_86 : decode k25 86 = .ok (.ishl, 1) := by decide +kernel
theorem ePL_87 : decode k25 87 = .ok (.iastore, 1) := by decide +kernel
theorem ePL_88 : decode k25 88 = .ok (.return_, 1) := by decide +kernel
theorem m_psL11 (l : Launch) (Z : State) (a0 : Array Value) (hw : ∀ d ∈ tables_1, d.before a0 Z = true) (a b : Addr) (n : Int32) (m0 : Int32) (h : Heap) (E : eM Z h a) (F0 : fV Z h a (.ref b)) (F1 : fI Z h a (.int 1)) (F2 : fO Z h a (.int 0)) (A : Av Z h b .int [(.int m0)]) (hba : b ≠ a) :
    MetW false l Z [] (⟨"java/math/MutableBigInteger", "primitiveLeftShift", "(I)V"⟩ : MethodName) k25 8 none [] (rM 0 0 0 0) #[(.ref a), (.int n)] [b] h (fun v h' => v = none ∧ ∃ z0 : Int32, Av Z h' b .int [(.int z0)]) := by
  refine mO a0 #[.val (.ref a), .val (.int n), .unset, .unset, .unset, .unset, .unset, .unset] (fun _ _ _ m_ _ _ _ hs0 C => ?_)
  refine g_aloadN C ePL_0 rfl rfl <| gF C ePL_1 (hW hw 68 rfl) F0 <| g_astoreN #[.val (.ref a), .val (.int n), .val (.ref b), .unset, .unset, .unset, .unset, .unset] C ePL_4 rfl rfl <| g_bipush 32 C ePL_5 (by decide) <| g_iloadN C ePL_7 rfl <| g_isub _ C ePL_8 rfl <| g_istoreN #[.val (.ref a), .val (.int n), .val (.ref b), .val (.int ((32 : Int32) - n)), .unset, .unset, .unset, .unset] C ePL_9 rfl <| g_aloadN C ePL_10 rfl rfl <| gF C ePL_11 (hW hw 49 rfl) F2 <| g_istore #[.val (.ref a), .val (.int n), .val (.ref b), .val (.int ((32 : Int32) - n)), .val (.int 0), .unset, .unset, .unset] C ePL_14 rfl <| g_aloadN C ePL_16 rfl rfl ?_
  refine g_iload C ePL_17 rfl <| g_iaload 0 C ePL_19 A (by decide) (by decide) rfl <| g_istore #[.val (.ref a), .val (.int n), .val (.ref b), .val (.int ((32 : Int32) - n)), .val (.int 0), .val (.int m0), .unset, .unset] C ePL_20 rfl <| g_iload C ePL_22 rfl <| g_aloadN C ePL_24 rfl rfl <| gF C ePL_25 (hW hw 53 rfl) F1 <| g_iadd 1 C ePL_28 (by decide) <| g_iconst 1 C ePL_29 (by decide) <| g_isub 0 C ePL_30 (by decide) <| g_istore #[.val (.ref a), .val (.int n), .val (.ref b), .val (.int ((32 : Int32) - n)), .val (.int 0), .val (.int m0), .val (.int 0), .unset] C ePL_31 rfl <| g_iload C ePL_33 rfl ?_
  refine g_iload C ePL_35 rfl <| g_icmpT 71 C ePL_37 (show ¬ (0 : Int32) < (0 : Int32) by decide) (by decide) (by decide) <| g_aloadN C ePL_71 rfl rfl <| g_aloadN C ePL_72 rfl rfl <| gF C ePL_73 (hW hw 49 rfl) F2 <| g_aloadN C ePL_76 rfl rfl <| gF C ePL_77 (hW hw 53 rfl) F1 <| g_iadd 1 C ePL_80 (by decide) <| g_iconst 1 C ePL_81 (by decide) <| g_isub 0 C ePL_82 (by decide) <| g_dup2 C ePL_83 rfl rfl ?_
  refine g_iaload 0 C ePL_84 A (by decide) (by decide) rfl <| g_iloadN C ePL_85 rfl <| g_ishl _ C ePL_86 rfl ?_
  refine g_iastore 0 C ePL_87 A (by decide) (by decide) (bL rfl) (mm 0 rfl) (fun h1 K2 z3 f4 => ?_)
  have f5 : Av Z h1 b .int [(.int (m0 <<< (n &&& 31)))] := f4
  exact g_retU C ePL_88 ⟨rfl, _, f5⟩ (by decide) (by decide)
theorem m_psL21 (l : Launch) (Z : State) (a0 : Array Value) (hw : ∀ d ∈ tables_1, d.before a0 Z = true) (a b : Addr) (n : Int32) (m0 m1 : Int32) (h : Heap) (E : eM Z h a) (F0 : fV Z h a (.ref b)) (F1 : fI Z h a (.int 1)) (F2 : fO Z h a (.int 0)) (A : Av Z h b .int [(.int m0), (.int m1)]) (hba : b ≠ a) :
    MetW false l Z [] (⟨"java/math/MutableBigInteger", "primitiveLeftShift", "(I)V"⟩ : MethodName) k25 8 none [] (rM 0 0 0 0) #[(.ref a), (.int n)] [b] h (fun v h' => v = none ∧ ∃ z0 z1 : Int32, Av Z h' b .int [(.int z0), (.int z1)]) := by
  refine mO a0 #[.val (.ref a), .val (.int n), .unset, .unset, .unset, .unset, .unset, .unset] (fun _ _ _ m_ _ _ _ hs0 C => ?_)
  refine g_aloadN C ePL_0 rfl rfl <| gF C ePL_1 (hW hw 68 rfl) F0 <| g_astoreN #[.val (.ref a), .val (.int n), .val (.ref b), .unset, .unset, .unset, .unset, .unset] C ePL_4 rfl rfl <| g_bipush 32 C ePL_5 (by decide) <| g_iloadN C ePL_7 rfl <| g_isub _ C ePL_8 rfl <| g_istoreN #[.val (.ref a), .val (.int n), .val (.ref b), .val (.int ((32 : Int32) - n)), .unset, .unset, .unset, .unset] C ePL_9 rfl <| g_aloadN C ePL_10 rfl rfl <| gF C ePL_11 (hW hw 49 rfl) F2 <| g_istore #[.val (.ref a), .val (.int n), .val (.ref b), .val (.int ((32 : Int32) - n)), .val (.int 0), .unset, .unset, .unset] C ePL_14 rfl <| g_aloadN C ePL_16 rfl rfl ?_
  refine g_iload C ePL_17 rfl <| g_iaload 0 C ePL_19 A (by decide) (by decide) rfl <| g_istore #[.val (.ref a), .val (.int n), .val (.ref b), .val (.int ((32 : Int32) - n)), .val (.int 0), .val (.int m0), .unset, .unset] C ePL_20 rfl <| g_iload C ePL_22 rfl <| g_aloadN C ePL_24 rfl rfl <| gF C ePL_25 (hW hw 53 rfl) F1 <| g_iadd 1 C ePL_28 (by decide) <| g_iconst 1 C ePL_29 (by decide) <| g_isub 0 C ePL_30 (by decide) <| g_istore #[.val (.ref a), .val (.int n), .val (.ref b), .val (.int ((32 : Int32) - n)), .val (.int 0), .val (.int m0), .val (.int 0), .unset] C ePL_31 rfl <| g_iload C ePL_33 rfl ?_
  refine g_iload C ePL_35 rfl <| g_icmpT 71 C ePL_37 (show ¬ (0 : Int32) < (0 : Int32) by decide) (by decide) (by decide) <| g_aloadN C ePL_71 rfl rfl <| g_aloadN C ePL_72 rfl rfl <| gF C ePL_73 (hW hw 49 rfl) F2 <| g_aloadN C ePL_76 rfl rfl <| gF C ePL_77 (hW hw 53 rfl) F1 <| g_iadd 1 C ePL_80 (by decide) <| g_iconst 1 C ePL_81 (by decide) <| g_isub 0 C ePL_82 (by decide) <| g_dup2 C ePL_83 rfl rfl ?_
  refine g_iaload 0 C ePL_84 A (by decide) (by decide) rfl <| g_iloadN C ePL_85 rfl <| g_ishl _ C ePL_86 rfl ?_
  refine g_iastore 0 C ePL_87 A (by decide) (by decide) (bL rfl) (mm 0 rfl) (fun h1 K2 z3 f4 => ?_)
  have f5 : Av Z h1 b .int [(.int (m0 <<< (n &&& 31))), (.int m1)] := f4
  exact g_retU C ePL_88 ⟨rfl, _, _, f5⟩ (by decide) (by decide)
theorem ePL_40 : decode k25 40 = .ok (.iload 5, 2) := by decide +kernel
theorem ePL_42 : decode k25 42 = .ok (.istore 7, 2) := by decide +kernel
theorem ePL_44 : decode k25 44 = .ok (.aload_n 2, 1) := by decide +kernel
theorem ePL_45 : decode k25 45 = .ok (.iload 4, 2) := by decide +kernel
theorem ePL_47 : decode k25 47 = .ok (.iconst 1, 1) := by decide +kernel
theorem ePL_48 : decode k25 48 = .ok (.iadd, 1) := by decide +kernel
theorem ePL_49 : decode k25 49 = .ok (.iaload, 1) := by decide +kernel
theorem ePL_50 : decode k25 50 = .ok (.istore 5, 2) := by decide +kernel
theorem ePL_52 : decode k25 52 = .ok (.aload_n 2, 1) := by decide +kernel
theorem ePL_53 : decode k25 53 = .ok (.iload 4, 2) := by decide +kernel
theorem ePL_55 : decode k25 55 = .ok (.iload 7, 2) := by decide +kernel
theorem ePL_57 : decode k25 57 = .ok (.iload_n 1, 1) := by decide +kernel
theorem ePL_58 : decode k25 58 = .ok (.ishl, 1) := by decide +kernel
theorem ePL_59 : decode k25 59 = .ok (.iload 5, 2) := by decide +kernel
theorem ePL_61 : decode k25 61 = .ok (.iload_n 3, 1) := by decide +kernel
theorem ePL_62 : decode k25 62 = .ok (.iushr, 1) := by decide +kernel
theorem ePL_63 : decode k25 63 = .ok (.ior, 1) := by decide +kernel
theorem ePL_64 : decode k25 64 = .ok (.iastore, 1) := by decide +kernel
theorem ePL_65 : decode k25 65 = .ok (.iinc 4 1, 3) := by decide +kernel
theorem ePL_68 : decode k25 68 = .ok (.goto (-35), 3) := by decide +kernel
theorem m_psL22 (l : Launch) (Z : State) (a0 : Array Value) (hw : ∀ d ∈ tables_1, d.before a0 Z = true) (a b : Addr) (n : Int32) (m0 m1 : Int32) (h : Heap) (E : eM Z h a) (F0 : fV Z h a (.ref b)) (F1 : fI Z h a (.int 2)) (F2 : fO Z h a (.int 0)) (A : Av Z h b .int [(.int m0), (.int m1)]) (hba : b ≠ a) :
    MetW false l Z [] (⟨"java/math/MutableBigInteger", "primitiveLeftShift", "(I)V"⟩ : MethodName) k25 8 none [] (rM 0 0 0 0) #[(.ref a), (.int n)] [b] h (fun v h' => v = none ∧ ∃ z0 z1 : Int32, Av Z h' b .int [(.int z0), (.int z1)]) := by
  refine mO a0 #[.val (.ref a), .val (.int n), .unset, .unset, .unset, .unset, .unset, .unset] (fun _ _ _ m_ _ _ _ hs0 C => ?_)
  refine g_aloadN C ePL_0 rfl rfl <| gF C ePL_1 (hW hw 68 rfl) F0 <| g_astoreN #[.val (.ref a), .val (.int n), .val (.ref b), .unset, .unset, .unset, .unset, .unset] C ePL_4 rfl rfl <| g_bipush 32 C ePL_5 (by decide) <| g_iloadN C ePL_7 rfl <| g_isub _ C ePL_8 rfl <| g_istoreN #[.val (.ref a), .val (.int n), .val (.ref b), .val (.int ((32 : Int32) - n)), .unset, .unset, .unset, .unset] C ePL_9 rfl <| g_aloadN C ePL_10 rfl rfl <| gF C ePL_11 (hW hw 49 rfl) F2 <| g_istore #[.val (.ref a), .val (.int n), .val (.ref b), .val (.int ((32 : Int32) - n)), .val (.int 0), .unset, .unset, .unset] C ePL_14 rfl <| g_aloadN C ePL_16 rfl rfl ?_
  refine g_iload C ePL_17 rfl <| g_iaload 0 C ePL_19 A (by decide) (by decide) rfl <| g_istore #[.val (.ref a), .val (.int n), .val (.ref b), .val (.int ((32 : Int32) - n)), .val (.int 0), .val (.int m0), .unset, .unset] C ePL_20 rfl <| g_iload C ePL_22 rfl <| g_aloadN C ePL_24 rfl rfl <| gF C ePL_25 (hW hw 53 rfl) F1 <| g_iadd 2 C ePL_28 (by decide) <| g_iconst 1 C ePL_29 (by decide) <| g_isub 1 C ePL_30 (by decide) <| g_istore #[.val (.ref a), .val (.int n), .val (.ref b), .val (.int ((32 : Int32) - n)), .val (.int 0), .val (.int m0), .val (.int 1), .unset] C ePL_31 rfl <| g_iload C ePL_33 rfl ?_
  refine g_iload C ePL_35 rfl <| g_icmpF C ePL_37 (show (0 : Int32) < (1 : Int32) by decide) <| g_iload C ePL_40 rfl <| g_istore #[.val (.ref a), .val (.int n), .val (.ref b), .val (.int ((32 : Int32) - n)), .val (.int 0), .val (.int m0), .val (.int 1), .val (.int m0)] C ePL_42 rfl <| g_aloadN C ePL_44 rfl rfl <| g_iload C ePL_45 rfl <| g_iconst 1 C ePL_47 (by decide) <| g_iadd 1 C ePL_48 (by decide) <| g_iaload 1 C ePL_49 A (by decide) (by decide) rfl <| g_istore #[.val (.ref a), .val (.int n), .val (.ref b), .val (.int ((32 : Int32) - n)), .val (.int 0), .val (.int m1), .val (.int 1), .val (.int m0)] C ePL_50 rfl <| g_aloadN C ePL_52 rfl rfl ?_
  refine g_iload C ePL_53 rfl <| g_iload C ePL_55 rfl <| g_iloadN C ePL_57 rfl <| g_ishl _ C ePL_58 rfl <| g_iload C ePL_59 rfl <| g_iloadN C ePL_61 rfl <| g_iushr _ C ePL_62 rfl <| g_ior _ C ePL_63 rfl ?_
  refine g_iastore 0 C ePL_64 A (by decide) (by decide) (bL rfl) (mm 0 rfl) (fun h1 K2 z3 f4 => ?_)
  have f5 : Av Z h1 b .int [(.int ((m0 <<< (n &&& 31)) ||| (XT.ushr m1 ((32 : Int32) - n)))), (.int m1)] := f4
  refine g_iinc (1 : Int32) #[.val (.ref a), .val (.int n), .val (.ref b), .val (.int ((32 : Int32) - n)), .val (.int 1), .val (.int m1), .val (.int 1), .val (.int m0)] C ePL_65 rfl (by decide) rfl <| g_goto 33 C ePL_68 (by decide) (by decide) <| g_iload C ePL_33 rfl <| g_iload C ePL_35 rfl <| g_icmpT 71 C ePL_37 (show ¬ (1 : Int32) < (1 : Int32) by decide) (by decide) (by decide) <| g_aloadN C ePL_71 rfl rfl <| g_aloadN C ePL_72 rfl rfl ?_
  have f6 := (F2.keep K2 (ninS (Ne.symm hba) nin0))
  refine gF C ePL_73 (hW hw 49 rfl) f6 <| g_aloadN C ePL_76 rfl rfl ?_
  have f7 := (F1.keep K2 (ninS (Ne.symm hba) nin0))
  refine gF C ePL_77 (hW hw 53 rfl) f7 <| g_iadd 2 C ePL_80 (by decide) <| g_iconst 1 C ePL_81 (by decide) <| g_isub 1 C ePL_82 (by decide) <| g_dup2 C ePL_83 rfl rfl <| g_iaload 1 C ePL_84 f5 (by decide) (by decide) rfl <| g_iloadN C ePL_85 rfl <| g_ishl _ C ePL_86 rfl ?_
  refine g_iastore 1 C ePL_87 f5 (by decide) (by decide) (bL rfl) (mm 0 rfl) (fun h8 K9 z10 f11 => ?_)
  have f12 : Av Z h8 b .int [(.int ((m0 <<< (n &&& 31)) ||| (XT.ushr m1 ((32 : Int32) - n)))), (.int (m1 <<< (n &&& 31)))] := f11
  exact g_retU C ePL_88 ⟨rfl, _, _, f12⟩ (by decide) (by decide)
theorem ePR_0 : decode k24 0 = .ok (.aload_n 0, 1) := by decide +kernel
theorem ePR_1 : decode k24 1 = .ok (.getfield 17, 3) := by decide +kernel
theorem ePR_4 : decode k24 4 = .ok (.astore_n 2, 1) := by decide +kernel
theorem ePR_5 : decode k24 5 = .ok (.bipush 32, 2) := by decide +kernel
theorem ePR_7 : decode k24 7 = .ok (.iload_n 1, 1) := by decide +kernel
theorem ePR_8 : decode k24 8 = .ok (.isub, 1) := by decide +kernel
theorem ePR_9 : decode k24 9 = .ok (.istore_n 3, 1) := by decide +kernel
theorem ePR_10 : decode k24 10 = .ok (.aload_n 0, 1) := by decide +kernel
theorem ePR_11 : decode k24 11 = .ok (.getfield 11, 3) := by decide +kernel
theorem ePR_14 : decode k24 14 = .ok (.aload_n 0, 1) := by decide +kernel
theorem ePR_15 : decode k24 15 = .ok (.getfield 21, 3) := by decide +kernel
theorem ePR_18 : decode k24 18 = .ok (.iadd, 1) := by decide +kernel
theorem ePR_19 : decode k24 19 = .ok (.iconst 1, 1) := by decide +kernel
theorem ePR_20 : decode k24 20 = .ok (.isub, 1) := by decide +kernel
theorem ePR_21 : decode k24 21 = .ok (.istore 4, 2) := by decide +kernel
theorem ePR_23 : decode k24 23 = .ok (.aload_n 2, 1) := by decide +kernel
theorem ePR_24 : decode k24 24 = .ok (.iload 4, 2) := by decide +kernel
theorem ePR_26 : decode k24 26 = .ok (.iaload, 1) := by decide +kernel
theorem ePR_27 : decode k24 27 = .ok (.istore 5, 2) := by decide +kernel
theorem ePR_29 : decode k24 29 = .ok (.iload 4, 2) := by decide +kernel
theorem ePR_31 : decode k24 31 = .ok (.aload_n 0, 1) := by decide +kernel
theorem ePR_32 : decode k24 32 = .ok (.getfield 11, 3) := by decide +kernel
theorem ePR_35 : decode k24 35 = .ok (.if_icmp .le 34, 3) := by decide +kernel
theorem ePR_69 : decode k24 69 = .ok (.aload_n 2, 1) := by decide +kernel
theorem ePR_70 : decode k24 70 = .ok (.aload_n 0, 1) := by decide +kernel
theorem ePR_71 : decode k24 71 = .ok (.getfield 11, 3) := by decide +kernel
theorem ePR_74 : decode k24 74 = .ok (.dup2, 1) := by decide +kernel
theorem ePR_75 : decode k24 75 = .ok (.iaload, 1) := by decide +kernel
theorem ePR_76 : decode k24 76 = .ok (.iload_n 1, 1) := by decide +kernel
theorem ePR_77 : decode k24 77 = .ok (.iushr, 1) := by decide +kernel
theorem ePR_78 : decode k24 78 = .ok (.iastore, 1) := by decide +kernel
theorem ePR_79 : decode k24 79 = .ok (.return_, 1) := by decide +kernel
theorem m_psR11 (l : Launch) (Z : State) (a0 : Array Value) (hw : ∀ d ∈ tables_1, d.before a0 Z = true) (a b : Addr) (n : Int32) (m0 : Int32) (h : Heap) (E : eM Z h a) (F0 : fV Z h a (.ref b)) (F1 : fI Z h a (.int 1)) (F2 : fO Z h a (.int 0)) (A : Av Z h b .int [(.int m0)]) (hba : b ≠ a) :
    MetW false l Z [] (⟨"java/math/MutableBigInteger", "primitiveRightShift", "(I)V"⟩ : MethodName) k24 7 none [] (rM 0 0 0 0) #[(.ref a), (.int n)] [b] h (fun v h' => v = none ∧ ∃ z0 : Int32, Av Z h' b .int [(.int z0)]) := by
  refine mO a0 #[.val (.ref a), .val (.int n), .unset, .unset, .unset, .unset, .unset] (fun _ _ _ m_ _ _ _ hs0 C => ?_)
  refine g_aloadN C ePR_0 rfl rfl <| gF C ePR_1 (hW hw 68 rfl) F0 <| g_astoreN #[.val (.ref a), .val (.int n), .val (.ref b), .unset, .unset, .unset, .unset] C ePR_4 rfl rfl <| g_bipush 32 C ePR_5 (by decide) <| g_iloadN C ePR_7 rfl <| g_isub _ C ePR_8 rfl <| g_istoreN #[.val (.ref a), .val (.int n), .val (.ref b), .val (.int ((32 : Int32) - n)), .unset, .unset, .unset] C ePR_9 rfl <| g_aloadN C ePR_10 rfl rfl <| gF C ePR_11 (hW hw 49 rfl) F2 <| g_aloadN C ePR_14 rfl rfl <| gF C ePR_15 (hW hw 53 rfl) F1 ?_
  refine g_iadd 1 C ePR_18 (by decide) <| g_iconst 1 C ePR_19 (by decide) <| g_isub 0 C ePR_20 (by decide) <| g_istore #[.val (.ref a), .val (.int n), .val (.ref b), .val (.int ((32 : Int32) - n)), .val (.int 0), .unset, .unset] C ePR_21 rfl <| g_aloadN C ePR_23 rfl rfl <| g_iload C ePR_24 rfl <| g_iaload 0 C ePR_26 A (by decide) (by decide) rfl <| g_istore #[.val (.ref a), .val (.int n), .val (.ref b), .val (.int ((32 : Int32) - n)), .val (.int 0), .val (.int m0), .unset] C ePR_27 rfl <| g_iload C ePR_29 rfl <| g_aloadN C ePR_31 rfl rfl <| gF C ePR_32 (hW hw 49 rfl) F2 ?_
  refine g_icmpT 69 C ePR_35 (show ¬ (0 : Int32) < (0 : Int32) by decide) (by decide) (by decide) <| g_aloadN C ePR_69 rfl rfl <| g_aloadN C ePR_70 rfl rfl <| gF C ePR_71 (hW hw 49 rfl) F2 <| g_dup2 C ePR_74 rfl rfl <| g_iaload 0 C ePR_75 A (by decide) (by decide) rfl <| g_iloadN C ePR_76 rfl <| g_iushr _ C ePR_77 rfl ?_
  refine g_iastore 0 C ePR_78 A (by decide) (by decide) (bL rfl) (mm 0 rfl) (fun h1 K2 z3 f4 => ?_)
  have f5 : Av Z h1 b .int [(.int (XT.ushr m0 n))] := f4
  exact g_retU C ePR_79 ⟨rfl, _, f5⟩ (by decide) (by decide)
theorem m_psR21 (l : Launch) (Z : State) (a0 : Array Value) (hw : ∀ d ∈ tables_1, d.before a0 Z = true) (a b : Addr) (n : Int32) (m0 m1 : Int32) (h : Heap) (E : eM Z h a) (F0 : fV Z h a (.ref b)) (F1 : fI Z h a (.int 1)) (F2 : fO Z h a (.int 0)) (A : Av Z h b .int [(.int m0), (.int m1)]) (hba : b ≠ a) :
    MetW false l Z [] (⟨"java/math/MutableBigInteger", "primitiveRightShift", "(I)V"⟩ : MethodName) k24 7 none [] (rM 0 0 0 0) #[(.ref a), (.int n)] [b] h (fun v h' => v = none ∧ ∃ z0 z1 : Int32, Av Z h' b .int [(.int z0), (.int z1)]) := by
  refine mO a0 #[.val (.ref a), .val (.int n), .unset, .unset, .unset, .unset, .unset] (fun _ _ _ m_ _ _ _ hs0 C => ?_)
  refine g_aloadN C ePR_0 rfl rfl <| gF C ePR_1 (hW hw 68 rfl) F0 <| g_astoreN #[.val (.ref a), .val (.int n), .val (.ref b), .unset, .unset, .unset, .unset] C ePR_4 rfl rfl <| g_bipush 32 C ePR_5 (by decide) <| g_iloadN C ePR_7 rfl <| g_isub _ C ePR_8 rfl <| g_istoreN #[.val (.ref a), .val (.int n), .val (.ref b), .val (.int ((32 : Int32) - n)), .unset, .unset, .unset] C ePR_9 rfl <| g_aloadN C ePR_10 rfl rfl <| gF C ePR_11 (hW hw 49 rfl) F2 <| g_aloadN C ePR_14 rfl rfl <| gF C ePR_15 (hW hw 53 rfl) F1 ?_
  refine g_iadd 1 C ePR_18 (by decide) <| g_iconst 1 C ePR_19 (by decide) <| g_isub 0 C ePR_20 (by decide) <| g_istore #[.val (.ref a), .val (.int n), .val (.ref b), .val (.int ((32 : Int32) - n)), .val (.int 0), .unset, .unset] C ePR_21 rfl <| g_aloadN C ePR_23 rfl rfl <| g_iload C ePR_24 rfl <| g_iaload 0 C ePR_26 A (by decide) (by decide) rfl <| g_istore #[.val (.ref a), .val (.int n), .val (.ref b), .val (.int ((32 : Int32) - n)), .val (.int 0), .val (.int m0), .unset] C ePR_27 rfl <| g_iload C ePR_29 rfl <| g_aloadN C ePR_31 rfl rfl <| gF C ePR_32 (hW hw 49 rfl) F2 ?_
  refine g_icmpT 69 C ePR_35 (show ¬ (0 : Int32) < (0 : Int32) by decide) (by decide) (by decide) <| g_aloadN C ePR_69 rfl rfl <| g_aloadN C ePR_70 rfl rfl <| gF C ePR_71 (hW hw 49 rfl) F2 <| g_dup2 C ePR_74 rfl rfl <| g_iaload 0 C ePR_75 A (by decide) (by decide) rfl <| g_iloadN C ePR_76 rfl <| g_iushr _ C ePR_77 rfl ?_
  refine g_iastore 0 C ePR_78 A (by decide) (by decide) (bL rfl) (mm 0 rfl) (fun h1 K2 z3 f4 => ?_)
  have f5 : Av Z h1 b .int [(.int (XT.ushr m0 n)), (.int m1)] := f4
  exact g_retU C ePR_79 ⟨rfl, _, _, f5⟩ (by decide) (by decide)
theorem ePR_38 : decode k24 38 = .ok (.iload 5, 2) := by decide +kernel
theorem ePR_40 : decode k24 40 = .ok (.istore 6, 2) := by decide +kernel
theorem ePR_42 : decode k24 42 = .ok (.aload_n 2, 1) := by decide +kernel
theorem ePR_43 : decode k24 43 = .ok (.iload 4, 2) := by decide +kernel
theorem ePR_45 : decode k24 45 = .ok (.iconst 1, 1) := by decide +kernel
theorem ePR_46 : decode k24 46 = .ok (.isub, 1) := by decide +kernel
theorem ePR_47 : decode k24 47 = .ok (.iaload, 1) := by decide +kernel
theorem ePR_48 : decode k24 48 = .ok (.istore 5, 2) := by decide +kernel
theorem ePR_50 : decode k24 50 = .ok (.aload_n 2, 1) := by decide +kernel
theorem ePR_51 : decode k24 51 = .ok (.iload 4, 2) := by decide +kernel
theorem ePR_53 : decode k24 53 = .ok (.iload 5, 2) := by decide +kernel
theorem ePR_55 : decode k24 55 = .ok (.iload_n 3, 1) := by decide +kernel
theorem ePR_56 : decode k24 56 = .ok (.ishl, 1) := by decide +kernel
theorem ePR_57 : decode k24 57 = .ok (.iload 6, 2) := by decide +kernel
theorem ePR_59 : decode k24 59 = .ok (.iload_n 1, 1) := by decide +kernel
theorem ePR_60 : decode k24 60 = .ok (.iushr, 1) := by decide +kernel
theorem ePR_61 : decode k24 61 = .ok (.ior, 1) := by decide +kernel
theorem ePR_62 : decode k24 62 = .ok (.iastore, 1) := by decide +kernel
theorem ePR_63 : decode k24 63 = .ok (.iinc 4 (-1), 3) := by decide +kernel
theorem ePR_66 : decode k24 66 = .ok (.goto (-37), 3) := by decide +kernel
theorem m_psR22 (l : Launch) (Z : State) (a0 : Array Value) (hw : ∀ d ∈ tables_1, d.before a0 Z = true) (a b : Addr) (n : Int32) (m0 m1 : Int32) (h : Heap) (E : eM Z h a) (F0 : fV Z h a (.ref b)) (F1 : fI Z h a (.int 2)) (F2 : fO Z h a (.int 0)) (A : Av Z h b .int [(.int m0), (.int m1)]) (hba : b ≠ a) :
    MetW false l Z [] (⟨"java/math/MutableBigInteger", "primitiveRightShift", "(I)V"⟩ : MethodName) k24 7 none [] (rM 0 0 0 0) #[(.ref a), (.int n)] [b] h (fun v h' => v = none ∧ ∃ z1 : Int32, Av Z h' b .int [(.int (XT.ushr m0 n)), (.int z1)]) := by
  refine mO a0 #[.val (.ref a), .val (.int n), .unset, .unset, .unset, .unset, .unset] (fun _ _ _ m_ _ _ _ hs0 C => ?_)
  refine g_aloadN C ePR_0 rfl rfl <| gF C ePR_1 (hW hw 68 rfl) F0 <| g_astoreN #[.val (.ref a), .val (.int n), .val (.ref b), .unset, .unset, .unset, .unset] C ePR_4 rfl rfl <| g_bipush 32 C ePR_5 (by decide) <| g_iloadN C ePR_7 rfl <| g_isub _ C ePR_8 rfl <| g_istoreN #[.val (.ref a), .val (.int n), .val (.ref b), .val (.int ((32 : Int32) - n)), .unset, .unset, .unset] C ePR_9 rfl <| g_aloadN C ePR_10 rfl rfl <| gF C ePR_11 (hW hw 49 rfl) F2 <| g_aloadN C ePR_14 rfl rfl <| gF C ePR_15 (hW hw 53 rfl) F1 ?_
  refine g_iadd 2 C ePR_18 (by decide) <| g_iconst 1 C ePR_19 (by decide) <| g_isub 1 C ePR_20 (by decide) <| g_istore #[.val (.ref a), .val (.int n), .val (.ref b), .val (.int ((32 : Int32) - n)), .val (.int 1), .unset, .unset] C ePR_21 rfl <| g_aloadN C ePR_23 rfl rfl <| g_iload C ePR_24 rfl <| g_iaload 1 C ePR_26 A (by decide) (by decide) rfl <| g_istore #[.val (.ref a), .val (.int n), .val (.ref b), .val (.int ((32 : Int32) - n)), .val (.int 1), .val (.int m1), .unset] C ePR_27 rfl <| g_iload C ePR_29 rfl <| g_aloadN C ePR_31 rfl rfl <| gF C ePR_32 (hW hw 49 rfl) F2 ?_
  refine g_icmpF C ePR_35 (show (0 : Int32) < (1 : Int32) by decide) <| g_iload C ePR_38 rfl <| g_istore #[.val (.ref a), .val (.int n), .val (.ref b), .val (.int ((32 : Int32) - n)), .val (.int 1), .val (.int m1), .val (.int m1)] C ePR_40 rfl <| g_aloadN C ePR_42 rfl rfl <| g_iload C ePR_43 rfl <| g_iconst 1 C ePR_45 (by decide) <| g_isub 0 C ePR_46 (by decide) <| g_iaload 0 C ePR_47 A (by decide) (by decide) rfl <| g_istore #[.val (.ref a), .val (.int n), .val (.ref b), .val (.int ((32 : Int32) - n)), .val (.int 1), .val (.int m0), .val (.int m1)] C ePR_48 rfl <| g_aloadN C ePR_50 rfl rfl <| g_iload C ePR_51 rfl ?_
  refine g_iload C ePR_53 rfl <| g_iloadN C ePR_55 rfl <| g_ishl _ C ePR_56 rfl <| g_iload C ePR_57 rfl <| g_iloadN C ePR_59 rfl <| g_iushr _ C ePR_60 rfl <| g_ior _ C ePR_61 rfl ?_
  refine g_iastore 1 C ePR_62 A (by decide) (by decide) (bL rfl) (mm 0 rfl) (fun h1 K2 z3 f4 => ?_)
  have f5 : Av Z h1 b .int [(.int m0), (.int ((m0 <<< (((32 : Int32) - n) &&& 31)) ||| (XT.ushr m1 n)))] := f4
  refine g_iinc (0 : Int32) #[.val (.ref a), .val (.int n), .val (.ref b), .val (.int ((32 : Int32) - n)), .val (.int 0), .val (.int m0), .val (.int m1)] C ePR_63 rfl (by decide) rfl <| g_goto 29 C ePR_66 (by decide) (by decide) <| g_iload C ePR_29 rfl <| g_aloadN C ePR_31 rfl rfl ?_
  have f6 := (F2.keep K2 (ninS (Ne.symm hba) nin0))
  refine gF C ePR_32 (hW hw 49 rfl) f6 <| g_icmpT 69 C ePR_35 (show ¬ (0 : Int32) < (0 : Int32) by decide) (by decide) (by decide) <| g_aloadN C ePR_69 rfl rfl <| g_aloadN C ePR_70 rfl rfl <| gF C ePR_71 (hW hw 49 rfl) f6 <| g_dup2 C ePR_74 rfl rfl <| g_iaload 0 C ePR_75 f5 (by decide) (by decide) rfl <| g_iloadN C ePR_76 rfl <| g_iushr _ C ePR_77 rfl ?_
  refine g_iastore 0 C ePR_78 f5 (by decide) (by decide) (bL rfl) (mm 0 rfl) (fun h7 K8 z9 f10 => ?_)
  have f11 : Av Z h7 b .int [(.int (XT.ushr m0 n)), (.int ((m0 <<< (((32 : Int32) - n) &&& 31)) ||| (XT.ushr m1 n)))] := f10
  exact g_retU C ePR_79 ⟨rfl, _, f11⟩ (by decide) (by decide)
theorem eRS_0 : decode k22 0 = .ok (.aload_n 0, 1) := by decide +kernel
theorem eRS_1 : decode k22 1 = .ok (.getfield 21, 3) := by decide +kernel
theorem eRS_4 : decode k22 4 = .ok (.ifCond .ne 4, 3) := by decide +kernel
theorem eRS_8 : decode k22 8 = .ok (.iload_n 1, 1) := by decide +kernel
theorem eRS_9 : decode k22 9 = .ok (.iconst 5, 1) := by decide +kernel
theorem eRS_10 : decode k22 10 = .ok (.iushr, 1) := by decide +kernel
theorem eRS_11 : decode k22 11 = .ok (.istore_n 2, 1) := by decide +kernel
theorem eRS_12 : decode k22 12 = .ok (.iload_n 1, 1) := by decide +kernel
theorem eRS_13 : decode k22 13 = .ok (.bipush 31, 2) := by decide +kernel
theorem eRS_15 : decode k22 15 = .ok (.iand, 1) := by decide +kernel
theorem eRS_16 : decode k22 16 = .ok (.istore_n 3, 1) := by decide +kernel
theorem eRS_17 : decode k22 17 = .ok (.aload_n 0, 1) := by decide +kernel
theorem eRS_18 : decode k22 18 = .ok (.dup, 1) := by decide +kernel
theorem eRS_19 : decode k22 19 = .ok (.getfield 21, 3) := by decide +kernel
theorem eRS_22 : decode k22 22 = .ok (.iload_n 2, 1) := by decide +kernel
theorem eRS_23 : decode k22 23 = .ok (.isub, 1) := by decide +kernel
theorem eRS_24 : decode k22 24 = .ok (.putfield 21, 3) := by decide +kernel
theorem eRS_27 : decode k22 27 = .ok (.iload_n 3, 1) := by decide +kernel
theorem eRS_28 : decode k22 28 = .ok (.ifCond .ne 4, 3) := by decide +kernel
theorem eRS_31 : decode k22 31 = .ok (.return_, 1) := by decide +kernel
theorem m_rs01 (l : Launch) (Z : State) (a0 : Array Value) (hw : ∀ d ∈ tables_1, d.before a0 Z = true) (a b : Addr) (o : Int32) (h : Heap) (E : eM Z h a) (F0 : fV Z h a (.ref b)) (F1 : fI Z h a (.int 1)) (F2 : fO Z h a (.int o)) :
    MetW false l Z [] (⟨"java/math/MutableBigInteger", "rightShift", "(I)V"⟩ : MethodName) k22 5 none [] (rM 0 0 0 0) #[(.ref a), (.int 0)] [a] h (fun v h' => v = none ∧ eM Z h' a ∧ fV Z h' a (.ref b) ∧ fI Z h' a (.int 1) ∧ fO Z h' a (.int o)) := by
  refine mO a0 #[.val (.ref a), .val (.int 0), .unset, .unset, .unset] (fun _ _ _ m_ _ _ _ hs0 C => ?_)
  refine g_aloadN C eRS_0 rfl rfl <| gF C eRS_1 (hW hw 53 rfl) F1 <| g_ifT 8 C eRS_4 (show ¬ (1 : Int32) = (0 : Int32) by decide) (by decide) (by decide) <| g_iloadN C eRS_8 rfl <| g_iconst 5 C eRS_9 (by decide) <| g_iushr 0 C eRS_10 (by decide) <| g_istoreN #[.val (.ref a), .val (.int 0), .val (.int 0), .unset, .unset] C eRS_11 rfl <| g_iloadN C eRS_12 rfl <| g_bipush 31 C eRS_13 (by decide) <| g_iand 0 C eRS_15 (by decide) <| g_istoreN #[.val (.ref a), .val (.int 0), .val (.int 0), .val (.int 0), .unset] C eRS_16 rfl ?_
  refine g_aloadN C eRS_17 rfl rfl <| g_dup C eRS_18 rfl <| gF C eRS_19 (hW hw 53 rfl) F1 <| g_iloadN C eRS_22 rfl <| g_isub 1 C eRS_23 (by decide) ?_
  refine g_putfield (host := "") C eRS_24 (Or.inl (hW hw 53 rfl)) Via.refl F1 E (Or.inl (hW hw 54 rfl)) (hW hw 42 rfl) (ty := .int) (by decide) rfl rfl (mm 0 rfl) (fun h1 W2 K3 => ?_)
  have f4 := Fld.same W2 F1
  have f5 := Fld.other W2 F0 (Or.inr (s69_54 hw))
  have f6 := Fld.other W2 F2 (Or.inr (s50_54 hw))
  refine g_iloadN C eRS_27 rfl <| g_ifF C eRS_28 (show (0 : Int32) = (0 : Int32) by decide) ?_
  have f7 := (E.keep K3)
  exact g_retU C eRS_31 ⟨rfl, f7, f5, f4, f6⟩ (by decide) (by decide)
theorem m_rs02 (l : Launch) (Z : State) (a0 : Array Value) (hw : ∀ d ∈ tables_1, d.before a0 Z = true) (a b : Addr) (o : Int32) (h : Heap) (E : eM Z h a) (F0 : fV Z h a (.ref b)) (F1 : fI Z h a (.int 2)) (F2 : fO Z h a (.int o)) :
    MetW false l Z [] (⟨"java/math/MutableBigInteger", "rightShift", "(I)V"⟩ : MethodName) k22 5 none [] (rM 0 0 0 0) #[(.ref a), (.int 0)] [a] h (fun v h' => v = none ∧ eM Z h' a ∧ fV Z h' a (.ref b) ∧ fI Z h' a (.int 2) ∧ fO Z h' a (.int o)) := by
  refine mO a0 #[.val (.ref a), .val (.int 0), .unset, .unset, .unset] (fun _ _ _ m_ _ _ _ hs0 C => ?_)
  refine g_aloadN C eRS_0 rfl rfl <| gF C eRS_1 (hW hw 53 rfl) F1 <| g_ifT 8 C eRS_4 (show ¬ (2 : Int32) = (0 : Int32) by decide) (by decide) (by decide) <| g_iloadN C eRS_8 rfl <| g_iconst 5 C eRS_9 (by decide) <| g_iushr 0 C eRS_10 (by decide) <| g_istoreN #[.val (.ref a), .val (.int 0), .val (.int 0), .unset, .unset] C eRS_11 rfl <| g_iloadN C eRS_12 rfl <| g_bipush 31 C eRS_13 (by decide) <| g_iand 0 C eRS_15 (by decide) <| g_istoreN #[.val (.ref a), .val (.int 0), .val (.int 0), .val (.int 0), .unset] C eRS_16 rfl ?_
  refine g_aloadN C eRS_17 rfl rfl <| g_dup C eRS_18 rfl <| gF C eRS_19 (hW hw 53 rfl) F1 <| g_iloadN C eRS_22 rfl <| g_isub 2 C eRS_23 (by decide) ?_
  refine g_putfield (host := "") C eRS_24 (Or.inl (hW hw 53 rfl)) Via.refl F1 E (Or.inl (hW hw 54 rfl)) (hW hw 42 rfl) (ty := .int) (by decide) rfl rfl (mm 0 rfl) (fun h1 W2 K3 => ?_)
  have f4 := Fld.same W2 F1
  have f5 := Fld.other W2 F0 (Or.inr (s69_54 hw))
  have f6 := Fld.other W2 F2 (Or.inr (s50_54 hw))
  refine g_iloadN C eRS_27 rfl <| g_ifF C eRS_28 (show (0 : Int32) = (0 : Int32) by decide) ?_
  have f7 := (E.keep K3)
  exact g_retU C eRS_31 ⟨rfl, f7, f5, f4, f6⟩ (by decide) (by decide)
theorem eRS_32 : decode k22 32 = .ok (.aload_n 0, 1) := by decide +kernel
theorem eRS_33 : decode k22 33 = .ok (.getfield 17, 3) := by decide +kernel
theorem eRS_36 : decode k22 36 = .ok (.aload_n 0, 1) := by decide +kernel
theorem eRS_37 : decode k22 37 = .ok (.getfield 11, 3) := by decide +kernel
theorem eRS_40 : decode k22 40 = .ok (.iaload, 1) := by decide +kernel
theorem eRS_41 : decode k22 41 = .ok (.invokestatic 112, 3) := by decide +kernel
theorem eRS_44 : decode k22 44 = .ok (.istore 4, 2) := by decide +kernel
theorem eRS_46 : decode k22 46 = .ok (.iload_n 3, 1) := by decide +kernel
theorem eRS_47 : decode k22 47 = .ok (.iload 4, 2) := by decide +kernel
theorem eRS_49 : decode k22 49 = .ok (.if_icmp .lt 24, 3) := by decide +kernel
theorem eRS_52 : decode k22 52 = .ok (.aload_n 0, 1) := by decide +kernel
theorem eRS_53 : decode k22 53 = .ok (.bipush 32, 2) := by decide +kernel
theorem eRS_55 : decode k22 55 = .ok (.iload_n 3, 1) := by decide +kernel
theorem eRS_56 : decode k22 56 = .ok (.isub, 1) := by decide +kernel
theorem eRS_57 : decode k22 57 = .ok (.invokevirtual 115, 3) := by decide +kernel
theorem eRS_60 : decode k22 60 = .ok (.aload_n 0, 1) := by decide +kernel
theorem eRS_61 : decode k22 61 = .ok (.dup, 1) := by decide +kernel
theorem eRS_62 : decode k22 62 = .ok (.getfield 21, 3) := by decide +kernel
theorem eRS_65 : decode k22 65 = .ok (.iconst 1, 1) := by decide +kernel
theorem eRS_66 : decode k22 66 = .ok (.isub, 1) := by decide +kernel
theorem eRS_67 : decode k22 67 = .ok (.putfield 21, 3) := by decide +kernel
theorem eRS_70 : decode k22 70 = .ok (.goto 8, 3) := by decide +kernel
theorem eRS_73 : decode k22 73 = .ok (.aload_n 0, 1) := by decide +kernel
theorem eRS_74 : decode k22 74 = .ok (.iload_n 3, 1) := by decide +kernel
theorem eRS_75 : decode k22 75 = .ok (.invokevirtual 118, 3) := by decide +kernel
theorem eRS_78 : decode k22 78 = .ok (.return_, 1) := by decide +kernel
theorem m_rs1 (l : Launch) (Z : State) (a0 : Array Value) (hw : ∀ d ∈ tables_1, d.before a0 Z = true) (a b : Addr) (k : Int32) (m0 : Int32) (h : Heap) (E : eM Z h a) (F0 : fV Z h a (.ref b)) (F1 : fI Z h a (.int 1)) (F2 : fO Z h a (.int 0)) (A : Av Z h b .int [(.int m0)]) (hba : b ≠ a) (h5 : XT.ushr k 5 = 0) :
    MetW false l Z [] (⟨"java/math/MutableBigInteger", "rightShift", "(I)V"⟩ : MethodName) k22 5 none [] (rM 2 0 0 26) #[(.ref a), (.int k)] [a, b] h (fun v h' => v = none ∧ ∃ z0 z : Int32, eM Z h' a ∧ fV Z h' a (.ref b) ∧ fI Z h' a (.int z) ∧ fO Z h' a (.int 0) ∧ Av Z h' b .int [(.int z0)] ∧ (z = 0 ∨ z = 1)) := by
  refine mO a0 #[.val (.ref a), .val (.int k), .unset, .unset, .unset] (fun _ _ _ m_ _ _ _ hs0 C => ?_)
  refine g_aloadN C eRS_0 rfl rfl <| gF C eRS_1 (hW hw 53 rfl) F1 <| g_ifT 8 C eRS_4 (show ¬ (1 : Int32) = (0 : Int32) by decide) (by decide) (by decide) <| g_iloadN C eRS_8 rfl <| g_iconst 5 C eRS_9 (by decide) <| g_iushr _ C eRS_10 rfl ?_
  rw [h5]
  refine gA (mkF m_ 11 #[.val (.ref a), .val (.int k), .unset, .unset, .unset] [(.int 0)]) <| g_istoreN #[.val (.ref a), .val (.int k), .val (.int 0), .unset, .unset] C eRS_11 rfl <| g_iloadN C eRS_12 rfl <| g_bipush 31 C eRS_13 (by decide) <| g_iand _ C eRS_15 rfl <| g_istoreN #[.val (.ref a), .val (.int k), .val (.int 0), .val (.int (k &&& (31 : Int32))), .unset] C eRS_16 rfl <| g_aloadN C eRS_17 rfl rfl <| g_dup C eRS_18 rfl <| gF C eRS_19 (hW hw 53 rfl) F1 <| g_iloadN C eRS_22 rfl <| g_isub 1 C eRS_23 (by decide) ?_
  refine g_putfield (host := "") C eRS_24 (Or.inl (hW hw 53 rfl)) Via.refl F1 E (Or.inl (hW hw 54 rfl)) (hW hw 42 rfl) (ty := .int) (by decide) rfl rfl (mm 0 rfl) (fun h1 W2 K3 => ?_)
  have f4 := Fld.same W2 F1
  have f5 := Fld.other W2 F0 (Or.inr (s69_54 hw))
  have f6 := Fld.other W2 F2 (Or.inr (s50_54 hw))
  refine g_iloadN C eRS_27 rfl ?_
  by_cases cc7 : (k &&& (31 : Int32)) = (0 : Int32)
  · refine g_ifF C eRS_28 (show (k &&& (31 : Int32)) = (0 : Int32) from cc7) ?_
    have f8 := (E.keep K3)
    have f9 := (A.keep K3 (ninS hba nin0))
    exact g_retU C eRS_31 ⟨rfl, _, _, f8, f5, f4, f6, f9, Or.inr rfl⟩ (by decide) (by decide)
  · refine g_ifT 32 C eRS_28 (show ¬ (k &&& (31 : Int32)) = (0 : Int32) from cc7) (by decide) (by decide) ?_
    refine g_aloadN C eRS_32 rfl rfl <| gF C eRS_33 (hW hw 68 rfl) f5 <| g_aloadN C eRS_36 rfl rfl <| gF C eRS_37 (hW hw 49 rfl) f6 ?_
    have f10 := (A.keep K3 (ninS hba nin0))
    refine g_iaload 0 C eRS_40 f10 (by decide) (by decide) rfl ?_
    refine g_invokestatic [(.int m0)] [] 0 C eRS_41 (hW hw 240 rfl) (hW hw 241 rfl) (hW hw 8 rfl) (hW hw 242 rfl) (by decide) (m_blfi l Z a0 hw _ _) (lenOf pd0 rfl) rfl rfl (bL rfl) (by decide) (by decide) (by decide) (by decide) all0 (fun v11 h12 L13 q14 K15 => ?_)
    obtain rfl := q14
    refine gA (mkF m_ 44 #[.val (.ref a), .val (.int k), .val (.int 0), .val (.int (k &&& (31 : Int32))), .unset] [(.int (32 - JP.Integer_numberOfLeadingZeros_I.val m0))]) <| g_istore #[.val (.ref a), .val (.int k), .val (.int 0), .val (.int (k &&& (31 : Int32))), .val (.int (32 - JP.Integer_numberOfLeadingZeros_I.val m0))] C eRS_44 rfl <| g_iloadN C eRS_46 rfl <| g_iload C eRS_47 rfl ?_
    by_cases cc16 : (k &&& (31 : Int32)) < (32 - JP.Integer_numberOfLeadingZeros_I.val m0)
    · refine g_icmpT 73 C eRS_49 (show (k &&& (31 : Int32)) < (32 - JP.Integer_numberOfLeadingZeros_I.val m0) from cc16) (by decide) (by decide) ?_
      refine g_aloadN C eRS_73 rfl rfl <| g_iloadN C eRS_74 rfl ?_
      have f19 := ((E.keep K3).keep K15)
      have f20 := (f5.keep K15 nin0)
      have f21 := (f4.keep K15 nin0)
      have f22 := (f6.keep K15 nin0)
      have f23 := (f10.keep K15 nin0)
      refine g_invokeprivate [(.int (k &&& (31 : Int32)))] [] 0 C eRS_75 (hW hw 246 rfl) (hW hw 247 rfl) (hW hw 249 rfl) (hW hw 248 rfl) (hW hw 43 rfl) (hW hw 250 rfl) (by decide) f19 (m_psR11 l Z a0 hw _ _ (k &&& (31 : Int32)) m0 _ f19 f20 f21 f22 f23 hba) (lenOf pd4 rfl) rfl rfl (bL rfl) (by decide) (by decide) (by decide) (by decide) (allS (mm 1 rfl) all0) (fun v24 h25 L26 q27 K28 => ?_)
      obtain ⟨rfl, y17, f18⟩ := q27
      refine gA (mkF m_ 78 #[.val (.ref a), .val (.int k), .val (.int 0), .val (.int (k &&& (31 : Int32))), .val (.int (32 - JP.Integer_numberOfLeadingZeros_I.val m0))] []) ?_
      have f29 := (f19.keep K28)
      have f30 := (f20.keep K28 (ninS (Ne.symm hba) nin0))
      have f31 := (f21.keep K28 (ninS (Ne.symm hba) nin0))
      have f32 := (f22.keep K28 (ninS (Ne.symm hba) nin0))
      exact g_retU C eRS_78 ⟨rfl, _, _, f29, f30, f31, f32, f18, Or.inr rfl⟩ (by decide) (by decide)
    · refine g_icmpF C eRS_49 (show ¬ (k &&& (31 : Int32)) < (32 - JP.Integer_numberOfLeadingZeros_I.val m0) from cc16) ?_
      refine g_aloadN C eRS_52 rfl rfl <| g_bipush 32 C eRS_53 (by decide) <| g_iloadN C eRS_55 rfl <| g_isub _ C eRS_56 rfl ?_
      have f35 := ((E.keep K3).keep K15)
      have f36 := (f5.keep K15 nin0)
      have f37 := (f4.keep K15 nin0)
      have f38 := (f6.keep K15 nin0)
      have f39 := (f10.keep K15 nin0)
      refine g_invokeprivate [(.int ((32 : Int32) - (k &&& (31 : Int32))))] [] 0 C eRS_57 (hW hw 261 rfl) (hW hw 262 rfl) (hW hw 264 rfl) (hW hw 263 rfl) (hW hw 43 rfl) (hW hw 265 rfl) (by decide) f35 (m_psL11 l Z a0 hw _ _ ((32 : Int32) - (k &&& (31 : Int32))) m0 _ f35 f36 f37 f38 f39 hba) (lenOf pd4 rfl) rfl rfl (bL rfl) (by decide) (by decide) (by decide) (by decide) (allS (mm 1 rfl) all0) (fun v40 h41 L42 q43 K44 => ?_)
      obtain ⟨rfl, y33, f34⟩ := q43
      refine gA (mkF m_ 60 #[.val (.ref a), .val (.int k), .val (.int 0), .val (.int (k &&& (31 : Int32))), .val (.int (32 - JP.Integer_numberOfLeadingZeros_I.val m0))] []) <| g_aloadN C eRS_60 rfl rfl <| g_dup C eRS_61 rfl ?_
      have f45 := (f37.keep K44 (ninS (Ne.symm hba) nin0))
      refine gF C eRS_62 (hW hw 53 rfl) f45 <| g_iconst 1 C eRS_65 (by decide) <| g_isub 0 C eRS_66 (by decide) ?_
      have f46 := (f35.keep K44)
      have f47 := (f36.keep K44 (ninS (Ne.symm hba) nin0))
      have f48 := (f38.keep K44 (ninS (Ne.symm hba) nin0))
      refine g_putfield (host := "") C eRS_67 (Or.inl (hW hw 53 rfl)) Via.refl f45 f46 (Or.inl (hW hw 54 rfl)) (hW hw 42 rfl) (ty := .int) (by decide) rfl rfl (mm 0 rfl) (fun h49 W50 K51 => ?_)
      have f52 := Fld.same W50 f45
      have f53 := Fld.other W50 f47 (Or.inr (s69_54 hw))
      have f54 := Fld.other W50 f48 (Or.inr (s50_54 hw))
      refine g_goto 78 C eRS_70 (by decide) (by decide) ?_
      have f55 := (f46.keep K51)
      have f56 := (f34.keep K51 (ninS hba nin0))
      exact g_retU C eRS_78 ⟨rfl, _, _, f55, f53, f52, f54, f56, Or.inl rfl⟩ (by decide) (by decide)
theorem m_rs2a (l : Launch) (Z : State) (a0 : Array Value) (hw : ∀ d ∈ tables_1, d.before a0 Z = true) (a b : Addr) (k : Int32) (m0 m1 : Int32) (h : Heap) (E : eM Z h a) (F0 : fV Z h a (.ref b)) (F1 : fI Z h a (.int 2)) (F2 : fO Z h a (.int 0)) (A : Av Z h b .int [(.int m0), (.int m1)]) (hba : b ≠ a) (k0 : ¬ m0 = 0) (h5 : XT.ushr k 5 = 0) :
    MetW false l Z [] (⟨"java/math/MutableBigInteger", "rightShift", "(I)V"⟩ : MethodName) k22 5 none [] (rM 2 0 0 26) #[(.ref a), (.int k)] [a, b] h (fun v h' => v = none ∧ ∃ z0 z1 z : Int32, eM Z h' a ∧ fV Z h' a (.ref b) ∧ fI Z h' a (.int z) ∧ fO Z h' a (.int 0) ∧ Av Z h' b .int [(.int z0), (.int z1)] ∧ (z = 0 ∨ z = 1 ∨ (z = 2 ∧ ¬ z0 = 0 ∧ ((z0 = m0 ∧ z1 = m1) ∨ uN z0 < uN m0)))) := by
  refine mO a0 #[.val (.ref a), .val (.int k), .unset, .unset, .unset] (fun _ _ _ m_ _ _ _ hs0 C => ?_)
  refine g_aloadN C eRS_0 rfl rfl <| gF C eRS_1 (hW hw 53 rfl) F1 <| g_ifT 8 C eRS_4 (show ¬ (2 : Int32) = (0 : Int32) by decide) (by decide) (by decide) <| g_iloadN C eRS_8 rfl <| g_iconst 5 C eRS_9 (by decide) <| g_iushr _ C eRS_10 rfl ?_
  rw [h5]
  refine gA (mkF m_ 11 #[.val (.ref a), .val (.int k), .unset, .unset, .unset] [(.int 0)]) <| g_istoreN #[.val (.ref a), .val (.int k), .val (.int 0), .unset, .unset] C eRS_11 rfl <| g_iloadN C eRS_12 rfl <| g_bipush 31 C eRS_13 (by decide) <| g_iand _ C eRS_15 rfl <| g_istoreN #[.val (.ref a), .val (.int k), .val (.int 0), .val (.int (k &&& (31 : Int32))), .unset] C eRS_16 rfl <| g_aloadN C eRS_17 rfl rfl <| g_dup C eRS_18 rfl <| gF C eRS_19 (hW hw 53 rfl) F1 <| g_iloadN C eRS_22 rfl <| g_isub 2 C eRS_23 (by decide) ?_
  refine g_putfield (host := "") C eRS_24 (Or.inl (hW hw 53 rfl)) Via.refl F1 E (Or.inl (hW hw 54 rfl)) (hW hw 42 rfl) (ty := .int) (by decide) rfl rfl (mm 0 rfl) (fun h1 W2 K3 => ?_)
  have f4 := Fld.same W2 F1
  have f5 := Fld.other W2 F0 (Or.inr (s69_54 hw))
  have f6 := Fld.other W2 F2 (Or.inr (s50_54 hw))
  refine g_iloadN C eRS_27 rfl ?_
  by_cases cc7 : (k &&& (31 : Int32)) = (0 : Int32)
  · refine g_ifF C eRS_28 (show (k &&& (31 : Int32)) = (0 : Int32) from cc7) ?_
    have f8 := (E.keep K3)
    have f9 := (A.keep K3 (ninS hba nin0))
    exact g_retU C eRS_31 ⟨rfl, _, _, _, f8, f5, f4, f6, f9, Or.inr (Or.inr ⟨rfl, k0, Or.inl ⟨rfl, rfl⟩⟩)⟩ (by decide) (by decide)
  · refine g_ifT 32 C eRS_28 (show ¬ (k &&& (31 : Int32)) = (0 : Int32) from cc7) (by decide) (by decide) ?_
    refine g_aloadN C eRS_32 rfl rfl <| gF C eRS_33 (hW hw 68 rfl) f5 <| g_aloadN C eRS_36 rfl rfl <| gF C eRS_37 (hW hw 49 rfl) f6 ?_
    have f10 := (A.keep K3 (ninS hba nin0))
    refine g_iaload 0 C eRS_40 f10 (by decide) (by decide) rfl ?_
    refine g_invokestatic [(.int m0)] [] 0 C eRS_41 (hW hw 240 rfl) (hW hw 241 rfl) (hW hw 8 rfl) (hW hw 242 rfl) (by decide) (m_blfi l Z a0 hw _ _) (lenOf pd0 rfl) rfl rfl (bL rfl) (by decide) (by decide) (by decide) (by decide) all0 (fun v11 h12 L13 q14 K15 => ?_)
    obtain rfl := q14
    refine gA (mkF m_ 44 #[.val (.ref a), .val (.int k), .val (.int 0), .val (.int (k &&& (31 : Int32))), .unset] [(.int (32 - JP.Integer_numberOfLeadingZeros_I.val m0))]) <| g_istore #[.val (.ref a), .val (.int k), .val (.int 0), .val (.int (k &&& (31 : Int32))), .val (.int (32 - JP.Integer_numberOfLeadingZeros_I.val m0))] C eRS_44 rfl <| g_iloadN C eRS_46 rfl <| g_iload C eRS_47 rfl ?_
    by_cases cc16 : (k &&& (31 : Int32)) < (32 - JP.Integer_numberOfLeadingZeros_I.val m0)
    · refine g_icmpT 73 C eRS_49 (show (k &&& (31 : Int32)) < (32 - JP.Integer_numberOfLeadingZeros_I.val m0) from cc16) (by decide) (by decide) ?_
      refine g_aloadN C eRS_73 rfl rfl <| g_iloadN C eRS_74 rfl ?_
      have f20 := ((E.keep K3).keep K15)
      have f21 := (f5.keep K15 nin0)
      have f22 := (f4.keep K15 nin0)
      have f23 := (f6.keep K15 nin0)
      have f24 := (f10.keep K15 nin0)
      refine g_invokeprivate [(.int (k &&& (31 : Int32)))] [] 0 C eRS_75 (hW hw 246 rfl) (hW hw 247 rfl) (hW hw 249 rfl) (hW hw 248 rfl) (hW hw 43 rfl) (hW hw 250 rfl) (by decide) f20 (m_psR22 l Z a0 hw _ _ (k &&& (31 : Int32)) m0 m1 _ f20 f21 f22 f23 f24 hba) (lenOf pd4 rfl) rfl rfl (bL rfl) (by decide) (by decide) (by decide) (by decide) (allS (mm 1 rfl) all0) (fun v25 h26 L27 q28 K29 => ?_)
      obtain ⟨rfl, y18, f19⟩ := q28
      refine gA (mkF m_ 78 #[.val (.ref a), .val (.int k), .val (.int 0), .val (.int (k &&& (31 : Int32))), .val (.int (32 - JP.Integer_numberOfLeadingZeros_I.val m0))] []) ?_
      have f30 := (f20.keep K29)
      have f31 := (f21.keep K29 (ninS (Ne.symm hba) nin0))
      have f32 := (f22.keep K29 (ninS (Ne.symm hba) nin0))
      have f33 := (f23.keep K29 (ninS (Ne.symm hba) nin0))
      exact g_retU C eRS_78 ⟨rfl, _, _, _, f30, f31, f32, f33, f19, Or.inr (Or.inr ⟨rfl, (own_rsh k0 cc7 cc16).1, Or.inr (own_rsh k0 cc7 cc16).2⟩)⟩ (by decide) (by decide)
    · refine g_icmpF C eRS_49 (show ¬ (k &&& (31 : Int32)) < (32 - JP.Integer_numberOfLeadingZeros_I.val m0) from cc16) ?_
      refine g_aloadN C eRS_52 rfl rfl <| g_bipush 32 C eRS_53 (by decide) <| g_iloadN C eRS_55 rfl <| g_isub _ C eRS_56 rfl ?_
      have f37 := ((E.keep K3).keep K15)
      have f38 := (f5.keep K15 nin0)
      have f39 := (f4.keep K15 nin0)
      have f40 := (f6.keep K15 nin0)
      have f41 := (f10.keep K15 nin0)
      refine g_invokeprivate [(.int ((32 : Int32) - (k &&& (31 : Int32))))] [] 0 C eRS_57 (hW hw 261 rfl) (hW hw 262 rfl) (hW hw 264 rfl) (hW hw 263 rfl) (hW hw 43 rfl) (hW hw 265 rfl) (by decide) f37 (m_psL22 l Z a0 hw _ _ ((32 : Int32) - (k &&& (31 : Int32))) m0 m1 _ f37 f38 f39 f40 f41 hba) (lenOf pd4 rfl) rfl rfl (bL rfl) (by decide) (by decide) (by decide) (by decide) (allS (mm 1 rfl) all0) (fun v42 h43 L44 q45 K46 => ?_)
      obtain ⟨rfl, y34, y35, f36⟩ := q45
      refine gA (mkF m_ 60 #[.val (.ref a), .val (.int k), .val (.int 0), .val (.int (k &&& (31 : Int32))), .val (.int (32 - JP.Integer_numberOfLeadingZeros_I.val m0))] []) <| g_aloadN C eRS_60 rfl rfl <| g_dup C eRS_61 rfl ?_
      have f47 := (f39.keep K46 (ninS (Ne.symm hba) nin0))
      refine gF C eRS_62 (hW hw 53 rfl) f47 <| g_iconst 1 C eRS_65 (by decide) <| g_isub 1 C eRS_66 (by decide) ?_
      have f48 := (f37.keep K46)
      have f49 := (f38.keep K46 (ninS (Ne.symm hba) nin0))
      have f50 := (f40.keep K46 (ninS (Ne.symm hba) nin0))
      refine g_putfield (host := "") C eRS_67 (Or.inl (hW hw 53 rfl)) Via.refl f47 f48 (Or.inl (hW hw 54 rfl)) (hW hw 42 rfl) (ty := .int) (by decide) rfl rfl (mm 0 rfl) (fun h51 W52 K53 => ?_)
      have f54 := Fld.same W52 f47
      have f55 := Fld.other W52 f49 (Or.inr (s69_54 hw))
      have f56 := Fld.other W52 f50 (Or.inr (s50_54 hw))
      refine g_goto 78 C eRS_70 (by decide) (by decide) ?_
      have f57 := (f48.keep K53)
      have f58 := (f36.keep K53 (ninS hba nin0))
      exact g_retU C eRS_78 ⟨rfl, _, _, _, f57, f55, f54, f56, f58, Or.inr (Or.inl rfl)⟩ (by decide) (by decide)
theorem m_rs2b (l : Launch) (Z : State) (a0 : Array Value) (hw : ∀ d ∈ tables_1, d.before a0 Z = true) (a b : Addr) (k : Int32) (m0 m1 : Int32) (h : Heap) (E : eM Z h a) (F0 : fV Z h a (.ref b)) (F1 : fI Z h a (.int 2)) (F2 : fO Z h a (.int 0)) (A : Av Z h b .int [(.int m0), (.int m1)]) (hba : b ≠ a) (k0 : ¬ m0 = 0) (h5 : XT.ushr k 5 = 1) :
    MetW false l Z [] (⟨"java/math/MutableBigInteger", "rightShift", "(I)V"⟩ : MethodName) k22 5 none [] (rM 2 0 0 26) #[(.ref a), (.int k)] [a, b] h (fun v h' => v = none ∧ ∃ z0 z1 z : Int32, eM Z h' a ∧ fV Z h' a (.ref b) ∧ fI Z h' a (.int z) ∧ fO Z h' a (.int 0) ∧ Av Z h' b .int [(.int z0), (.int z1)] ∧ (z = 0 ∨ z = 1 ∨ (z = 2 ∧ ¬ z0 = 0 ∧ ((z0 = m0 ∧ z1 = m1) ∨ uN z0 < uN m0)))) := by
  refine mO a0 #[.val (.ref a), .val (.int k), .unset, .unset, .unset] (fun _ _ _ m_ _ _ _ hs0 C => ?_)
  refine g_aloadN C eRS_0 rfl rfl <| gF C eRS_1 (hW hw 53 rfl) F1 <| g_ifT 8 C eRS_4 (show ¬ (2 : Int32) = (0 : Int32) by decide) (by decide) (by decide) <| g_iloadN C eRS_8 rfl <| g_iconst 5 C eRS_9 (by decide) <| g_iushr _ C eRS_10 rfl ?_
  rw [h5]
  refine gA (mkF m_ 11 #[.val (.ref a), .val (.int k), .unset, .unset, .unset] [(.int 1)]) <| g_istoreN #[.val (.ref a), .val (.int k), .val (.int 1), .unset, .unset] C eRS_11 rfl <| g_iloadN C eRS_12 rfl <| g_bipush 31 C eRS_13 (by decide) <| g_iand _ C eRS_15 rfl <| g_istoreN #[.val (.ref a), .val (.int k), .val (.int 1), .val (.int (k &&& (31 : Int32))), .unset] C eRS_16 rfl <| g_aloadN C eRS_17 rfl rfl <| g_dup C eRS_18 rfl <| gF C eRS_19 (hW hw 53 rfl) F1 <| g_iloadN C eRS_22 rfl <| g_isub 1 C eRS_23 (by decide) ?_
  refine g_putfield (host := "") C eRS_24 (Or.inl (hW hw 53 rfl)) Via.refl F1 E (Or.inl (hW hw 54 rfl)) (hW hw 42 rfl) (ty := .int) (by decide) rfl rfl (mm 0 rfl) (fun h1 W2 K3 => ?_)
  have f4 := Fld.same W2 F1
  have f5 := Fld.other W2 F0 (Or.inr (s69_54 hw))
  have f6 := Fld.other W2 F2 (Or.inr (s50_54 hw))
  refine g_iloadN C eRS_27 rfl ?_
  by_cases cc7 : (k &&& (31 : Int32)) = (0 : Int32)
  · refine g_ifF C eRS_28 (show (k &&& (31 : Int32)) = (0 : Int32) from cc7) ?_
    have f8 := (E.keep K3)
    have f9 := (A.keep K3 (ninS hba nin0))
    exact g_retU C eRS_31 ⟨rfl, _, _, _, f8, f5, f4, f6, f9, Or.inr (Or.inl rfl)⟩ (by decide) (by decide)
  · refine g_ifT 32 C eRS_28 (show ¬ (k &&& (31 : Int32)) = (0 : Int32) from cc7) (by decide) (by decide) ?_
    refine g_aloadN C eRS_32 rfl rfl <| gF C eRS_33 (hW hw 68 rfl) f5 <| g_aloadN C eRS_36 rfl rfl <| gF C eRS_37 (hW hw 49 rfl) f6 ?_
    have f10 := (A.keep K3 (ninS hba nin0))
    refine g_iaload 0 C eRS_40 f10 (by decide) (by decide) rfl ?_
    refine g_invokestatic [(.int m0)] [] 0 C eRS_41 (hW hw 240 rfl) (hW hw 241 rfl) (hW hw 8 rfl) (hW hw 242 rfl) (by decide) (m_blfi l Z a0 hw _ _) (lenOf pd0 rfl) rfl rfl (bL rfl) (by decide) (by decide) (by decide) (by decide) all0 (fun v11 h12 L13 q14 K15 => ?_)
    obtain rfl := q14
    refine gA (mkF m_ 44 #[.val (.ref a), .val (.int k), .val (.int 1), .val (.int (k &&& (31 : Int32))), .unset] [(.int (32 - JP.Integer_numberOfLeadingZeros_I.val m0))]) <| g_istore #[.val (.ref a), .val (.int k), .val (.int 1), .val (.int (k &&& (31 : Int32))), .val (.int (32 - JP.Integer_numberOfLeadingZeros_I.val m0))] C eRS_44 rfl <| g_iloadN C eRS_46 rfl <| g_iload C eRS_47 rfl ?_
    by_cases cc16 : (k &&& (31 : Int32)) < (32 - JP.Integer_numberOfLeadingZeros_I.val m0)
    · refine g_icmpT 73 C eRS_49 (show (k &&& (31 : Int32)) < (32 - JP.Integer_numberOfLeadingZeros_I.val m0) from cc16) (by decide) (by decide) ?_
      refine g_aloadN C eRS_73 rfl rfl <| g_iloadN C eRS_74 rfl ?_
      have f20 := ((E.keep K3).keep K15)
      have f21 := (f5.keep K15 nin0)
      have f22 := (f4.keep K15 nin0)
      have f23 := (f6.keep K15 nin0)
      have f24 := (f10.keep K15 nin0)
      refine g_invokeprivate [(.int (k &&& (31 : Int32)))] [] 0 C eRS_75 (hW hw 246 rfl) (hW hw 247 rfl) (hW hw 249 rfl) (hW hw 248 rfl) (hW hw 43 rfl) (hW hw 250 rfl) (by decide) f20 (m_psR21 l Z a0 hw _ _ (k &&& (31 : Int32)) m0 m1 _ f20 f21 f22 f23 f24 hba) (lenOf pd4 rfl) rfl rfl (bL rfl) (by decide) (by decide) (by decide) (by decide) (allS (mm 1 rfl) all0) (fun v25 h26 L27 q28 K29 => ?_)
      obtain ⟨rfl, y17, y18, f19⟩ := q28
      refine gA (mkF m_ 78 #[.val (.ref a), .val (.int k), .val (.int 1), .val (.int (k &&& (31 : Int32))), .val (.int (32 - JP.Integer_numberOfLeadingZeros_I.val m0))] []) ?_
      have f30 := (f20.keep K29)
      have f31 := (f21.keep K29 (ninS (Ne.symm hba) nin0))
      have f32 := (f22.keep K29 (ninS (Ne.symm hba) nin0))
      have f33 := (f23.keep K29 (ninS (Ne.symm hba) nin0))
      exact g_retU C eRS_78 ⟨rfl, _, _, _, f30, f31, f32, f33, f19, Or.inr (Or.inl rfl)⟩ (by decide) (by decide)
    · refine g_icmpF C eRS_49 (show ¬ (k &&& (31 : Int32)) < (32 - JP.Integer_numberOfLeadingZeros_I.val m0) from cc16) ?_
      refine g_aloadN C eRS_52 rfl rfl <| g_bipush 32 C eRS_53 (by decide) <| g_iloadN C eRS_55 rfl <| g_isub _ C eRS_56 rfl ?_
      have f37 := ((E.keep K3).keep K15)
      have f38 := (f5.keep K15 nin0)
      have f39 := (f4.keep K15 nin0)
      have f40 := (f6.keep K15 nin0)
      have f41 := (f10.keep K15 nin0)
      refine g_invokeprivate [(.int ((32 : Int32) - (k &&& (31 : Int32))))] [] 0 C eRS_57 (hW hw 261 rfl) (hW hw 262 rfl) (hW hw 264 rfl) (hW hw 263 rfl) (hW hw 43 rfl) (hW hw 265 rfl) (by decide) f37 (m_psL21 l Z a0 hw _ _ ((32 : Int32) - (k &&& (31 : Int32))) m0 m1 _ f37 f38 f39 f40 f41 hba) (lenOf pd4 rfl) rfl rfl (bL rfl) (by decide) (by decide) (by decide) (by decide) (allS (mm 1 rfl) all0) (fun v42 h43 L44 q45 K46 => ?_)
      obtain ⟨rfl, y34, y35, f36⟩ := q45
      refine gA (mkF m_ 60 #[.val (.ref a), .val (.int k), .val (.int 1), .val (.int (k &&& (31 : Int32))), .val (.int (32 - JP.Integer_numberOfLeadingZeros_I.val m0))] []) <| g_aloadN C eRS_60 rfl rfl <| g_dup C eRS_61 rfl ?_
      have f47 := (f39.keep K46 (ninS (Ne.symm hba) nin0))
      refine gF C eRS_62 (hW hw 53 rfl) f47 <| g_iconst 1 C eRS_65 (by decide) <| g_isub 0 C eRS_66 (by decide) ?_
      have f48 := (f37.keep K46)
      have f49 := (f38.keep K46 (ninS (Ne.symm hba) nin0))
      have f50 := (f40.keep K46 (ninS (Ne.symm hba) nin0))
      refine g_putfield (host := "") C eRS_67 (Or.inl (hW hw 53 rfl)) Via.refl f47 f48 (Or.inl (hW hw 54 rfl)) (hW hw 42 rfl) (ty := .int) (by decide) rfl rfl (mm 0 rfl) (fun h51 W52 K53 => ?_)
      have f54 := Fld.same W52 f47
      have f55 := Fld.other W52 f49 (Or.inr (s69_54 hw))
      have f56 := Fld.other W52 f50 (Or.inr (s50_54 hw))
      refine g_goto 78 C eRS_70 (by decide) (by decide) ?_
      have f57 := (f48.keep K53)
      have f58 := (f36.keep K53 (ninS hba nin0))
      exact g_retU C eRS_78 ⟨rfl, _, _, _, f57, f55, f54, f56, f58, Or.inl rfl⟩ (by decide) (by decide)
theorem m_rs2 (l : Launch) (Z : State) (a0 : Array Value) (hw : ∀ d ∈ tables_1, d.before a0 Z = true) (a b : Addr) (k : Int32) (m0 m1 : Int32) (h : Heap) (E : eM Z h a) (F0 : fV Z h a (.ref b)) (F1 : fI Z h a (.int 2)) (F2 : fO Z h a (.int 0)) (A : Av Z h b .int [(.int m0), (.int m1)]) (hba : b ≠ a) (k0 : ¬ m0 = 0) (h5 : XT.ushr k 5 = 0 ∨ XT.ushr k 5 = 1) :
    MetW false l Z [] (⟨"java/math/MutableBigInteger", "rightShift", "(I)V"⟩ : MethodName) k22 5 none [] (rM 2 0 0 26) #[(.ref a), (.int k)] [a, b] h (fun v h' => v = none ∧ ∃ z0 z1 z : Int32, eM Z h' a ∧ fV Z h' a (.ref b) ∧ fI Z h' a (.int z) ∧ fO Z h' a (.int 0) ∧ Av Z h' b .int [(.int z0), (.int z1)] ∧ (z = 0 ∨ z = 1 ∨ (z = 2 ∧ ¬ z0 = 0 ∧ ((z0 = m0 ∧ z1 = m1) ∨ uN z0 < uN m0)))) := by
  exact h5.elim (fun q => m_rs2a l Z a0 hw a b k m0 m1 h E F0 F1 F2 A hba k0 q) (fun q => m_rs2b l Z a0 hw a b k m0 m1 h E F0 F1 F2 A hba k0 q)
theorem m_gl1 (l : Launch) (Z : State) (a0 : Array Value) (hw : ∀ d ∈ tables_1, d.before a0 Z = true) (a b : Addr) (m0 : Int32) (h : Heap) (E : eM Z h a) (F0 : fV Z h a (.ref b)) (F1 : fI Z h a (.int 1)) (F2 : fO Z h a (.int 0)) (A : Av Z h b .int [(.int m0)]) (k0 : ¬ m0 = 0) :
    MetW false l Z [] (⟨"java/math/MutableBigInteger", "getLowestSetBit", "()I"⟩ : MethodName) k19 3 (some .int) [] (rM 1 0 0 14) #[(.ref a)] [] h (fun v h' => ∃ k : Int32, v = some (.int k) ∧ ¬ k < 0 ∧ XT.ushr k 5 = 0) := by
  exact (m_glsb1 l Z a0 hw a b m0 h E F0 F1 F2 A k0).post (fun v h' q _ => ⟨_, q, own_k0 k0⟩)
theorem m_gl2 (l : Launch) (Z : State) (a0 : Array Value) (hw : ∀ d ∈ tables_1, d.before a0 Z = true) (a b : Addr) (m0 m1 : Int32) (h : Heap) (E : eM Z h a) (F0 : fV Z h a (.ref b)) (F1 : fI Z h a (.int 2)) (F2 : fO Z h a (.int 0)) (A : Av Z h b .int [(.int m0), (.int m1)]) (k0 : ¬ m0 = 0) :
    MetW false l Z [] (⟨"java/math/MutableBigInteger", "getLowestSetBit", "()I"⟩ : MethodName) k19 3 (some .int) [] (rM 1 0 0 14) #[(.ref a)] [] h (fun v h' => ∃ k : Int32, v = some (.int k) ∧ ¬ k < 0 ∧ (XT.ushr k 5 = 0 ∨ XT.ushr k 5 = 1)) := by
  by_cases q : m1 = 0
  · subst q; exact (m_glsb2b l Z a0 hw a b m0 h E F0 F1 F2 A k0).post (fun v h' q _ => ⟨_, q, (own_k32 k0).1, Or.inr (own_k32 k0).2⟩)
  · exact (m_glsb2a l Z a0 hw a b m0 m1 h E F0 F1 F2 A q).post (fun v h' q' _ => ⟨_, q', (own_k0 q).1, Or.inl (own_k0 q).2⟩)
theorem m_glC (l : Launch) (Z : State) (a0 : Array Value) (hw : ∀ d ∈ tables_1, d.before a0 Z = true) (a b : Addr) (h : Heap) (E : eM Z h a) (F0 : fV Z h a (.ref b)) (F1 : fI Z h a (.int 1)) (F2 : fO Z h a (.int 1)) (A : Av Z h b .int [(.int 0), (.int (-1))]) :
    MetW false l Z [] (⟨"java/math/MutableBigInteger", "getLowestSetBit", "()I"⟩ : MethodName) k19 3 (some .int) [] (rM 1 0 0 14) #[(.ref a)] [] h (fun v h' => v = some (.int 0)) := by
  refine mO a0 #[.val (.ref a), .unset, .unset] (fun _ _ _ m_ _ _ _ hs0 C => ?_)
  refine g_aloadN C dG_0 rfl rfl <| gF C dG_1 (hW hw 53 rfl) F1 <| g_ifT 9 C dG_4 (show ¬ (1 : Int32) = (0 : Int32) by decide) (by decide) (by decide) <| g_aloadN C dG_9 rfl rfl <| gF C dG_10 (hW hw 53 rfl) F1 <| g_iconst 1 C dG_13 (by decide) <| g_isub 0 C dG_14 (by decide) <| g_istoreN #[.val (.ref a), .val (.int 0), .unset] C dG_15 rfl <| g_iloadN C dG_16 rfl <| g_ifT 40 C dG_17 (show ¬ (0 : Int32) < (0 : Int32) by decide) (by decide) (by decide) <| g_aloadN C dG_40 rfl rfl ?_
  refine gF C dG_41 (hW hw 68 rfl) F0 <| g_iloadN C dG_44 rfl <| g_aloadN C dG_45 rfl rfl <| gF C dG_46 (hW hw 49 rfl) F2 <| g_iadd 1 C dG_49 (by decide) <| g_iaload 1 C dG_50 A (by decide) (by decide) rfl <| g_istoreN #[.val (.ref a), .val (.int 0), .val (.int (-1))] C dG_51 rfl <| g_iloadN C dG_52 rfl <| g_ifT 58 C dG_53 (show ¬ (-1 : Int32) = (0 : Int32) by decide) (by decide) (by decide) <| g_aloadN C dG_58 rfl rfl <| gF C dG_59 (hW hw 53 rfl) F1 ?_
  refine g_iconst 1 C dG_62 (by decide) <| g_isub 0 C dG_63 (by decide) <| g_iloadN C dG_64 rfl <| g_isub 0 C dG_65 (by decide) <| g_iconst 5 C dG_66 (by decide) <| g_ishl 0 C dG_67 (by decide) <| g_iloadN C dG_68 rfl ?_
  refine g_invokestatic [(.int (-1))] [(.int 0)] 1 C dG_69 (hW hw 94 rfl) (hW hw 95 rfl) (hW hw 96 rfl) (hW hw 97 rfl) (by decide) (m_ntz l Z a0 hw _ _) (lenOf pd0 rfl) rfl rfl (bL rfl) (by decide) (by decide) (by decide) (by decide) all0 (fun v1 h2 L3 q4 K5 => ?_)
  obtain rfl := q4
  simp only [show JP.Integer_numberOfTrailingZeros_I.val (-1 : Int32) = (0 : Int32) from by decide]
  refine gA (mkF m_ 72 #[.val (.ref a), .val (.int 0), .val (.int (-1))] [(.int 0), (.int 0)]) <| g_iadd 0 C dG_72 (by decide) ?_
  exact g_retI C dG_73 rfl (by decide) (by decide)
theorem eCM_0 : decode k18 0 = .ok (.aload_n 1, 1) := by decide +kernel
theorem eCM_1 : decode k18 1 = .ok (.getfield 21, 3) := by decide +kernel
theorem eCM_4 : decode k18 4 = .ok (.istore_n 2, 1) := by decide +kernel
theorem eCM_5 : decode k18 5 = .ok (.aload_n 0, 1) := by decide +kernel
theorem eCM_6 : decode k18 6 = .ok (.getfield 21, 3) := by decide +kernel
theorem eCM_9 : decode k18 9 = .ok (.iload_n 2, 1) := by decide +kernel
theorem eCM_10 : decode k18 10 = .ok (.if_icmp .ge 5, 3) := by decide +kernel
theorem eCM_15 : decode k18 15 = .ok (.aload_n 0, 1) := by decide +kernel
theorem eCM_16 : decode k18 16 = .ok (.getfield 21, 3) := by decide +kernel
theorem eCM_19 : decode k18 19 = .ok (.iload_n 2, 1) := by decide +kernel
theorem eCM_20 : decode k18 20 = .ok (.if_icmp .le 5, 3) := by decide +kernel
theorem eCM_23 : decode k18 23 = .ok (.iconst 1, 1) := by decide +kernel
theorem eCM_24 : decode k18 24 = .ok (.ireturn, 1) := by decide +kernel
theorem m_cmp2 (l : Launch) (Z : State) (a0 : Array Value) (hw : ∀ d ∈ tables_1, d.before a0 Z = true) (a b c d : Addr) (m0 m1 : Int32) (h : Heap) (E : eM Z h a) (F0 : fV Z h a (.ref b)) (F1 : fI Z h a (.int 2)) (F2 : fO Z h a (.int 0)) (A : Av Z h b .int [(.int m0), (.int m1)]) (E' : eM Z h c) (G0 : fV Z h c (.ref d)) (G1 : fI Z h c (.int 1)) (G2 : fO Z h c (.int 0)) (B : Av Z h d .int [(.int 1)]) :
    MetW false l Z [] (⟨"java/math/MutableBigInteger", "compare", "(Ljava/math/MutableBigInteger;)I"⟩ : MethodName) k18 8 (some .int) [] (rM 0 0 0 0) #[(.ref a), (.ref c)] [] h (fun v h' => v = some (.int 1)) := by
  refine mO a0 #[.val (.ref a), .val (.ref c), .unset, .unset, .unset, .unset, .unset, .unset] (fun _ _ _ m_ _ _ _ hs0 C => ?_)
  refine g_aloadN C eCM_0 rfl rfl <| gF C eCM_1 (hW hw 53 rfl) G1 <| g_istoreN #[.val (.ref a), .val (.ref c), .val (.int 1), .unset, .unset, .unset, .unset, .unset] C eCM_4 rfl <| g_aloadN C eCM_5 rfl rfl <| gF C eCM_6 (hW hw 53 rfl) F1 <| g_iloadN C eCM_9 rfl <| g_icmpT 15 C eCM_10 (show ¬ (2 : Int32) < (1 : Int32) by decide) (by decide) (by decide) <| g_aloadN C eCM_15 rfl rfl <| gF C eCM_16 (hW hw 53 rfl) F1 <| g_iloadN C eCM_19 rfl <| g_icmpF C eCM_20 (show (1 : Int32) < (2 : Int32) by decide) ?_
  refine g_iconst 1 C eCM_23 (by decide) ?_
  exact g_retI C eCM_24 rfl (by decide) (by decide)
theorem eCM_25 : decode k18 25 = .ok (.aload_n 1, 1) := by decide +kernel
theorem eCM_26 : decode k18 26 = .ok (.getfield 17, 3) := by decide +kernel
theorem eCM_29 : decode k18 29 = .ok (.astore_n 3, 1) := by decide +kernel
theorem eCM_30 : decode k18 30 = .ok (.aload_n 0, 1) := by decide +kernel
theorem eCM_31 : decode k18 31 = .ok (.getfield 11, 3) := by decide +kernel
theorem eCM_34 : decode k18 34 = .ok (.istore 4, 2) := by decide +kernel
theorem eCM_36 : decode k18 36 = .ok (.aload_n 1, 1) := by decide +kernel
theorem eCM_37 : decode k18 37 = .ok (.getfield 11, 3) := by decide +kernel
theorem eCM_40 : decode k18 40 = .ok (.istore 5, 2) := by decide +kernel
theorem eCM_42 : decode k18 42 = .ok (.iload 4, 2) := by decide +kernel
theorem eCM_44 : decode k18 44 = .ok (.aload_n 0, 1) := by decide +kernel
theorem eCM_45 : decode k18 45 = .ok (.getfield 21, 3) := by decide +kernel
theorem eCM_48 : decode k18 48 = .ok (.aload_n 0, 1) := by decide +kernel
theorem eCM_49 : decode k18 49 = .ok (.getfield 11, 3) := by decide +kernel
theorem eCM_52 : decode k18 52 = .ok (.iadd, 1) := by decide +kernel
theorem eCM_53 : decode k18 53 = .ok (.if_icmp .ge 51, 3) := by decide +kernel
theorem eCM_56 : decode k18 56 = .ok (.aload_n 0, 1) := by decide +kernel
theorem eCM_57 : decode k18 57 = .ok (.getfield 17, 3) := by decide +kernel
theorem eCM_60 : decode k18 60 = .ok (.iload 4, 2) := by decide +kernel
theorem eCM_62 : decode k18 62 = .ok (.iaload, 1) := by decide +kernel
theorem eCM_63 : decode k18 63 = .ok (.ldc 88, 2) := by decide +kernel
theorem eCM_65 : decode k18 65 = .ok (.iadd, 1) := by decide +kernel
theorem eCM_66 : decode k18 66 = .ok (.istore 6, 2) := by decide +kernel
theorem eCM_68 : decode k18 68 = .ok (.aload_n 3, 1) := by decide +kernel
theorem eCM_69 : decode k18 69 = .ok (.iload 5, 2) := by decide +kernel
theorem eCM_71 : decode k18 71 = .ok (.iaload, 1) := by decide +kernel
theorem eCM_72 : decode k18 72 = .ok (.ldc 88, 2) := by decide +kernel
theorem eCM_74 : decode k18 74 = .ok (.iadd, 1) := by decide +kernel
theorem eCM_75 : decode k18 75 = .ok (.istore 7, 2) := by decide +kernel
theorem eCM_77 : decode k18 77 = .ok (.iload 6, 2) := by decide +kernel
theorem eCM_79 : decode k18 79 = .ok (.iload 7, 2) := by decide +kernel
theorem eCM_81 : decode k18 81 = .ok (.if_icmp .ge 5, 3) := by decide +kernel
theorem eCM_86 : decode k18 86 = .ok (.iload 6, 2) := by decide +kernel
theorem eCM_88 : decode k18 88 = .ok (.iload 7, 2) := by decide +kernel
theorem eCM_90 : decode k18 90 = .ok (.if_icmp .le 5, 3) := by decide +kernel
theorem eCM_95 : decode k18 95 = .ok (.iinc 4 1, 3) := by decide +kernel
theorem eCM_98 : decode k18 98 = .ok (.iinc 5 1, 3) := by decide +kernel
theorem eCM_101 : decode k18 101 = .ok (.goto (-59), 3) := by decide +kernel
theorem eCM_104 : decode k18 104 = .ok (.iconst 0, 1) := by decide +kernel
theorem eCM_105 : decode k18 105 = .ok (.ireturn, 1) := by decide +kernel
theorem m_cmp1a (l : Launch) (Z : State) (a0 : Array Value) (hw : ∀ d ∈ tables_1, d.before a0 Z = true) (a b c d : Addr) (h : Heap) (E : eM Z h a) (F0 : fV Z h a (.ref b)) (F1 : fI Z h a (.int 1)) (F2 : fO Z h a (.int 0)) (A : Av Z h b .int [(.int 1)]) (E' : eM Z h c) (G0 : fV Z h c (.ref d)) (G1 : fI Z h c (.int 1)) (G2 : fO Z h c (.int 0)) (B : Av Z h d .int [(.int 1)]) :
    MetW false l Z [] (⟨"java/math/MutableBigInteger", "compare", "(Ljava/math/MutableBigInteger;)I"⟩ : MethodName) k18 8 (some .int) [] (rM 0 0 0 0) #[(.ref a), (.ref c)] [] h (fun v h' => v = some (.int 0)) := by
  refine mO a0 #[.val (.ref a), .val (.ref c), .unset, .unset, .unset, .unset, .unset, .unset] (fun _ _ _ m_ _ _ _ hs0 C => ?_)
  refine g_aloadN C eCM_0 rfl rfl <| gF C eCM_1 (hW hw 53 rfl) G1 <| g_istoreN #[.val (.ref a), .val (.ref c), .val (.int 1), .unset, .unset, .unset, .unset, .unset] C eCM_4 rfl <| g_aloadN C eCM_5 rfl rfl <| gF C eCM_6 (hW hw 53 rfl) F1 <| g_iloadN C eCM_9 rfl <| g_icmpT 15 C eCM_10 (show ¬ (1 : Int32) < (1 : Int32) by decide) (by decide) (by decide) <| g_aloadN C eCM_15 rfl rfl <| gF C eCM_16 (hW hw 53 rfl) F1 <| g_iloadN C eCM_19 rfl <| g_icmpT 25 C eCM_20 (show ¬ (1 : Int32) < (1 : Int32) by decide) (by decide) (by decide) ?_
  refine g_aloadN C eCM_25 rfl rfl <| gF C eCM_26 (hW hw 68 rfl) G0 <| g_astoreN #[.val (.ref a), .val (.ref c), .val (.int 1), .val (.ref d), .unset, .unset, .unset, .unset] C eCM_29 rfl rfl <| g_aloadN C eCM_30 rfl rfl <| gF C eCM_31 (hW hw 49 rfl) F2 <| g_istore #[.val (.ref a), .val (.ref c), .val (.int 1), .val (.ref d), .val (.int 0), .unset, .unset, .unset] C eCM_34 rfl <| g_aloadN C eCM_36 rfl rfl <| gF C eCM_37 (hW hw 49 rfl) G2 <| g_istore #[.val (.ref a), .val (.ref c), .val (.int 1), .val (.ref d), .val (.int 0), .val (.int 0), .unset, .unset] C eCM_40 rfl <| g_iload C eCM_42 rfl <| g_aloadN C eCM_44 rfl rfl ?_
  refine gF C eCM_45 (hW hw 53 rfl) F1 <| g_aloadN C eCM_48 rfl rfl <| gF C eCM_49 (hW hw 49 rfl) F2 <| g_iadd 1 C eCM_52 (by decide) <| g_icmpF C eCM_53 (show (0 : Int32) < (1 : Int32) by decide) <| g_aloadN C eCM_56 rfl rfl <| gF C eCM_57 (hW hw 68 rfl) F0 <| g_iload C eCM_60 rfl <| g_iaload 0 C eCM_62 A (by decide) (by decide) rfl <| g_ldcInt (-2147483648) C eCM_63 (hW hw 106 rfl) <| g_iadd (-2147483647) C eCM_65 (by decide) ?_
  refine g_istore #[.val (.ref a), .val (.ref c), .val (.int 1), .val (.ref d), .val (.int 0), .val (.int 0), .val (.int (-2147483647)), .unset] C eCM_66 rfl <| g_aloadN C eCM_68 rfl rfl <| g_iload C eCM_69 rfl <| g_iaload 0 C eCM_71 B (by decide) (by decide) rfl <| g_ldcInt (-2147483648) C eCM_72 (hW hw 106 rfl) <| g_iadd (-2147483647) C eCM_74 (by decide) <| g_istore #[.val (.ref a), .val (.ref c), .val (.int 1), .val (.ref d), .val (.int 0), .val (.int 0), .val (.int (-2147483647)), .val (.int (-2147483647))] C eCM_75 rfl <| g_iload C eCM_77 rfl <| g_iload C eCM_79 rfl <| g_icmpT 86 C eCM_81 (show ¬ (-2147483647 : Int32) < (-2147483647 : Int32) by decide) (by decide) (by decide) <| g_iload C eCM_86 rfl ?_
  refine g_iload C eCM_88 rfl <| g_icmpT 95 C eCM_90 (show ¬ (-2147483647 : Int32) < (-2147483647 : Int32) by decide) (by decide) (by decide) <| g_iinc (1 : Int32) #[.val (.ref a), .val (.ref c), .val (.int 1), .val (.ref d), .val (.int 1), .val (.int 0), .val (.int (-2147483647)), .val (.int (-2147483647))] C eCM_95 rfl (by decide) rfl <| g_iinc (1 : Int32) #[.val (.ref a), .val (.ref c), .val (.int 1), .val (.ref d), .val (.int 1), .val (.int 1), .val (.int (-2147483647)), .val (.int (-2147483647))] C eCM_98 rfl (by decide) rfl <| g_goto 42 C eCM_101 (by decide) (by decide) <| g_iload C eCM_42 rfl <| g_aloadN C eCM_44 rfl rfl <| gF C eCM_45 (hW hw 53 rfl) F1 <| g_aloadN C eCM_48 rfl rfl <| gF C eCM_49 (hW hw 49 rfl) F2 <| g_iadd 1 C eCM_52 (by decide) ?_
  refine g_icmpT 104 C eCM_53 (show ¬ (1 : Int32) < (1 : Int32) by decide) (by decide) (by decide) <| g_iconst 0 C eCM_104 (by decide) ?_
  exact g_retI C eCM_105 rfl (by decide) (by decide)
theorem eCM_93 : decode k18 93 = .ok (.iconst 1, 1) := by decide +kernel
theorem eCM_94 : decode k18 94 = .ok (.ireturn, 1) := by decide +kernel
theorem m_cmp1b (l : Launch) (Z : State) (a0 : Array Value) (hw : ∀ d ∈ tables_1, d.before a0 Z = true) (a b c d : Addr) (m0 : Int32) (h : Heap) (E : eM Z h a) (F0 : fV Z h a (.ref b)) (F1 : fI Z h a (.int 1)) (F2 : fO Z h a (.int 0)) (A : Av Z h b .int [(.int m0)]) (E' : eM Z h c) (G0 : fV Z h c (.ref d)) (G1 : fI Z h c (.int 1)) (G2 : fO Z h c (.int 0)) (B : Av Z h d .int [(.int 1)]) (k0 : ¬ m0 = 0) (k1 : ¬ m0 = 1) :
    MetW false l Z [] (⟨"java/math/MutableBigInteger", "compare", "(Ljava/math/MutableBigInteger;)I"⟩ : MethodName) k18 8 (some .int) [] (rM 0 0 0 0) #[(.ref a), (.ref c)] [] h (fun v h' => v = some (.int 1)) := by
  refine mO a0 #[.val (.ref a), .val (.ref c), .unset, .unset, .unset, .unset, .unset, .unset] (fun _ _ _ m_ _ _ _ hs0 C => ?_)
  refine g_aloadN C eCM_0 rfl rfl <| gF C eCM_1 (hW hw 53 rfl) G1 <| g_istoreN #[.val (.ref a), .val (.ref c), .val (.int 1), .unset, .unset, .unset, .unset, .unset] C eCM_4 rfl <| g_aloadN C eCM_5 rfl rfl <| gF C eCM_6 (hW hw 53 rfl) F1 <| g_iloadN C eCM_9 rfl <| g_icmpT 15 C eCM_10 (show ¬ (1 : Int32) < (1 : Int32) by decide) (by decide) (by decide) <| g_aloadN C eCM_15 rfl rfl <| gF C eCM_16 (hW hw 53 rfl) F1 <| g_iloadN C eCM_19 rfl <| g_icmpT 25 C eCM_20 (show ¬ (1 : Int32) < (1 : Int32) by decide) (by decide) (by decide) ?_
  refine g_aloadN C eCM_25 rfl rfl <| gF C eCM_26 (hW hw 68 rfl) G0 <| g_astoreN #[.val (.ref a), .val (.ref c), .val (.int 1), .val (.ref d), .unset, .unset, .unset, .unset] C eCM_29 rfl rfl <| g_aloadN C eCM_30 rfl rfl <| gF C eCM_31 (hW hw 49 rfl) F2 <| g_istore #[.val (.ref a), .val (.ref c), .val (.int 1), .val (.ref d), .val (.int 0), .unset, .unset, .unset] C eCM_34 rfl <| g_aloadN C eCM_36 rfl rfl <| gF C eCM_37 (hW hw 49 rfl) G2 <| g_istore #[.val (.ref a), .val (.ref c), .val (.int 1), .val (.ref d), .val (.int 0), .val (.int 0), .unset, .unset] C eCM_40 rfl <| g_iload C eCM_42 rfl <| g_aloadN C eCM_44 rfl rfl ?_
  refine gF C eCM_45 (hW hw 53 rfl) F1 <| g_aloadN C eCM_48 rfl rfl <| gF C eCM_49 (hW hw 49 rfl) F2 <| g_iadd 1 C eCM_52 (by decide) <| g_icmpF C eCM_53 (show (0 : Int32) < (1 : Int32) by decide) <| g_aloadN C eCM_56 rfl rfl <| gF C eCM_57 (hW hw 68 rfl) F0 <| g_iload C eCM_60 rfl <| g_iaload 0 C eCM_62 A (by decide) (by decide) rfl <| g_ldcInt (-2147483648) C eCM_63 (hW hw 106 rfl) <| g_iadd _ C eCM_65 rfl ?_
  refine g_istore #[.val (.ref a), .val (.ref c), .val (.int 1), .val (.ref d), .val (.int 0), .val (.int 0), .val (.int (m0 + (-2147483648 : Int32))), .unset] C eCM_66 rfl <| g_aloadN C eCM_68 rfl rfl <| g_iload C eCM_69 rfl <| g_iaload 0 C eCM_71 B (by decide) (by decide) rfl <| g_ldcInt (-2147483648) C eCM_72 (hW hw 106 rfl) <| g_iadd (-2147483647) C eCM_74 (by decide) <| g_istore #[.val (.ref a), .val (.ref c), .val (.int 1), .val (.ref d), .val (.int 0), .val (.int 0), .val (.int (m0 + (-2147483648 : Int32))), .val (.int (-2147483647))] C eCM_75 rfl <| g_iload C eCM_77 rfl <| g_iload C eCM_79 rfl <| g_icmpT 86 C eCM_81 (show ¬ (m0 + (-2147483648 : Int32)) < (-2147483647 : Int32) from (own_ge1 k0)) (by decide) (by decide) <| g_iload C eCM_86 rfl ?_
  refine g_iload C eCM_88 rfl <| g_icmpF C eCM_90 (show (-2147483647 : Int32) < (m0 + (-2147483648 : Int32)) from (own_gt1 k0 k1)) <| g_iconst 1 C eCM_93 (by decide) ?_
  exact g_retI C eCM_94 rfl (by decide) (by decide)
theorem eNO_0 : decode k21 0 = .ok (.aload_n 0, 1) := by decide +kernel
theorem eNO_1 : decode k21 1 = .ok (.getfield 21, 3) := by decide +kernel
theorem eNO_4 : decode k21 4 = .ok (.ifCond .ne 9, 3) := by decide +kernel
theorem eNO_13 : decode k21 13 = .ok (.aload_n 0, 1) := by decide +kernel
theorem eNO_14 : decode k21 14 = .ok (.getfield 11, 3) := by decide +kernel
theorem eNO_17 : decode k21 17 = .ok (.istore_n 1, 1) := by decide +kernel
theorem eNO_18 : decode k21 18 = .ok (.aload_n 0, 1) := by decide +kernel
theorem eNO_19 : decode k21 19 = .ok (.getfield 17, 3) := by decide +kernel
theorem eNO_22 : decode k21 22 = .ok (.iload_n 1, 1) := by decide +kernel
theorem eNO_23 : decode k21 23 = .ok (.iaload, 1) := by decide +kernel
theorem eNO_24 : decode k21 24 = .ok (.ifCond .eq 4, 3) := by decide +kernel
theorem eNO_27 : decode k21 27 = .ok (.return_, 1) := by decide +kernel
theorem m_no1 (l : Launch) (Z : State) (a0 : Array Value) (hw : ∀ d ∈ tables_1, d.before a0 Z = true) (a b : Addr) (m0 m1 : Int32) (h : Heap) (E : eM Z h a) (F0 : fV Z h a (.ref b)) (F1 : fI Z h a (.int 2)) (F2 : fO Z h a (.int 0)) (A : Av Z h b .int [(.int m0), (.int m1)]) (k0 : ¬ m0 = 0) :
    MetW false l Z [] (⟨"java/math/MutableBigInteger", "normalize", "()V"⟩ : MethodName) k21 4 none [] (rM 0 0 0 0) #[(.ref a)] [] h (fun v h' => v = none) := by
  refine mO a0 #[.val (.ref a), .unset, .unset, .unset] (fun _ _ _ m_ _ _ _ hs0 C => ?_)
  refine g_aloadN C eNO_0 rfl rfl <| gF C eNO_1 (hW hw 53 rfl) F1 <| g_ifT 13 C eNO_4 (show ¬ (2 : Int32) = (0 : Int32) by decide) (by decide) (by decide) <| g_aloadN C eNO_13 rfl rfl <| gF C eNO_14 (hW hw 49 rfl) F2 <| g_istoreN #[.val (.ref a), .val (.int 0), .unset, .unset] C eNO_17 rfl <| g_aloadN C eNO_18 rfl rfl <| gF C eNO_19 (hW hw 68 rfl) F0 <| g_iloadN C eNO_22 rfl <| g_iaload 0 C eNO_23 A (by decide) (by decide) rfl <| g_ifF C eNO_24 (show ¬ m0 = (0 : Int32) from k0) ?_
  exact g_retU C eNO_27 rfl (by decide) (by decide)
theorem eNO_28 : decode k21 28 = .ok (.iload_n 1, 1) := by decide +kernel
theorem eNO_29 : decode k21 29 = .ok (.aload_n 0, 1) := by decide +kernel
theorem eNO_30 : decode k21 30 = .ok (.getfield 21, 3) := by decide +kernel
theorem eNO_33 : decode k21 33 = .ok (.iadd, 1) := by decide +kernel
theorem eNO_34 : decode k21 34 = .ok (.istore_n 2, 1) := by decide +kernel
theorem eNO_35 : decode k21 35 = .ok (.iinc 1 1, 3) := by decide +kernel
theorem eNO_38 : decode k21 38 = .ok (.iload_n 1, 1) := by decide +kernel
theorem eNO_39 : decode k21 39 = .ok (.iload_n 2, 1) := by decide +kernel
theorem eNO_40 : decode k21 40 = .ok (.if_icmp .ge 12, 3) := by decide +kernel
theorem eNO_43 : decode k21 43 = .ok (.aload_n 0, 1) := by decide +kernel
theorem eNO_44 : decode k21 44 = .ok (.getfield 17, 3) := by decide +kernel
theorem eNO_47 : decode k21 47 = .ok (.iload_n 1, 1) := by decide +kernel
theorem eNO_48 : decode k21 48 = .ok (.iaload, 1) := by decide +kernel
theorem eNO_49 : decode k21 49 = .ok (.ifCond .eq (-14), 3) := by decide +kernel
theorem eNO_52 : decode k21 52 = .ok (.iload_n 1, 1) := by decide +kernel
theorem eNO_53 : decode k21 53 = .ok (.aload_n 0, 1) := by decide +kernel
theorem eNO_54 : decode k21 54 = .ok (.getfield 11, 3) := by decide +kernel
theorem eNO_57 : decode k21 57 = .ok (.isub, 1) := by decide +kernel
theorem eNO_58 : decode k21 58 = .ok (.istore_n 3, 1) := by decide +kernel
theorem eNO_59 : decode k21 59 = .ok (.aload_n 0, 1) := by decide +kernel
theorem eNO_60 : decode k21 60 = .ok (.dup, 1) := by decide +kernel
theorem eNO_61 : decode k21 61 = .ok (.getfield 21, 3) := by decide +kernel
theorem eNO_64 : decode k21 64 = .ok (.iload_n 3, 1) := by decide +kernel
theorem eNO_65 : decode k21 65 = .ok (.isub, 1) := by decide +kernel
theorem eNO_66 : decode k21 66 = .ok (.putfield 21, 3) := by decide +kernel
theorem eNO_69 : decode k21 69 = .ok (.aload_n 0, 1) := by decide +kernel
theorem eNO_70 : decode k21 70 = .ok (.aload_n 0, 1) := by decide +kernel
theorem eNO_71 : decode k21 71 = .ok (.getfield 21, 3) := by decide +kernel
theorem eNO_74 : decode k21 74 = .ok (.ifCond .ne 7, 3) := by decide +kernel
theorem eNO_81 : decode k21 81 = .ok (.aload_n 0, 1) := by decide +kernel
theorem eNO_82 : decode k21 82 = .ok (.getfield 11, 3) := by decide +kernel
theorem eNO_85 : decode k21 85 = .ok (.iload_n 3, 1) := by decide +kernel
theorem eNO_86 : decode k21 86 = .ok (.iadd, 1) := by decide +kernel
theorem eNO_87 : decode k21 87 = .ok (.putfield 11, 3) := by decide +kernel
theorem eNO_90 : decode k21 90 = .ok (.return_, 1) := by decide +kernel
theorem m_no2 (l : Launch) (Z : State) (a0 : Array Value) (hw : ∀ d ∈ tables_1, d.before a0 Z = true) (a b : Addr) (h : Heap) (E : eM Z h a) (F0 : fV Z h a (.ref b)) (F1 : fI Z h a (.int 2)) (F2 : fO Z h a (.int 0)) (A : Av Z h b .int [(.int 0), (.int (-1))]) (hba : b ≠ a) :
    MetW false l Z [] (⟨"java/math/MutableBigInteger", "normalize", "()V"⟩ : MethodName) k21 4 none [] (rM 0 0 0 0) #[(.ref a)] [a] h (fun v h' => v = none ∧ eM Z h' a ∧ fV Z h' a (.ref b) ∧ fI Z h' a (.int 1) ∧ fO Z h' a (.int 1)) := by
  refine mO a0 #[.val (.ref a), .unset, .unset, .unset] (fun _ _ _ m_ _ _ _ hs0 C => ?_)
  refine g_aloadN C eNO_0 rfl rfl <| gF C eNO_1 (hW hw 53 rfl) F1 <| g_ifT 13 C eNO_4 (show ¬ (2 : Int32) = (0 : Int32) by decide) (by decide) (by decide) <| g_aloadN C eNO_13 rfl rfl <| gF C eNO_14 (hW hw 49 rfl) F2 <| g_istoreN #[.val (.ref a), .val (.int 0), .unset, .unset] C eNO_17 rfl <| g_aloadN C eNO_18 rfl rfl <| gF C eNO_19 (hW hw 68 rfl) F0 <| g_iloadN C eNO_22 rfl <| g_iaload 0 C eNO_23 A (by decide) (by decide) rfl <| g_ifT 28 C eNO_24 (show (0 : Int32) = (0 : Int32) by decide) (by decide) (by decide) ?_
  refine g_iloadN C eNO_28 rfl <| g_aloadN C eNO_29 rfl rfl <| gF C eNO_30 (hW hw 53 rfl) F1 <| g_iadd 2 C eNO_33 (by decide) <| g_istoreN #[.val (.ref a), .val (.int 0), .val (.int 2), .unset] C eNO_34 rfl <| g_iinc (1 : Int32) #[.val (.ref a), .val (.int 1), .val (.int 2), .unset] C eNO_35 rfl (by decide) rfl <| g_iloadN C eNO_38 rfl <| g_iloadN C eNO_39 rfl <| g_icmpF C eNO_40 (show (1 : Int32) < (2 : Int32) by decide) <| g_aloadN C eNO_43 rfl rfl <| gF C eNO_44 (hW hw 68 rfl) F0 ?_
  refine g_iloadN C eNO_47 rfl <| g_iaload 1 C eNO_48 A (by decide) (by decide) rfl <| g_ifF C eNO_49 (show ¬ (-1 : Int32) = (0 : Int32) by decide) <| g_iloadN C eNO_52 rfl <| g_aloadN C eNO_53 rfl rfl <| gF C eNO_54 (hW hw 49 rfl) F2 <| g_isub 1 C eNO_57 (by decide) <| g_istoreN #[.val (.ref a), .val (.int 1), .val (.int 2), .val (.int 1)] C eNO_58 rfl <| g_aloadN C eNO_59 rfl rfl <| g_dup C eNO_60 rfl <| gF C eNO_61 (hW hw 53 rfl) F1 ?_
  refine g_iloadN C eNO_64 rfl <| g_isub 1 C eNO_65 (by decide) ?_
  refine g_putfield (host := "") C eNO_66 (Or.inl (hW hw 53 rfl)) Via.refl F1 E (Or.inl (hW hw 54 rfl)) (hW hw 42 rfl) (ty := .int) (by decide) rfl rfl (mm 0 rfl) (fun h1 W2 K3 => ?_)
  have f4 := Fld.same W2 F1
  have f5 := Fld.other W2 F0 (Or.inr (s69_54 hw))
  have f6 := Fld.other W2 F2 (Or.inr (s50_54 hw))
  refine g_aloadN C eNO_69 rfl rfl <| g_aloadN C eNO_70 rfl rfl <| gF C eNO_71 (hW hw 53 rfl) f4 <| g_ifT 81 C eNO_74 (show ¬ (1 : Int32) = (0 : Int32) by decide) (by decide) (by decide) <| g_aloadN C eNO_81 rfl rfl <| gF C eNO_82 (hW hw 49 rfl) f6 <| g_iloadN C eNO_85 rfl <| g_iadd 1 C eNO_86 (by decide) ?_
  have f7 := (E.keep K3)
  refine g_putfield (host := "") C eNO_87 (Or.inl (hW hw 49 rfl)) Via.refl f6 f7 (Or.inl (hW hw 50 rfl)) (hW hw 42 rfl) (ty := .int) (by decide) rfl rfl (mm 0 rfl) (fun h8 W9 K10 => ?_)
  have f11 := Fld.same W9 f6
  have f12 := Fld.other W9 f5 (Or.inr (s69_50 hw))
  have f13 := Fld.other W9 f4 (Or.inr (s54_50 hw))
  have f14 := (f7.keep K10)
  exact g_retU C eNO_90 ⟨rfl, f14, f12, f13, f11⟩ (by decide) (by decide)
theorem eDF_0 : decode k27 0 = .ok (.aload_n 0, 1) := by decide +kernel
theorem eDF_1 : decode k27 1 = .ok (.astore_n 2, 1) := by decide +kernel
theorem eDF_2 : decode k27 2 = .ok (.aload_n 2, 1) := by decide +kernel
theorem eDF_3 : decode k27 3 = .ok (.aload_n 1, 1) := by decide +kernel
theorem eDF_4 : decode k27 4 = .ok (.invokevirtual 142, 3) := by decide +kernel
theorem eDF_7 : decode k27 7 = .ok (.istore_n 3, 1) := by decide +kernel
theorem eDF_8 : decode k27 8 = .ok (.iload_n 3, 1) := by decide +kernel
theorem eDF_9 : decode k27 9 = .ok (.ifCond .ne 5, 3) := by decide +kernel
theorem eDF_14 : decode k27 14 = .ok (.iload_n 3, 1) := by decide +kernel
theorem eDF_15 : decode k27 15 = .ok (.ifCond .ge 11, 3) := by decide +kernel
theorem eDF_26 : decode k27 26 = .ok (.lconst 0, 1) := by decide +kernel
theorem eDF_27 : decode k27 27 = .ok (.lstore 4, 2) := by decide +kernel
theorem eDF_29 : decode k27 29 = .ok (.aload_n 2, 1) := by decide +kernel
theorem eDF_30 : decode k27 30 = .ok (.getfield 21, 3) := by decide +kernel
theorem eDF_33 : decode k27 33 = .ok (.istore 6, 2) := by decide +kernel
theorem eDF_35 : decode k27 35 = .ok (.aload_n 1, 1) := by decide +kernel
theorem eDF_36 : decode k27 36 = .ok (.getfield 21, 3) := by decide +kernel
theorem eDF_39 : decode k27 39 = .ok (.istore 7, 2) := by decide +kernel
theorem eDF_41 : decode k27 41 = .ok (.iload 7, 2) := by decide +kernel
theorem eDF_43 : decode k27 43 = .ok (.ifCond .le 70, 3) := by decide +kernel
theorem eDF_46 : decode k27 46 = .ok (.iinc 6 (-1), 3) := by decide +kernel
theorem eDF_49 : decode k27 49 = .ok (.iinc 7 (-1), 3) := by decide +kernel
theorem eDF_52 : decode k27 52 = .ok (.aload_n 2, 1) := by decide +kernel
theorem eDF_53 : decode k27 53 = .ok (.getfield 17, 3) := by decide +kernel
theorem eDF_56 : decode k27 56 = .ok (.aload_n 2, 1) := by decide +kernel
theorem eDF_57 : decode k27 57 = .ok (.getfield 11, 3) := by decide +kernel
theorem eDF_60 : decode k27 60 = .ok (.iload 6, 2) := by decide +kernel
theorem eDF_62 : decode k27 62 = .ok (.iadd, 1) := by decide +kernel
theorem eDF_63 : decode k27 63 = .ok (.iaload, 1) := by decide +kernel
theorem eDF_64 : decode k27 64 = .ok (.i2l, 1) := by decide +kernel
theorem eDF_65 : decode k27 65 = .ok (.ldc2_w 52, 3) := by decide +kernel
theorem eDF_68 : decode k27 68 = .ok (.land, 1) := by decide +kernel
theorem eDF_69 : decode k27 69 = .ok (.aload_n 1, 1) := by decide +kernel
theorem eDF_70 : decode k27 70 = .ok (.getfield 17, 3) := by decide +kernel
theorem eDF_73 : decode k27 73 = .ok (.aload_n 1, 1) := by decide +kernel
theorem eDF_74 : decode k27 74 = .ok (.getfield 11, 3) := by decide +kernel
theorem eDF_77 : decode k27 77 = .ok (.iload 7, 2) := by decide +kernel
theorem eDF_79 : decode k27 79 = .ok (.iadd, 1) := by decide +kernel
theorem eDF_80 : decode k27 80 = .ok (.iaload, 1) := by decide +kernel
theorem eDF_81 : decode k27 81 = .ok (.i2l, 1) := by decide +kernel
theorem eDF_82 : decode k27 82 = .ok (.ldc2_w 52, 3) := by decide +kernel
theorem eDF_85 : decode k27 85 = .ok (.land, 1) := by decide +kernel
theorem eDF_86 : decode k27 86 = .ok (.lsub, 1) := by decide +kernel
theorem eDF_87 : decode k27 87 = .ok (.lload 4, 2) := by decide +kernel
theorem eDF_89 : decode k27 89 = .ok (.bipush 32, 2) := by decide +kernel
theorem eDF_91 : decode k27 91 = .ok (.lshr, 1) := by decide +kernel
theorem eDF_92 : decode k27 92 = .ok (.ladd, 1) := by decide +kernel
theorem eDF_93 : decode k27 93 = .ok (.lstore 4, 2) := by decide +kernel
theorem eDF_95 : decode k27 95 = .ok (.aload_n 2, 1) := by decide +kernel
theorem eDF_96 : decode k27 96 = .ok (.getfield 17, 3) := by decide +kernel
theorem eDF_99 : decode k27 99 = .ok (.aload_n 2, 1) := by decide +kernel
theorem eDF_100 : decode k27 100 = .ok (.getfield 11, 3) := by decide +kernel
theorem eDF_103 : decode k27 103 = .ok (.iload 6, 2) := by decide +kernel
theorem eDF_105 : decode k27 105 = .ok (.iadd, 1) := by decide +kernel
theorem eDF_106 : decode k27 106 = .ok (.lload 4, 2) := by decide +kernel
theorem eDF_108 : decode k27 108 = .ok (.l2i, 1) := by decide +kernel
theorem eDF_109 : decode k27 109 = .ok (.iastore, 1) := by decide +kernel
theorem eDF_110 : decode k27 110 = .ok (.goto (-69), 3) := by decide +kernel
theorem eDF_113 : decode k27 113 = .ok (.lload 4, 2) := by decide +kernel
theorem eDF_115 : decode k27 115 = .ok (.lconst 0, 1) := by decide +kernel
theorem eDF_116 : decode k27 116 = .ok (.lcmp, 1) := by decide +kernel
theorem eDF_117 : decode k27 117 = .ok (.ifCond .ge 54, 3) := by decide +kernel
theorem eDF_171 : decode k27 171 = .ok (.aload_n 2, 1) := by decide +kernel
theorem eDF_172 : decode k27 172 = .ok (.invokevirtual 64, 3) := by decide +kernel
theorem eDF_175 : decode k27 175 = .ok (.iload_n 3, 1) := by decide +kernel
theorem eDF_176 : decode k27 176 = .ok (.ireturn, 1) := by decide +kernel
theorem m_diffA (l : Launch) (Z : State) (a0 : Array Value) (hw : ∀ d ∈ tables_1, d.before a0 Z = true) (a b c d : Addr) (m0 m1 : Int32) (h : Heap) (E : eM Z h a) (F0 : fV Z h a (.ref b)) (F1 : fI Z h a (.int 2)) (F2 : fO Z h a (.int 0)) (A : Av Z h b .int [(.int m0), (.int m1)]) (E' : eM Z h c) (G0 : fV Z h c (.ref d)) (G1 : fI Z h c (.int 1)) (G2 : fO Z h c (.int 0)) (B : Av Z h d .int [(.int 1)]) (nac : a ≠ c) (nba : b ≠ a) (nbc : b ≠ c) (nda : d ≠ a) (ndb : d ≠ b) (k0 : ¬ m0 = 0) (k1 : ¬ m1 = 0) :
    MetW false l Z [] (⟨"java/math/MutableBigInteger", "difference", "(Ljava/math/MutableBigInteger;)I"⟩ : MethodName) k27 8 (some .int) [] (rM 1 0 0 19) #[(.ref a), (.ref c)] [a, b] h (fun v h' => v = some (.int 1) ∧ eM Z h' a ∧ fV Z h' a (.ref b) ∧ fI Z h' a (.int 2) ∧ fO Z h' a (.int 0) ∧ Av Z h' b .int [(.int m0), (.int (m1 - 1))]) := by
  refine mO a0 #[.val (.ref a), .val (.ref c), .unset, .unset, .unset, .unset, .unset, .unset] (fun _ _ _ m_ _ _ _ hs0 C => ?_)
  refine g_aloadN C eDF_0 rfl rfl <| g_astoreN #[.val (.ref a), .val (.ref c), .val (.ref a), .unset, .unset, .unset, .unset, .unset] C eDF_1 rfl rfl <| g_aloadN C eDF_2 rfl rfl <| g_aloadN C eDF_3 rfl rfl ?_
  refine g_invokevirtual [(.ref c)] [] 0 C eDF_4 (hW hw 152 rfl) (hW hw 153 rfl) (hW hw 155 rfl) (hW hw 154 rfl) (hW hw 43 rfl) (hW hw 156 rfl) (fun _ hZ => notFace_of_selects (args := #[]) (mvT hZ (hW hw 155 rfl))) (by decide) E (m_cmp2 l Z a0 hw _ _ _ _ m0 m1 _ E F0 F1 F2 A E' G0 G1 G2 B ) (lenOf pd5 rfl) rfl rfl (bL rfl) (by decide) (by decide) (by decide) (by decide) all0 (fun v1 h2 L3 q4 K5 => ?_)
  obtain rfl := q4
  refine gA (mkF m_ 7 #[.val (.ref a), .val (.ref c), .val (.ref a), .unset, .unset, .unset, .unset, .unset] [(.int 1)]) <| g_istoreN #[.val (.ref a), .val (.ref c), .val (.ref a), .val (.int 1), .unset, .unset, .unset, .unset] C eDF_7 rfl <| g_iloadN C eDF_8 rfl <| g_ifT 14 C eDF_9 (show ¬ (1 : Int32) = (0 : Int32) by decide) (by decide) (by decide) <| g_iloadN C eDF_14 rfl <| g_ifT 26 C eDF_15 (show ¬ (1 : Int32) < (0 : Int32) by decide) (by decide) (by decide) <| g_lconst (0 : Int64) C eDF_26 (by decide) <| g_lstore #[.val (.ref a), .val (.ref c), .val (.ref a), .val (.int 1), .val (.long (0 : Int64)), .second, .unset, .unset] C eDF_27 rfl <| g_aloadN C eDF_29 rfl rfl ?_
  have f6 := (F1.keep K5 nin0)
  refine gF C eDF_30 (hW hw 53 rfl) f6 <| g_istore #[.val (.ref a), .val (.ref c), .val (.ref a), .val (.int 1), .val (.long (0 : Int64)), .second, .val (.int 2), .unset] C eDF_33 rfl <| g_aloadN C eDF_35 rfl rfl ?_
  have f7 := (G1.keep K5 nin0)
  refine gF C eDF_36 (hW hw 53 rfl) f7 <| g_istore #[.val (.ref a), .val (.ref c), .val (.ref a), .val (.int 1), .val (.long (0 : Int64)), .second, .val (.int 2), .val (.int 1)] C eDF_39 rfl <| g_iload C eDF_41 rfl <| g_ifF C eDF_43 (show (0 : Int32) < (1 : Int32) by decide) <| g_iinc (1 : Int32) #[.val (.ref a), .val (.ref c), .val (.ref a), .val (.int 1), .val (.long (0 : Int64)), .second, .val (.int 1), .val (.int 1)] C eDF_46 rfl (by decide) rfl <| g_iinc (0 : Int32) #[.val (.ref a), .val (.ref c), .val (.ref a), .val (.int 1), .val (.long (0 : Int64)), .second, .val (.int 1), .val (.int 0)] C eDF_49 rfl (by decide) rfl <| g_aloadN C eDF_52 rfl rfl ?_
  have f8 := (F0.keep K5 nin0)
  refine gF C eDF_53 (hW hw 68 rfl) f8 <| g_aloadN C eDF_56 rfl rfl ?_
  have f9 := (F2.keep K5 nin0)
  refine gF C eDF_57 (hW hw 49 rfl) f9 <| g_iload C eDF_60 rfl <| g_iadd 1 C eDF_62 (by decide) ?_
  have f10 := (A.keep K5 nin0)
  refine g_iaload 1 C eDF_63 f10 (by decide) (by decide) rfl <| g_i2l _ C eDF_64 rfl <| g_ldc2w (4294967295 : Int64) C eDF_65 (hW hw 167 rfl) <| g_land _ C eDF_68 rfl <| g_aloadN C eDF_69 rfl rfl ?_
  have f11 := (G0.keep K5 nin0)
  refine gF C eDF_70 (hW hw 68 rfl) f11 <| g_aloadN C eDF_73 rfl rfl ?_
  have f12 := (G2.keep K5 nin0)
  refine gF C eDF_74 (hW hw 49 rfl) f12 <| g_iload C eDF_77 rfl <| g_iadd 0 C eDF_79 (by decide) ?_
  have f13 := (B.keep K5 nin0)
  refine g_iaload 0 C eDF_80 f13 (by decide) (by decide) rfl <| g_i2l (1 : Int64) C eDF_81 (by decide) <| g_ldc2w (4294967295 : Int64) C eDF_82 (hW hw 167 rfl) <| g_land (1 : Int64) C eDF_85 (by decide) <| g_lsub _ C eDF_86 rfl <| g_lload C eDF_87 rfl <| g_bipush 32 C eDF_89 (by decide) <| g_lshr (0 : Int64) C eDF_91 (by decide) <| g_ladd _ C eDF_92 rfl <| g_lstore #[.val (.ref a), .val (.ref c), .val (.ref a), .val (.int 1), .val (.long ((((m1.toInt64) &&& (4294967295 : Int64)) - (1 : Int64)) + (0 : Int64))), .second, .val (.int 1), .val (.int 0)] C eDF_93 rfl <| g_aloadN C eDF_95 rfl rfl ?_
  refine gF C eDF_96 (hW hw 68 rfl) f8 <| g_aloadN C eDF_99 rfl rfl <| gF C eDF_100 (hW hw 49 rfl) f9 <| g_iload C eDF_103 rfl <| g_iadd 1 C eDF_105 (by decide) <| g_lload C eDF_106 rfl <| g_l2i _ C eDF_108 rfl ?_
  rw [own_dA]
  refine gA (mkF m_ 109 #[.val (.ref a), .val (.ref c), .val (.ref a), .val (.int 1), .val (.long ((((m1.toInt64) &&& (4294967295 : Int64)) - (1 : Int64)) + (0 : Int64))), .second, .val (.int 1), .val (.int 0)] [(.int (m1 - 1)), (.int 1), (.ref b)]) ?_
  refine g_iastore 1 C eDF_109 f10 (by decide) (by decide) (bL rfl) (mm 1 rfl) (fun h14 K15 z16 f17 => ?_)
  have f18 : Av Z h14 b .int [(.int m0), (.int (m1 - 1))] := f17
  refine g_goto 41 C eDF_110 (by decide) (by decide) <| g_iload C eDF_41 rfl <| g_ifT 113 C eDF_43 (show ¬ (0 : Int32) < (0 : Int32) by decide) (by decide) (by decide) <| g_lload C eDF_113 rfl <| g_lconst (0 : Int64) C eDF_115 (by decide) <| g_lcmp C eDF_116 <| g_ifT 171 C eDF_117 (cl_ge_t (own_dAn k1)) (by decide) (by decide) <| g_aloadN C eDF_171 rfl rfl ?_
  have f19 := ((E.keep K5).keep K15)
  have f20 := (f8.keep K15 (ninS (Ne.symm nba) nin0))
  have f21 := (f6.keep K15 (ninS (Ne.symm nba) nin0))
  have f22 := (f9.keep K15 (ninS (Ne.symm nba) nin0))
  refine g_invokevirtual [] [] 0 C eDF_172 (hW hw 256 rfl) (hW hw 257 rfl) (hW hw 259 rfl) (hW hw 258 rfl) (hW hw 43 rfl) (hW hw 260 rfl) (fun _ hZ => notFace_of_selects (args := #[]) (mvT hZ (hW hw 259 rfl))) (by decide) f19 (m_no1 l Z a0 hw _ _ m0 (m1 - 1) _ f19 f20 f21 f22 f18 k0) (lenOf pd2 rfl) rfl rfl (bL rfl) (by decide) (by decide) (by decide) (by decide) all0 (fun v23 h24 L25 q26 K27 => ?_)
  obtain rfl := q26
  refine gA (mkF m_ 175 #[.val (.ref a), .val (.ref c), .val (.ref a), .val (.int 1), .val (.long ((((m1.toInt64) &&& (4294967295 : Int64)) - (1 : Int64)) + (0 : Int64))), .second, .val (.int 1), .val (.int 0)] []) <| g_iloadN C eDF_175 rfl ?_
  have f28 := (f19.keep K27)
  have f29 := (f20.keep K27 nin0)
  have f30 := (f21.keep K27 nin0)
  have f31 := (f22.keep K27 nin0)
  have f32 := (f18.keep K27 nin0)
  exact g_retI C eDF_176 ⟨rfl, f28, f29, f30, f31, f32⟩ (by decide) (by decide)
theorem eDF_120 : decode k27 120 = .ok (.iload 6, 2) := by decide +kernel
theorem eDF_122 : decode k27 122 = .ok (.ifCond .le 49, 3) := by decide +kernel
theorem eDF_125 : decode k27 125 = .ok (.iinc 6 (-1), 3) := by decide +kernel
theorem eDF_128 : decode k27 128 = .ok (.aload_n 2, 1) := by decide +kernel
theorem eDF_129 : decode k27 129 = .ok (.getfield 17, 3) := by decide +kernel
theorem eDF_132 : decode k27 132 = .ok (.aload_n 2, 1) := by decide +kernel
theorem eDF_133 : decode k27 133 = .ok (.getfield 11, 3) := by decide +kernel
theorem eDF_136 : decode k27 136 = .ok (.iload 6, 2) := by decide +kernel
theorem eDF_138 : decode k27 138 = .ok (.iadd, 1) := by decide +kernel
theorem eDF_139 : decode k27 139 = .ok (.iaload, 1) := by decide +kernel
theorem eDF_140 : decode k27 140 = .ok (.i2l, 1) := by decide +kernel
theorem eDF_141 : decode k27 141 = .ok (.ldc2_w 52, 3) := by decide +kernel
theorem eDF_144 : decode k27 144 = .ok (.land, 1) := by decide +kernel
theorem eDF_145 : decode k27 145 = .ok (.lload 4, 2) := by decide +kernel
theorem eDF_147 : decode k27 147 = .ok (.bipush 32, 2) := by decide +kernel
theorem eDF_149 : decode k27 149 = .ok (.lshr, 1) := by decide +kernel
theorem eDF_150 : decode k27 150 = .ok (.ladd, 1) := by decide +kernel
theorem eDF_151 : decode k27 151 = .ok (.lstore 4, 2) := by decide +kernel
theorem eDF_153 : decode k27 153 = .ok (.aload_n 2, 1) := by decide +kernel
theorem eDF_154 : decode k27 154 = .ok (.getfield 17, 3) := by decide +kernel
theorem eDF_157 : decode k27 157 = .ok (.aload_n 2, 1) := by decide +kernel
theorem eDF_158 : decode k27 158 = .ok (.getfield 11, 3) := by decide +kernel
theorem eDF_161 : decode k27 161 = .ok (.iload 6, 2) := by decide +kernel
theorem eDF_163 : decode k27 163 = .ok (.iadd, 1) := by decide +kernel
theorem eDF_164 : decode k27 164 = .ok (.lload 4, 2) := by decide +kernel
theorem eDF_166 : decode k27 166 = .ok (.l2i, 1) := by decide +kernel
theorem eDF_167 : decode k27 167 = .ok (.iastore, 1) := by decide +kernel
theorem eDF_168 : decode k27 168 = .ok (.goto (-55), 3) := by decide +kernel
theorem m_diffB (l : Launch) (Z : State) (a0 : Array Value) (hw : ∀ d ∈ tables_1, d.before a0 Z = true) (a b c d : Addr) (m0 : Int32) (h : Heap) (E : eM Z h a) (F0 : fV Z h a (.ref b)) (F1 : fI Z h a (.int 2)) (F2 : fO Z h a (.int 0)) (A : Av Z h b .int [(.int m0), (.int 0)]) (E' : eM Z h c) (G0 : fV Z h c (.ref d)) (G1 : fI Z h c (.int 1)) (G2 : fO Z h c (.int 0)) (B : Av Z h d .int [(.int 1)]) (nac : a ≠ c) (nba : b ≠ a) (nbc : b ≠ c) (nda : d ≠ a) (ndb : d ≠ b) (k0 : ¬ m0 = 0) (k1 : ¬ m0 - 1 = 0) :
    MetW false l Z [] (⟨"java/math/MutableBigInteger", "difference", "(Ljava/math/MutableBigInteger;)I"⟩ : MethodName) k27 8 (some .int) [] (rM 1 0 0 19) #[(.ref a), (.ref c)] [a, b] h (fun v h' => v = some (.int 1) ∧ eM Z h' a ∧ fV Z h' a (.ref b) ∧ fI Z h' a (.int 2) ∧ fO Z h' a (.int 0) ∧ Av Z h' b .int [(.int (m0 - 1)), (.int (-1))]) := by
  refine mO a0 #[.val (.ref a), .val (.ref c), .unset, .unset, .unset, .unset, .unset, .unset] (fun _ _ _ m_ _ _ _ hs0 C => ?_)
  refine g_aloadN C eDF_0 rfl rfl <| g_astoreN #[.val (.ref a), .val (.ref c), .val (.ref a), .unset, .unset, .unset, .unset, .unset] C eDF_1 rfl rfl <| g_aloadN C eDF_2 rfl rfl <| g_aloadN C eDF_3 rfl rfl ?_
  refine g_invokevirtual [(.ref c)] [] 0 C eDF_4 (hW hw 152 rfl) (hW hw 153 rfl) (hW hw 155 rfl) (hW hw 154 rfl) (hW hw 43 rfl) (hW hw 156 rfl) (fun _ hZ => notFace_of_selects (args := #[]) (mvT hZ (hW hw 155 rfl))) (by decide) E (m_cmp2 l Z a0 hw _ _ _ _ m0 (0 : Int32) _ E F0 F1 F2 A E' G0 G1 G2 B ) (lenOf pd5 rfl) rfl rfl (bL rfl) (by decide) (by decide) (by decide) (by decide) all0 (fun v1 h2 L3 q4 K5 => ?_)
  obtain rfl := q4
  refine gA (mkF m_ 7 #[.val (.ref a), .val (.ref c), .val (.ref a), .unset, .unset, .unset, .unset, .unset] [(.int 1)]) <| g_istoreN #[.val (.ref a), .val (.ref c), .val (.ref a), .val (.int 1), .unset, .unset, .unset, .unset] C eDF_7 rfl <| g_iloadN C eDF_8 rfl <| g_ifT 14 C eDF_9 (show ¬ (1 : Int32) = (0 : Int32) by decide) (by decide) (by decide) <| g_iloadN C eDF_14 rfl <| g_ifT 26 C eDF_15 (show ¬ (1 : Int32) < (0 : Int32) by decide) (by decide) (by decide) <| g_lconst (0 : Int64) C eDF_26 (by decide) <| g_lstore #[.val (.ref a), .val (.ref c), .val (.ref a), .val (.int 1), .val (.long (0 : Int64)), .second, .unset, .unset] C eDF_27 rfl <| g_aloadN C eDF_29 rfl rfl ?_
  have f6 := (F1.keep K5 nin0)
  refine gF C eDF_30 (hW hw 53 rfl) f6 <| g_istore #[.val (.ref a), .val (.ref c), .val (.ref a), .val (.int 1), .val (.long (0 : Int64)), .second, .val (.int 2), .unset] C eDF_33 rfl <| g_aloadN C eDF_35 rfl rfl ?_
  have f7 := (G1.keep K5 nin0)
  refine gF C eDF_36 (hW hw 53 rfl) f7 <| g_istore #[.val (.ref a), .val (.ref c), .val (.ref a), .val (.int 1), .val (.long (0 : Int64)), .second, .val (.int 2), .val (.int 1)] C eDF_39 rfl <| g_iload C eDF_41 rfl <| g_ifF C eDF_43 (show (0 : Int32) < (1 : Int32) by decide) <| g_iinc (1 : Int32) #[.val (.ref a), .val (.ref c), .val (.ref a), .val (.int 1), .val (.long (0 : Int64)), .second, .val (.int 1), .val (.int 1)] C eDF_46 rfl (by decide) rfl <| g_iinc (0 : Int32) #[.val (.ref a), .val (.ref c), .val (.ref a), .val (.int 1), .val (.long (0 : Int64)), .second, .val (.int 1), .val (.int 0)] C eDF_49 rfl (by decide) rfl <| g_aloadN C eDF_52 rfl rfl ?_
  have f8 := (F0.keep K5 nin0)
  refine gF C eDF_53 (hW hw 68 rfl) f8 <| g_aloadN C eDF_56 rfl rfl ?_
  have f9 := (F2.keep K5 nin0)
  refine gF C eDF_57 (hW hw 49 rfl) f9 <| g_iload C eDF_60 rfl <| g_iadd 1 C eDF_62 (by decide) ?_
  have f10 := (A.keep K5 nin0)
  refine g_iaload 1 C eDF_63 f10 (by decide) (by decide) rfl <| g_i2l (0 : Int64) C eDF_64 (by decide) <| g_ldc2w (4294967295 : Int64) C eDF_65 (hW hw 167 rfl) <| g_land (0 : Int64) C eDF_68 (by decide) <| g_aloadN C eDF_69 rfl rfl ?_
  have f11 := (G0.keep K5 nin0)
  refine gF C eDF_70 (hW hw 68 rfl) f11 <| g_aloadN C eDF_73 rfl rfl ?_
  have f12 := (G2.keep K5 nin0)
  refine gF C eDF_74 (hW hw 49 rfl) f12 <| g_iload C eDF_77 rfl <| g_iadd 0 C eDF_79 (by decide) ?_
  have f13 := (B.keep K5 nin0)
  refine g_iaload 0 C eDF_80 f13 (by decide) (by decide) rfl <| g_i2l (1 : Int64) C eDF_81 (by decide) <| g_ldc2w (4294967295 : Int64) C eDF_82 (hW hw 167 rfl) <| g_land (1 : Int64) C eDF_85 (by decide) <| g_lsub (-1 : Int64) C eDF_86 (by decide) <| g_lload C eDF_87 rfl <| g_bipush 32 C eDF_89 (by decide) <| g_lshr (0 : Int64) C eDF_91 (by decide) <| g_ladd (-1 : Int64) C eDF_92 (by decide) <| g_lstore #[.val (.ref a), .val (.ref c), .val (.ref a), .val (.int 1), .val (.long (-1 : Int64)), .second, .val (.int 1), .val (.int 0)] C eDF_93 rfl <| g_aloadN C eDF_95 rfl rfl ?_
  refine gF C eDF_96 (hW hw 68 rfl) f8 <| g_aloadN C eDF_99 rfl rfl <| gF C eDF_100 (hW hw 49 rfl) f9 <| g_iload C eDF_103 rfl <| g_iadd 1 C eDF_105 (by decide) <| g_lload C eDF_106 rfl <| g_l2i (-1) C eDF_108 (by decide) ?_
  refine g_iastore 1 C eDF_109 f10 (by decide) (by decide) (bL rfl) (mm 1 rfl) (fun h14 K15 z16 f17 => ?_)
  have f18 : Av Z h14 b .int [(.int m0), (.int (-1))] := f17
  refine g_goto 41 C eDF_110 (by decide) (by decide) <| g_iload C eDF_41 rfl <| g_ifT 113 C eDF_43 (show ¬ (0 : Int32) < (0 : Int32) by decide) (by decide) (by decide) <| g_lload C eDF_113 rfl <| g_lconst (0 : Int64) C eDF_115 (by decide) <| g_lcmp C eDF_116 <| g_ifF C eDF_117 (cl_ge_f (by decide)) <| g_iload C eDF_120 rfl <| g_ifF C eDF_122 (show (0 : Int32) < (1 : Int32) by decide) <| g_iinc (0 : Int32) #[.val (.ref a), .val (.ref c), .val (.ref a), .val (.int 1), .val (.long (-1 : Int64)), .second, .val (.int 0), .val (.int 0)] C eDF_125 rfl (by decide) rfl <| g_aloadN C eDF_128 rfl rfl ?_
  have f19 := (f8.keep K15 (ninS (Ne.symm nba) nin0))
  refine gF C eDF_129 (hW hw 68 rfl) f19 <| g_aloadN C eDF_132 rfl rfl ?_
  have f20 := (f9.keep K15 (ninS (Ne.symm nba) nin0))
  refine gF C eDF_133 (hW hw 49 rfl) f20 <| g_iload C eDF_136 rfl <| g_iadd 0 C eDF_138 (by decide) <| g_iaload 0 C eDF_139 f18 (by decide) (by decide) rfl <| g_i2l _ C eDF_140 rfl <| g_ldc2w (4294967295 : Int64) C eDF_141 (hW hw 167 rfl) <| g_land _ C eDF_144 rfl <| g_lload C eDF_145 rfl <| g_bipush 32 C eDF_147 (by decide) <| g_lshr (-1 : Int64) C eDF_149 (by decide) <| g_ladd _ C eDF_150 rfl ?_
  refine g_lstore #[.val (.ref a), .val (.ref c), .val (.ref a), .val (.int 1), .val (.long (((m0.toInt64) &&& (4294967295 : Int64)) + (-1 : Int64))), .second, .val (.int 0), .val (.int 0)] C eDF_151 rfl <| g_aloadN C eDF_153 rfl rfl <| gF C eDF_154 (hW hw 68 rfl) f19 <| g_aloadN C eDF_157 rfl rfl <| gF C eDF_158 (hW hw 49 rfl) f20 <| g_iload C eDF_161 rfl <| g_iadd 0 C eDF_163 (by decide) <| g_lload C eDF_164 rfl <| g_l2i _ C eDF_166 rfl ?_
  rw [own_pA]
  refine gA (mkF m_ 167 #[.val (.ref a), .val (.ref c), .val (.ref a), .val (.int 1), .val (.long (((m0.toInt64) &&& (4294967295 : Int64)) + (-1 : Int64))), .second, .val (.int 0), .val (.int 0)] [(.int (m0 - 1)), (.int 0), (.ref b)]) ?_
  refine g_iastore 0 C eDF_167 f18 (by decide) (by decide) (bL rfl) (mm 1 rfl) (fun h21 K22 z23 f24 => ?_)
  have f25 : Av Z h21 b .int [(.int (m0 - 1)), (.int (-1))] := f24
  refine g_goto 113 C eDF_168 (by decide) (by decide) <| g_lload C eDF_113 rfl <| g_lconst (0 : Int64) C eDF_115 (by decide) <| g_lcmp C eDF_116 <| g_ifT 171 C eDF_117 (cl_ge_t (own_pAn k0)) (by decide) (by decide) <| g_aloadN C eDF_171 rfl rfl ?_
  have f26 := (((E.keep K5).keep K15).keep K22)
  have f27 := (f19.keep K22 (ninS (Ne.symm nba) nin0))
  have f28 := ((f6.keep K15 (ninS (Ne.symm nba) nin0)).keep K22 (ninS (Ne.symm nba) nin0))
  have f29 := (f20.keep K22 (ninS (Ne.symm nba) nin0))
  refine g_invokevirtual [] [] 0 C eDF_172 (hW hw 256 rfl) (hW hw 257 rfl) (hW hw 259 rfl) (hW hw 258 rfl) (hW hw 43 rfl) (hW hw 260 rfl) (fun _ hZ => notFace_of_selects (args := #[]) (mvT hZ (hW hw 259 rfl))) (by decide) f26 (m_no1 l Z a0 hw _ _ (m0 - 1) (-1 : Int32) _ f26 f27 f28 f29 f25 k1) (lenOf pd2 rfl) rfl rfl (bL rfl) (by decide) (by decide) (by decide) (by decide) all0 (fun v30 h31 L32 q33 K34 => ?_)
  obtain rfl := q33
  refine gA (mkF m_ 175 #[.val (.ref a), .val (.ref c), .val (.ref a), .val (.int 1), .val (.long (((m0.toInt64) &&& (4294967295 : Int64)) + (-1 : Int64))), .second, .val (.int 0), .val (.int 0)] []) <| g_iloadN C eDF_175 rfl ?_
  have f35 := (f26.keep K34)
  have f36 := (f27.keep K34 nin0)
  have f37 := (f28.keep K34 nin0)
  have f38 := (f29.keep K34 nin0)
  have f39 := (f25.keep K34 nin0)
  exact g_retI C eDF_176 ⟨rfl, f35, f36, f37, f38, f39⟩ (by decide) (by decide)
theorem m_diffC (l : Launch) (Z : State) (a0 : Array Value) (hw : ∀ d ∈ tables_1, d.before a0 Z = true) (a b c d : Addr) (h : Heap) (E : eM Z h a) (F0 : fV Z h a (.ref b)) (F1 : fI Z h a (.int 2)) (F2 : fO Z h a (.int 0)) (A : Av Z h b .int [(.int 1), (.int 0)]) (E' : eM Z h c) (G0 : fV Z h c (.ref d)) (G1 : fI Z h c (.int 1)) (G2 : fO Z h c (.int 0)) (B : Av Z h d .int [(.int 1)]) (nac : a ≠ c) (nba : b ≠ a) (nbc : b ≠ c) (nda : d ≠ a) (ndb : d ≠ b) :
    MetW false l Z [] (⟨"java/math/MutableBigInteger", "difference", "(Ljava/math/MutableBigInteger;)I"⟩ : MethodName) k27 8 (some .int) [] (rM 1 0 0 19) #[(.ref a), (.ref c)] [a, b] h (fun v h' => v = some (.int 1) ∧ eM Z h' a ∧ fV Z h' a (.ref b) ∧ fI Z h' a (.int 1) ∧ fO Z h' a (.int 1) ∧ Av Z h' b .int [(.int 0), (.int (-1))]) := by
  refine mO a0 #[.val (.ref a), .val (.ref c), .unset, .unset, .unset, .unset, .unset, .unset] (fun _ _ _ m_ _ _ _ hs0 C => ?_)
  refine g_aloadN C eDF_0 rfl rfl <| g_astoreN #[.val (.ref a), .val (.ref c), .val (.ref a), .unset, .unset, .unset, .unset, .unset] C eDF_1 rfl rfl <| g_aloadN C eDF_2 rfl rfl <| g_aloadN C eDF_3 rfl rfl ?_
  refine g_invokevirtual [(.ref c)] [] 0 C eDF_4 (hW hw 152 rfl) (hW hw 153 rfl) (hW hw 155 rfl) (hW hw 154 rfl) (hW hw 43 rfl) (hW hw 156 rfl) (fun _ hZ => notFace_of_selects (args := #[]) (mvT hZ (hW hw 155 rfl))) (by decide) E (m_cmp2 l Z a0 hw _ _ _ _ (1 : Int32) (0 : Int32) _ E F0 F1 F2 A E' G0 G1 G2 B ) (lenOf pd5 rfl) rfl rfl (bL rfl) (by decide) (by decide) (by decide) (by decide) all0 (fun v1 h2 L3 q4 K5 => ?_)
  obtain rfl := q4
  refine gA (mkF m_ 7 #[.val (.ref a), .val (.ref c), .val (.ref a), .unset, .unset, .unset, .unset, .unset] [(.int 1)]) <| g_istoreN #[.val (.ref a), .val (.ref c), .val (.ref a), .val (.int 1), .unset, .unset, .unset, .unset] C eDF_7 rfl <| g_iloadN C eDF_8 rfl <| g_ifT 14 C eDF_9 (show ¬ (1 : Int32) = (0 : Int32) by decide) (by decide) (by decide) <| g_iloadN C eDF_14 rfl <| g_ifT 26 C eDF_15 (show ¬ (1 : Int32) < (0 : Int32) by decide) (by decide) (by decide) <| g_lconst (0 : Int64) C eDF_26 (by decide) <| g_lstore #[.val (.ref a), .val (.ref c), .val (.ref a), .val (.int 1), .val (.long (0 : Int64)), .second, .unset, .unset] C eDF_27 rfl <| g_aloadN C eDF_29 rfl rfl ?_
  have f6 := (F1.keep K5 nin0)
  refine gF C eDF_30 (hW hw 53 rfl) f6 <| g_istore #[.val (.ref a), .val (.ref c), .val (.ref a), .val (.int 1), .val (.long (0 : Int64)), .second, .val (.int 2), .unset] C eDF_33 rfl <| g_aloadN C eDF_35 rfl rfl ?_
  have f7 := (G1.keep K5 nin0)
  refine gF C eDF_36 (hW hw 53 rfl) f7 <| g_istore #[.val (.ref a), .val (.ref c), .val (.ref a), .val (.int 1), .val (.long (0 : Int64)), .second, .val (.int 2), .val (.int 1)] C eDF_39 rfl <| g_iload C eDF_41 rfl <| g_ifF C eDF_43 (show (0 : Int32) < (1 : Int32) by decide) <| g_iinc (1 : Int32) #[.val (.ref a), .val (.ref c), .val (.ref a), .val (.int 1), .val (.long (0 : Int64)), .second, .val (.int 1), .val (.int 1)] C eDF_46 rfl (by decide) rfl <| g_iinc (0 : Int32) #[.val (.ref a), .val (.ref c), .val (.ref a), .val (.int 1), .val (.long (0 : Int64)), .second, .val (.int 1), .val (.int 0)] C eDF_49 rfl (by decide) rfl <| g_aloadN C eDF_52 rfl rfl ?_
  have f8 := (F0.keep K5 nin0)
  refine gF C eDF_53 (hW hw 68 rfl) f8 <| g_aloadN C eDF_56 rfl rfl ?_
  have f9 := (F2.keep K5 nin0)
  refine gF C eDF_57 (hW hw 49 rfl) f9 <| g_iload C eDF_60 rfl <| g_iadd 1 C eDF_62 (by decide) ?_
  have f10 := (A.keep K5 nin0)
  refine g_iaload 1 C eDF_63 f10 (by decide) (by decide) rfl <| g_i2l (0 : Int64) C eDF_64 (by decide) <| g_ldc2w (4294967295 : Int64) C eDF_65 (hW hw 167 rfl) <| g_land (0 : Int64) C eDF_68 (by decide) <| g_aloadN C eDF_69 rfl rfl ?_
  have f11 := (G0.keep K5 nin0)
  refine gF C eDF_70 (hW hw 68 rfl) f11 <| g_aloadN C eDF_73 rfl rfl ?_
  have f12 := (G2.keep K5 nin0)
  refine gF C eDF_74 (hW hw 49 rfl) f12 <| g_iload C eDF_77 rfl <| g_iadd 0 C eDF_79 (by decide) ?_
  have f13 := (B.keep K5 nin0)
  refine g_iaload 0 C eDF_80 f13 (by decide) (by decide) rfl <| g_i2l (1 : Int64) C eDF_81 (by decide) <| g_ldc2w (4294967295 : Int64) C eDF_82 (hW hw 167 rfl) <| g_land (1 : Int64) C eDF_85 (by decide) <| g_lsub (-1 : Int64) C eDF_86 (by decide) <| g_lload C eDF_87 rfl <| g_bipush 32 C eDF_89 (by decide) <| g_lshr (0 : Int64) C eDF_91 (by decide) <| g_ladd (-1 : Int64) C eDF_92 (by decide) <| g_lstore #[.val (.ref a), .val (.ref c), .val (.ref a), .val (.int 1), .val (.long (-1 : Int64)), .second, .val (.int 1), .val (.int 0)] C eDF_93 rfl <| g_aloadN C eDF_95 rfl rfl ?_
  refine gF C eDF_96 (hW hw 68 rfl) f8 <| g_aloadN C eDF_99 rfl rfl <| gF C eDF_100 (hW hw 49 rfl) f9 <| g_iload C eDF_103 rfl <| g_iadd 1 C eDF_105 (by decide) <| g_lload C eDF_106 rfl <| g_l2i (-1) C eDF_108 (by decide) ?_
  refine g_iastore 1 C eDF_109 f10 (by decide) (by decide) (bL rfl) (mm 1 rfl) (fun h14 K15 z16 f17 => ?_)
  have f18 : Av Z h14 b .int [(.int 1), (.int (-1))] := f17
  refine g_goto 41 C eDF_110 (by decide) (by decide) <| g_iload C eDF_41 rfl <| g_ifT 113 C eDF_43 (show ¬ (0 : Int32) < (0 : Int32) by decide) (by decide) (by decide) <| g_lload C eDF_113 rfl <| g_lconst (0 : Int64) C eDF_115 (by decide) <| g_lcmp C eDF_116 <| g_ifF C eDF_117 (cl_ge_f (by decide)) <| g_iload C eDF_120 rfl <| g_ifF C eDF_122 (show (0 : Int32) < (1 : Int32) by decide) <| g_iinc (0 : Int32) #[.val (.ref a), .val (.ref c), .val (.ref a), .val (.int 1), .val (.long (-1 : Int64)), .second, .val (.int 0), .val (.int 0)] C eDF_125 rfl (by decide) rfl <| g_aloadN C eDF_128 rfl rfl ?_
  have f19 := (f8.keep K15 (ninS (Ne.symm nba) nin0))
  refine gF C eDF_129 (hW hw 68 rfl) f19 <| g_aloadN C eDF_132 rfl rfl ?_
  have f20 := (f9.keep K15 (ninS (Ne.symm nba) nin0))
  refine gF C eDF_133 (hW hw 49 rfl) f20 <| g_iload C eDF_136 rfl <| g_iadd 0 C eDF_138 (by decide) <| g_iaload 0 C eDF_139 f18 (by decide) (by decide) rfl <| g_i2l (1 : Int64) C eDF_140 (by decide) <| g_ldc2w (4294967295 : Int64) C eDF_141 (hW hw 167 rfl) <| g_land (1 : Int64) C eDF_144 (by decide) <| g_lload C eDF_145 rfl <| g_bipush 32 C eDF_147 (by decide) <| g_lshr (-1 : Int64) C eDF_149 (by decide) <| g_ladd (0 : Int64) C eDF_150 (by decide) ?_
  refine g_lstore #[.val (.ref a), .val (.ref c), .val (.ref a), .val (.int 1), .val (.long (0 : Int64)), .second, .val (.int 0), .val (.int 0)] C eDF_151 rfl <| g_aloadN C eDF_153 rfl rfl <| gF C eDF_154 (hW hw 68 rfl) f19 <| g_aloadN C eDF_157 rfl rfl <| gF C eDF_158 (hW hw 49 rfl) f20 <| g_iload C eDF_161 rfl <| g_iadd 0 C eDF_163 (by decide) <| g_lload C eDF_164 rfl <| g_l2i 0 C eDF_166 (by decide) ?_
  refine g_iastore 0 C eDF_167 f18 (by decide) (by decide) (bL rfl) (mm 1 rfl) (fun h21 K22 z23 f24 => ?_)
  have f25 : Av Z h21 b .int [(.int 0), (.int (-1))] := f24
  refine g_goto 113 C eDF_168 (by decide) (by decide) <| g_lload C eDF_113 rfl <| g_lconst (0 : Int64) C eDF_115 (by decide) <| g_lcmp C eDF_116 <| g_ifT 171 C eDF_117 (cl_ge_t (by decide)) (by decide) (by decide) <| g_aloadN C eDF_171 rfl rfl ?_
  have f30 := (((E.keep K5).keep K15).keep K22)
  have f31 := (f19.keep K22 (ninS (Ne.symm nba) nin0))
  have f32 := ((f6.keep K15 (ninS (Ne.symm nba) nin0)).keep K22 (ninS (Ne.symm nba) nin0))
  have f33 := (f20.keep K22 (ninS (Ne.symm nba) nin0))
  refine g_invokevirtual [] [] 0 C eDF_172 (hW hw 256 rfl) (hW hw 257 rfl) (hW hw 259 rfl) (hW hw 258 rfl) (hW hw 43 rfl) (hW hw 260 rfl) (fun _ hZ => notFace_of_selects (args := #[]) (mvT hZ (hW hw 259 rfl))) (by decide) f30 (m_no2 l Z a0 hw _ _ _ f30 f31 f32 f33 f25 nba) (lenOf pd2 rfl) rfl rfl (bL rfl) (by decide) (by decide) (by decide) (by decide) (allS (mm 0 rfl) all0) (fun v34 h35 L36 q37 K38 => ?_)
  obtain ⟨rfl, f26, f27, f28, f29⟩ := q37
  refine gA (mkF m_ 175 #[.val (.ref a), .val (.ref c), .val (.ref a), .val (.int 1), .val (.long (0 : Int64)), .second, .val (.int 0), .val (.int 0)] []) <| g_iloadN C eDF_175 rfl ?_
  have f39 := (f25.keep K38 (ninS nba nin0))
  exact g_retI C eDF_176 ⟨rfl, f26, f27, f28, f29, f39⟩ (by decide) (by decide)
theorem own_mA {p q y z : Int32} (hq : ¬ q = 0) (h : (y = p ∧ z = q - 1) ∨ uN y < uN p) : uN y * 4294967296 + uN z < uN p * 4294967296 + uN q := by
  have h1 := uN_lt z
  have h2 : uN (q - 1) = uN q - 1 ∧ 0 < uN q := own_pred hq
  rcases h with ⟨rfl, rfl⟩ | h
  · omega
  · omega
theorem own_mB {p y z : Int32} (hp : ¬ p = 0) (h : (y = p - 1 ∧ z = -1) ∨ uN y < uN (p - 1)) : uN y * 4294967296 + uN z < uN p * 4294967296 + uN (0 : Int32) := by
  have h1 := uN_lt z
  have h2 : uN (p - 1) = uN p - 1 ∧ 0 < uN p := own_pred hp
  rcases h with ⟨rfl, rfl⟩ | h
  · omega
  · omega
theorem eBG_0 : decode k31 0 = .ok (.aload_n 0, 1) := by decide +kernel
theorem eBG_1 : decode k31 1 = .ok (.astore_n 2, 1) := by decide +kernel
theorem eBG_2 : decode k31 2 = .ok (.new 12, 3) := by decide +kernel
theorem eBG_5 : decode k31 5 = .ok (.dup, 1) := by decide +kernel
theorem eBG_6 : decode k31 6 = .ok (.invokespecial 177, 3) := by decide +kernel
theorem eBG_9 : decode k31 9 = .ok (.astore_n 3, 1) := by decide +kernel
theorem eBG_10 : decode k31 10 = .ok (.aload_n 2, 1) := by decide +kernel
theorem eBG_11 : decode k31 11 = .ok (.invokevirtual 184, 3) := by decide +kernel
theorem eBG_14 : decode k31 14 = .ok (.istore 4, 2) := by decide +kernel
theorem eBG_16 : decode k31 16 = .ok (.aload_n 1, 1) := by decide +kernel
theorem eBG_17 : decode k31 17 = .ok (.invokevirtual 184, 3) := by decide +kernel
theorem eBG_20 : decode k31 20 = .ok (.istore 5, 2) := by decide +kernel
theorem eBG_22 : decode k31 22 = .ok (.iload 4, 2) := by decide +kernel
theorem eBG_24 : decode k31 24 = .ok (.iload 5, 2) := by decide +kernel
theorem eBG_26 : decode k31 26 = .ok (.if_icmp .ge 8, 3) := by decide +kernel
theorem eBG_34 : decode k31 34 = .ok (.iload 5, 2) := by decide +kernel
theorem eBG_36 : decode k31 36 = .ok (.istore 6, 2) := by decide +kernel
theorem eBG_38 : decode k31 38 = .ok (.iload 6, 2) := by decide +kernel
theorem eBG_40 : decode k31 40 = .ok (.ifCond .eq 15, 3) := by decide +kernel
theorem eBG_55 : decode k31 55 = .ok (.iload 6, 2) := by decide +kernel
theorem eBG_57 : decode k31 57 = .ok (.iload 4, 2) := by decide +kernel
theorem eBG_59 : decode k31 59 = .ok (.if_icmp .ne 7, 3) := by decide +kernel
theorem eBG_62 : decode k31 62 = .ok (.iconst 1, 1) := by decide +kernel
theorem eBG_63 : decode k31 63 = .ok (.goto 4, 3) := by decide +kernel
theorem eBG_66 : decode k31 66 = .ok (.iconst 0, 1) := by decide +kernel
theorem eBG_67 : decode k31 67 = .ok (.istore 7, 2) := by decide +kernel
theorem eBG_69 : decode k31 69 = .ok (.iload 7, 2) := by decide +kernel
theorem eBG_71 : decode k31 71 = .ok (.ifCond .eq 7, 3) := by decide +kernel
theorem eBG_74 : decode k31 74 = .ok (.aload_n 1, 1) := by decide +kernel
theorem eBG_75 : decode k31 75 = .ok (.goto 4, 3) := by decide +kernel
theorem eBG_78 : decode k31 78 = .ok (.aload_n 2, 1) := by decide +kernel
theorem eBG_79 : decode k31 79 = .ok (.astore 8, 2) := by decide +kernel
theorem eBG_81 : decode k31 81 = .ok (.iload 7, 2) := by decide +kernel
theorem eBG_83 : decode k31 83 = .ok (.ifCond .eq 7, 3) := by decide +kernel
theorem eBG_86 : decode k31 86 = .ok (.iconst (-1), 1) := by decide +kernel
theorem eBG_87 : decode k31 87 = .ok (.goto 4, 3) := by decide +kernel
theorem eBG_90 : decode k31 90 = .ok (.iconst 1, 1) := by decide +kernel
theorem eBG_91 : decode k31 91 = .ok (.istore 9, 2) := by decide +kernel
theorem eBG_93 : decode k31 93 = .ok (.aload 8, 2) := by decide +kernel
theorem eBG_95 : decode k31 95 = .ok (.invokevirtual 184, 3) := by decide +kernel
theorem eBG_98 : decode k31 98 = .ok (.dup, 1) := by decide +kernel
theorem eBG_99 : decode k31 99 = .ok (.istore 10, 2) := by decide +kernel
theorem eBG_101 : decode k31 101 = .ok (.ifCond .lt 131, 3) := by decide +kernel
theorem eBG_104 : decode k31 104 = .ok (.aload 8, 2) := by decide +kernel
theorem eBG_106 : decode k31 106 = .ok (.iload 10, 2) := by decide +kernel
theorem eBG_108 : decode k31 108 = .ok (.invokevirtual 108, 3) := by decide +kernel
theorem eBG_111 : decode k31 111 = .ok (.iload 9, 2) := by decide +kernel
theorem eBG_113 : decode k31 113 = .ok (.ifCond .le 9, 3) := by decide +kernel
theorem eBG_116 : decode k31 116 = .ok (.aload 8, 2) := by decide +kernel
theorem eBG_118 : decode k31 118 = .ok (.astore_n 2, 1) := by decide +kernel
theorem eBG_119 : decode k31 119 = .ok (.goto 6, 3) := by decide +kernel
theorem eBG_122 : decode k31 122 = .ok (.aload 8, 2) := by decide +kernel
theorem eBG_124 : decode k31 124 = .ok (.astore_n 1, 1) := by decide +kernel
theorem eBG_125 : decode k31 125 = .ok (.aload_n 2, 1) := by decide +kernel
theorem eBG_126 : decode k31 126 = .ok (.getfield 21, 3) := by decide +kernel
theorem eBG_129 : decode k31 129 = .ok (.iconst 2, 1) := by decide +kernel
theorem eBG_130 : decode k31 130 = .ok (.if_icmp .ge 73, 3) := by decide +kernel
theorem eBG_133 : decode k31 133 = .ok (.aload_n 1, 1) := by decide +kernel
theorem eBG_134 : decode k31 134 = .ok (.getfield 21, 3) := by decide +kernel
theorem eBG_137 : decode k31 137 = .ok (.iconst 2, 1) := by decide +kernel
theorem eBG_138 : decode k31 138 = .ok (.if_icmp .ge 65, 3) := by decide +kernel
theorem eBG_141 : decode k31 141 = .ok (.aload_n 2, 1) := by decide +kernel
theorem eBG_142 : decode k31 142 = .ok (.getfield 17, 3) := by decide +kernel
theorem eBG_145 : decode k31 145 = .ok (.aload_n 2, 1) := by decide +kernel
theorem eBG_146 : decode k31 146 = .ok (.getfield 11, 3) := by decide +kernel
theorem eBG_149 : decode k31 149 = .ok (.iaload, 1) := by decide +kernel
theorem eBG_150 : decode k31 150 = .ok (.istore 11, 2) := by decide +kernel
theorem eBG_152 : decode k31 152 = .ok (.aload_n 1, 1) := by decide +kernel
theorem eBG_153 : decode k31 153 = .ok (.getfield 17, 3) := by decide +kernel
theorem eBG_156 : decode k31 156 = .ok (.aload_n 1, 1) := by decide +kernel
theorem eBG_157 : decode k31 157 = .ok (.getfield 11, 3) := by decide +kernel
theorem eBG_160 : decode k31 160 = .ok (.iaload, 1) := by decide +kernel
theorem eBG_161 : decode k31 161 = .ok (.istore 12, 2) := by decide +kernel
theorem eBG_163 : decode k31 163 = .ok (.iload 11, 2) := by decide +kernel
theorem eBG_165 : decode k31 165 = .ok (.iload 12, 2) := by decide +kernel
theorem eBG_167 : decode k31 167 = .ok (.invokestatic 338, 3) := by decide +kernel
theorem eBG_170 : decode k31 170 = .ok (.istore 11, 2) := by decide +kernel
theorem eBG_172 : decode k31 172 = .ok (.aload_n 3, 1) := by decide +kernel
theorem eBG_173 : decode k31 173 = .ok (.getfield 17, 3) := by decide +kernel
theorem eBG_176 : decode k31 176 = .ok (.iconst 0, 1) := by decide +kernel
theorem eBG_177 : decode k31 177 = .ok (.iload 11, 2) := by decide +kernel
theorem eBG_179 : decode k31 179 = .ok (.iastore, 1) := by decide +kernel
theorem eBG_180 : decode k31 180 = .ok (.aload_n 3, 1) := by decide +kernel
theorem eBG_181 : decode k31 181 = .ok (.iconst 1, 1) := by decide +kernel
theorem eBG_182 : decode k31 182 = .ok (.putfield 21, 3) := by decide +kernel
theorem eBG_185 : decode k31 185 = .ok (.aload_n 3, 1) := by decide +kernel
theorem eBG_186 : decode k31 186 = .ok (.iconst 0, 1) := by decide +kernel
theorem eBG_187 : decode k31 187 = .ok (.putfield 11, 3) := by decide +kernel
theorem eBG_190 : decode k31 190 = .ok (.iload 6, 2) := by decide +kernel
theorem eBG_192 : decode k31 192 = .ok (.ifCond .le 9, 3) := by decide +kernel
theorem eBG_201 : decode k31 201 = .ok (.aload_n 3, 1) := by decide +kernel
theorem eBG_202 : decode k31 202 = .ok (.areturn, 1) := by decide +kernel
theorem m_bg1 (l : Launch) (Z : State) (a0 : Array Value) (hw : ∀ d ∈ tables_1, d.before a0 Z = true) (u v bu bv : Addr) (m0 : Int32) (h : Heap) (E : eM Z h u) (F0 : fV Z h u (.ref bu)) (F1 : fI Z h u (.int 1)) (F2 : fO Z h u (.int 0)) (A : Av Z h bu .int [(.int m0)]) (Ebu : Exa Z h bu "[I") (E' : eM Z h v) (G0 : fV Z h v (.ref bv)) (G1 : fI Z h v (.int 1)) (G2 : fO Z h v (.int 0)) (B : Av Z h bv .int [(.int 1)]) (nuv : u ≠ v) (nbu : bu ≠ u) (nbv : bu ≠ v) (ndu : bv ≠ u) (ndb : bv ≠ bu) (ndv : bv ≠ v) (k0 : ¬ m0 = 0) :
    MetW false l Z [] (⟨"java/math/MutableBigInteger", "binaryGCD", "(Ljava/math/MutableBigInteger;)Ljava/math/MutableBigInteger;"⟩ : MethodName) k31 13 (some (.object "java/math/MutableBigInteger")) [] (rM 3 2 4 42) #[(.ref u), (.ref v)] [u, v, bu] h (fun v h' => ∃ r d : Addr, v = some (.ref r) ∧ h.size ≤ r ∧ h.size ≤ d ∧ eM Z h' r ∧ fV Z h' r (.ref d) ∧ fI Z h' r (.int 1) ∧ fO Z h' r (.int 0) ∧ Exa Z h' d "[I" ∧ Av Z h' d .int [(.int 1)]) := by
  refine mO a0 #[.val (.ref u), .val (.ref v), .unset, .unset, .unset, .unset, .unset, .unset, .unset, .unset, .unset, .unset, .unset] (fun _ _ _ m_ _ _ _ hs0 C => ?_)
  refine Go.know (fun hX hK _ => ?_)
  refine g_aloadN C eBG_0 rfl rfl <| g_astoreN #[.val (.ref u), .val (.ref v), .val (.ref u), .unset, .unset, .unset, .unset, .unset, .unset, .unset, .unset, .unset, .unset] C eBG_1 rfl rfl ?_
  refine g_new_ C eBG_2 (hW hw 75 rfl) (hW hw 42 rfl) (hW hw 43 rfl) (by decide) (by decide) (fun a1 h2 e3 E4 l5 f6 D7 => ?_)
  have K8 := keep_ext E4
  have f9 : fO Z h2 a1 (.int 0) := D7 (Or.inl (hW hw 50 rfl)) (ty := .int) (by decide)
  have f10 : fI Z h2 a1 (.int 0) := D7 (Or.inl (hW hw 54 rfl)) (ty := .int) (by decide)
  have f11 : fV Z h2 a1 .null := D7 (Or.inl (hW hw 69 rfl)) (ty := (.array .int)) (by decide)
  refine g_dup C eBG_5 rfl ?_
  refine g_invokespecial [] [(.ref a1)] 1 C eBG_6 rfl (hW hw 76 rfl) (hW hw 77 rfl) (hW hw 43 rfl) (hW hw 78 rfl) (by decide) (m_mb0 l Z a0 hw _ _ f6 f11 f10 f9) (lenOf pd2 rfl) rfl rfl (bL rfl) (by decide) (by decide) (by decide) (by decide) (allS (mm 0 rfl) all0) (fun v20 h21 L22 q23 K24 => ?_)
  obtain ⟨rfl, d12, g13, f14, f15, f16, f17, f18, f19⟩ := q23
  refine gA (mkF m_ 9 #[.val (.ref u), .val (.ref v), .val (.ref u), .unset, .unset, .unset, .unset, .unset, .unset, .unset, .unset, .unset, .unset] [(.ref a1)]) <| g_astoreN #[.val (.ref u), .val (.ref v), .val (.ref u), .val (.ref a1), .unset, .unset, .unset, .unset, .unset, .unset, .unset, .unset, .unset] C eBG_9 rfl rfl ?_
  refine Go.take f18 (by decide) (by decide) (lT hX.1 (lT K8.1 g13)) (by rw [hs0]; exact (lT K8.1 g13)) ?_
  have gr_ := lT (Nat.le_refl _) (Nat.le_of_eq e3.symm)
  have gd_ := lT K8.1 g13
  have nn25 : u ≠ a1 := (Nat.ne_of_lt (lL E.lt (Nat.le_of_eq e3.symm)))
  have nn26 : u ≠ d12 := (Nat.ne_of_lt (lL (lL E.lt K8.1) g13))
  have nn27 : v ≠ a1 := (Nat.ne_of_lt (lL E'.lt (Nat.le_of_eq e3.symm)))
  have nn28 : v ≠ d12 := (Nat.ne_of_lt (lL (lL E'.lt K8.1) g13))
  have nn29 : bu ≠ a1 := (Nat.ne_of_lt (lL A.lt (Nat.le_of_eq e3.symm)))
  have nn30 : bu ≠ d12 := (Nat.ne_of_lt (lL (lL A.lt K8.1) g13))
  have nn31 : bv ≠ a1 := (Nat.ne_of_lt (lL B.lt (Nat.le_of_eq e3.symm)))
  have nn32 : bv ≠ d12 := (Nat.ne_of_lt (lL (lL B.lt K8.1) g13))
  have nn33 : a1 ≠ d12 := (Nat.ne_of_lt (lL l5 g13))
  refine gA (mkF m_ 10 #[.val (.ref u), .val (.ref v), .val (.ref u), .val (.ref a1), .unset, .unset, .unset, .unset, .unset, .unset, .unset, .unset, .unset] []) <| g_aloadN C eBG_10 rfl rfl ?_
  have f34 := ((E.keep K8).keep K24)
  have f35 := ((F0.keep K8 nin0).keep K24 (ninS nn25 nin0))
  have f36 := ((F1.keep K8 nin0).keep K24 (ninS nn25 nin0))
  have f37 := ((F2.keep K8 nin0).keep K24 (ninS nn25 nin0))
  have f38 := ((A.keep K8 nin0).keep K24 (ninS nn29 nin0))
  refine g_invokeprivate [] [] 0 C eBG_11 (hW hw 89 rfl) (hW hw 90 rfl) (hW hw 92 rfl) (hW hw 91 rfl) (hW hw 43 rfl) (hW hw 93 rfl) (by decide) f34 (m_gl1 l Z a0 hw _ _ m0 _ f34 f35 f36 f37 f38 k0) (lenOf pd6 rfl) rfl rfl (bL rfl) (by decide) (by decide) (by decide) (by decide) all0 (fun v42 h43 L44 q45 K46 => ?_)
  obtain ⟨k39, rfl, q40, q41⟩ := q45
  refine gA (mkF m_ 14 #[.val (.ref u), .val (.ref v), .val (.ref u), .val (.ref a1), .unset, .unset, .unset, .unset, .unset, .unset, .unset, .unset, .unset] [(.int k39)]) <| g_istore #[.val (.ref u), .val (.ref v), .val (.ref u), .val (.ref a1), .val (.int k39), .unset, .unset, .unset, .unset, .unset, .unset, .unset, .unset] C eBG_14 rfl <| g_aloadN C eBG_16 rfl rfl ?_
  have f47 := (((E'.keep K8).keep K24).keep K46)
  have f48 := (((G0.keep K8 nin0).keep K24 (ninS nn27 nin0)).keep K46 nin0)
  have f49 := (((G1.keep K8 nin0).keep K24 (ninS nn27 nin0)).keep K46 nin0)
  have f50 := (((G2.keep K8 nin0).keep K24 (ninS nn27 nin0)).keep K46 nin0)
  have f51 := (((B.keep K8 nin0).keep K24 (ninS nn31 nin0)).keep K46 nin0)
  refine g_invokeprivate [] [] 0 C eBG_17 (hW hw 89 rfl) (hW hw 90 rfl) (hW hw 92 rfl) (hW hw 91 rfl) (hW hw 43 rfl) (hW hw 93 rfl) (by decide) f47 (m_glsb1 l Z a0 hw _ _ _ _ f47 f48 f49 f50 f51 (by decide)) (lenOf pd6 rfl) rfl rfl (bL rfl) (by decide) (by decide) (by decide) (by decide) all0 (fun v52 h53 L54 q55 K56 => ?_)
  obtain rfl := q55
  simp only [show (0 + JP.Integer_numberOfTrailingZeros_I.val 1) = (0 : Int32) from by decide]
  refine gA (mkF m_ 20 #[.val (.ref u), .val (.ref v), .val (.ref u), .val (.ref a1), .val (.int k39), .unset, .unset, .unset, .unset, .unset, .unset, .unset, .unset] [(.int 0)]) <| g_istore #[.val (.ref u), .val (.ref v), .val (.ref u), .val (.ref a1), .val (.int k39), .val (.int 0), .unset, .unset, .unset, .unset, .unset, .unset, .unset] C eBG_20 rfl <| g_iload C eBG_22 rfl <| g_iload C eBG_24 rfl <| g_icmpT 34 C eBG_26 (show ¬ k39 < (0 : Int32) from q40) (by decide) (by decide) <| g_iload C eBG_34 rfl <| g_istore #[.val (.ref u), .val (.ref v), .val (.ref u), .val (.ref a1), .val (.int k39), .val (.int 0), .val (.int 0), .unset, .unset, .unset, .unset, .unset, .unset] C eBG_36 rfl <| g_iload C eBG_38 rfl <| g_ifT 55 C eBG_40 (show (0 : Int32) = (0 : Int32) by decide) (by decide) (by decide) <| g_iload C eBG_55 rfl <| g_iload C eBG_57 rfl ?_
  by_cases cc57 : (0 : Int32) = k39
  · refine g_icmpF C eBG_59 (show (0 : Int32) = k39 from cc57) ?_
    refine g_iconst 1 C eBG_62 (by decide) <| g_goto 67 C eBG_63 (by decide) (by decide) <| g_istore #[.val (.ref u), .val (.ref v), .val (.ref u), .val (.ref a1), .val (.int k39), .val (.int 0), .val (.int 0), .val (.int 1), .unset, .unset, .unset, .unset, .unset] C eBG_67 rfl <| g_iload C eBG_69 rfl <| g_ifF C eBG_71 (show ¬ (1 : Int32) = (0 : Int32) by decide) <| g_aloadN C eBG_74 rfl rfl <| g_goto 79 C eBG_75 (by decide) (by decide) <| g_astore #[.val (.ref u), .val (.ref v), .val (.ref u), .val (.ref a1), .val (.int k39), .val (.int 0), .val (.int 0), .val (.int 1), .val (.ref v), .unset, .unset, .unset, .unset] C eBG_79 rfl rfl <| g_iload C eBG_81 rfl <| g_ifF C eBG_83 (show ¬ (1 : Int32) = (0 : Int32) by decide) <| g_iconst (-1) C eBG_86 (by decide) ?_
    refine g_goto 91 C eBG_87 (by decide) (by decide) <| g_istore #[.val (.ref u), .val (.ref v), .val (.ref u), .val (.ref a1), .val (.int k39), .val (.int 0), .val (.int 0), .val (.int 1), .val (.ref v), .val (.int (-1)), .unset, .unset, .unset] C eBG_91 rfl <| g_aload C eBG_93 rfl rfl ?_
    have f58 := (f47.keep K56)
    have f59 := (f48.keep K56 nin0)
    have f60 := (f49.keep K56 nin0)
    have f61 := (f50.keep K56 nin0)
    have f62 := (f51.keep K56 nin0)
    refine g_invokeprivate [] [] 0 C eBG_95 (hW hw 89 rfl) (hW hw 90 rfl) (hW hw 92 rfl) (hW hw 91 rfl) (hW hw 43 rfl) (hW hw 93 rfl) (by decide) f58 (m_glsb1 l Z a0 hw _ _ _ _ f58 f59 f60 f61 f62 (by decide)) (lenOf pd6 rfl) rfl rfl (bL rfl) (by decide) (by decide) (by decide) (by decide) all0 (fun v63 h64 L65 q66 K67 => ?_)
    obtain rfl := q66
    simp only [show (0 + JP.Integer_numberOfTrailingZeros_I.val 1) = (0 : Int32) from by decide]
    refine gA (mkF m_ 98 #[.val (.ref u), .val (.ref v), .val (.ref u), .val (.ref a1), .val (.int k39), .val (.int 0), .val (.int 0), .val (.int 1), .val (.ref v), .val (.int (-1)), .unset, .unset, .unset] [(.int 0)]) <| g_dup C eBG_98 rfl <| g_istore #[.val (.ref u), .val (.ref v), .val (.ref u), .val (.ref a1), .val (.int k39), .val (.int 0), .val (.int 0), .val (.int 1), .val (.ref v), .val (.int (-1)), .val (.int 0), .unset, .unset] C eBG_99 rfl <| g_ifF C eBG_101 (show ¬ (0 : Int32) < (0 : Int32) by decide) <| g_aload C eBG_104 rfl rfl <| g_iload C eBG_106 rfl ?_
    have f72 := (f58.keep K67)
    have f73 := (f59.keep K67 nin0)
    have f74 := (f60.keep K67 nin0)
    have f75 := (f61.keep K67 nin0)
    refine g_invokevirtual [(.int 0)] [] 0 C eBG_108 (hW hw 98 rfl) (hW hw 99 rfl) (hW hw 101 rfl) (hW hw 100 rfl) (hW hw 43 rfl) (hW hw 102 rfl) (fun _ hZ => notFace_of_selects (args := #[]) (mvT hZ (hW hw 101 rfl))) (by decide) f72 (m_rs01 l Z a0 hw _ _ (0 : Int32) _ f72 f73 f74 f75) (lenOf pd4 rfl) rfl rfl (bL rfl) (by decide) (by decide) (by decide) (by decide) (allS (mm 3 rfl) all0) (fun v76 h77 L78 q79 K80 => ?_)
    obtain ⟨rfl, f68, f69, f70, f71⟩ := q79
    refine gA (mkF m_ 111 #[.val (.ref u), .val (.ref v), .val (.ref u), .val (.ref a1), .val (.int k39), .val (.int 0), .val (.int 0), .val (.int 1), .val (.ref v), .val (.int (-1)), .val (.int 0), .unset, .unset] []) <| g_iload C eBG_111 rfl <| g_ifT 122 C eBG_113 (show ¬ (0 : Int32) < (-1 : Int32) by decide) (by decide) (by decide) <| g_aload C eBG_122 rfl rfl <| g_astoreN #[.val (.ref u), .val (.ref v), .val (.ref u), .val (.ref a1), .val (.int k39), .val (.int 0), .val (.int 0), .val (.int 1), .val (.ref v), .val (.int (-1)), .val (.int 0), .unset, .unset] C eBG_124 rfl rfl <| g_aloadN C eBG_125 rfl rfl ?_
    have f81 := ((((f36.keep K46 nin0).keep K56 nin0).keep K67 nin0).keep K80 (ninS nuv nin0))
    refine gF C eBG_126 (hW hw 53 rfl) f81 <| g_iconst 2 C eBG_129 (by decide) <| g_icmpF C eBG_130 (show (1 : Int32) < (2 : Int32) by decide) <| g_aloadN C eBG_133 rfl rfl <| gF C eBG_134 (hW hw 53 rfl) f70 <| g_iconst 2 C eBG_137 (by decide) <| g_icmpF C eBG_138 (show (1 : Int32) < (2 : Int32) by decide) <| g_aloadN C eBG_141 rfl rfl ?_
    have f82 := ((((f35.keep K46 nin0).keep K56 nin0).keep K67 nin0).keep K80 (ninS nuv nin0))
    refine gF C eBG_142 (hW hw 68 rfl) f82 <| g_aloadN C eBG_145 rfl rfl ?_
    have f83 := ((((f37.keep K46 nin0).keep K56 nin0).keep K67 nin0).keep K80 (ninS nuv nin0))
    refine gF C eBG_146 (hW hw 49 rfl) f83 ?_
    have f84 := ((((f38.keep K46 nin0).keep K56 nin0).keep K67 nin0).keep K80 (ninS nbv nin0))
    refine g_iaload 0 C eBG_149 f84 (by decide) (by decide) rfl <| g_istore #[.val (.ref u), .val (.ref v), .val (.ref u), .val (.ref a1), .val (.int k39), .val (.int 0), .val (.int 0), .val (.int 1), .val (.ref v), .val (.int (-1)), .val (.int 0), .val (.int m0), .unset] C eBG_150 rfl <| g_aloadN C eBG_152 rfl rfl <| gF C eBG_153 (hW hw 68 rfl) f69 <| g_aloadN C eBG_156 rfl rfl <| gF C eBG_157 (hW hw 49 rfl) f71 ?_
    have f85 := ((f62.keep K67 nin0).keep K80 (ninS ndv nin0))
    refine g_iaload 0 C eBG_160 f85 (by decide) (by decide) rfl <| g_istore #[.val (.ref u), .val (.ref v), .val (.ref u), .val (.ref a1), .val (.int k39), .val (.int 0), .val (.int 0), .val (.int 1), .val (.ref v), .val (.int (-1)), .val (.int 0), .val (.int m0), .val (.int 1)] C eBG_161 rfl <| g_iload C eBG_163 rfl <| g_iload C eBG_165 rfl ?_
    refine g_invokestatic [(.int m0), (.int 1)] [] 0 C eBG_167 (hW hw 103 rfl) (hW hw 104 rfl) (hW hw 43 rfl) (hW hw 105 rfl) (by decide) (m_bgcd1 l Z a0 hw m0 _) (lenOf pd7 rfl) rfl rfl (bL rfl) (by decide) (by decide) (by decide) (by decide) all0 (fun v86 h87 L88 q89 K90 => ?_)
    obtain rfl := q89
    refine gA (mkF m_ 170 #[.val (.ref u), .val (.ref v), .val (.ref u), .val (.ref a1), .val (.int k39), .val (.int 0), .val (.int 0), .val (.int 1), .val (.ref v), .val (.int (-1)), .val (.int 0), .val (.int m0), .val (.int 1)] [(.int 1)]) <| g_istore #[.val (.ref u), .val (.ref v), .val (.ref u), .val (.ref a1), .val (.int k39), .val (.int 0), .val (.int 0), .val (.int 1), .val (.ref v), .val (.int (-1)), .val (.int 0), .val (.int 1), .val (.int 1)] C eBG_170 rfl <| g_aloadN C eBG_172 rfl rfl ?_
    have f91 := (((((f15.keep K46 nin0).keep K56 nin0).keep K67 nin0).keep K80 (ninS (Ne.symm nn27) nin0)).keep K90 nin0)
    refine gF C eBG_173 (hW hw 68 rfl) f91 <| g_iconst 0 C eBG_176 (by decide) <| g_iload C eBG_177 rfl ?_
    have f92 := (((((f19.keep K46 nin0).keep K56 nin0).keep K67 nin0).keep K80 (ninS (Ne.symm nn28) nin0)).keep K90 nin0)
    refine g_iastore 0 C eBG_179 f92 (by decide) (by decide) (bL rfl) (mm 0 rfl) (fun h93 K94 z95 f96 => ?_)
    have f97 : Av Z h93 d12 .int [(.int 1)] := f96
    refine g_aloadN C eBG_180 rfl rfl <| g_iconst 1 C eBG_181 (by decide) ?_
    have f98 := ((((((f16.keep K46 nin0).keep K56 nin0).keep K67 nin0).keep K80 (ninS (Ne.symm nn27) nin0)).keep K90 nin0).keep K94 (ninS nn33 nin0))
    have f99 := ((((((f14.keep K46).keep K56).keep K67).keep K80).keep K90).keep K94)
    have f100 := ((((((f17.keep K46 nin0).keep K56 nin0).keep K67 nin0).keep K80 (ninS (Ne.symm nn27) nin0)).keep K90 nin0).keep K94 (ninS nn33 nin0))
    have f101 := (f91.keep K94 (ninS nn33 nin0))
    refine g_putfield (host := "") C eBG_182 (Or.inl (hW hw 53 rfl)) Via.refl f98 f99 (Or.inl (hW hw 54 rfl)) (hW hw 42 rfl) (ty := .int) (by decide) rfl rfl (mm 1 rfl) (fun h102 W103 K104 => ?_)
    have f105 := Fld.same W103 f98
    have f106 := Fld.other W103 f100 (Or.inr (s50_54 hw))
    have f107 := Fld.other W103 f101 (Or.inr (s69_54 hw))
    refine g_aloadN C eBG_185 rfl rfl <| g_iconst 0 C eBG_186 (by decide) ?_
    have f108 := (f99.keep K104)
    refine g_putfield (host := "") C eBG_187 (Or.inl (hW hw 49 rfl)) Via.refl f106 f108 (Or.inl (hW hw 50 rfl)) (hW hw 42 rfl) (ty := .int) (by decide) rfl rfl (mm 1 rfl) (fun h109 W110 K111 => ?_)
    have f112 := Fld.same W110 f106
    have f113 := Fld.other W110 f105 (Or.inr (s54_50 hw))
    have f114 := Fld.other W110 f107 (Or.inr (s69_50 hw))
    refine g_iload C eBG_190 rfl <| g_ifT 201 C eBG_192 (show ¬ (0 : Int32) < (0 : Int32) by decide) (by decide) (by decide) <| g_aloadN C eBG_201 rfl rfl ?_
    have f115 := (f108.keep K111)
    have f116 := ((((((((f18.keep K46).keep K56).keep K67).keep K80).keep K90).keep K94).keep K104).keep K111)
    have f117 := ((f97.keep K104 (ninS (Ne.symm nn33) nin0)).keep K111 (ninS (Ne.symm nn33) nin0))
    exact g_retA C eBG_202 rfl rfl ⟨a1, d12, rfl, gr_, gd_, f115, f114, f113, f112, f116, f117⟩ (by decide) (by decide)
  · refine g_icmpT 66 C eBG_59 (show ¬ (0 : Int32) = k39 from cc57) (by decide) (by decide) ?_
    refine g_iconst 0 C eBG_66 (by decide) <| g_istore #[.val (.ref u), .val (.ref v), .val (.ref u), .val (.ref a1), .val (.int k39), .val (.int 0), .val (.int 0), .val (.int 0), .unset, .unset, .unset, .unset, .unset] C eBG_67 rfl <| g_iload C eBG_69 rfl <| g_ifT 78 C eBG_71 (show (0 : Int32) = (0 : Int32) by decide) (by decide) (by decide) <| g_aloadN C eBG_78 rfl rfl <| g_astore #[.val (.ref u), .val (.ref v), .val (.ref u), .val (.ref a1), .val (.int k39), .val (.int 0), .val (.int 0), .val (.int 0), .val (.ref u), .unset, .unset, .unset, .unset] C eBG_79 rfl rfl <| g_iload C eBG_81 rfl <| g_ifT 90 C eBG_83 (show (0 : Int32) = (0 : Int32) by decide) (by decide) (by decide) <| g_iconst 1 C eBG_90 (by decide) <| g_istore #[.val (.ref u), .val (.ref v), .val (.ref u), .val (.ref a1), .val (.int k39), .val (.int 0), .val (.int 0), .val (.int 0), .val (.ref u), .val (.int 1), .unset, .unset, .unset] C eBG_91 rfl <| g_aload C eBG_93 rfl rfl ?_
    have f118 := ((f34.keep K46).keep K56)
    have f119 := ((f35.keep K46 nin0).keep K56 nin0)
    have f120 := ((f36.keep K46 nin0).keep K56 nin0)
    have f121 := ((f37.keep K46 nin0).keep K56 nin0)
    have f122 := ((f38.keep K46 nin0).keep K56 nin0)
    refine g_invokeprivate [] [] 0 C eBG_95 (hW hw 89 rfl) (hW hw 90 rfl) (hW hw 92 rfl) (hW hw 91 rfl) (hW hw 43 rfl) (hW hw 93 rfl) (by decide) f118 (m_gl1 l Z a0 hw _ _ m0 _ f118 f119 f120 f121 f122 k0) (lenOf pd6 rfl) rfl rfl (bL rfl) (by decide) (by decide) (by decide) (by decide) all0 (fun v126 h127 L128 q129 K130 => ?_)
    obtain ⟨k123, rfl, q124, q125⟩ := q129
    refine gA (mkF m_ 98 #[.val (.ref u), .val (.ref v), .val (.ref u), .val (.ref a1), .val (.int k39), .val (.int 0), .val (.int 0), .val (.int 0), .val (.ref u), .val (.int 1), .unset, .unset, .unset] [(.int k123)]) <| g_dup C eBG_98 rfl <| g_istore #[.val (.ref u), .val (.ref v), .val (.ref u), .val (.ref a1), .val (.int k39), .val (.int 0), .val (.int 0), .val (.int 0), .val (.ref u), .val (.int 1), .val (.int k123), .unset, .unset] C eBG_99 rfl <| g_ifF C eBG_101 (show ¬ k123 < (0 : Int32) from q124) <| g_aload C eBG_104 rfl rfl <| g_iload C eBG_106 rfl ?_
    have f139 := (f118.keep K130)
    have f140 := (f119.keep K130 nin0)
    have f141 := (f120.keep K130 nin0)
    have f142 := (f121.keep K130 nin0)
    have f143 := (f122.keep K130 nin0)
    refine g_invokevirtual [(.int k123)] [] 0 C eBG_108 (hW hw 98 rfl) (hW hw 99 rfl) (hW hw 101 rfl) (hW hw 100 rfl) (hW hw 43 rfl) (hW hw 102 rfl) (fun _ hZ => notFace_of_selects (args := #[]) (mvT hZ (hW hw 101 rfl))) (by decide) f139 (m_rs1 l Z a0 hw _ _ k123 m0 _ f139 f140 f141 f142 f143 nbu  q125) (lenOf pd4 rfl) rfl rfl (bL rfl) (by decide) (by decide) (by decide) (by decide) (allS (mm 2 rfl) (allS (mm 4 rfl) all0)) (fun v144 h145 L146 q147 K148 => ?_)
    obtain ⟨rfl, y131, z138, f132, f133, f134, f135, f136, q137⟩ := q147
    rcases q137 with rfl | rfl
    · refine gA (mkF m_ 111 #[.val (.ref u), .val (.ref v), .val (.ref u), .val (.ref a1), .val (.int k39), .val (.int 0), .val (.int 0), .val (.int 0), .val (.ref u), .val (.int 1), .val (.int k123), .unset, .unset] []) ?_
      refine g_iload C eBG_111 rfl <| g_ifF C eBG_113 (show (0 : Int32) < (1 : Int32) by decide) <| g_aload C eBG_116 rfl rfl <| g_astoreN #[.val (.ref u), .val (.ref v), .val (.ref u), .val (.ref a1), .val (.int k39), .val (.int 0), .val (.int 0), .val (.int 0), .val (.ref u), .val (.int 1), .val (.int k123), .unset, .unset] C eBG_118 rfl rfl <| g_goto 125 C eBG_119 (by decide) (by decide) <| g_aloadN C eBG_125 rfl rfl <| gF C eBG_126 (hW hw 53 rfl) f134 <| g_iconst 2 C eBG_129 (by decide) <| g_icmpF C eBG_130 (show (0 : Int32) < (2 : Int32) by decide) <| g_aloadN C eBG_133 rfl rfl ?_
      have f151 := (((f49.keep K56 nin0).keep K130 nin0).keep K148 (ninS (Ne.symm nuv) (ninS (Ne.symm nbv) nin0)))
      refine gF C eBG_134 (hW hw 53 rfl) f151 <| g_iconst 2 C eBG_137 (by decide) <| g_icmpF C eBG_138 (show (1 : Int32) < (2 : Int32) by decide) <| g_aloadN C eBG_141 rfl rfl <| gF C eBG_142 (hW hw 68 rfl) f133 <| g_aloadN C eBG_145 rfl rfl <| gF C eBG_146 (hW hw 49 rfl) f135 <| g_iaload 0 C eBG_149 f136 (by decide) (by decide) rfl <| g_istore #[.val (.ref u), .val (.ref v), .val (.ref u), .val (.ref a1), .val (.int k39), .val (.int 0), .val (.int 0), .val (.int 0), .val (.ref u), .val (.int 1), .val (.int k123), .val (.int y131), .unset] C eBG_150 rfl <| g_aloadN C eBG_152 rfl rfl ?_
      have f152 := (((f48.keep K56 nin0).keep K130 nin0).keep K148 (ninS (Ne.symm nuv) (ninS (Ne.symm nbv) nin0)))
      refine gF C eBG_153 (hW hw 68 rfl) f152 <| g_aloadN C eBG_156 rfl rfl ?_
      have f153 := (((f50.keep K56 nin0).keep K130 nin0).keep K148 (ninS (Ne.symm nuv) (ninS (Ne.symm nbv) nin0)))
      refine gF C eBG_157 (hW hw 49 rfl) f153 ?_
      have f154 := (((f51.keep K56 nin0).keep K130 nin0).keep K148 (ninS ndu (ninS ndb nin0)))
      refine g_iaload 0 C eBG_160 f154 (by decide) (by decide) rfl <| g_istore #[.val (.ref u), .val (.ref v), .val (.ref u), .val (.ref a1), .val (.int k39), .val (.int 0), .val (.int 0), .val (.int 0), .val (.ref u), .val (.int 1), .val (.int k123), .val (.int y131), .val (.int 1)] C eBG_161 rfl <| g_iload C eBG_163 rfl <| g_iload C eBG_165 rfl ?_
      refine g_invokestatic [(.int y131), (.int 1)] [] 0 C eBG_167 (hW hw 103 rfl) (hW hw 104 rfl) (hW hw 43 rfl) (hW hw 105 rfl) (by decide) (m_bgcd1 l Z a0 hw y131 _) (lenOf pd7 rfl) rfl rfl (bL rfl) (by decide) (by decide) (by decide) (by decide) all0 (fun v155 h156 L157 q158 K159 => ?_)
      obtain rfl := q158
      refine gA (mkF m_ 170 #[.val (.ref u), .val (.ref v), .val (.ref u), .val (.ref a1), .val (.int k39), .val (.int 0), .val (.int 0), .val (.int 0), .val (.ref u), .val (.int 1), .val (.int k123), .val (.int y131), .val (.int 1)] [(.int 1)]) <| g_istore #[.val (.ref u), .val (.ref v), .val (.ref u), .val (.ref a1), .val (.int k39), .val (.int 0), .val (.int 0), .val (.int 0), .val (.ref u), .val (.int 1), .val (.int k123), .val (.int 1), .val (.int 1)] C eBG_170 rfl <| g_aloadN C eBG_172 rfl rfl ?_
      have f160 := (((((f15.keep K46 nin0).keep K56 nin0).keep K130 nin0).keep K148 (ninS (Ne.symm nn25) (ninS (Ne.symm nn29) nin0))).keep K159 nin0)
      refine gF C eBG_173 (hW hw 68 rfl) f160 <| g_iconst 0 C eBG_176 (by decide) <| g_iload C eBG_177 rfl ?_
      have f161 := (((((f19.keep K46 nin0).keep K56 nin0).keep K130 nin0).keep K148 (ninS (Ne.symm nn26) (ninS (Ne.symm nn30) nin0))).keep K159 nin0)
      refine g_iastore 0 C eBG_179 f161 (by decide) (by decide) (bL rfl) (mm 0 rfl) (fun h162 K163 z164 f165 => ?_)
      have f166 : Av Z h162 d12 .int [(.int 1)] := f165
      refine g_aloadN C eBG_180 rfl rfl <| g_iconst 1 C eBG_181 (by decide) ?_
      have f167 := ((((((f16.keep K46 nin0).keep K56 nin0).keep K130 nin0).keep K148 (ninS (Ne.symm nn25) (ninS (Ne.symm nn29) nin0))).keep K159 nin0).keep K163 (ninS nn33 nin0))
      have f168 := ((((((f14.keep K46).keep K56).keep K130).keep K148).keep K159).keep K163)
      have f169 := ((((((f17.keep K46 nin0).keep K56 nin0).keep K130 nin0).keep K148 (ninS (Ne.symm nn25) (ninS (Ne.symm nn29) nin0))).keep K159 nin0).keep K163 (ninS nn33 nin0))
      have f170 := (f160.keep K163 (ninS nn33 nin0))
      refine g_putfield (host := "") C eBG_182 (Or.inl (hW hw 53 rfl)) Via.refl f167 f168 (Or.inl (hW hw 54 rfl)) (hW hw 42 rfl) (ty := .int) (by decide) rfl rfl (mm 1 rfl) (fun h171 W172 K173 => ?_)
      have f174 := Fld.same W172 f167
      have f175 := Fld.other W172 f169 (Or.inr (s50_54 hw))
      have f176 := Fld.other W172 f170 (Or.inr (s69_54 hw))
      refine g_aloadN C eBG_185 rfl rfl <| g_iconst 0 C eBG_186 (by decide) ?_
      have f177 := (f168.keep K173)
      refine g_putfield (host := "") C eBG_187 (Or.inl (hW hw 49 rfl)) Via.refl f175 f177 (Or.inl (hW hw 50 rfl)) (hW hw 42 rfl) (ty := .int) (by decide) rfl rfl (mm 1 rfl) (fun h178 W179 K180 => ?_)
      have f181 := Fld.same W179 f175
      have f182 := Fld.other W179 f174 (Or.inr (s54_50 hw))
      have f183 := Fld.other W179 f176 (Or.inr (s69_50 hw))
      refine g_iload C eBG_190 rfl <| g_ifT 201 C eBG_192 (show ¬ (0 : Int32) < (0 : Int32) by decide) (by decide) (by decide) <| g_aloadN C eBG_201 rfl rfl ?_
      have f184 := (f177.keep K180)
      have f185 := ((((((((f18.keep K46).keep K56).keep K130).keep K148).keep K159).keep K163).keep K173).keep K180)
      have f186 := ((f166.keep K173 (ninS (Ne.symm nn33) nin0)).keep K180 (ninS (Ne.symm nn33) nin0))
      exact g_retA C eBG_202 rfl rfl ⟨a1, d12, rfl, gr_, gd_, f184, f183, f182, f181, f185, f186⟩ (by decide) (by decide)
    · refine gA (mkF m_ 111 #[.val (.ref u), .val (.ref v), .val (.ref u), .val (.ref a1), .val (.int k39), .val (.int 0), .val (.int 0), .val (.int 0), .val (.ref u), .val (.int 1), .val (.int k123), .unset, .unset] []) ?_
      refine g_iload C eBG_111 rfl <| g_ifF C eBG_113 (show (0 : Int32) < (1 : Int32) by decide) <| g_aload C eBG_116 rfl rfl <| g_astoreN #[.val (.ref u), .val (.ref v), .val (.ref u), .val (.ref a1), .val (.int k39), .val (.int 0), .val (.int 0), .val (.int 0), .val (.ref u), .val (.int 1), .val (.int k123), .unset, .unset] C eBG_118 rfl rfl <| g_goto 125 C eBG_119 (by decide) (by decide) <| g_aloadN C eBG_125 rfl rfl <| gF C eBG_126 (hW hw 53 rfl) f134 <| g_iconst 2 C eBG_129 (by decide) <| g_icmpF C eBG_130 (show (1 : Int32) < (2 : Int32) by decide) <| g_aloadN C eBG_133 rfl rfl ?_
      have f187 := (((f49.keep K56 nin0).keep K130 nin0).keep K148 (ninS (Ne.symm nuv) (ninS (Ne.symm nbv) nin0)))
      refine gF C eBG_134 (hW hw 53 rfl) f187 <| g_iconst 2 C eBG_137 (by decide) <| g_icmpF C eBG_138 (show (1 : Int32) < (2 : Int32) by decide) <| g_aloadN C eBG_141 rfl rfl <| gF C eBG_142 (hW hw 68 rfl) f133 <| g_aloadN C eBG_145 rfl rfl <| gF C eBG_146 (hW hw 49 rfl) f135 <| g_iaload 0 C eBG_149 f136 (by decide) (by decide) rfl <| g_istore #[.val (.ref u), .val (.ref v), .val (.ref u), .val (.ref a1), .val (.int k39), .val (.int 0), .val (.int 0), .val (.int 0), .val (.ref u), .val (.int 1), .val (.int k123), .val (.int y131), .unset] C eBG_150 rfl <| g_aloadN C eBG_152 rfl rfl ?_
      have f188 := (((f48.keep K56 nin0).keep K130 nin0).keep K148 (ninS (Ne.symm nuv) (ninS (Ne.symm nbv) nin0)))
      refine gF C eBG_153 (hW hw 68 rfl) f188 <| g_aloadN C eBG_156 rfl rfl ?_
      have f189 := (((f50.keep K56 nin0).keep K130 nin0).keep K148 (ninS (Ne.symm nuv) (ninS (Ne.symm nbv) nin0)))
      refine gF C eBG_157 (hW hw 49 rfl) f189 ?_
      have f190 := (((f51.keep K56 nin0).keep K130 nin0).keep K148 (ninS ndu (ninS ndb nin0)))
      refine g_iaload 0 C eBG_160 f190 (by decide) (by decide) rfl <| g_istore #[.val (.ref u), .val (.ref v), .val (.ref u), .val (.ref a1), .val (.int k39), .val (.int 0), .val (.int 0), .val (.int 0), .val (.ref u), .val (.int 1), .val (.int k123), .val (.int y131), .val (.int 1)] C eBG_161 rfl <| g_iload C eBG_163 rfl <| g_iload C eBG_165 rfl ?_
      refine g_invokestatic [(.int y131), (.int 1)] [] 0 C eBG_167 (hW hw 103 rfl) (hW hw 104 rfl) (hW hw 43 rfl) (hW hw 105 rfl) (by decide) (m_bgcd1 l Z a0 hw y131 _) (lenOf pd7 rfl) rfl rfl (bL rfl) (by decide) (by decide) (by decide) (by decide) all0 (fun v191 h192 L193 q194 K195 => ?_)
      obtain rfl := q194
      refine gA (mkF m_ 170 #[.val (.ref u), .val (.ref v), .val (.ref u), .val (.ref a1), .val (.int k39), .val (.int 0), .val (.int 0), .val (.int 0), .val (.ref u), .val (.int 1), .val (.int k123), .val (.int y131), .val (.int 1)] [(.int 1)]) <| g_istore #[.val (.ref u), .val (.ref v), .val (.ref u), .val (.ref a1), .val (.int k39), .val (.int 0), .val (.int 0), .val (.int 0), .val (.ref u), .val (.int 1), .val (.int k123), .val (.int 1), .val (.int 1)] C eBG_170 rfl <| g_aloadN C eBG_172 rfl rfl ?_
      have f196 := (((((f15.keep K46 nin0).keep K56 nin0).keep K130 nin0).keep K148 (ninS (Ne.symm nn25) (ninS (Ne.symm nn29) nin0))).keep K195 nin0)
      refine gF C eBG_173 (hW hw 68 rfl) f196 <| g_iconst 0 C eBG_176 (by decide) <| g_iload C eBG_177 rfl ?_
      have f197 := (((((f19.keep K46 nin0).keep K56 nin0).keep K130 nin0).keep K148 (ninS (Ne.symm nn26) (ninS (Ne.symm nn30) nin0))).keep K195 nin0)
      refine g_iastore 0 C eBG_179 f197 (by decide) (by decide) (bL rfl) (mm 0 rfl) (fun h198 K199 z200 f201 => ?_)
      have f202 : Av Z h198 d12 .int [(.int 1)] := f201
      refine g_aloadN C eBG_180 rfl rfl <| g_iconst 1 C eBG_181 (by decide) ?_
      have f203 := ((((((f16.keep K46 nin0).keep K56 nin0).keep K130 nin0).keep K148 (ninS (Ne.symm nn25) (ninS (Ne.symm nn29) nin0))).keep K195 nin0).keep K199 (ninS nn33 nin0))
      have f204 := ((((((f14.keep K46).keep K56).keep K130).keep K148).keep K195).keep K199)
      have f205 := ((((((f17.keep K46 nin0).keep K56 nin0).keep K130 nin0).keep K148 (ninS (Ne.symm nn25) (ninS (Ne.symm nn29) nin0))).keep K195 nin0).keep K199 (ninS nn33 nin0))
      have f206 := (f196.keep K199 (ninS nn33 nin0))
      refine g_putfield (host := "") C eBG_182 (Or.inl (hW hw 53 rfl)) Via.refl f203 f204 (Or.inl (hW hw 54 rfl)) (hW hw 42 rfl) (ty := .int) (by decide) rfl rfl (mm 1 rfl) (fun h207 W208 K209 => ?_)
      have f210 := Fld.same W208 f203
      have f211 := Fld.other W208 f205 (Or.inr (s50_54 hw))
      have f212 := Fld.other W208 f206 (Or.inr (s69_54 hw))
      refine g_aloadN C eBG_185 rfl rfl <| g_iconst 0 C eBG_186 (by decide) ?_
      have f213 := (f204.keep K209)
      refine g_putfield (host := "") C eBG_187 (Or.inl (hW hw 49 rfl)) Via.refl f211 f213 (Or.inl (hW hw 50 rfl)) (hW hw 42 rfl) (ty := .int) (by decide) rfl rfl (mm 1 rfl) (fun h214 W215 K216 => ?_)
      have f217 := Fld.same W215 f211
      have f218 := Fld.other W215 f210 (Or.inr (s54_50 hw))
      have f219 := Fld.other W215 f212 (Or.inr (s69_50 hw))
      refine g_iload C eBG_190 rfl <| g_ifT 201 C eBG_192 (show ¬ (0 : Int32) < (0 : Int32) by decide) (by decide) (by decide) <| g_aloadN C eBG_201 rfl rfl ?_
      have f220 := (f213.keep K216)
      have f221 := ((((((((f18.keep K46).keep K56).keep K130).keep K148).keep K195).keep K199).keep K209).keep K216)
      have f222 := ((f202.keep K209 (ninS (Ne.symm nn33) nin0)).keep K216 (ninS (Ne.symm nn33) nin0))
      exact g_retA C eBG_202 rfl rfl ⟨a1, d12, rfl, gr_, gd_, f220, f219, f218, f217, f221, f222⟩ (by decide) (by decide)
theorem eBG_203 : decode k31 203 = .ok (.aload_n 2, 1) := by decide +kernel
theorem eBG_204 : decode k31 204 = .ok (.aload_n 1, 1) := by decide +kernel
theorem eBG_205 : decode k31 205 = .ok (.invokevirtual 341, 3) := by decide +kernel
theorem eBG_208 : decode k31 208 = .ok (.dup, 1) := by decide +kernel
theorem eBG_209 : decode k31 209 = .ok (.istore 9, 2) := by decide +kernel
theorem eBG_211 : decode k31 211 = .ok (.ifCond .ne 6, 3) := by decide +kernel
theorem eBG_217 : decode k31 217 = .ok (.iload 9, 2) := by decide +kernel
theorem eBG_219 : decode k31 219 = .ok (.ifCond .lt 7, 3) := by decide +kernel
theorem eBG_222 : decode k31 222 = .ok (.aload_n 2, 1) := by decide +kernel
theorem eBG_223 : decode k31 223 = .ok (.goto 4, 3) := by decide +kernel
theorem eBG_227 : decode k31 227 = .ok (.astore 8, 2) := by decide +kernel
theorem eBG_229 : decode k31 229 = .ok (.goto (-136), 3) := by decide +kernel
theorem m_bg2 (l : Launch) (Z : State) (a0 : Array Value) (hw : ∀ d ∈ tables_1, d.before a0 Z = true) (u v bu bv : Addr) (m0 m1 : Int32) (h : Heap) (E : eM Z h u) (F0 : fV Z h u (.ref bu)) (F1 : fI Z h u (.int 2)) (F2 : fO Z h u (.int 0)) (A : Av Z h bu .int [(.int m0), (.int m1)]) (Ebu : Exa Z h bu "[I") (E' : eM Z h v) (G0 : fV Z h v (.ref bv)) (G1 : fI Z h v (.int 1)) (G2 : fO Z h v (.int 0)) (B : Av Z h bv .int [(.int 1)]) (nuv : u ≠ v) (nbu : bu ≠ u) (nbv : bu ≠ v) (ndu : bv ≠ u) (ndb : bv ≠ bu) (ndv : bv ≠ v) (k0 : ¬ m0 = 0) :
    MetW false l Z [] (⟨"java/math/MutableBigInteger", "binaryGCD", "(Ljava/math/MutableBigInteger;)Ljava/math/MutableBigInteger;"⟩ : MethodName) k31 13 (some (.object "java/math/MutableBigInteger")) [] (rM 3 2 4 42) #[(.ref u), (.ref v)] [u, v, bu] h (fun v h' => ∃ r d : Addr, v = some (.ref r) ∧ h.size ≤ r ∧ h.size ≤ d ∧ eM Z h' r ∧ fV Z h' r (.ref d) ∧ fI Z h' r (.int 1) ∧ fO Z h' r (.int 0) ∧ Exa Z h' d "[I" ∧ Av Z h' d .int [(.int 1)]) := by
  refine mO a0 #[.val (.ref u), .val (.ref v), .unset, .unset, .unset, .unset, .unset, .unset, .unset, .unset, .unset, .unset, .unset] (fun _ _ _ m_ _ _ _ hs0 C => ?_)
  refine Go.know (fun hX hK _ => ?_)
  refine g_aloadN C eBG_0 rfl rfl <| g_astoreN #[.val (.ref u), .val (.ref v), .val (.ref u), .unset, .unset, .unset, .unset, .unset, .unset, .unset, .unset, .unset, .unset] C eBG_1 rfl rfl ?_
  refine g_new_ C eBG_2 (hW hw 75 rfl) (hW hw 42 rfl) (hW hw 43 rfl) (by decide) (by decide) (fun a1 h2 e3 E4 l5 f6 D7 => ?_)
  have K8 := keep_ext E4
  have f9 : fO Z h2 a1 (.int 0) := D7 (Or.inl (hW hw 50 rfl)) (ty := .int) (by decide)
  have f10 : fI Z h2 a1 (.int 0) := D7 (Or.inl (hW hw 54 rfl)) (ty := .int) (by decide)
  have f11 : fV Z h2 a1 .null := D7 (Or.inl (hW hw 69 rfl)) (ty := (.array .int)) (by decide)
  refine g_dup C eBG_5 rfl ?_
  refine g_invokespecial [] [(.ref a1)] 1 C eBG_6 rfl (hW hw 76 rfl) (hW hw 77 rfl) (hW hw 43 rfl) (hW hw 78 rfl) (by decide) (m_mb0 l Z a0 hw _ _ f6 f11 f10 f9) (lenOf pd2 rfl) rfl rfl (bL rfl) (by decide) (by decide) (by decide) (by decide) (allS (mm 0 rfl) all0) (fun v20 h21 L22 q23 K24 => ?_)
  obtain ⟨rfl, d12, g13, f14, f15, f16, f17, f18, f19⟩ := q23
  refine gA (mkF m_ 9 #[.val (.ref u), .val (.ref v), .val (.ref u), .unset, .unset, .unset, .unset, .unset, .unset, .unset, .unset, .unset, .unset] [(.ref a1)]) <| g_astoreN #[.val (.ref u), .val (.ref v), .val (.ref u), .val (.ref a1), .unset, .unset, .unset, .unset, .unset, .unset, .unset, .unset, .unset] C eBG_9 rfl rfl ?_
  refine Go.take f18 (by decide) (by decide) (lT hX.1 (lT K8.1 g13)) (by rw [hs0]; exact (lT K8.1 g13)) ?_
  have gr_ := lT (Nat.le_refl _) (Nat.le_of_eq e3.symm)
  have gd_ := lT K8.1 g13
  have nn25 : u ≠ a1 := (Nat.ne_of_lt (lL E.lt (Nat.le_of_eq e3.symm)))
  have nn26 : u ≠ d12 := (Nat.ne_of_lt (lL (lL E.lt K8.1) g13))
  have nn27 : v ≠ a1 := (Nat.ne_of_lt (lL E'.lt (Nat.le_of_eq e3.symm)))
  have nn28 : v ≠ d12 := (Nat.ne_of_lt (lL (lL E'.lt K8.1) g13))
  have nn29 : bu ≠ a1 := (Nat.ne_of_lt (lL A.lt (Nat.le_of_eq e3.symm)))
  have nn30 : bu ≠ d12 := (Nat.ne_of_lt (lL (lL A.lt K8.1) g13))
  have nn31 : bv ≠ a1 := (Nat.ne_of_lt (lL B.lt (Nat.le_of_eq e3.symm)))
  have nn32 : bv ≠ d12 := (Nat.ne_of_lt (lL (lL B.lt K8.1) g13))
  have nn33 : a1 ≠ d12 := (Nat.ne_of_lt (lL l5 g13))
  refine Go.loopAt (α := {x : Int32 × Int32 × Addr × Int32 × Int32 × Int32 × Int32 // ¬ x.1 = 0}) (fun x => uN x.1.1 * 4294967296 + uN x.1.2.1) (fun x => mkF m_ 203 #[.val (.ref u), .val (.ref v), .val (.ref u), .val (.ref a1), .val (.int x.1.2.2.2.1), .val (.int 0), .val (.int 0), .val (.int x.1.2.2.2.2.1), .val (.ref x.1.2.2.1), .val (.int x.1.2.2.2.2.2.1), .val (.int x.1.2.2.2.2.2.2), .unset, .unset] []) (fun x hh => eM Z hh u ∧ fV Z hh u (.ref bu) ∧ fI Z hh u (.int 2) ∧ fO Z hh u (.int 0) ∧ Av Z hh bu .int [(.int x.1.1), (.int x.1.2.1)] ∧ eM Z hh v ∧ fV Z hh v (.ref bv) ∧ fI Z hh v (.int 1) ∧ fO Z hh v (.int 0) ∧ Av Z hh bv .int [(.int 1)] ∧ eM Z hh a1 ∧ fV Z hh a1 (.ref d12) ∧ fI Z hh a1 (.int 0) ∧ fO Z hh a1 (.int 0) ∧ Exa Z hh d12 "[I" ∧ Av Z hh d12 .int [(.int 0)]) (fun x hh LL hI ih => ?_) (fun LP => ?_)
  · obtain ⟨⟨p, q, t, k1, od, sgn, lb⟩, hp⟩ := x
    obtain ⟨f34, f35, f36, f37, f38, f39, f40, f41, f42, f43, f44, f45, f46, f47, f48, f49⟩ := hI
    simp only at hp
    refine gA (mkF m_ 203 #[.val (.ref u), .val (.ref v), .val (.ref u), .val (.ref a1), .val (.int k1), .val (.int 0), .val (.int 0), .val (.int od), .val (.ref t), .val (.int sgn), .val (.int lb), .unset, .unset] []) <| g_aloadN C eBG_203 rfl rfl <| g_aloadN C eBG_204 rfl rfl ?_
    by_cases cq50 : q = 0
    · subst cq50
      by_cases cp51 : p = 1
      · subst cp51
        refine g_invokeprivate [(.ref v)] [] 0 C eBG_205 (hW hw 251 rfl) (hW hw 252 rfl) (hW hw 254 rfl) (hW hw 253 rfl) (hW hw 43 rfl) (hW hw 255 rfl) (by decide) f34 (m_diffC l Z a0 hw _ _ _ _  _ f34 f35 f36 f37 f38 f39 f40 f41 f42 f43 nuv nbu nbv ndu ndb ) (lenOf pd5 rfl) rfl rfl (bL rfl) (by decide) (by decide) (by decide) (by decide) (allS (mm 2 rfl) (allS (mm 4 rfl) all0)) (fun v57 h58 L59 q60 K61 => ?_)
        obtain ⟨rfl, f52, f53, f54, f55, f56⟩ := q60
        refine gA (mkF m_ 208 #[.val (.ref u), .val (.ref v), .val (.ref u), .val (.ref a1), .val (.int k1), .val (.int 0), .val (.int 0), .val (.int od), .val (.ref t), .val (.int sgn), .val (.int lb), .unset, .unset] [(.int 1)]) <| g_dup C eBG_208 rfl <| g_istore #[.val (.ref u), .val (.ref v), .val (.ref u), .val (.ref a1), .val (.int k1), .val (.int 0), .val (.int 0), .val (.int od), .val (.ref t), .val (.int 1), .val (.int lb), .unset, .unset] C eBG_209 rfl <| g_ifT 217 C eBG_211 (show ¬ (1 : Int32) = (0 : Int32) by decide) (by decide) (by decide) <| g_iload C eBG_217 rfl <| g_ifF C eBG_219 (show ¬ (1 : Int32) < (0 : Int32) by decide) <| g_aloadN C eBG_222 rfl rfl <| g_goto 227 C eBG_223 (by decide) (by decide) <| g_astore #[.val (.ref u), .val (.ref v), .val (.ref u), .val (.ref a1), .val (.int k1), .val (.int 0), .val (.int 0), .val (.int od), .val (.ref u), .val (.int 1), .val (.int lb), .unset, .unset] C eBG_227 rfl rfl <| g_goto 93 C eBG_229 (by decide) (by decide) <| g_aload C eBG_93 rfl rfl ?_
        refine g_invokeprivate [] [] 0 C eBG_95 (hW hw 89 rfl) (hW hw 90 rfl) (hW hw 92 rfl) (hW hw 91 rfl) (hW hw 43 rfl) (hW hw 93 rfl) (by decide) f52 (m_glC l Z a0 hw _ _ _ f52 f53 f54 f55 f56) (lenOf pd6 rfl) rfl rfl (bL rfl) (by decide) (by decide) (by decide) (by decide) all0 (fun v62 h63 L64 q65 K66 => ?_)
        obtain rfl := q65
        refine gA (mkF m_ 98 #[.val (.ref u), .val (.ref v), .val (.ref u), .val (.ref a1), .val (.int k1), .val (.int 0), .val (.int 0), .val (.int od), .val (.ref u), .val (.int 1), .val (.int lb), .unset, .unset] [(.int 0)]) <| g_dup C eBG_98 rfl <| g_istore #[.val (.ref u), .val (.ref v), .val (.ref u), .val (.ref a1), .val (.int k1), .val (.int 0), .val (.int 0), .val (.int od), .val (.ref u), .val (.int 1), .val (.int 0), .unset, .unset] C eBG_99 rfl <| g_ifF C eBG_101 (show ¬ (0 : Int32) < (0 : Int32) by decide) <| g_aload C eBG_104 rfl rfl <| g_iload C eBG_106 rfl ?_
        have f71 := (f52.keep K66)
        have f72 := (f53.keep K66 nin0)
        have f73 := (f54.keep K66 nin0)
        have f74 := (f55.keep K66 nin0)
        refine g_invokevirtual [(.int 0)] [] 0 C eBG_108 (hW hw 98 rfl) (hW hw 99 rfl) (hW hw 101 rfl) (hW hw 100 rfl) (hW hw 43 rfl) (hW hw 102 rfl) (fun _ hZ => notFace_of_selects (args := #[]) (mvT hZ (hW hw 101 rfl))) (by decide) f71 (m_rs01 l Z a0 hw _ _ (1 : Int32) _ f71 f72 f73 f74) (lenOf pd4 rfl) rfl rfl (bL rfl) (by decide) (by decide) (by decide) (by decide) (allS (mm 2 rfl) all0) (fun v75 h76 L77 q78 K79 => ?_)
        obtain ⟨rfl, f67, f68, f69, f70⟩ := q78
        refine gA (mkF m_ 111 #[.val (.ref u), .val (.ref v), .val (.ref u), .val (.ref a1), .val (.int k1), .val (.int 0), .val (.int 0), .val (.int od), .val (.ref u), .val (.int 1), .val (.int 0), .unset, .unset] []) <| g_iload C eBG_111 rfl <| g_ifF C eBG_113 (show (0 : Int32) < (1 : Int32) by decide) <| g_aload C eBG_116 rfl rfl <| g_astoreN #[.val (.ref u), .val (.ref v), .val (.ref u), .val (.ref a1), .val (.int k1), .val (.int 0), .val (.int 0), .val (.int od), .val (.ref u), .val (.int 1), .val (.int 0), .unset, .unset] C eBG_118 rfl rfl <| g_goto 125 C eBG_119 (by decide) (by decide) <| g_aloadN C eBG_125 rfl rfl <| gF C eBG_126 (hW hw 53 rfl) f69 <| g_iconst 2 C eBG_129 (by decide) <| g_icmpF C eBG_130 (show (1 : Int32) < (2 : Int32) by decide) <| g_aloadN C eBG_133 rfl rfl ?_
        have f80 := (((f41.keep K61 (ninS (Ne.symm nuv) (ninS (Ne.symm nbv) nin0))).keep K66 nin0).keep K79 (ninS (Ne.symm nuv) nin0))
        refine gF C eBG_134 (hW hw 53 rfl) f80 <| g_iconst 2 C eBG_137 (by decide) <| g_icmpF C eBG_138 (show (1 : Int32) < (2 : Int32) by decide) <| g_aloadN C eBG_141 rfl rfl <| gF C eBG_142 (hW hw 68 rfl) f68 <| g_aloadN C eBG_145 rfl rfl <| gF C eBG_146 (hW hw 49 rfl) f70 ?_
        have f81 := ((f56.keep K66 nin0).keep K79 (ninS nbu nin0))
        refine g_iaload 1 C eBG_149 f81 (by decide) (by decide) rfl <| g_istore #[.val (.ref u), .val (.ref v), .val (.ref u), .val (.ref a1), .val (.int k1), .val (.int 0), .val (.int 0), .val (.int od), .val (.ref u), .val (.int 1), .val (.int 0), .val (.int (-1)), .unset] C eBG_150 rfl <| g_aloadN C eBG_152 rfl rfl ?_
        have f82 := (((f40.keep K61 (ninS (Ne.symm nuv) (ninS (Ne.symm nbv) nin0))).keep K66 nin0).keep K79 (ninS (Ne.symm nuv) nin0))
        refine gF C eBG_153 (hW hw 68 rfl) f82 <| g_aloadN C eBG_156 rfl rfl ?_
        have f83 := (((f42.keep K61 (ninS (Ne.symm nuv) (ninS (Ne.symm nbv) nin0))).keep K66 nin0).keep K79 (ninS (Ne.symm nuv) nin0))
        refine gF C eBG_157 (hW hw 49 rfl) f83 ?_
        have f84 := (((f43.keep K61 (ninS ndu (ninS ndb nin0))).keep K66 nin0).keep K79 (ninS ndu nin0))
        refine g_iaload 0 C eBG_160 f84 (by decide) (by decide) rfl <| g_istore #[.val (.ref u), .val (.ref v), .val (.ref u), .val (.ref a1), .val (.int k1), .val (.int 0), .val (.int 0), .val (.int od), .val (.ref u), .val (.int 1), .val (.int 0), .val (.int (-1)), .val (.int 1)] C eBG_161 rfl <| g_iload C eBG_163 rfl <| g_iload C eBG_165 rfl ?_
        refine g_invokestatic [(.int (-1)), (.int 1)] [] 0 C eBG_167 (hW hw 103 rfl) (hW hw 104 rfl) (hW hw 43 rfl) (hW hw 105 rfl) (by decide) (m_bgcd1 l Z a0 hw (-1 : Int32) _) (lenOf pd7 rfl) rfl rfl (bL rfl) (by decide) (by decide) (by decide) (by decide) all0 (fun v85 h86 L87 q88 K89 => ?_)
        obtain rfl := q88
        refine gA (mkF m_ 170 #[.val (.ref u), .val (.ref v), .val (.ref u), .val (.ref a1), .val (.int k1), .val (.int 0), .val (.int 0), .val (.int od), .val (.ref u), .val (.int 1), .val (.int 0), .val (.int (-1)), .val (.int 1)] [(.int 1)]) <| g_istore #[.val (.ref u), .val (.ref v), .val (.ref u), .val (.ref a1), .val (.int k1), .val (.int 0), .val (.int 0), .val (.int od), .val (.ref u), .val (.int 1), .val (.int 0), .val (.int 1), .val (.int 1)] C eBG_170 rfl <| g_aloadN C eBG_172 rfl rfl ?_
        have f90 := ((((f45.keep K61 (ninS (Ne.symm nn25) (ninS (Ne.symm nn29) nin0))).keep K66 nin0).keep K79 (ninS (Ne.symm nn25) nin0)).keep K89 nin0)
        refine gF C eBG_173 (hW hw 68 rfl) f90 <| g_iconst 0 C eBG_176 (by decide) <| g_iload C eBG_177 rfl ?_
        have f91 := ((((f49.keep K61 (ninS (Ne.symm nn26) (ninS (Ne.symm nn30) nin0))).keep K66 nin0).keep K79 (ninS (Ne.symm nn26) nin0)).keep K89 nin0)
        refine g_iastore 0 C eBG_179 f91 (by decide) (by decide) (bL rfl) (mm 0 rfl) (fun h92 K93 z94 f95 => ?_)
        have f96 : Av Z h92 d12 .int [(.int 1)] := f95
        refine g_aloadN C eBG_180 rfl rfl <| g_iconst 1 C eBG_181 (by decide) ?_
        have f97 := (((((f46.keep K61 (ninS (Ne.symm nn25) (ninS (Ne.symm nn29) nin0))).keep K66 nin0).keep K79 (ninS (Ne.symm nn25) nin0)).keep K89 nin0).keep K93 (ninS nn33 nin0))
        have f98 := (((((f44.keep K61).keep K66).keep K79).keep K89).keep K93)
        have f99 := (f90.keep K93 (ninS nn33 nin0))
        have f100 := (((((f47.keep K61 (ninS (Ne.symm nn25) (ninS (Ne.symm nn29) nin0))).keep K66 nin0).keep K79 (ninS (Ne.symm nn25) nin0)).keep K89 nin0).keep K93 (ninS nn33 nin0))
        refine g_putfield (host := "") C eBG_182 (Or.inl (hW hw 53 rfl)) Via.refl f97 f98 (Or.inl (hW hw 54 rfl)) (hW hw 42 rfl) (ty := .int) (by decide) rfl rfl (mm 1 rfl) (fun h101 W102 K103 => ?_)
        have f104 := Fld.same W102 f97
        have f105 := Fld.other W102 f99 (Or.inr (s69_54 hw))
        have f106 := Fld.other W102 f100 (Or.inr (s50_54 hw))
        refine g_aloadN C eBG_185 rfl rfl <| g_iconst 0 C eBG_186 (by decide) ?_
        have f107 := (f98.keep K103)
        refine g_putfield (host := "") C eBG_187 (Or.inl (hW hw 49 rfl)) Via.refl f106 f107 (Or.inl (hW hw 50 rfl)) (hW hw 42 rfl) (ty := .int) (by decide) rfl rfl (mm 1 rfl) (fun h108 W109 K110 => ?_)
        have f111 := Fld.same W109 f106
        have f112 := Fld.other W109 f105 (Or.inr (s69_50 hw))
        have f113 := Fld.other W109 f104 (Or.inr (s54_50 hw))
        refine g_iload C eBG_190 rfl <| g_ifT 201 C eBG_192 (show ¬ (0 : Int32) < (0 : Int32) by decide) (by decide) (by decide) <| g_aloadN C eBG_201 rfl rfl ?_
        have f114 := (f107.keep K110)
        have f115 := (((((((f48.keep K61).keep K66).keep K79).keep K89).keep K93).keep K103).keep K110)
        have f116 := ((f96.keep K103 (ninS (Ne.symm nn33) nin0)).keep K110 (ninS (Ne.symm nn33) nin0))
        exact g_retA C eBG_202 rfl rfl ⟨a1, d12, rfl, gr_, gd_, f114, f112, f113, f111, f115, f116⟩ (by decide) (by decide)
      · refine g_invokeprivate [(.ref v)] [] 0 C eBG_205 (hW hw 251 rfl) (hW hw 252 rfl) (hW hw 254 rfl) (hW hw 253 rfl) (hW hw 43 rfl) (hW hw 255 rfl) (by decide) f34 (m_diffB l Z a0 hw _ _ _ _ p _ f34 f35 f36 f37 f38 f39 f40 f41 f42 f43 nuv nbu nbv ndu ndb hp (own_sub1 hp cp51)) (lenOf pd5 rfl) rfl rfl (bL rfl) (by decide) (by decide) (by decide) (by decide) (allS (mm 2 rfl) (allS (mm 4 rfl) all0)) (fun v122 h123 L124 q125 K126 => ?_)
        obtain ⟨rfl, f117, f118, f119, f120, f121⟩ := q125
        refine gA (mkF m_ 208 #[.val (.ref u), .val (.ref v), .val (.ref u), .val (.ref a1), .val (.int k1), .val (.int 0), .val (.int 0), .val (.int od), .val (.ref t), .val (.int sgn), .val (.int lb), .unset, .unset] [(.int 1)]) <| g_dup C eBG_208 rfl <| g_istore #[.val (.ref u), .val (.ref v), .val (.ref u), .val (.ref a1), .val (.int k1), .val (.int 0), .val (.int 0), .val (.int od), .val (.ref t), .val (.int 1), .val (.int lb), .unset, .unset] C eBG_209 rfl <| g_ifT 217 C eBG_211 (show ¬ (1 : Int32) = (0 : Int32) by decide) (by decide) (by decide) <| g_iload C eBG_217 rfl <| g_ifF C eBG_219 (show ¬ (1 : Int32) < (0 : Int32) by decide) <| g_aloadN C eBG_222 rfl rfl <| g_goto 227 C eBG_223 (by decide) (by decide) <| g_astore #[.val (.ref u), .val (.ref v), .val (.ref u), .val (.ref a1), .val (.int k1), .val (.int 0), .val (.int 0), .val (.int od), .val (.ref u), .val (.int 1), .val (.int lb), .unset, .unset] C eBG_227 rfl rfl <| g_goto 93 C eBG_229 (by decide) (by decide) <| g_aload C eBG_93 rfl rfl ?_
        refine g_invokeprivate [] [] 0 C eBG_95 (hW hw 89 rfl) (hW hw 90 rfl) (hW hw 92 rfl) (hW hw 91 rfl) (hW hw 43 rfl) (hW hw 93 rfl) (by decide) f117 (m_gl2 l Z a0 hw _ _ (p - 1) (-1 : Int32) _ f117 f118 f119 f120 f121 (own_sub1 hp cp51)) (lenOf pd6 rfl) rfl rfl (bL rfl) (by decide) (by decide) (by decide) (by decide) all0 (fun v130 h131 L132 q133 K134 => ?_)
        obtain ⟨k127, rfl, q128, q129⟩ := q133
        refine gA (mkF m_ 98 #[.val (.ref u), .val (.ref v), .val (.ref u), .val (.ref a1), .val (.int k1), .val (.int 0), .val (.int 0), .val (.int od), .val (.ref u), .val (.int 1), .val (.int lb), .unset, .unset] [(.int k127)]) <| g_dup C eBG_98 rfl <| g_istore #[.val (.ref u), .val (.ref v), .val (.ref u), .val (.ref a1), .val (.int k1), .val (.int 0), .val (.int 0), .val (.int od), .val (.ref u), .val (.int 1), .val (.int k127), .unset, .unset] C eBG_99 rfl <| g_ifF C eBG_101 (show ¬ k127 < (0 : Int32) from q128) <| g_aload C eBG_104 rfl rfl <| g_iload C eBG_106 rfl ?_
        have f144 := (f117.keep K134)
        have f145 := (f118.keep K134 nin0)
        have f146 := (f119.keep K134 nin0)
        have f147 := (f120.keep K134 nin0)
        have f148 := (f121.keep K134 nin0)
        refine g_invokevirtual [(.int k127)] [] 0 C eBG_108 (hW hw 98 rfl) (hW hw 99 rfl) (hW hw 101 rfl) (hW hw 100 rfl) (hW hw 43 rfl) (hW hw 102 rfl) (fun _ hZ => notFace_of_selects (args := #[]) (mvT hZ (hW hw 101 rfl))) (by decide) f144 (m_rs2 l Z a0 hw _ _ k127 (p - 1) (-1 : Int32) _ f144 f145 f146 f147 f148 nbu (own_sub1 hp cp51) q129) (lenOf pd4 rfl) rfl rfl (bL rfl) (by decide) (by decide) (by decide) (by decide) (allS (mm 2 rfl) (allS (mm 4 rfl) all0)) (fun v149 h150 L151 q152 K153 => ?_)
        obtain ⟨rfl, y135, y136, z143, f137, f138, f139, f140, f141, q142⟩ := q152
        rcases q142 with rfl | rfl | ⟨rfl, q154, q155⟩
        · refine gA (mkF m_ 111 #[.val (.ref u), .val (.ref v), .val (.ref u), .val (.ref a1), .val (.int k1), .val (.int 0), .val (.int 0), .val (.int od), .val (.ref u), .val (.int 1), .val (.int k127), .unset, .unset] []) ?_
          refine g_iload C eBG_111 rfl <| g_ifF C eBG_113 (show (0 : Int32) < (1 : Int32) by decide) <| g_aload C eBG_116 rfl rfl <| g_astoreN #[.val (.ref u), .val (.ref v), .val (.ref u), .val (.ref a1), .val (.int k1), .val (.int 0), .val (.int 0), .val (.int od), .val (.ref u), .val (.int 1), .val (.int k127), .unset, .unset] C eBG_118 rfl rfl <| g_goto 125 C eBG_119 (by decide) (by decide) <| g_aloadN C eBG_125 rfl rfl <| gF C eBG_126 (hW hw 53 rfl) f139 <| g_iconst 2 C eBG_129 (by decide) <| g_icmpF C eBG_130 (show (0 : Int32) < (2 : Int32) by decide) <| g_aloadN C eBG_133 rfl rfl ?_
          have f156 := (((f41.keep K126 (ninS (Ne.symm nuv) (ninS (Ne.symm nbv) nin0))).keep K134 nin0).keep K153 (ninS (Ne.symm nuv) (ninS (Ne.symm nbv) nin0)))
          refine gF C eBG_134 (hW hw 53 rfl) f156 <| g_iconst 2 C eBG_137 (by decide) <| g_icmpF C eBG_138 (show (1 : Int32) < (2 : Int32) by decide) <| g_aloadN C eBG_141 rfl rfl <| gF C eBG_142 (hW hw 68 rfl) f138 <| g_aloadN C eBG_145 rfl rfl <| gF C eBG_146 (hW hw 49 rfl) f140 <| g_iaload 0 C eBG_149 f141 (by decide) (by decide) rfl <| g_istore #[.val (.ref u), .val (.ref v), .val (.ref u), .val (.ref a1), .val (.int k1), .val (.int 0), .val (.int 0), .val (.int od), .val (.ref u), .val (.int 1), .val (.int k127), .val (.int y135), .unset] C eBG_150 rfl <| g_aloadN C eBG_152 rfl rfl ?_
          have f157 := (((f40.keep K126 (ninS (Ne.symm nuv) (ninS (Ne.symm nbv) nin0))).keep K134 nin0).keep K153 (ninS (Ne.symm nuv) (ninS (Ne.symm nbv) nin0)))
          refine gF C eBG_153 (hW hw 68 rfl) f157 <| g_aloadN C eBG_156 rfl rfl ?_
          have f158 := (((f42.keep K126 (ninS (Ne.symm nuv) (ninS (Ne.symm nbv) nin0))).keep K134 nin0).keep K153 (ninS (Ne.symm nuv) (ninS (Ne.symm nbv) nin0)))
          refine gF C eBG_157 (hW hw 49 rfl) f158 ?_
          have f159 := (((f43.keep K126 (ninS ndu (ninS ndb nin0))).keep K134 nin0).keep K153 (ninS ndu (ninS ndb nin0)))
          refine g_iaload 0 C eBG_160 f159 (by decide) (by decide) rfl <| g_istore #[.val (.ref u), .val (.ref v), .val (.ref u), .val (.ref a1), .val (.int k1), .val (.int 0), .val (.int 0), .val (.int od), .val (.ref u), .val (.int 1), .val (.int k127), .val (.int y135), .val (.int 1)] C eBG_161 rfl <| g_iload C eBG_163 rfl <| g_iload C eBG_165 rfl ?_
          refine g_invokestatic [(.int y135), (.int 1)] [] 0 C eBG_167 (hW hw 103 rfl) (hW hw 104 rfl) (hW hw 43 rfl) (hW hw 105 rfl) (by decide) (m_bgcd1 l Z a0 hw y135 _) (lenOf pd7 rfl) rfl rfl (bL rfl) (by decide) (by decide) (by decide) (by decide) all0 (fun v160 h161 L162 q163 K164 => ?_)
          obtain rfl := q163
          refine gA (mkF m_ 170 #[.val (.ref u), .val (.ref v), .val (.ref u), .val (.ref a1), .val (.int k1), .val (.int 0), .val (.int 0), .val (.int od), .val (.ref u), .val (.int 1), .val (.int k127), .val (.int y135), .val (.int 1)] [(.int 1)]) <| g_istore #[.val (.ref u), .val (.ref v), .val (.ref u), .val (.ref a1), .val (.int k1), .val (.int 0), .val (.int 0), .val (.int od), .val (.ref u), .val (.int 1), .val (.int k127), .val (.int 1), .val (.int 1)] C eBG_170 rfl <| g_aloadN C eBG_172 rfl rfl ?_
          have f165 := ((((f45.keep K126 (ninS (Ne.symm nn25) (ninS (Ne.symm nn29) nin0))).keep K134 nin0).keep K153 (ninS (Ne.symm nn25) (ninS (Ne.symm nn29) nin0))).keep K164 nin0)
          refine gF C eBG_173 (hW hw 68 rfl) f165 <| g_iconst 0 C eBG_176 (by decide) <| g_iload C eBG_177 rfl ?_
          have f166 := ((((f49.keep K126 (ninS (Ne.symm nn26) (ninS (Ne.symm nn30) nin0))).keep K134 nin0).keep K153 (ninS (Ne.symm nn26) (ninS (Ne.symm nn30) nin0))).keep K164 nin0)
          refine g_iastore 0 C eBG_179 f166 (by decide) (by decide) (bL rfl) (mm 0 rfl) (fun h167 K168 z169 f170 => ?_)
          have f171 : Av Z h167 d12 .int [(.int 1)] := f170
          refine g_aloadN C eBG_180 rfl rfl <| g_iconst 1 C eBG_181 (by decide) ?_
          have f172 := (((((f46.keep K126 (ninS (Ne.symm nn25) (ninS (Ne.symm nn29) nin0))).keep K134 nin0).keep K153 (ninS (Ne.symm nn25) (ninS (Ne.symm nn29) nin0))).keep K164 nin0).keep K168 (ninS nn33 nin0))
          have f173 := (((((f44.keep K126).keep K134).keep K153).keep K164).keep K168)
          have f174 := (f165.keep K168 (ninS nn33 nin0))
          have f175 := (((((f47.keep K126 (ninS (Ne.symm nn25) (ninS (Ne.symm nn29) nin0))).keep K134 nin0).keep K153 (ninS (Ne.symm nn25) (ninS (Ne.symm nn29) nin0))).keep K164 nin0).keep K168 (ninS nn33 nin0))
          refine g_putfield (host := "") C eBG_182 (Or.inl (hW hw 53 rfl)) Via.refl f172 f173 (Or.inl (hW hw 54 rfl)) (hW hw 42 rfl) (ty := .int) (by decide) rfl rfl (mm 1 rfl) (fun h176 W177 K178 => ?_)
          have f179 := Fld.same W177 f172
          have f180 := Fld.other W177 f174 (Or.inr (s69_54 hw))
          have f181 := Fld.other W177 f175 (Or.inr (s50_54 hw))
          refine g_aloadN C eBG_185 rfl rfl <| g_iconst 0 C eBG_186 (by decide) ?_
          have f182 := (f173.keep K178)
          refine g_putfield (host := "") C eBG_187 (Or.inl (hW hw 49 rfl)) Via.refl f181 f182 (Or.inl (hW hw 50 rfl)) (hW hw 42 rfl) (ty := .int) (by decide) rfl rfl (mm 1 rfl) (fun h183 W184 K185 => ?_)
          have f186 := Fld.same W184 f181
          have f187 := Fld.other W184 f180 (Or.inr (s69_50 hw))
          have f188 := Fld.other W184 f179 (Or.inr (s54_50 hw))
          refine g_iload C eBG_190 rfl <| g_ifT 201 C eBG_192 (show ¬ (0 : Int32) < (0 : Int32) by decide) (by decide) (by decide) <| g_aloadN C eBG_201 rfl rfl ?_
          have f189 := (f182.keep K185)
          have f190 := (((((((f48.keep K126).keep K134).keep K153).keep K164).keep K168).keep K178).keep K185)
          have f191 := ((f171.keep K178 (ninS (Ne.symm nn33) nin0)).keep K185 (ninS (Ne.symm nn33) nin0))
          exact g_retA C eBG_202 rfl rfl ⟨a1, d12, rfl, gr_, gd_, f189, f187, f188, f186, f190, f191⟩ (by decide) (by decide)
        · refine gA (mkF m_ 111 #[.val (.ref u), .val (.ref v), .val (.ref u), .val (.ref a1), .val (.int k1), .val (.int 0), .val (.int 0), .val (.int od), .val (.ref u), .val (.int 1), .val (.int k127), .unset, .unset] []) ?_
          refine g_iload C eBG_111 rfl <| g_ifF C eBG_113 (show (0 : Int32) < (1 : Int32) by decide) <| g_aload C eBG_116 rfl rfl <| g_astoreN #[.val (.ref u), .val (.ref v), .val (.ref u), .val (.ref a1), .val (.int k1), .val (.int 0), .val (.int 0), .val (.int od), .val (.ref u), .val (.int 1), .val (.int k127), .unset, .unset] C eBG_118 rfl rfl <| g_goto 125 C eBG_119 (by decide) (by decide) <| g_aloadN C eBG_125 rfl rfl <| gF C eBG_126 (hW hw 53 rfl) f139 <| g_iconst 2 C eBG_129 (by decide) <| g_icmpF C eBG_130 (show (1 : Int32) < (2 : Int32) by decide) <| g_aloadN C eBG_133 rfl rfl ?_
          have f192 := (((f41.keep K126 (ninS (Ne.symm nuv) (ninS (Ne.symm nbv) nin0))).keep K134 nin0).keep K153 (ninS (Ne.symm nuv) (ninS (Ne.symm nbv) nin0)))
          refine gF C eBG_134 (hW hw 53 rfl) f192 <| g_iconst 2 C eBG_137 (by decide) <| g_icmpF C eBG_138 (show (1 : Int32) < (2 : Int32) by decide) <| g_aloadN C eBG_141 rfl rfl <| gF C eBG_142 (hW hw 68 rfl) f138 <| g_aloadN C eBG_145 rfl rfl <| gF C eBG_146 (hW hw 49 rfl) f140 <| g_iaload 0 C eBG_149 f141 (by decide) (by decide) rfl <| g_istore #[.val (.ref u), .val (.ref v), .val (.ref u), .val (.ref a1), .val (.int k1), .val (.int 0), .val (.int 0), .val (.int od), .val (.ref u), .val (.int 1), .val (.int k127), .val (.int y135), .unset] C eBG_150 rfl <| g_aloadN C eBG_152 rfl rfl ?_
          have f193 := (((f40.keep K126 (ninS (Ne.symm nuv) (ninS (Ne.symm nbv) nin0))).keep K134 nin0).keep K153 (ninS (Ne.symm nuv) (ninS (Ne.symm nbv) nin0)))
          refine gF C eBG_153 (hW hw 68 rfl) f193 <| g_aloadN C eBG_156 rfl rfl ?_
          have f194 := (((f42.keep K126 (ninS (Ne.symm nuv) (ninS (Ne.symm nbv) nin0))).keep K134 nin0).keep K153 (ninS (Ne.symm nuv) (ninS (Ne.symm nbv) nin0)))
          refine gF C eBG_157 (hW hw 49 rfl) f194 ?_
          have f195 := (((f43.keep K126 (ninS ndu (ninS ndb nin0))).keep K134 nin0).keep K153 (ninS ndu (ninS ndb nin0)))
          refine g_iaload 0 C eBG_160 f195 (by decide) (by decide) rfl <| g_istore #[.val (.ref u), .val (.ref v), .val (.ref u), .val (.ref a1), .val (.int k1), .val (.int 0), .val (.int 0), .val (.int od), .val (.ref u), .val (.int 1), .val (.int k127), .val (.int y135), .val (.int 1)] C eBG_161 rfl <| g_iload C eBG_163 rfl <| g_iload C eBG_165 rfl ?_
          refine g_invokestatic [(.int y135), (.int 1)] [] 0 C eBG_167 (hW hw 103 rfl) (hW hw 104 rfl) (hW hw 43 rfl) (hW hw 105 rfl) (by decide) (m_bgcd1 l Z a0 hw y135 _) (lenOf pd7 rfl) rfl rfl (bL rfl) (by decide) (by decide) (by decide) (by decide) all0 (fun v196 h197 L198 q199 K200 => ?_)
          obtain rfl := q199
          refine gA (mkF m_ 170 #[.val (.ref u), .val (.ref v), .val (.ref u), .val (.ref a1), .val (.int k1), .val (.int 0), .val (.int 0), .val (.int od), .val (.ref u), .val (.int 1), .val (.int k127), .val (.int y135), .val (.int 1)] [(.int 1)]) <| g_istore #[.val (.ref u), .val (.ref v), .val (.ref u), .val (.ref a1), .val (.int k1), .val (.int 0), .val (.int 0), .val (.int od), .val (.ref u), .val (.int 1), .val (.int k127), .val (.int 1), .val (.int 1)] C eBG_170 rfl <| g_aloadN C eBG_172 rfl rfl ?_
          have f201 := ((((f45.keep K126 (ninS (Ne.symm nn25) (ninS (Ne.symm nn29) nin0))).keep K134 nin0).keep K153 (ninS (Ne.symm nn25) (ninS (Ne.symm nn29) nin0))).keep K200 nin0)
          refine gF C eBG_173 (hW hw 68 rfl) f201 <| g_iconst 0 C eBG_176 (by decide) <| g_iload C eBG_177 rfl ?_
          have f202 := ((((f49.keep K126 (ninS (Ne.symm nn26) (ninS (Ne.symm nn30) nin0))).keep K134 nin0).keep K153 (ninS (Ne.symm nn26) (ninS (Ne.symm nn30) nin0))).keep K200 nin0)
          refine g_iastore 0 C eBG_179 f202 (by decide) (by decide) (bL rfl) (mm 0 rfl) (fun h203 K204 z205 f206 => ?_)
          have f207 : Av Z h203 d12 .int [(.int 1)] := f206
          refine g_aloadN C eBG_180 rfl rfl <| g_iconst 1 C eBG_181 (by decide) ?_
          have f208 := (((((f46.keep K126 (ninS (Ne.symm nn25) (ninS (Ne.symm nn29) nin0))).keep K134 nin0).keep K153 (ninS (Ne.symm nn25) (ninS (Ne.symm nn29) nin0))).keep K200 nin0).keep K204 (ninS nn33 nin0))
          have f209 := (((((f44.keep K126).keep K134).keep K153).keep K200).keep K204)
          have f210 := (f201.keep K204 (ninS nn33 nin0))
          have f211 := (((((f47.keep K126 (ninS (Ne.symm nn25) (ninS (Ne.symm nn29) nin0))).keep K134 nin0).keep K153 (ninS (Ne.symm nn25) (ninS (Ne.symm nn29) nin0))).keep K200 nin0).keep K204 (ninS nn33 nin0))
          refine g_putfield (host := "") C eBG_182 (Or.inl (hW hw 53 rfl)) Via.refl f208 f209 (Or.inl (hW hw 54 rfl)) (hW hw 42 rfl) (ty := .int) (by decide) rfl rfl (mm 1 rfl) (fun h212 W213 K214 => ?_)
          have f215 := Fld.same W213 f208
          have f216 := Fld.other W213 f210 (Or.inr (s69_54 hw))
          have f217 := Fld.other W213 f211 (Or.inr (s50_54 hw))
          refine g_aloadN C eBG_185 rfl rfl <| g_iconst 0 C eBG_186 (by decide) ?_
          have f218 := (f209.keep K214)
          refine g_putfield (host := "") C eBG_187 (Or.inl (hW hw 49 rfl)) Via.refl f217 f218 (Or.inl (hW hw 50 rfl)) (hW hw 42 rfl) (ty := .int) (by decide) rfl rfl (mm 1 rfl) (fun h219 W220 K221 => ?_)
          have f222 := Fld.same W220 f217
          have f223 := Fld.other W220 f216 (Or.inr (s69_50 hw))
          have f224 := Fld.other W220 f215 (Or.inr (s54_50 hw))
          refine g_iload C eBG_190 rfl <| g_ifT 201 C eBG_192 (show ¬ (0 : Int32) < (0 : Int32) by decide) (by decide) (by decide) <| g_aloadN C eBG_201 rfl rfl ?_
          have f225 := (f218.keep K221)
          have f226 := (((((((f48.keep K126).keep K134).keep K153).keep K200).keep K204).keep K214).keep K221)
          have f227 := ((f207.keep K214 (ninS (Ne.symm nn33) nin0)).keep K221 (ninS (Ne.symm nn33) nin0))
          exact g_retA C eBG_202 rfl rfl ⟨a1, d12, rfl, gr_, gd_, f225, f223, f224, f222, f226, f227⟩ (by decide) (by decide)
        · refine gA (mkF m_ 111 #[.val (.ref u), .val (.ref v), .val (.ref u), .val (.ref a1), .val (.int k1), .val (.int 0), .val (.int 0), .val (.int od), .val (.ref u), .val (.int 1), .val (.int k127), .unset, .unset] []) ?_
          refine g_iload C eBG_111 rfl <| g_ifF C eBG_113 (show (0 : Int32) < (1 : Int32) by decide) <| g_aload C eBG_116 rfl rfl <| g_astoreN #[.val (.ref u), .val (.ref v), .val (.ref u), .val (.ref a1), .val (.int k1), .val (.int 0), .val (.int 0), .val (.int od), .val (.ref u), .val (.int 1), .val (.int k127), .unset, .unset] C eBG_118 rfl rfl <| g_goto 125 C eBG_119 (by decide) (by decide) <| g_aloadN C eBG_125 rfl rfl <| gF C eBG_126 (hW hw 53 rfl) f139 <| g_iconst 2 C eBG_129 (by decide) <| g_icmpT 203 C eBG_130 (show ¬ (2 : Int32) < (2 : Int32) by decide) (by decide) (by decide) ?_
          have f228 := (((f39.keep K126).keep K134).keep K153)
          have f229 := (((f40.keep K126 (ninS (Ne.symm nuv) (ninS (Ne.symm nbv) nin0))).keep K134 nin0).keep K153 (ninS (Ne.symm nuv) (ninS (Ne.symm nbv) nin0)))
          have f230 := (((f41.keep K126 (ninS (Ne.symm nuv) (ninS (Ne.symm nbv) nin0))).keep K134 nin0).keep K153 (ninS (Ne.symm nuv) (ninS (Ne.symm nbv) nin0)))
          have f231 := (((f42.keep K126 (ninS (Ne.symm nuv) (ninS (Ne.symm nbv) nin0))).keep K134 nin0).keep K153 (ninS (Ne.symm nuv) (ninS (Ne.symm nbv) nin0)))
          have f232 := (((f43.keep K126 (ninS ndu (ninS ndb nin0))).keep K134 nin0).keep K153 (ninS ndu (ninS ndb nin0)))
          have f233 := (((f44.keep K126).keep K134).keep K153)
          have f234 := (((f45.keep K126 (ninS (Ne.symm nn25) (ninS (Ne.symm nn29) nin0))).keep K134 nin0).keep K153 (ninS (Ne.symm nn25) (ninS (Ne.symm nn29) nin0)))
          have f235 := (((f46.keep K126 (ninS (Ne.symm nn25) (ninS (Ne.symm nn29) nin0))).keep K134 nin0).keep K153 (ninS (Ne.symm nn25) (ninS (Ne.symm nn29) nin0)))
          have f236 := (((f47.keep K126 (ninS (Ne.symm nn25) (ninS (Ne.symm nn29) nin0))).keep K134 nin0).keep K153 (ninS (Ne.symm nn25) (ninS (Ne.symm nn29) nin0)))
          have f237 := (((f48.keep K126).keep K134).keep K153)
          have f238 := (((f49.keep K126 (ninS (Ne.symm nn26) (ninS (Ne.symm nn30) nin0))).keep K134 nin0).keep K153 (ninS (Ne.symm nn26) (ninS (Ne.symm nn30) nin0)))
          exact ih ⟨(y135, y136, u, k1, od, (1 : Int32), k127), q154⟩ _ _ (own_mB hp q155) ⟨f137, f138, f139, f140, f141, f228, f229, f230, f231, f232, f233, f234, f235, f236, f237, f238⟩
    · refine g_invokeprivate [(.ref v)] [] 0 C eBG_205 (hW hw 251 rfl) (hW hw 252 rfl) (hW hw 254 rfl) (hW hw 253 rfl) (hW hw 43 rfl) (hW hw 255 rfl) (by decide) f34 (m_diffA l Z a0 hw _ _ _ _ p q _ f34 f35 f36 f37 f38 f39 f40 f41 f42 f43 nuv nbu nbv ndu ndb hp cq50) (lenOf pd5 rfl) rfl rfl (bL rfl) (by decide) (by decide) (by decide) (by decide) (allS (mm 2 rfl) (allS (mm 4 rfl) all0)) (fun v244 h245 L246 q247 K248 => ?_)
      obtain ⟨rfl, f239, f240, f241, f242, f243⟩ := q247
      refine gA (mkF m_ 208 #[.val (.ref u), .val (.ref v), .val (.ref u), .val (.ref a1), .val (.int k1), .val (.int 0), .val (.int 0), .val (.int od), .val (.ref t), .val (.int sgn), .val (.int lb), .unset, .unset] [(.int 1)]) <| g_dup C eBG_208 rfl <| g_istore #[.val (.ref u), .val (.ref v), .val (.ref u), .val (.ref a1), .val (.int k1), .val (.int 0), .val (.int 0), .val (.int od), .val (.ref t), .val (.int 1), .val (.int lb), .unset, .unset] C eBG_209 rfl <| g_ifT 217 C eBG_211 (show ¬ (1 : Int32) = (0 : Int32) by decide) (by decide) (by decide) <| g_iload C eBG_217 rfl <| g_ifF C eBG_219 (show ¬ (1 : Int32) < (0 : Int32) by decide) <| g_aloadN C eBG_222 rfl rfl <| g_goto 227 C eBG_223 (by decide) (by decide) <| g_astore #[.val (.ref u), .val (.ref v), .val (.ref u), .val (.ref a1), .val (.int k1), .val (.int 0), .val (.int 0), .val (.int od), .val (.ref u), .val (.int 1), .val (.int lb), .unset, .unset] C eBG_227 rfl rfl <| g_goto 93 C eBG_229 (by decide) (by decide) <| g_aload C eBG_93 rfl rfl ?_
      refine g_invokeprivate [] [] 0 C eBG_95 (hW hw 89 rfl) (hW hw 90 rfl) (hW hw 92 rfl) (hW hw 91 rfl) (hW hw 43 rfl) (hW hw 93 rfl) (by decide) f239 (m_gl2 l Z a0 hw _ _ p (q - 1) _ f239 f240 f241 f242 f243 hp) (lenOf pd6 rfl) rfl rfl (bL rfl) (by decide) (by decide) (by decide) (by decide) all0 (fun v252 h253 L254 q255 K256 => ?_)
      obtain ⟨k249, rfl, q250, q251⟩ := q255
      refine gA (mkF m_ 98 #[.val (.ref u), .val (.ref v), .val (.ref u), .val (.ref a1), .val (.int k1), .val (.int 0), .val (.int 0), .val (.int od), .val (.ref u), .val (.int 1), .val (.int lb), .unset, .unset] [(.int k249)]) <| g_dup C eBG_98 rfl <| g_istore #[.val (.ref u), .val (.ref v), .val (.ref u), .val (.ref a1), .val (.int k1), .val (.int 0), .val (.int 0), .val (.int od), .val (.ref u), .val (.int 1), .val (.int k249), .unset, .unset] C eBG_99 rfl <| g_ifF C eBG_101 (show ¬ k249 < (0 : Int32) from q250) <| g_aload C eBG_104 rfl rfl <| g_iload C eBG_106 rfl ?_
      have f266 := (f239.keep K256)
      have f267 := (f240.keep K256 nin0)
      have f268 := (f241.keep K256 nin0)
      have f269 := (f242.keep K256 nin0)
      have f270 := (f243.keep K256 nin0)
      refine g_invokevirtual [(.int k249)] [] 0 C eBG_108 (hW hw 98 rfl) (hW hw 99 rfl) (hW hw 101 rfl) (hW hw 100 rfl) (hW hw 43 rfl) (hW hw 102 rfl) (fun _ hZ => notFace_of_selects (args := #[]) (mvT hZ (hW hw 101 rfl))) (by decide) f266 (m_rs2 l Z a0 hw _ _ k249 p (q - 1) _ f266 f267 f268 f269 f270 nbu hp q251) (lenOf pd4 rfl) rfl rfl (bL rfl) (by decide) (by decide) (by decide) (by decide) (allS (mm 2 rfl) (allS (mm 4 rfl) all0)) (fun v271 h272 L273 q274 K275 => ?_)
      obtain ⟨rfl, y257, y258, z265, f259, f260, f261, f262, f263, q264⟩ := q274
      rcases q264 with rfl | rfl | ⟨rfl, q276, q277⟩
      · refine gA (mkF m_ 111 #[.val (.ref u), .val (.ref v), .val (.ref u), .val (.ref a1), .val (.int k1), .val (.int 0), .val (.int 0), .val (.int od), .val (.ref u), .val (.int 1), .val (.int k249), .unset, .unset] []) ?_
        refine g_iload C eBG_111 rfl <| g_ifF C eBG_113 (show (0 : Int32) < (1 : Int32) by decide) <| g_aload C eBG_116 rfl rfl <| g_astoreN #[.val (.ref u), .val (.ref v), .val (.ref u), .val (.ref a1), .val (.int k1), .val (.int 0), .val (.int 0), .val (.int od), .val (.ref u), .val (.int 1), .val (.int k249), .unset, .unset] C eBG_118 rfl rfl <| g_goto 125 C eBG_119 (by decide) (by decide) <| g_aloadN C eBG_125 rfl rfl <| gF C eBG_126 (hW hw 53 rfl) f261 <| g_iconst 2 C eBG_129 (by decide) <| g_icmpF C eBG_130 (show (0 : Int32) < (2 : Int32) by decide) <| g_aloadN C eBG_133 rfl rfl ?_
        have f278 := (((f41.keep K248 (ninS (Ne.symm nuv) (ninS (Ne.symm nbv) nin0))).keep K256 nin0).keep K275 (ninS (Ne.symm nuv) (ninS (Ne.symm nbv) nin0)))
        refine gF C eBG_134 (hW hw 53 rfl) f278 <| g_iconst 2 C eBG_137 (by decide) <| g_icmpF C eBG_138 (show (1 : Int32) < (2 : Int32) by decide) <| g_aloadN C eBG_141 rfl rfl <| gF C eBG_142 (hW hw 68 rfl) f260 <| g_aloadN C eBG_145 rfl rfl <| gF C eBG_146 (hW hw 49 rfl) f262 <| g_iaload 0 C eBG_149 f263 (by decide) (by decide) rfl <| g_istore #[.val (.ref u), .val (.ref v), .val (.ref u), .val (.ref a1), .val (.int k1), .val (.int 0), .val (.int 0), .val (.int od), .val (.ref u), .val (.int 1), .val (.int k249), .val (.int y257), .unset] C eBG_150 rfl <| g_aloadN C eBG_152 rfl rfl ?_
        have f279 := (((f40.keep K248 (ninS (Ne.symm nuv) (ninS (Ne.symm nbv) nin0))).keep K256 nin0).keep K275 (ninS (Ne.symm nuv) (ninS (Ne.symm nbv) nin0)))
        refine gF C eBG_153 (hW hw 68 rfl) f279 <| g_aloadN C eBG_156 rfl rfl ?_
        have f280 := (((f42.keep K248 (ninS (Ne.symm nuv) (ninS (Ne.symm nbv) nin0))).keep K256 nin0).keep K275 (ninS (Ne.symm nuv) (ninS (Ne.symm nbv) nin0)))
        refine gF C eBG_157 (hW hw 49 rfl) f280 ?_
        have f281 := (((f43.keep K248 (ninS ndu (ninS ndb nin0))).keep K256 nin0).keep K275 (ninS ndu (ninS ndb nin0)))
        refine g_iaload 0 C eBG_160 f281 (by decide) (by decide) rfl <| g_istore #[.val (.ref u), .val (.ref v), .val (.ref u), .val (.ref a1), .val (.int k1), .val (.int 0), .val (.int 0), .val (.int od), .val (.ref u), .val (.int 1), .val (.int k249), .val (.int y257), .val (.int 1)] C eBG_161 rfl <| g_iload C eBG_163 rfl <| g_iload C eBG_165 rfl ?_
        refine g_invokestatic [(.int y257), (.int 1)] [] 0 C eBG_167 (hW hw 103 rfl) (hW hw 104 rfl) (hW hw 43 rfl) (hW hw 105 rfl) (by decide) (m_bgcd1 l Z a0 hw y257 _) (lenOf pd7 rfl) rfl rfl (bL rfl) (by decide) (by decide) (by decide) (by decide) all0 (fun v282 h283 L284 q285 K286 => ?_)
        obtain rfl := q285
        refine gA (mkF m_ 170 #[.val (.ref u), .val (.ref v), .val (.ref u), .val (.ref a1), .val (.int k1), .val (.int 0), .val (.int 0), .val (.int od), .val (.ref u), .val (.int 1), .val (.int k249), .val (.int y257), .val (.int 1)] [(.int 1)]) <| g_istore #[.val (.ref u), .val (.ref v), .val (.ref u), .val (.ref a1), .val (.int k1), .val (.int 0), .val (.int 0), .val (.int od), .val (.ref u), .val (.int 1), .val (.int k249), .val (.int 1), .val (.int 1)] C eBG_170 rfl <| g_aloadN C eBG_172 rfl rfl ?_
        have f287 := ((((f45.keep K248 (ninS (Ne.symm nn25) (ninS (Ne.symm nn29) nin0))).keep K256 nin0).keep K275 (ninS (Ne.symm nn25) (ninS (Ne.symm nn29) nin0))).keep K286 nin0)
        refine gF C eBG_173 (hW hw 68 rfl) f287 <| g_iconst 0 C eBG_176 (by decide) <| g_iload C eBG_177 rfl ?_
        have f288 := ((((f49.keep K248 (ninS (Ne.symm nn26) (ninS (Ne.symm nn30) nin0))).keep K256 nin0).keep K275 (ninS (Ne.symm nn26) (ninS (Ne.symm nn30) nin0))).keep K286 nin0)
        refine g_iastore 0 C eBG_179 f288 (by decide) (by decide) (bL rfl) (mm 0 rfl) (fun h289 K290 z291 f292 => ?_)
        have f293 : Av Z h289 d12 .int [(.int 1)] := f292
        refine g_aloadN C eBG_180 rfl rfl <| g_iconst 1 C eBG_181 (by decide) ?_
        have f294 := (((((f46.keep K248 (ninS (Ne.symm nn25) (ninS (Ne.symm nn29) nin0))).keep K256 nin0).keep K275 (ninS (Ne.symm nn25) (ninS (Ne.symm nn29) nin0))).keep K286 nin0).keep K290 (ninS nn33 nin0))
        have f295 := (((((f44.keep K248).keep K256).keep K275).keep K286).keep K290)
        have f296 := (f287.keep K290 (ninS nn33 nin0))
        have f297 := (((((f47.keep K248 (ninS (Ne.symm nn25) (ninS (Ne.symm nn29) nin0))).keep K256 nin0).keep K275 (ninS (Ne.symm nn25) (ninS (Ne.symm nn29) nin0))).keep K286 nin0).keep K290 (ninS nn33 nin0))
        refine g_putfield (host := "") C eBG_182 (Or.inl (hW hw 53 rfl)) Via.refl f294 f295 (Or.inl (hW hw 54 rfl)) (hW hw 42 rfl) (ty := .int) (by decide) rfl rfl (mm 1 rfl) (fun h298 W299 K300 => ?_)
        have f301 := Fld.same W299 f294
        have f302 := Fld.other W299 f296 (Or.inr (s69_54 hw))
        have f303 := Fld.other W299 f297 (Or.inr (s50_54 hw))
        refine g_aloadN C eBG_185 rfl rfl <| g_iconst 0 C eBG_186 (by decide) ?_
        have f304 := (f295.keep K300)
        refine g_putfield (host := "") C eBG_187 (Or.inl (hW hw 49 rfl)) Via.refl f303 f304 (Or.inl (hW hw 50 rfl)) (hW hw 42 rfl) (ty := .int) (by decide) rfl rfl (mm 1 rfl) (fun h305 W306 K307 => ?_)
        have f308 := Fld.same W306 f303
        have f309 := Fld.other W306 f302 (Or.inr (s69_50 hw))
        have f310 := Fld.other W306 f301 (Or.inr (s54_50 hw))
        refine g_iload C eBG_190 rfl <| g_ifT 201 C eBG_192 (show ¬ (0 : Int32) < (0 : Int32) by decide) (by decide) (by decide) <| g_aloadN C eBG_201 rfl rfl ?_
        have f311 := (f304.keep K307)
        have f312 := (((((((f48.keep K248).keep K256).keep K275).keep K286).keep K290).keep K300).keep K307)
        have f313 := ((f293.keep K300 (ninS (Ne.symm nn33) nin0)).keep K307 (ninS (Ne.symm nn33) nin0))
        exact g_retA C eBG_202 rfl rfl ⟨a1, d12, rfl, gr_, gd_, f311, f309, f310, f308, f312, f313⟩ (by decide) (by decide)
      · refine gA (mkF m_ 111 #[.val (.ref u), .val (.ref v), .val (.ref u), .val (.ref a1), .val (.int k1), .val (.int 0), .val (.int 0), .val (.int od), .val (.ref u), .val (.int 1), .val (.int k249), .unset, .unset] []) ?_
        refine g_iload C eBG_111 rfl <| g_ifF C eBG_113 (show (0 : Int32) < (1 : Int32) by decide) <| g_aload C eBG_116 rfl rfl <| g_astoreN #[.val (.ref u), .val (.ref v), .val (.ref u), .val (.ref a1), .val (.int k1), .val (.int 0), .val (.int 0), .val (.int od), .val (.ref u), .val (.int 1), .val (.int k249), .unset, .unset] C eBG_118 rfl rfl <| g_goto 125 C eBG_119 (by decide) (by decide) <| g_aloadN C eBG_125 rfl rfl <| gF C eBG_126 (hW hw 53 rfl) f261 <| g_iconst 2 C eBG_129 (by decide) <| g_icmpF C eBG_130 (show (1 : Int32) < (2 : Int32) by decide) <| g_aloadN C eBG_133 rfl rfl ?_
        have f314 := (((f41.keep K248 (ninS (Ne.symm nuv) (ninS (Ne.symm nbv) nin0))).keep K256 nin0).keep K275 (ninS (Ne.symm nuv) (ninS (Ne.symm nbv) nin0)))
        refine gF C eBG_134 (hW hw 53 rfl) f314 <| g_iconst 2 C eBG_137 (by decide) <| g_icmpF C eBG_138 (show (1 : Int32) < (2 : Int32) by decide) <| g_aloadN C eBG_141 rfl rfl <| gF C eBG_142 (hW hw 68 rfl) f260 <| g_aloadN C eBG_145 rfl rfl <| gF C eBG_146 (hW hw 49 rfl) f262 <| g_iaload 0 C eBG_149 f263 (by decide) (by decide) rfl <| g_istore #[.val (.ref u), .val (.ref v), .val (.ref u), .val (.ref a1), .val (.int k1), .val (.int 0), .val (.int 0), .val (.int od), .val (.ref u), .val (.int 1), .val (.int k249), .val (.int y257), .unset] C eBG_150 rfl <| g_aloadN C eBG_152 rfl rfl ?_
        have f315 := (((f40.keep K248 (ninS (Ne.symm nuv) (ninS (Ne.symm nbv) nin0))).keep K256 nin0).keep K275 (ninS (Ne.symm nuv) (ninS (Ne.symm nbv) nin0)))
        refine gF C eBG_153 (hW hw 68 rfl) f315 <| g_aloadN C eBG_156 rfl rfl ?_
        have f316 := (((f42.keep K248 (ninS (Ne.symm nuv) (ninS (Ne.symm nbv) nin0))).keep K256 nin0).keep K275 (ninS (Ne.symm nuv) (ninS (Ne.symm nbv) nin0)))
        refine gF C eBG_157 (hW hw 49 rfl) f316 ?_
        have f317 := (((f43.keep K248 (ninS ndu (ninS ndb nin0))).keep K256 nin0).keep K275 (ninS ndu (ninS ndb nin0)))
        refine g_iaload 0 C eBG_160 f317 (by decide) (by decide) rfl <| g_istore #[.val (.ref u), .val (.ref v), .val (.ref u), .val (.ref a1), .val (.int k1), .val (.int 0), .val (.int 0), .val (.int od), .val (.ref u), .val (.int 1), .val (.int k249), .val (.int y257), .val (.int 1)] C eBG_161 rfl <| g_iload C eBG_163 rfl <| g_iload C eBG_165 rfl ?_
        refine g_invokestatic [(.int y257), (.int 1)] [] 0 C eBG_167 (hW hw 103 rfl) (hW hw 104 rfl) (hW hw 43 rfl) (hW hw 105 rfl) (by decide) (m_bgcd1 l Z a0 hw y257 _) (lenOf pd7 rfl) rfl rfl (bL rfl) (by decide) (by decide) (by decide) (by decide) all0 (fun v318 h319 L320 q321 K322 => ?_)
        obtain rfl := q321
        refine gA (mkF m_ 170 #[.val (.ref u), .val (.ref v), .val (.ref u), .val (.ref a1), .val (.int k1), .val (.int 0), .val (.int 0), .val (.int od), .val (.ref u), .val (.int 1), .val (.int k249), .val (.int y257), .val (.int 1)] [(.int 1)]) <| g_istore #[.val (.ref u), .val (.ref v), .val (.ref u), .val (.ref a1), .val (.int k1), .val (.int 0), .val (.int 0), .val (.int od), .val (.ref u), .val (.int 1), .val (.int k249), .val (.int 1), .val (.int 1)] C eBG_170 rfl <| g_aloadN C eBG_172 rfl rfl ?_
        have f323 := ((((f45.keep K248 (ninS (Ne.symm nn25) (ninS (Ne.symm nn29) nin0))).keep K256 nin0).keep K275 (ninS (Ne.symm nn25) (ninS (Ne.symm nn29) nin0))).keep K322 nin0)
        refine gF C eBG_173 (hW hw 68 rfl) f323 <| g_iconst 0 C eBG_176 (by decide) <| g_iload C eBG_177 rfl ?_
        have f324 := ((((f49.keep K248 (ninS (Ne.symm nn26) (ninS (Ne.symm nn30) nin0))).keep K256 nin0).keep K275 (ninS (Ne.symm nn26) (ninS (Ne.symm nn30) nin0))).keep K322 nin0)
        refine g_iastore 0 C eBG_179 f324 (by decide) (by decide) (bL rfl) (mm 0 rfl) (fun h325 K326 z327 f328 => ?_)
        have f329 : Av Z h325 d12 .int [(.int 1)] := f328
        refine g_aloadN C eBG_180 rfl rfl <| g_iconst 1 C eBG_181 (by decide) ?_
        have f330 := (((((f46.keep K248 (ninS (Ne.symm nn25) (ninS (Ne.symm nn29) nin0))).keep K256 nin0).keep K275 (ninS (Ne.symm nn25) (ninS (Ne.symm nn29) nin0))).keep K322 nin0).keep K326 (ninS nn33 nin0))
        have f331 := (((((f44.keep K248).keep K256).keep K275).keep K322).keep K326)
        have f332 := (f323.keep K326 (ninS nn33 nin0))
        have f333 := (((((f47.keep K248 (ninS (Ne.symm nn25) (ninS (Ne.symm nn29) nin0))).keep K256 nin0).keep K275 (ninS (Ne.symm nn25) (ninS (Ne.symm nn29) nin0))).keep K322 nin0).keep K326 (ninS nn33 nin0))
        refine g_putfield (host := "") C eBG_182 (Or.inl (hW hw 53 rfl)) Via.refl f330 f331 (Or.inl (hW hw 54 rfl)) (hW hw 42 rfl) (ty := .int) (by decide) rfl rfl (mm 1 rfl) (fun h334 W335 K336 => ?_)
        have f337 := Fld.same W335 f330
        have f338 := Fld.other W335 f332 (Or.inr (s69_54 hw))
        have f339 := Fld.other W335 f333 (Or.inr (s50_54 hw))
        refine g_aloadN C eBG_185 rfl rfl <| g_iconst 0 C eBG_186 (by decide) ?_
        have f340 := (f331.keep K336)
        refine g_putfield (host := "") C eBG_187 (Or.inl (hW hw 49 rfl)) Via.refl f339 f340 (Or.inl (hW hw 50 rfl)) (hW hw 42 rfl) (ty := .int) (by decide) rfl rfl (mm 1 rfl) (fun h341 W342 K343 => ?_)
        have f344 := Fld.same W342 f339
        have f345 := Fld.other W342 f338 (Or.inr (s69_50 hw))
        have f346 := Fld.other W342 f337 (Or.inr (s54_50 hw))
        refine g_iload C eBG_190 rfl <| g_ifT 201 C eBG_192 (show ¬ (0 : Int32) < (0 : Int32) by decide) (by decide) (by decide) <| g_aloadN C eBG_201 rfl rfl ?_
        have f347 := (f340.keep K343)
        have f348 := (((((((f48.keep K248).keep K256).keep K275).keep K322).keep K326).keep K336).keep K343)
        have f349 := ((f329.keep K336 (ninS (Ne.symm nn33) nin0)).keep K343 (ninS (Ne.symm nn33) nin0))
        exact g_retA C eBG_202 rfl rfl ⟨a1, d12, rfl, gr_, gd_, f347, f345, f346, f344, f348, f349⟩ (by decide) (by decide)
      · refine gA (mkF m_ 111 #[.val (.ref u), .val (.ref v), .val (.ref u), .val (.ref a1), .val (.int k1), .val (.int 0), .val (.int 0), .val (.int od), .val (.ref u), .val (.int 1), .val (.int k249), .unset, .unset] []) ?_
        refine g_iload C eBG_111 rfl <| g_ifF C eBG_113 (show (0 : Int32) < (1 : Int32) by decide) <| g_aload C eBG_116 rfl rfl <| g_astoreN #[.val (.ref u), .val (.ref v), .val (.ref u), .val (.ref a1), .val (.int k1), .val (.int 0), .val (.int 0), .val (.int od), .val (.ref u), .val (.int 1), .val (.int k249), .unset, .unset] C eBG_118 rfl rfl <| g_goto 125 C eBG_119 (by decide) (by decide) <| g_aloadN C eBG_125 rfl rfl <| gF C eBG_126 (hW hw 53 rfl) f261 <| g_iconst 2 C eBG_129 (by decide) <| g_icmpT 203 C eBG_130 (show ¬ (2 : Int32) < (2 : Int32) by decide) (by decide) (by decide) ?_
        have f350 := (((f39.keep K248).keep K256).keep K275)
        have f351 := (((f40.keep K248 (ninS (Ne.symm nuv) (ninS (Ne.symm nbv) nin0))).keep K256 nin0).keep K275 (ninS (Ne.symm nuv) (ninS (Ne.symm nbv) nin0)))
        have f352 := (((f41.keep K248 (ninS (Ne.symm nuv) (ninS (Ne.symm nbv) nin0))).keep K256 nin0).keep K275 (ninS (Ne.symm nuv) (ninS (Ne.symm nbv) nin0)))
        have f353 := (((f42.keep K248 (ninS (Ne.symm nuv) (ninS (Ne.symm nbv) nin0))).keep K256 nin0).keep K275 (ninS (Ne.symm nuv) (ninS (Ne.symm nbv) nin0)))
        have f354 := (((f43.keep K248 (ninS ndu (ninS ndb nin0))).keep K256 nin0).keep K275 (ninS ndu (ninS ndb nin0)))
        have f355 := (((f44.keep K248).keep K256).keep K275)
        have f356 := (((f45.keep K248 (ninS (Ne.symm nn25) (ninS (Ne.symm nn29) nin0))).keep K256 nin0).keep K275 (ninS (Ne.symm nn25) (ninS (Ne.symm nn29) nin0)))
        have f357 := (((f46.keep K248 (ninS (Ne.symm nn25) (ninS (Ne.symm nn29) nin0))).keep K256 nin0).keep K275 (ninS (Ne.symm nn25) (ninS (Ne.symm nn29) nin0)))
        have f358 := (((f47.keep K248 (ninS (Ne.symm nn25) (ninS (Ne.symm nn29) nin0))).keep K256 nin0).keep K275 (ninS (Ne.symm nn25) (ninS (Ne.symm nn29) nin0)))
        have f359 := (((f48.keep K248).keep K256).keep K275)
        have f360 := (((f49.keep K248 (ninS (Ne.symm nn26) (ninS (Ne.symm nn30) nin0))).keep K256 nin0).keep K275 (ninS (Ne.symm nn26) (ninS (Ne.symm nn30) nin0)))
        exact ih ⟨(y257, y258, u, k1, od, (1 : Int32), k249), q276⟩ _ _ (own_mA cq50 q277) ⟨f259, f260, f261, f262, f263, f350, f351, f352, f353, f354, f355, f356, f357, f358, f359, f360⟩
  · refine gA (mkF m_ 10 #[.val (.ref u), .val (.ref v), .val (.ref u), .val (.ref a1), .unset, .unset, .unset, .unset, .unset, .unset, .unset, .unset, .unset] []) ?_
    refine g_aloadN C eBG_10 rfl rfl ?_
    have f361 := ((E.keep K8).keep K24)
    have f362 := ((F0.keep K8 nin0).keep K24 (ninS nn25 nin0))
    have f363 := ((F1.keep K8 nin0).keep K24 (ninS nn25 nin0))
    have f364 := ((F2.keep K8 nin0).keep K24 (ninS nn25 nin0))
    have f365 := ((A.keep K8 nin0).keep K24 (ninS nn29 nin0))
    refine g_invokeprivate [] [] 0 C eBG_11 (hW hw 89 rfl) (hW hw 90 rfl) (hW hw 92 rfl) (hW hw 91 rfl) (hW hw 43 rfl) (hW hw 93 rfl) (by decide) f361 (m_gl2 l Z a0 hw _ _ m0 m1 _ f361 f362 f363 f364 f365 k0) (lenOf pd6 rfl) rfl rfl (bL rfl) (by decide) (by decide) (by decide) (by decide) all0 (fun v369 h370 L371 q372 K373 => ?_)
    obtain ⟨k366, rfl, q367, q368⟩ := q372
    refine gA (mkF m_ 14 #[.val (.ref u), .val (.ref v), .val (.ref u), .val (.ref a1), .unset, .unset, .unset, .unset, .unset, .unset, .unset, .unset, .unset] [(.int k366)]) <| g_istore #[.val (.ref u), .val (.ref v), .val (.ref u), .val (.ref a1), .val (.int k366), .unset, .unset, .unset, .unset, .unset, .unset, .unset, .unset] C eBG_14 rfl <| g_aloadN C eBG_16 rfl rfl ?_
    have f374 := (((E'.keep K8).keep K24).keep K373)
    have f375 := (((G0.keep K8 nin0).keep K24 (ninS nn27 nin0)).keep K373 nin0)
    have f376 := (((G1.keep K8 nin0).keep K24 (ninS nn27 nin0)).keep K373 nin0)
    have f377 := (((G2.keep K8 nin0).keep K24 (ninS nn27 nin0)).keep K373 nin0)
    have f378 := (((B.keep K8 nin0).keep K24 (ninS nn31 nin0)).keep K373 nin0)
    refine g_invokeprivate [] [] 0 C eBG_17 (hW hw 89 rfl) (hW hw 90 rfl) (hW hw 92 rfl) (hW hw 91 rfl) (hW hw 43 rfl) (hW hw 93 rfl) (by decide) f374 (m_glsb1 l Z a0 hw _ _ _ _ f374 f375 f376 f377 f378 (by decide)) (lenOf pd6 rfl) rfl rfl (bL rfl) (by decide) (by decide) (by decide) (by decide) all0 (fun v379 h380 L381 q382 K383 => ?_)
    obtain rfl := q382
    simp only [show (0 + JP.Integer_numberOfTrailingZeros_I.val 1) = (0 : Int32) from by decide]
    refine gA (mkF m_ 20 #[.val (.ref u), .val (.ref v), .val (.ref u), .val (.ref a1), .val (.int k366), .unset, .unset, .unset, .unset, .unset, .unset, .unset, .unset] [(.int 0)]) <| g_istore #[.val (.ref u), .val (.ref v), .val (.ref u), .val (.ref a1), .val (.int k366), .val (.int 0), .unset, .unset, .unset, .unset, .unset, .unset, .unset] C eBG_20 rfl <| g_iload C eBG_22 rfl <| g_iload C eBG_24 rfl <| g_icmpT 34 C eBG_26 (show ¬ k366 < (0 : Int32) from q367) (by decide) (by decide) <| g_iload C eBG_34 rfl <| g_istore #[.val (.ref u), .val (.ref v), .val (.ref u), .val (.ref a1), .val (.int k366), .val (.int 0), .val (.int 0), .unset, .unset, .unset, .unset, .unset, .unset] C eBG_36 rfl <| g_iload C eBG_38 rfl <| g_ifT 55 C eBG_40 (show (0 : Int32) = (0 : Int32) by decide) (by decide) (by decide) <| g_iload C eBG_55 rfl <| g_iload C eBG_57 rfl ?_
    by_cases cc384 : (0 : Int32) = k366
    · refine g_icmpF C eBG_59 (show (0 : Int32) = k366 from cc384) ?_
      refine g_iconst 1 C eBG_62 (by decide) <| g_goto 67 C eBG_63 (by decide) (by decide) <| g_istore #[.val (.ref u), .val (.ref v), .val (.ref u), .val (.ref a1), .val (.int k366), .val (.int 0), .val (.int 0), .val (.int 1), .unset, .unset, .unset, .unset, .unset] C eBG_67 rfl <| g_iload C eBG_69 rfl <| g_ifF C eBG_71 (show ¬ (1 : Int32) = (0 : Int32) by decide) <| g_aloadN C eBG_74 rfl rfl <| g_goto 79 C eBG_75 (by decide) (by decide) <| g_astore #[.val (.ref u), .val (.ref v), .val (.ref u), .val (.ref a1), .val (.int k366), .val (.int 0), .val (.int 0), .val (.int 1), .val (.ref v), .unset, .unset, .unset, .unset] C eBG_79 rfl rfl <| g_iload C eBG_81 rfl <| g_ifF C eBG_83 (show ¬ (1 : Int32) = (0 : Int32) by decide) <| g_iconst (-1) C eBG_86 (by decide) ?_
      refine g_goto 91 C eBG_87 (by decide) (by decide) <| g_istore #[.val (.ref u), .val (.ref v), .val (.ref u), .val (.ref a1), .val (.int k366), .val (.int 0), .val (.int 0), .val (.int 1), .val (.ref v), .val (.int (-1)), .unset, .unset, .unset] C eBG_91 rfl <| g_aload C eBG_93 rfl rfl ?_
      have f385 := (f374.keep K383)
      have f386 := (f375.keep K383 nin0)
      have f387 := (f376.keep K383 nin0)
      have f388 := (f377.keep K383 nin0)
      have f389 := (f378.keep K383 nin0)
      refine g_invokeprivate [] [] 0 C eBG_95 (hW hw 89 rfl) (hW hw 90 rfl) (hW hw 92 rfl) (hW hw 91 rfl) (hW hw 43 rfl) (hW hw 93 rfl) (by decide) f385 (m_glsb1 l Z a0 hw _ _ _ _ f385 f386 f387 f388 f389 (by decide)) (lenOf pd6 rfl) rfl rfl (bL rfl) (by decide) (by decide) (by decide) (by decide) all0 (fun v390 h391 L392 q393 K394 => ?_)
      obtain rfl := q393
      simp only [show (0 + JP.Integer_numberOfTrailingZeros_I.val 1) = (0 : Int32) from by decide]
      refine gA (mkF m_ 98 #[.val (.ref u), .val (.ref v), .val (.ref u), .val (.ref a1), .val (.int k366), .val (.int 0), .val (.int 0), .val (.int 1), .val (.ref v), .val (.int (-1)), .unset, .unset, .unset] [(.int 0)]) <| g_dup C eBG_98 rfl <| g_istore #[.val (.ref u), .val (.ref v), .val (.ref u), .val (.ref a1), .val (.int k366), .val (.int 0), .val (.int 0), .val (.int 1), .val (.ref v), .val (.int (-1)), .val (.int 0), .unset, .unset] C eBG_99 rfl <| g_ifF C eBG_101 (show ¬ (0 : Int32) < (0 : Int32) by decide) <| g_aload C eBG_104 rfl rfl <| g_iload C eBG_106 rfl ?_
      have f399 := (f385.keep K394)
      have f400 := (f386.keep K394 nin0)
      have f401 := (f387.keep K394 nin0)
      have f402 := (f388.keep K394 nin0)
      refine g_invokevirtual [(.int 0)] [] 0 C eBG_108 (hW hw 98 rfl) (hW hw 99 rfl) (hW hw 101 rfl) (hW hw 100 rfl) (hW hw 43 rfl) (hW hw 102 rfl) (fun _ hZ => notFace_of_selects (args := #[]) (mvT hZ (hW hw 101 rfl))) (by decide) f399 (m_rs01 l Z a0 hw _ _ (0 : Int32) _ f399 f400 f401 f402) (lenOf pd4 rfl) rfl rfl (bL rfl) (by decide) (by decide) (by decide) (by decide) (allS (mm 3 rfl) all0) (fun v403 h404 L405 q406 K407 => ?_)
      obtain ⟨rfl, f395, f396, f397, f398⟩ := q406
      refine gA (mkF m_ 111 #[.val (.ref u), .val (.ref v), .val (.ref u), .val (.ref a1), .val (.int k366), .val (.int 0), .val (.int 0), .val (.int 1), .val (.ref v), .val (.int (-1)), .val (.int 0), .unset, .unset] []) <| g_iload C eBG_111 rfl <| g_ifT 122 C eBG_113 (show ¬ (0 : Int32) < (-1 : Int32) by decide) (by decide) (by decide) <| g_aload C eBG_122 rfl rfl <| g_astoreN #[.val (.ref u), .val (.ref v), .val (.ref u), .val (.ref a1), .val (.int k366), .val (.int 0), .val (.int 0), .val (.int 1), .val (.ref v), .val (.int (-1)), .val (.int 0), .unset, .unset] C eBG_124 rfl rfl <| g_aloadN C eBG_125 rfl rfl ?_
      have f408 := ((((f363.keep K373 nin0).keep K383 nin0).keep K394 nin0).keep K407 (ninS nuv nin0))
      refine gF C eBG_126 (hW hw 53 rfl) f408 <| g_iconst 2 C eBG_129 (by decide) <| g_icmpT 203 C eBG_130 (show ¬ (2 : Int32) < (2 : Int32) by decide) (by decide) (by decide) ?_
      have f409 := ((((f361.keep K373).keep K383).keep K394).keep K407)
      have f410 := ((((f362.keep K373 nin0).keep K383 nin0).keep K394 nin0).keep K407 (ninS nuv nin0))
      have f411 := ((((f364.keep K373 nin0).keep K383 nin0).keep K394 nin0).keep K407 (ninS nuv nin0))
      have f412 := ((((f365.keep K373 nin0).keep K383 nin0).keep K394 nin0).keep K407 (ninS nbv nin0))
      have f413 := ((f389.keep K394 nin0).keep K407 (ninS ndv nin0))
      have f414 := ((((f14.keep K373).keep K383).keep K394).keep K407)
      have f415 := ((((f15.keep K373 nin0).keep K383 nin0).keep K394 nin0).keep K407 (ninS (Ne.symm nn27) nin0))
      have f416 := ((((f16.keep K373 nin0).keep K383 nin0).keep K394 nin0).keep K407 (ninS (Ne.symm nn27) nin0))
      have f417 := ((((f17.keep K373 nin0).keep K383 nin0).keep K394 nin0).keep K407 (ninS (Ne.symm nn27) nin0))
      have f418 := ((((f18.keep K373).keep K383).keep K394).keep K407)
      have f419 := ((((f19.keep K373 nin0).keep K383 nin0).keep K394 nin0).keep K407 (ninS (Ne.symm nn28) nin0))
      exact LP ⟨(m0, m1, v, k366, (1 : Int32), (-1 : Int32), (0 : Int32)), k0⟩ _ _ ⟨f409, f410, f408, f411, f412, f395, f396, f397, f398, f413, f414, f415, f416, f417, f418, f419⟩
    · refine g_icmpT 66 C eBG_59 (show ¬ (0 : Int32) = k366 from cc384) (by decide) (by decide) ?_
      refine g_iconst 0 C eBG_66 (by decide) <| g_istore #[.val (.ref u), .val (.ref v), .val (.ref u), .val (.ref a1), .val (.int k366), .val (.int 0), .val (.int 0), .val (.int 0), .unset, .unset, .unset, .unset, .unset] C eBG_67 rfl <| g_iload C eBG_69 rfl <| g_ifT 78 C eBG_71 (show (0 : Int32) = (0 : Int32) by decide) (by decide) (by decide) <| g_aloadN C eBG_78 rfl rfl <| g_astore #[.val (.ref u), .val (.ref v), .val (.ref u), .val (.ref a1), .val (.int k366), .val (.int 0), .val (.int 0), .val (.int 0), .val (.ref u), .unset, .unset, .unset, .unset] C eBG_79 rfl rfl <| g_iload C eBG_81 rfl <| g_ifT 90 C eBG_83 (show (0 : Int32) = (0 : Int32) by decide) (by decide) (by decide) <| g_iconst 1 C eBG_90 (by decide) <| g_istore #[.val (.ref u), .val (.ref v), .val (.ref u), .val (.ref a1), .val (.int k366), .val (.int 0), .val (.int 0), .val (.int 0), .val (.ref u), .val (.int 1), .unset, .unset, .unset] C eBG_91 rfl <| g_aload C eBG_93 rfl rfl ?_
      have f420 := ((f361.keep K373).keep K383)
      have f421 := ((f362.keep K373 nin0).keep K383 nin0)
      have f422 := ((f363.keep K373 nin0).keep K383 nin0)
      have f423 := ((f364.keep K373 nin0).keep K383 nin0)
      have f424 := ((f365.keep K373 nin0).keep K383 nin0)
      refine g_invokeprivate [] [] 0 C eBG_95 (hW hw 89 rfl) (hW hw 90 rfl) (hW hw 92 rfl) (hW hw 91 rfl) (hW hw 43 rfl) (hW hw 93 rfl) (by decide) f420 (m_gl2 l Z a0 hw _ _ m0 m1 _ f420 f421 f422 f423 f424 k0) (lenOf pd6 rfl) rfl rfl (bL rfl) (by decide) (by decide) (by decide) (by decide) all0 (fun v428 h429 L430 q431 K432 => ?_)
      obtain ⟨k425, rfl, q426, q427⟩ := q431
      refine gA (mkF m_ 98 #[.val (.ref u), .val (.ref v), .val (.ref u), .val (.ref a1), .val (.int k366), .val (.int 0), .val (.int 0), .val (.int 0), .val (.ref u), .val (.int 1), .unset, .unset, .unset] [(.int k425)]) <| g_dup C eBG_98 rfl <| g_istore #[.val (.ref u), .val (.ref v), .val (.ref u), .val (.ref a1), .val (.int k366), .val (.int 0), .val (.int 0), .val (.int 0), .val (.ref u), .val (.int 1), .val (.int k425), .unset, .unset] C eBG_99 rfl <| g_ifF C eBG_101 (show ¬ k425 < (0 : Int32) from q426) <| g_aload C eBG_104 rfl rfl <| g_iload C eBG_106 rfl ?_
      have f442 := (f420.keep K432)
      have f443 := (f421.keep K432 nin0)
      have f444 := (f422.keep K432 nin0)
      have f445 := (f423.keep K432 nin0)
      have f446 := (f424.keep K432 nin0)
      refine g_invokevirtual [(.int k425)] [] 0 C eBG_108 (hW hw 98 rfl) (hW hw 99 rfl) (hW hw 101 rfl) (hW hw 100 rfl) (hW hw 43 rfl) (hW hw 102 rfl) (fun _ hZ => notFace_of_selects (args := #[]) (mvT hZ (hW hw 101 rfl))) (by decide) f442 (m_rs2 l Z a0 hw _ _ k425 m0 m1 _ f442 f443 f444 f445 f446 nbu k0 q427) (lenOf pd4 rfl) rfl rfl (bL rfl) (by decide) (by decide) (by decide) (by decide) (allS (mm 2 rfl) (allS (mm 4 rfl) all0)) (fun v447 h448 L449 q450 K451 => ?_)
      obtain ⟨rfl, y433, y434, z441, f435, f436, f437, f438, f439, q440⟩ := q450
      rcases q440 with rfl | rfl | ⟨rfl, q452, q453⟩
      · refine gA (mkF m_ 111 #[.val (.ref u), .val (.ref v), .val (.ref u), .val (.ref a1), .val (.int k366), .val (.int 0), .val (.int 0), .val (.int 0), .val (.ref u), .val (.int 1), .val (.int k425), .unset, .unset] []) ?_
        refine g_iload C eBG_111 rfl <| g_ifF C eBG_113 (show (0 : Int32) < (1 : Int32) by decide) <| g_aload C eBG_116 rfl rfl <| g_astoreN #[.val (.ref u), .val (.ref v), .val (.ref u), .val (.ref a1), .val (.int k366), .val (.int 0), .val (.int 0), .val (.int 0), .val (.ref u), .val (.int 1), .val (.int k425), .unset, .unset] C eBG_118 rfl rfl <| g_goto 125 C eBG_119 (by decide) (by decide) <| g_aloadN C eBG_125 rfl rfl <| gF C eBG_126 (hW hw 53 rfl) f437 <| g_iconst 2 C eBG_129 (by decide) <| g_icmpF C eBG_130 (show (0 : Int32) < (2 : Int32) by decide) <| g_aloadN C eBG_133 rfl rfl ?_
        have f454 := (((f376.keep K383 nin0).keep K432 nin0).keep K451 (ninS (Ne.symm nuv) (ninS (Ne.symm nbv) nin0)))
        refine gF C eBG_134 (hW hw 53 rfl) f454 <| g_iconst 2 C eBG_137 (by decide) <| g_icmpF C eBG_138 (show (1 : Int32) < (2 : Int32) by decide) <| g_aloadN C eBG_141 rfl rfl <| gF C eBG_142 (hW hw 68 rfl) f436 <| g_aloadN C eBG_145 rfl rfl <| gF C eBG_146 (hW hw 49 rfl) f438 <| g_iaload 0 C eBG_149 f439 (by decide) (by decide) rfl <| g_istore #[.val (.ref u), .val (.ref v), .val (.ref u), .val (.ref a1), .val (.int k366), .val (.int 0), .val (.int 0), .val (.int 0), .val (.ref u), .val (.int 1), .val (.int k425), .val (.int y433), .unset] C eBG_150 rfl <| g_aloadN C eBG_152 rfl rfl ?_
        have f455 := (((f375.keep K383 nin0).keep K432 nin0).keep K451 (ninS (Ne.symm nuv) (ninS (Ne.symm nbv) nin0)))
        refine gF C eBG_153 (hW hw 68 rfl) f455 <| g_aloadN C eBG_156 rfl rfl ?_
        have f456 := (((f377.keep K383 nin0).keep K432 nin0).keep K451 (ninS (Ne.symm nuv) (ninS (Ne.symm nbv) nin0)))
        refine gF C eBG_157 (hW hw 49 rfl) f456 ?_
        have f457 := (((f378.keep K383 nin0).keep K432 nin0).keep K451 (ninS ndu (ninS ndb nin0)))
        refine g_iaload 0 C eBG_160 f457 (by decide) (by decide) rfl <| g_istore #[.val (.ref u), .val (.ref v), .val (.ref u), .val (.ref a1), .val (.int k366), .val (.int 0), .val (.int 0), .val (.int 0), .val (.ref u), .val (.int 1), .val (.int k425), .val (.int y433), .val (.int 1)] C eBG_161 rfl <| g_iload C eBG_163 rfl <| g_iload C eBG_165 rfl ?_
        refine g_invokestatic [(.int y433), (.int 1)] [] 0 C eBG_167 (hW hw 103 rfl) (hW hw 104 rfl) (hW hw 43 rfl) (hW hw 105 rfl) (by decide) (m_bgcd1 l Z a0 hw y433 _) (lenOf pd7 rfl) rfl rfl (bL rfl) (by decide) (by decide) (by decide) (by decide) all0 (fun v458 h459 L460 q461 K462 => ?_)
        obtain rfl := q461
        refine gA (mkF m_ 170 #[.val (.ref u), .val (.ref v), .val (.ref u), .val (.ref a1), .val (.int k366), .val (.int 0), .val (.int 0), .val (.int 0), .val (.ref u), .val (.int 1), .val (.int k425), .val (.int y433), .val (.int 1)] [(.int 1)]) <| g_istore #[.val (.ref u), .val (.ref v), .val (.ref u), .val (.ref a1), .val (.int k366), .val (.int 0), .val (.int 0), .val (.int 0), .val (.ref u), .val (.int 1), .val (.int k425), .val (.int 1), .val (.int 1)] C eBG_170 rfl <| g_aloadN C eBG_172 rfl rfl ?_
        have f463 := (((((f15.keep K373 nin0).keep K383 nin0).keep K432 nin0).keep K451 (ninS (Ne.symm nn25) (ninS (Ne.symm nn29) nin0))).keep K462 nin0)
        refine gF C eBG_173 (hW hw 68 rfl) f463 <| g_iconst 0 C eBG_176 (by decide) <| g_iload C eBG_177 rfl ?_
        have f464 := (((((f19.keep K373 nin0).keep K383 nin0).keep K432 nin0).keep K451 (ninS (Ne.symm nn26) (ninS (Ne.symm nn30) nin0))).keep K462 nin0)
        refine g_iastore 0 C eBG_179 f464 (by decide) (by decide) (bL rfl) (mm 0 rfl) (fun h465 K466 z467 f468 => ?_)
        have f469 : Av Z h465 d12 .int [(.int 1)] := f468
        refine g_aloadN C eBG_180 rfl rfl <| g_iconst 1 C eBG_181 (by decide) ?_
        have f470 := ((((((f16.keep K373 nin0).keep K383 nin0).keep K432 nin0).keep K451 (ninS (Ne.symm nn25) (ninS (Ne.symm nn29) nin0))).keep K462 nin0).keep K466 (ninS nn33 nin0))
        have f471 := ((((((f14.keep K373).keep K383).keep K432).keep K451).keep K462).keep K466)
        have f472 := ((((((f17.keep K373 nin0).keep K383 nin0).keep K432 nin0).keep K451 (ninS (Ne.symm nn25) (ninS (Ne.symm nn29) nin0))).keep K462 nin0).keep K466 (ninS nn33 nin0))
        have f473 := (f463.keep K466 (ninS nn33 nin0))
        refine g_putfield (host := "") C eBG_182 (Or.inl (hW hw 53 rfl)) Via.refl f470 f471 (Or.inl (hW hw 54 rfl)) (hW hw 42 rfl) (ty := .int) (by decide) rfl rfl (mm 1 rfl) (fun h474 W475 K476 => ?_)
        have f477 := Fld.same W475 f470
        have f478 := Fld.other W475 f472 (Or.inr (s50_54 hw))
        have f479 := Fld.other W475 f473 (Or.inr (s69_54 hw))
        refine g_aloadN C eBG_185 rfl rfl <| g_iconst 0 C eBG_186 (by decide) ?_
        have f480 := (f471.keep K476)
        refine g_putfield (host := "") C eBG_187 (Or.inl (hW hw 49 rfl)) Via.refl f478 f480 (Or.inl (hW hw 50 rfl)) (hW hw 42 rfl) (ty := .int) (by decide) rfl rfl (mm 1 rfl) (fun h481 W482 K483 => ?_)
        have f484 := Fld.same W482 f478
        have f485 := Fld.other W482 f477 (Or.inr (s54_50 hw))
        have f486 := Fld.other W482 f479 (Or.inr (s69_50 hw))
        refine g_iload C eBG_190 rfl <| g_ifT 201 C eBG_192 (show ¬ (0 : Int32) < (0 : Int32) by decide) (by decide) (by decide) <| g_aloadN C eBG_201 rfl rfl ?_
        have f487 := (f480.keep K483)
        have f488 := ((((((((f18.keep K373).keep K383).keep K432).keep K451).keep K462).keep K466).keep K476).keep K483)
        have f489 := ((f469.keep K476 (ninS (Ne.symm nn33) nin0)).keep K483 (ninS (Ne.symm nn33) nin0))
        exact g_retA C eBG_202 rfl rfl ⟨a1, d12, rfl, gr_, gd_, f487, f486, f485, f484, f488, f489⟩ (by decide) (by decide)
      · refine gA (mkF m_ 111 #[.val (.ref u), .val (.ref v), .val (.ref u), .val (.ref a1), .val (.int k366), .val (.int 0), .val (.int 0), .val (.int 0), .val (.ref u), .val (.int 1), .val (.int k425), .unset, .unset] []) ?_
        refine g_iload C eBG_111 rfl <| g_ifF C eBG_113 (show (0 : Int32) < (1 : Int32) by decide) <| g_aload C eBG_116 rfl rfl <| g_astoreN #[.val (.ref u), .val (.ref v), .val (.ref u), .val (.ref a1), .val (.int k366), .val (.int 0), .val (.int 0), .val (.int 0), .val (.ref u), .val (.int 1), .val (.int k425), .unset, .unset] C eBG_118 rfl rfl <| g_goto 125 C eBG_119 (by decide) (by decide) <| g_aloadN C eBG_125 rfl rfl <| gF C eBG_126 (hW hw 53 rfl) f437 <| g_iconst 2 C eBG_129 (by decide) <| g_icmpF C eBG_130 (show (1 : Int32) < (2 : Int32) by decide) <| g_aloadN C eBG_133 rfl rfl ?_
        have f490 := (((f376.keep K383 nin0).keep K432 nin0).keep K451 (ninS (Ne.symm nuv) (ninS (Ne.symm nbv) nin0)))
        refine gF C eBG_134 (hW hw 53 rfl) f490 <| g_iconst 2 C eBG_137 (by decide) <| g_icmpF C eBG_138 (show (1 : Int32) < (2 : Int32) by decide) <| g_aloadN C eBG_141 rfl rfl <| gF C eBG_142 (hW hw 68 rfl) f436 <| g_aloadN C eBG_145 rfl rfl <| gF C eBG_146 (hW hw 49 rfl) f438 <| g_iaload 0 C eBG_149 f439 (by decide) (by decide) rfl <| g_istore #[.val (.ref u), .val (.ref v), .val (.ref u), .val (.ref a1), .val (.int k366), .val (.int 0), .val (.int 0), .val (.int 0), .val (.ref u), .val (.int 1), .val (.int k425), .val (.int y433), .unset] C eBG_150 rfl <| g_aloadN C eBG_152 rfl rfl ?_
        have f491 := (((f375.keep K383 nin0).keep K432 nin0).keep K451 (ninS (Ne.symm nuv) (ninS (Ne.symm nbv) nin0)))
        refine gF C eBG_153 (hW hw 68 rfl) f491 <| g_aloadN C eBG_156 rfl rfl ?_
        have f492 := (((f377.keep K383 nin0).keep K432 nin0).keep K451 (ninS (Ne.symm nuv) (ninS (Ne.symm nbv) nin0)))
        refine gF C eBG_157 (hW hw 49 rfl) f492 ?_
        have f493 := (((f378.keep K383 nin0).keep K432 nin0).keep K451 (ninS ndu (ninS ndb nin0)))
        refine g_iaload 0 C eBG_160 f493 (by decide) (by decide) rfl <| g_istore #[.val (.ref u), .val (.ref v), .val (.ref u), .val (.ref a1), .val (.int k366), .val (.int 0), .val (.int 0), .val (.int 0), .val (.ref u), .val (.int 1), .val (.int k425), .val (.int y433), .val (.int 1)] C eBG_161 rfl <| g_iload C eBG_163 rfl <| g_iload C eBG_165 rfl ?_
        refine g_invokestatic [(.int y433), (.int 1)] [] 0 C eBG_167 (hW hw 103 rfl) (hW hw 104 rfl) (hW hw 43 rfl) (hW hw 105 rfl) (by decide) (m_bgcd1 l Z a0 hw y433 _) (lenOf pd7 rfl) rfl rfl (bL rfl) (by decide) (by decide) (by decide) (by decide) all0 (fun v494 h495 L496 q497 K498 => ?_)
        obtain rfl := q497
        refine gA (mkF m_ 170 #[.val (.ref u), .val (.ref v), .val (.ref u), .val (.ref a1), .val (.int k366), .val (.int 0), .val (.int 0), .val (.int 0), .val (.ref u), .val (.int 1), .val (.int k425), .val (.int y433), .val (.int 1)] [(.int 1)]) <| g_istore #[.val (.ref u), .val (.ref v), .val (.ref u), .val (.ref a1), .val (.int k366), .val (.int 0), .val (.int 0), .val (.int 0), .val (.ref u), .val (.int 1), .val (.int k425), .val (.int 1), .val (.int 1)] C eBG_170 rfl <| g_aloadN C eBG_172 rfl rfl ?_
        have f499 := (((((f15.keep K373 nin0).keep K383 nin0).keep K432 nin0).keep K451 (ninS (Ne.symm nn25) (ninS (Ne.symm nn29) nin0))).keep K498 nin0)
        refine gF C eBG_173 (hW hw 68 rfl) f499 <| g_iconst 0 C eBG_176 (by decide) <| g_iload C eBG_177 rfl ?_
        have f500 := (((((f19.keep K373 nin0).keep K383 nin0).keep K432 nin0).keep K451 (ninS (Ne.symm nn26) (ninS (Ne.symm nn30) nin0))).keep K498 nin0)
        refine g_iastore 0 C eBG_179 f500 (by decide) (by decide) (bL rfl) (mm 0 rfl) (fun h501 K502 z503 f504 => ?_)
        have f505 : Av Z h501 d12 .int [(.int 1)] := f504
        refine g_aloadN C eBG_180 rfl rfl <| g_iconst 1 C eBG_181 (by decide) ?_
        have f506 := ((((((f16.keep K373 nin0).keep K383 nin0).keep K432 nin0).keep K451 (ninS (Ne.symm nn25) (ninS (Ne.symm nn29) nin0))).keep K498 nin0).keep K502 (ninS nn33 nin0))
        have f507 := ((((((f14.keep K373).keep K383).keep K432).keep K451).keep K498).keep K502)
        have f508 := ((((((f17.keep K373 nin0).keep K383 nin0).keep K432 nin0).keep K451 (ninS (Ne.symm nn25) (ninS (Ne.symm nn29) nin0))).keep K498 nin0).keep K502 (ninS nn33 nin0))
        have f509 := (f499.keep K502 (ninS nn33 nin0))
        refine g_putfield (host := "") C eBG_182 (Or.inl (hW hw 53 rfl)) Via.refl f506 f507 (Or.inl (hW hw 54 rfl)) (hW hw 42 rfl) (ty := .int) (by decide) rfl rfl (mm 1 rfl) (fun h510 W511 K512 => ?_)
        have f513 := Fld.same W511 f506
        have f514 := Fld.other W511 f508 (Or.inr (s50_54 hw))
        have f515 := Fld.other W511 f509 (Or.inr (s69_54 hw))
        refine g_aloadN C eBG_185 rfl rfl <| g_iconst 0 C eBG_186 (by decide) ?_
        have f516 := (f507.keep K512)
        refine g_putfield (host := "") C eBG_187 (Or.inl (hW hw 49 rfl)) Via.refl f514 f516 (Or.inl (hW hw 50 rfl)) (hW hw 42 rfl) (ty := .int) (by decide) rfl rfl (mm 1 rfl) (fun h517 W518 K519 => ?_)
        have f520 := Fld.same W518 f514
        have f521 := Fld.other W518 f513 (Or.inr (s54_50 hw))
        have f522 := Fld.other W518 f515 (Or.inr (s69_50 hw))
        refine g_iload C eBG_190 rfl <| g_ifT 201 C eBG_192 (show ¬ (0 : Int32) < (0 : Int32) by decide) (by decide) (by decide) <| g_aloadN C eBG_201 rfl rfl ?_
        have f523 := (f516.keep K519)
        have f524 := ((((((((f18.keep K373).keep K383).keep K432).keep K451).keep K498).keep K502).keep K512).keep K519)
        have f525 := ((f505.keep K512 (ninS (Ne.symm nn33) nin0)).keep K519 (ninS (Ne.symm nn33) nin0))
        exact g_retA C eBG_202 rfl rfl ⟨a1, d12, rfl, gr_, gd_, f523, f522, f521, f520, f524, f525⟩ (by decide) (by decide)
      · refine gA (mkF m_ 111 #[.val (.ref u), .val (.ref v), .val (.ref u), .val (.ref a1), .val (.int k366), .val (.int 0), .val (.int 0), .val (.int 0), .val (.ref u), .val (.int 1), .val (.int k425), .unset, .unset] []) ?_
        refine g_iload C eBG_111 rfl <| g_ifF C eBG_113 (show (0 : Int32) < (1 : Int32) by decide) <| g_aload C eBG_116 rfl rfl <| g_astoreN #[.val (.ref u), .val (.ref v), .val (.ref u), .val (.ref a1), .val (.int k366), .val (.int 0), .val (.int 0), .val (.int 0), .val (.ref u), .val (.int 1), .val (.int k425), .unset, .unset] C eBG_118 rfl rfl <| g_goto 125 C eBG_119 (by decide) (by decide) <| g_aloadN C eBG_125 rfl rfl <| gF C eBG_126 (hW hw 53 rfl) f437 <| g_iconst 2 C eBG_129 (by decide) <| g_icmpT 203 C eBG_130 (show ¬ (2 : Int32) < (2 : Int32) by decide) (by decide) (by decide) ?_
        have f526 := (((f374.keep K383).keep K432).keep K451)
        have f527 := (((f375.keep K383 nin0).keep K432 nin0).keep K451 (ninS (Ne.symm nuv) (ninS (Ne.symm nbv) nin0)))
        have f528 := (((f376.keep K383 nin0).keep K432 nin0).keep K451 (ninS (Ne.symm nuv) (ninS (Ne.symm nbv) nin0)))
        have f529 := (((f377.keep K383 nin0).keep K432 nin0).keep K451 (ninS (Ne.symm nuv) (ninS (Ne.symm nbv) nin0)))
        have f530 := (((f378.keep K383 nin0).keep K432 nin0).keep K451 (ninS ndu (ninS ndb nin0)))
        have f531 := ((((f14.keep K373).keep K383).keep K432).keep K451)
        have f532 := ((((f15.keep K373 nin0).keep K383 nin0).keep K432 nin0).keep K451 (ninS (Ne.symm nn25) (ninS (Ne.symm nn29) nin0)))
        have f533 := ((((f16.keep K373 nin0).keep K383 nin0).keep K432 nin0).keep K451 (ninS (Ne.symm nn25) (ninS (Ne.symm nn29) nin0)))
        have f534 := ((((f17.keep K373 nin0).keep K383 nin0).keep K432 nin0).keep K451 (ninS (Ne.symm nn25) (ninS (Ne.symm nn29) nin0)))
        have f535 := ((((f18.keep K373).keep K383).keep K432).keep K451)
        have f536 := ((((f19.keep K373 nin0).keep K383 nin0).keep K432 nin0).keep K451 (ninS (Ne.symm nn26) (ninS (Ne.symm nn30) nin0)))
        exact LP ⟨(y433, y434, u, k366, (0 : Int32), (1 : Int32), k425), q452⟩ _ _ ⟨f435, f436, f437, f438, f439, f526, f527, f528, f529, f530, f531, f532, f533, f534, f535, f536⟩
theorem eHG_0 : decode k30 0 = .ok (.aload_n 0, 1) := by decide +kernel
theorem eHG_1 : decode k30 1 = .ok (.astore_n 2, 1) := by decide +kernel
theorem eHG_2 : decode k30 2 = .ok (.new 12, 3) := by decide +kernel
theorem eHG_5 : decode k30 5 = .ok (.dup, 1) := by decide +kernel
theorem eHG_6 : decode k30 6 = .ok (.invokespecial 177, 3) := by decide +kernel
theorem eHG_9 : decode k30 9 = .ok (.astore_n 3, 1) := by decide +kernel
theorem eHG_10 : decode k30 10 = .ok (.aload_n 1, 1) := by decide +kernel
theorem eHG_11 : decode k30 11 = .ok (.getfield 21, 3) := by decide +kernel
theorem eHG_14 : decode k30 14 = .ok (.ifCond .eq 41, 3) := by decide +kernel
theorem eHG_17 : decode k30 17 = .ok (.aload_n 2, 1) := by decide +kernel
theorem eHG_18 : decode k30 18 = .ok (.getfield 21, 3) := by decide +kernel
theorem eHG_21 : decode k30 21 = .ok (.aload_n 1, 1) := by decide +kernel
theorem eHG_22 : decode k30 22 = .ok (.getfield 21, 3) := by decide +kernel
theorem eHG_25 : decode k30 25 = .ok (.isub, 1) := by decide +kernel
theorem eHG_26 : decode k30 26 = .ok (.invokestatic 329, 3) := by decide +kernel
theorem eHG_29 : decode k30 29 = .ok (.iconst 2, 1) := by decide +kernel
theorem eHG_30 : decode k30 30 = .ok (.if_icmp .ge 9, 3) := by decide +kernel
theorem eHG_33 : decode k30 33 = .ok (.aload_n 2, 1) := by decide +kernel
theorem eHG_34 : decode k30 34 = .ok (.aload_n 1, 1) := by decide +kernel
theorem eHG_35 : decode k30 35 = .ok (.invokevirtual 332, 3) := by decide +kernel
theorem eHG_38 : decode k30 38 = .ok (.areturn, 1) := by decide +kernel
theorem m_hg1 (l : Launch) (Z : State) (a0 : Array Value) (hw : ∀ d ∈ tables_1, d.before a0 Z = true) (u v bu bv : Addr) (m0 : Int32) (h : Heap) (E : eM Z h u) (F0 : fV Z h u (.ref bu)) (F1 : fI Z h u (.int 1)) (F2 : fO Z h u (.int 0)) (A : Av Z h bu .int [(.int m0)]) (Ebu : Exa Z h bu "[I") (E' : eM Z h v) (G0 : fV Z h v (.ref bv)) (G1 : fI Z h v (.int 1)) (G2 : fO Z h v (.int 0)) (B : Av Z h bv .int [(.int 1)]) (nuv : u ≠ v) (nbu : bu ≠ u) (nbv : bu ≠ v) (ndu : bv ≠ u) (ndb : bv ≠ bu) (ndv : bv ≠ v) (k0 : ¬ m0 = 0) :
    MetW false l Z [] (⟨"java/math/MutableBigInteger", "hybridGCD", "(Ljava/math/MutableBigInteger;)Ljava/math/MutableBigInteger;"⟩ : MethodName) k30 5 (some (.object "java/math/MutableBigInteger")) [] (rM 4 4 8 66) #[(.ref u), (.ref v)] [u, v, bu] h (fun v h' => ∃ r d : Addr, v = some (.ref r) ∧ h.size ≤ r ∧ h.size ≤ d ∧ eM Z h' r ∧ fV Z h' r (.ref d) ∧ fI Z h' r (.int 1) ∧ fO Z h' r (.int 0) ∧ Exa Z h' d "[I" ∧ Av Z h' d .int [(.int 1)]) := by
  refine mO a0 #[.val (.ref u), .val (.ref v), .unset, .unset, .unset] (fun _ _ _ m_ _ _ _ hs0 C => ?_)
  refine g_aloadN C eHG_0 rfl rfl <| g_astoreN #[.val (.ref u), .val (.ref v), .val (.ref u), .unset, .unset] C eHG_1 rfl rfl ?_
  refine g_new_ C eHG_2 (hW hw 75 rfl) (hW hw 42 rfl) (hW hw 43 rfl) (by decide) (by decide) (fun a1 h2 e3 E4 l5 f6 D7 => ?_)
  have K8 := keep_ext E4
  have f9 : fO Z h2 a1 (.int 0) := D7 (Or.inl (hW hw 50 rfl)) (ty := .int) (by decide)
  have f10 : fI Z h2 a1 (.int 0) := D7 (Or.inl (hW hw 54 rfl)) (ty := .int) (by decide)
  have f11 : fV Z h2 a1 .null := D7 (Or.inl (hW hw 69 rfl)) (ty := (.array .int)) (by decide)
  refine g_dup C eHG_5 rfl ?_
  refine g_invokespecial [] [(.ref a1)] 1 C eHG_6 rfl (hW hw 76 rfl) (hW hw 77 rfl) (hW hw 43 rfl) (hW hw 78 rfl) (by decide) (m_mb0 l Z a0 hw _ _ f6 f11 f10 f9) (lenOf pd2 rfl) rfl rfl (bL rfl) (by decide) (by decide) (by decide) (by decide) (allS (mm 0 rfl) all0) (fun v20 h21 L22 q23 K24 => ?_)
  obtain ⟨rfl, d12, g13, f14, f15, f16, f17, f18, f19⟩ := q23
  refine gA (mkF m_ 9 #[.val (.ref u), .val (.ref v), .val (.ref u), .unset, .unset] [(.ref a1)]) <| g_astoreN #[.val (.ref u), .val (.ref v), .val (.ref u), .val (.ref a1), .unset] C eHG_9 rfl rfl <| g_aloadN C eHG_10 rfl rfl ?_
  have f25 := ((G1.keep K8 nin0).keep K24 (ninS (Nat.ne_of_lt (lL E'.lt (Nat.le_of_eq e3.symm))) nin0))
  refine gF C eHG_11 (hW hw 53 rfl) f25 <| g_ifF C eHG_14 (show ¬ (1 : Int32) = (0 : Int32) by decide) <| g_aloadN C eHG_17 rfl rfl ?_
  have f26 := ((F1.keep K8 nin0).keep K24 (ninS (Nat.ne_of_lt (lL E.lt (Nat.le_of_eq e3.symm))) nin0))
  refine gF C eHG_18 (hW hw 53 rfl) f26 <| g_aloadN C eHG_21 rfl rfl <| gF C eHG_22 (hW hw 53 rfl) f25 <| g_isub 0 C eHG_25 (by decide) ?_
  refine g_invokestatic [(.int 0)] [] 0 C eHG_26 (hW hw 80 rfl) (hW hw 81 rfl) (hW hw 82 rfl) (hW hw 83 rfl) (by decide) (m_mabs l Z a0 hw (0 : Int32) (by decide) _) (lenOf pd0 rfl) rfl rfl (bL rfl) (by decide) (by decide) (by decide) (by decide) all0 (fun v27 h28 L29 q30 K31 => ?_)
  obtain rfl := q30
  refine gA (mkF m_ 29 #[.val (.ref u), .val (.ref v), .val (.ref u), .val (.ref a1), .unset] [(.int 0)]) <| g_iconst 2 C eHG_29 (by decide) <| g_icmpF C eHG_30 (show (0 : Int32) < (2 : Int32) by decide) <| g_aloadN C eHG_33 rfl rfl <| g_aloadN C eHG_34 rfl rfl ?_
  have f32 := (((E.keep K8).keep K24).keep K31)
  have f33 := (((F0.keep K8 nin0).keep K24 (ninS (Nat.ne_of_lt (lL E.lt (Nat.le_of_eq e3.symm))) nin0)).keep K31 nin0)
  have f34 := (f26.keep K31 nin0)
  have f35 := (((F2.keep K8 nin0).keep K24 (ninS (Nat.ne_of_lt (lL E.lt (Nat.le_of_eq e3.symm))) nin0)).keep K31 nin0)
  have f36 := (((A.keep K8 nin0).keep K24 (ninS (Nat.ne_of_lt (lL A.lt (Nat.le_of_eq e3.symm))) nin0)).keep K31 nin0)
  have f37 := (((Ebu.keep K8).keep K24).keep K31)
  have f38 := (((E'.keep K8).keep K24).keep K31)
  have f39 := (((G0.keep K8 nin0).keep K24 (ninS (Nat.ne_of_lt (lL E'.lt (Nat.le_of_eq e3.symm))) nin0)).keep K31 nin0)
  have f40 := (f25.keep K31 nin0)
  have f41 := (((G2.keep K8 nin0).keep K24 (ninS (Nat.ne_of_lt (lL E'.lt (Nat.le_of_eq e3.symm))) nin0)).keep K31 nin0)
  have f42 := (((B.keep K8 nin0).keep K24 (ninS (Nat.ne_of_lt (lL B.lt (Nat.le_of_eq e3.symm))) nin0)).keep K31 nin0)
  refine g_invokeprivate [(.ref v)] [] 0 C eHG_35 (hW hw 84 rfl) (hW hw 85 rfl) (hW hw 87 rfl) (hW hw 86 rfl) (hW hw 43 rfl) (hW hw 88 rfl) (by decide) f32 (m_bg1 l Z a0 hw _ _ _ _ m0 _ f32 f33 f34 f35 f36 f37 f38 f39 f40 f41 f42 nuv nbu nbv ndu ndb ndv k0) (lenOf pd8 rfl) rfl rfl (bL rfl) (by decide) (by decide) (by decide) (by decide) (allS (mm 1 rfl) (allS (mm 2 rfl) (allS (mm 3 rfl) all0))) (fun v53 h54 L55 q56 K57 => ?_)
  obtain ⟨r43, d44, rfl, g45, g46, f47, f48, f49, f50, f51, f52⟩ := q56
  refine gA (mkF m_ 38 #[.val (.ref u), .val (.ref v), .val (.ref u), .val (.ref a1), .unset] [(.ref r43)]) ?_
  exact g_retA C eHG_38 rfl rfl ⟨r43, d44, rfl, lT (lT (lT K8.1 K24.1) K31.1) g45, lT (lT (lT K8.1 K24.1) K31.1) g46, f47, f48, f49, f50, f51, f52⟩ (by decide) (by decide)
theorem m_hg2 (l : Launch) (Z : State) (a0 : Array Value) (hw : ∀ d ∈ tables_1, d.before a0 Z = true) (u v bu bv : Addr) (m0 m1 : Int32) (h : Heap) (E : eM Z h u) (F0 : fV Z h u (.ref bu)) (F1 : fI Z h u (.int 2)) (F2 : fO Z h u (.int 0)) (A : Av Z h bu .int [(.int m0), (.int m1)]) (Ebu : Exa Z h bu "[I") (E' : eM Z h v) (G0 : fV Z h v (.ref bv)) (G1 : fI Z h v (.int 1)) (G2 : fO Z h v (.int 0)) (B : Av Z h bv .int [(.int 1)]) (nuv : u ≠ v) (nbu : bu ≠ u) (nbv : bu ≠ v) (ndu : bv ≠ u) (ndb : bv ≠ bu) (ndv : bv ≠ v) (k0 : ¬ m0 = 0) :
    MetW false l Z [] (⟨"java/math/MutableBigInteger", "hybridGCD", "(Ljava/math/MutableBigInteger;)Ljava/math/MutableBigInteger;"⟩ : MethodName) k30 5 (some (.object "java/math/MutableBigInteger")) [] (rM 4 4 8 66) #[(.ref u), (.ref v)] [u, v, bu] h (fun v h' => ∃ r d : Addr, v = some (.ref r) ∧ h.size ≤ r ∧ h.size ≤ d ∧ eM Z h' r ∧ fV Z h' r (.ref d) ∧ fI Z h' r (.int 1) ∧ fO Z h' r (.int 0) ∧ Exa Z h' d "[I" ∧ Av Z h' d .int [(.int 1)]) := by
  refine mO a0 #[.val (.ref u), .val (.ref v), .unset, .unset, .unset] (fun _ _ _ m_ _ _ _ hs0 C => ?_)
  refine g_aloadN C eHG_0 rfl rfl <| g_astoreN #[.val (.ref u), .val (.ref v), .val (.ref u), .unset, .unset] C eHG_1 rfl rfl ?_
  refine g_new_ C eHG_2 (hW hw 75 rfl) (hW hw 42 rfl) (hW hw 43 rfl) (by decide) (by decide) (fun a1 h2 e3 E4 l5 f6 D7 => ?_)
  have K8 := keep_ext E4
  have f9 : fO Z h2 a1 (.int 0) := D7 (Or.inl (hW hw 50 rfl)) (ty := .int) (by decide)
  have f10 : fI Z h2 a1 (.int 0) := D7 (Or.inl (hW hw 54 rfl)) (ty := .int) (by decide)
  have f11 : fV Z h2 a1 .null := D7 (Or.inl (hW hw 69 rfl)) (ty := (.array .int)) (by decide)
  refine g_dup C eHG_5 rfl ?_
  refine g_invokespecial [] [(.ref a1)] 1 C eHG_6 rfl (hW hw 76 rfl) (hW hw 77 rfl) (hW hw 43 rfl) (hW hw 78 rfl) (by decide) (m_mb0 l Z a0 hw _ _ f6 f11 f10 f9) (lenOf pd2 rfl) rfl rfl (bL rfl) (by decide) (by decide) (by decide) (by decide) (allS (mm 0 rfl) all0) (fun v20 h21 L22 q23 K24 => ?_)
  obtain ⟨rfl, d12, g13, f14, f15, f16, f17, f18, f19⟩ := q23
  refine gA (mkF m_ 9 #[.val (.ref u), .val (.ref v), .val (.ref u), .unset, .unset] [(.ref a1)]) <| g_astoreN #[.val (.ref u), .val (.ref v), .val (.ref u), .val (.ref a1), .unset] C eHG_9 rfl rfl <| g_aloadN C eHG_10 rfl rfl ?_
  have f25 := ((G1.keep K8 nin0).keep K24 (ninS (Nat.ne_of_lt (lL E'.lt (Nat.le_of_eq e3.symm))) nin0))
  refine gF C eHG_11 (hW hw 53 rfl) f25 <| g_ifF C eHG_14 (show ¬ (1 : Int32) = (0 : Int32) by decide) <| g_aloadN C eHG_17 rfl rfl ?_
  have f26 := ((F1.keep K8 nin0).keep K24 (ninS (Nat.ne_of_lt (lL E.lt (Nat.le_of_eq e3.symm))) nin0))
  refine gF C eHG_18 (hW hw 53 rfl) f26 <| g_aloadN C eHG_21 rfl rfl <| gF C eHG_22 (hW hw 53 rfl) f25 <| g_isub 1 C eHG_25 (by decide) ?_
  refine g_invokestatic [(.int 1)] [] 0 C eHG_26 (hW hw 80 rfl) (hW hw 81 rfl) (hW hw 82 rfl) (hW hw 83 rfl) (by decide) (m_mabs l Z a0 hw (1 : Int32) (by decide) _) (lenOf pd0 rfl) rfl rfl (bL rfl) (by decide) (by decide) (by decide) (by decide) all0 (fun v27 h28 L29 q30 K31 => ?_)
  obtain rfl := q30
  refine gA (mkF m_ 29 #[.val (.ref u), .val (.ref v), .val (.ref u), .val (.ref a1), .unset] [(.int 1)]) <| g_iconst 2 C eHG_29 (by decide) <| g_icmpF C eHG_30 (show (1 : Int32) < (2 : Int32) by decide) <| g_aloadN C eHG_33 rfl rfl <| g_aloadN C eHG_34 rfl rfl ?_
  have f32 := (((E.keep K8).keep K24).keep K31)
  have f33 := (((F0.keep K8 nin0).keep K24 (ninS (Nat.ne_of_lt (lL E.lt (Nat.le_of_eq e3.symm))) nin0)).keep K31 nin0)
  have f34 := (f26.keep K31 nin0)
  have f35 := (((F2.keep K8 nin0).keep K24 (ninS (Nat.ne_of_lt (lL E.lt (Nat.le_of_eq e3.symm))) nin0)).keep K31 nin0)
  have f36 := (((A.keep K8 nin0).keep K24 (ninS (Nat.ne_of_lt (lL A.lt (Nat.le_of_eq e3.symm))) nin0)).keep K31 nin0)
  have f37 := (((Ebu.keep K8).keep K24).keep K31)
  have f38 := (((E'.keep K8).keep K24).keep K31)
  have f39 := (((G0.keep K8 nin0).keep K24 (ninS (Nat.ne_of_lt (lL E'.lt (Nat.le_of_eq e3.symm))) nin0)).keep K31 nin0)
  have f40 := (f25.keep K31 nin0)
  have f41 := (((G2.keep K8 nin0).keep K24 (ninS (Nat.ne_of_lt (lL E'.lt (Nat.le_of_eq e3.symm))) nin0)).keep K31 nin0)
  have f42 := (((B.keep K8 nin0).keep K24 (ninS (Nat.ne_of_lt (lL B.lt (Nat.le_of_eq e3.symm))) nin0)).keep K31 nin0)
  refine g_invokeprivate [(.ref v)] [] 0 C eHG_35 (hW hw 84 rfl) (hW hw 85 rfl) (hW hw 87 rfl) (hW hw 86 rfl) (hW hw 43 rfl) (hW hw 88 rfl) (by decide) f32 (m_bg2 l Z a0 hw _ _ _ _ m0 m1 _ f32 f33 f34 f35 f36 f37 f38 f39 f40 f41 f42 nuv nbu nbv ndu ndb ndv k0) (lenOf pd8 rfl) rfl rfl (bL rfl) (by decide) (by decide) (by decide) (by decide) (allS (mm 1 rfl) (allS (mm 2 rfl) (allS (mm 3 rfl) all0))) (fun v53 h54 L55 q56 K57 => ?_)
  obtain ⟨r43, d44, rfl, g45, g46, f47, f48, f49, f50, f51, f52⟩ := q56
  refine gA (mkF m_ 38 #[.val (.ref u), .val (.ref v), .val (.ref u), .val (.ref a1), .unset] [(.ref r43)]) ?_
  exact g_retA C eHG_38 rfl rfl ⟨r43, d44, rfl, lT (lT (lT K8.1 K24.1) K31.1) g45, lT (lT (lT K8.1 K24.1) K31.1) g46, f47, f48, f49, f50, f51, f52⟩ (by decide) (by decide)
theorem eGM_0 : decode k33 0 = .ok (.aload_n 0, 1) := by decide +kernel
theorem eGM_1 : decode k33 1 = .ok (.getfield 11, 3) := by decide +kernel
theorem eGM_4 : decode k33 4 = .ok (.ifCond .gt 15, 3) := by decide +kernel
theorem eGM_7 : decode k33 7 = .ok (.aload_n 0, 1) := by decide +kernel
theorem eGM_8 : decode k33 8 = .ok (.getfield 17, 3) := by decide +kernel
theorem eGM_11 : decode k33 11 = .ok (.arraylength, 1) := by decide +kernel
theorem eGM_12 : decode k33 12 = .ok (.aload_n 0, 1) := by decide +kernel
theorem eGM_13 : decode k33 13 = .ok (.getfield 21, 3) := by decide +kernel
theorem eGM_16 : decode k33 16 = .ok (.if_icmp .eq 48, 3) := by decide +kernel
theorem eGM_64 : decode k33 64 = .ok (.aload_n 0, 1) := by decide +kernel
theorem eGM_65 : decode k33 65 = .ok (.getfield 17, 3) := by decide +kernel
theorem eGM_68 : decode k33 68 = .ok (.areturn, 1) := by decide +kernel
theorem m_gma1 (l : Launch) (Z : State) (a0 : Array Value) (hw : ∀ d ∈ tables_1, d.before a0 Z = true) (a b : Addr) (m0 : Int32) (h : Heap) (E : eM Z h a) (F0 : fV Z h a (.ref b)) (F1 : fI Z h a (.int 1)) (F2 : fO Z h a (.int 0)) (A : Av Z h b .int [(.int m0)]) :
    MetW false l Z [] (⟨"java/math/MutableBigInteger", "getMagnitudeArray", "()[I"⟩ : MethodName) k33 2 (some (.array Jvm.ClassFile.FieldType.int)) [] (rM 0 0 0 0) #[(.ref a)] [] h (fun v h' => v = some (.ref b)) := by
  refine mO a0 #[.val (.ref a), .unset] (fun _ _ _ m_ _ _ _ hs0 C => ?_)
  refine g_aloadN C eGM_0 rfl rfl <| gF C eGM_1 (hW hw 49 rfl) F2 <| g_ifF C eGM_4 (show ¬ (0 : Int32) < (0 : Int32) by decide) <| g_aloadN C eGM_7 rfl rfl <| gF C eGM_8 (hW hw 68 rfl) F0 <| g_alen C eGM_11 A (z := (1 : Int32)) rfl <| g_aloadN C eGM_12 rfl rfl <| gF C eGM_13 (hW hw 53 rfl) F1 <| g_icmpT 64 C eGM_16 (show (1 : Int32) = (1 : Int32) by decide) (by decide) (by decide) <| g_aloadN C eGM_64 rfl rfl <| gF C eGM_65 (hW hw 68 rfl) F0 ?_
  exact g_retA C eGM_68 rfl rfl rfl (by decide) (by decide)
theorem m_gma2 (l : Launch) (Z : State) (a0 : Array Value) (hw : ∀ d ∈ tables_1, d.before a0 Z = true) (a b : Addr) (m0 m1 : Int32) (h : Heap) (E : eM Z h a) (F0 : fV Z h a (.ref b)) (F1 : fI Z h a (.int 2)) (F2 : fO Z h a (.int 0)) (A : Av Z h b .int [(.int m0), (.int m1)]) :
    MetW false l Z [] (⟨"java/math/MutableBigInteger", "getMagnitudeArray", "()[I"⟩ : MethodName) k33 2 (some (.array Jvm.ClassFile.FieldType.int)) [] (rM 0 0 0 0) #[(.ref a)] [] h (fun v h' => v = some (.ref b)) := by
  refine mO a0 #[.val (.ref a), .unset] (fun _ _ _ m_ _ _ _ hs0 C => ?_)
  refine g_aloadN C eGM_0 rfl rfl <| gF C eGM_1 (hW hw 49 rfl) F2 <| g_ifF C eGM_4 (show ¬ (0 : Int32) < (0 : Int32) by decide) <| g_aloadN C eGM_7 rfl rfl <| gF C eGM_8 (hW hw 68 rfl) F0 <| g_alen C eGM_11 A (z := (2 : Int32)) rfl <| g_aloadN C eGM_12 rfl rfl <| gF C eGM_13 (hW hw 53 rfl) F1 <| g_icmpT 64 C eGM_16 (show (2 : Int32) = (2 : Int32) by decide) (by decide) (by decide) <| g_aloadN C eGM_64 rfl rfl <| gF C eGM_65 (hW hw 68 rfl) F0 ?_
  exact g_retA C eGM_68 rfl rfl rfl (by decide) (by decide)
theorem eTB_0 : decode k34 0 = .ok (.aload_n 0, 1) := by decide +kernel
theorem eTB_1 : decode k34 1 = .ok (.getfield 21, 3) := by decide +kernel
theorem eTB_4 : decode k34 4 = .ok (.ifCond .eq 7, 3) := by decide +kernel
theorem eTB_11 : decode k34 11 = .ok (.getstatic 54, 3) := by decide +kernel
theorem eTB_14 : decode k34 14 = .ok (.areturn, 1) := by decide +kernel
theorem m_tb0 (l : Launch) (Z : State) (a0 : Array Value) (hw : ∀ d ∈ tables_1, d.before a0 Z = true) (a b : Addr) (s : Int32) (h : Heap) (E : eM Z h a) (F0 : fV Z h a (.ref b)) (F1 : fI Z h a (.int 0)) (F2 : fO Z h a (.int 0)) {ps ns one zero : Addr} (ST : Start Z ps ns one zero) :
    MetW false l Z [] (⟨"java/math/MutableBigInteger", "toBigInteger", "(I)Ljava/math/BigInteger;"⟩ : MethodName) k34 2 (some (.object "java/math/BigInteger")) [] (rM 3 1 6 39) #[(.ref a), (.int s)] [] h (fun v h' => ∃ z : Addr, v = some (.ref z) ∧ Big Z h' z 0 []) := by
  refine mO a0 #[.val (.ref a), .val (.int s)] (fun _ _ _ m_ _ _ _ hs0 C => ?_)
  refine Go.know (fun hX hK _ => ?_)
  refine g_aloadN C eTB_0 rfl rfl <| gF C eTB_1 (hW hw 53 rfl) F1 <| g_ifT 11 C eTB_4 (show (0 : Int32) = (0 : Int32) by decide) (by decide) (by decide) <| g_getstatic (host := "") C eTB_11 (Or.inl (hW hw 274 rfl)) Via.refl ST.2.2.2.2.2.2.1 ?_
  exact g_retA C eTB_14 rfl rfl ⟨_, rfl, ST.2.2.2.2.2.2.2.ext hX⟩ (by decide) (by decide)
theorem eTB_7 : decode k34 7 = .ok (.iload_n 1, 1) := by decide +kernel
theorem eTB_8 : decode k34 8 = .ok (.ifCond .ne 7, 3) := by decide +kernel
theorem eTB_15 : decode k34 15 = .ok (.new 1, 3) := by decide +kernel
theorem eTB_18 : decode k34 18 = .ok (.dup, 1) := by decide +kernel
theorem eTB_19 : decode k34 19 = .ok (.aload_n 0, 1) := by decide +kernel
theorem eTB_20 : decode k34 20 = .ok (.invokevirtual 58, 3) := by decide +kernel
theorem eTB_23 : decode k34 23 = .ok (.iload_n 1, 1) := by decide +kernel
theorem eTB_24 : decode k34 24 = .ok (.invokespecial 62, 3) := by decide +kernel
theorem eTB_27 : decode k34 27 = .ok (.areturn, 1) := by decide +kernel
theorem m_tb1 (l : Launch) (Z : State) (a0 : Array Value) (hw : ∀ d ∈ tables_1, d.before a0 Z = true) (a b : Addr) (s : Int32) (m0 : Int32) (h : Heap) (E : eM Z h a) (F0 : fV Z h a (.ref b)) (F1 : fI Z h a (.int 1)) (F2 : fO Z h a (.int 0)) (A : Av Z h b .int [(.int m0)]) (Eb : Exa Z h b "[I") (hs : ¬ s = 0) :
    MetW false l Z [] (⟨"java/math/MutableBigInteger", "toBigInteger", "(I)Ljava/math/BigInteger;"⟩ : MethodName) k34 2 (some (.object "java/math/BigInteger")) [] (rM 3 1 6 39) #[(.ref a), (.int s)] [] h (fun v h' => ∃ z : Addr, v = some (.ref z) ∧ Big Z h' z s [m0]) := by
  refine mO a0 #[.val (.ref a), .val (.int s)] (fun _ _ _ m_ _ _ _ hs0 C => ?_)
  refine g_aloadN C eTB_0 rfl rfl <| gF C eTB_1 (hW hw 53 rfl) F1 <| g_ifF C eTB_4 (show ¬ (1 : Int32) = (0 : Int32) by decide) <| g_iloadN C eTB_7 rfl <| g_ifT 15 C eTB_8 (show ¬ s = (0 : Int32) from hs) (by decide) (by decide) ?_
  refine g_new_ C eTB_15 (hW hw 113 rfl) (hW hw 114 rfl) (hW hw 8 rfl) (by decide) (by decide) (fun a1 h2 e3 E4 l5 f6 D7 => ?_)
  have K8 := keep_ext E4
  have f9 : Fld Z h2 a1 "java/math/BigInteger" "signum" "I" (.int 0) := D7 (Or.inr (hW hw 35 rfl)) (ty := .int) (by decide)
  have f10 : Fld Z h2 a1 "java/math/BigInteger" "mag" "[I" .null := D7 (Or.inr (hW hw 52 rfl)) (ty := (.array .int)) (by decide)
  refine g_dup C eTB_18 rfl <| g_aloadN C eTB_19 rfl rfl ?_
  have f11 := (E.keep K8)
  have f12 := (F0.keep K8 nin0)
  have f13 := (F1.keep K8 nin0)
  have f14 := (F2.keep K8 nin0)
  have f15 := (A.keep K8 nin0)
  refine g_invokeprivate [] [(.ref a1), (.ref a1)] 2 C eTB_20 (hW hw 115 rfl) (hW hw 116 rfl) (hW hw 118 rfl) (hW hw 117 rfl) (hW hw 43 rfl) (hW hw 119 rfl) (by decide) f11 (m_gma1 l Z a0 hw _ _ m0 _ f11 f12 f13 f14 f15) (lenOf pd9 rfl) rfl rfl (bL rfl) (by decide) (by decide) (by decide) (by decide) all0 (fun v16 h17 L18 q19 K20 => ?_)
  obtain rfl := q19
  refine gA (mkF m_ 23 #[.val (.ref a), .val (.int s)] [(.ref b), (.ref a1), (.ref a1)]) <| g_iloadN C eTB_23 rfl ?_
  have f27 := (f6.keep K20)
  have f28 := (f9.keep K20 nin0)
  have f29 := (f10.keep K20 nin0)
  have f30 := ((Eb.keep K8).keep K20)
  have f31 := (f15.keep K20 nin0)
  refine g_invokespecial [(.ref b), (.int s)] [(.ref a1)] 1 C eTB_24 rfl (hW hw 120 rfl) (hW hw 121 rfl) (hW hw 8 rfl) (hW hw 123 rfl) (by decide) (m_biA1 l Z a0 hw _ _ s m0 _ f27 f28 f29 f30 f31 (Nat.ne_of_lt (lL A.lt (Nat.le_of_eq e3.symm)))) (lenOf pd10 rfl) rfl rfl (bL rfl) (by decide) (by decide) (by decide) (by decide) (allS (mm 0 rfl) all0) (fun v32 h33 L34 q35 K36 => ?_)
  obtain ⟨rfl, b21, f22, f23, f24, f25, f26⟩ := q35
  have f26 : Av Z h33 b21 .int [(.int m0)] := f26
  refine gA (mkF m_ 27 #[.val (.ref a), .val (.int s)] [(.ref a1)]) ?_
  exact g_retA C eTB_27 rfl rfl ⟨_, rfl, ⟨b21, f22, f23, f24, f25, f26⟩⟩ (by decide) (by decide)
theorem m_tb2 (l : Launch) (Z : State) (a0 : Array Value) (hw : ∀ d ∈ tables_1, d.before a0 Z = true) (a b : Addr) (s : Int32) (m0 m1 : Int32) (h : Heap) (E : eM Z h a) (F0 : fV Z h a (.ref b)) (F1 : fI Z h a (.int 2)) (F2 : fO Z h a (.int 0)) (A : Av Z h b .int [(.int m0), (.int m1)]) (Eb : Exa Z h b "[I") (hs : ¬ s = 0) :
    MetW false l Z [] (⟨"java/math/MutableBigInteger", "toBigInteger", "(I)Ljava/math/BigInteger;"⟩ : MethodName) k34 2 (some (.object "java/math/BigInteger")) [] (rM 3 1 6 39) #[(.ref a), (.int s)] [] h (fun v h' => ∃ z : Addr, v = some (.ref z) ∧ Big Z h' z s [m0, m1]) := by
  refine mO a0 #[.val (.ref a), .val (.int s)] (fun _ _ _ m_ _ _ _ hs0 C => ?_)
  refine g_aloadN C eTB_0 rfl rfl <| gF C eTB_1 (hW hw 53 rfl) F1 <| g_ifF C eTB_4 (show ¬ (2 : Int32) = (0 : Int32) by decide) <| g_iloadN C eTB_7 rfl <| g_ifT 15 C eTB_8 (show ¬ s = (0 : Int32) from hs) (by decide) (by decide) ?_
  refine g_new_ C eTB_15 (hW hw 113 rfl) (hW hw 114 rfl) (hW hw 8 rfl) (by decide) (by decide) (fun a1 h2 e3 E4 l5 f6 D7 => ?_)
  have K8 := keep_ext E4
  have f9 : Fld Z h2 a1 "java/math/BigInteger" "signum" "I" (.int 0) := D7 (Or.inr (hW hw 35 rfl)) (ty := .int) (by decide)
  have f10 : Fld Z h2 a1 "java/math/BigInteger" "mag" "[I" .null := D7 (Or.inr (hW hw 52 rfl)) (ty := (.array .int)) (by decide)
  refine g_dup C eTB_18 rfl <| g_aloadN C eTB_19 rfl rfl ?_
  have f11 := (E.keep K8)
  have f12 := (F0.keep K8 nin0)
  have f13 := (F1.keep K8 nin0)
  have f14 := (F2.keep K8 nin0)
  have f15 := (A.keep K8 nin0)
  refine g_invokeprivate [] [(.ref a1), (.ref a1)] 2 C eTB_20 (hW hw 115 rfl) (hW hw 116 rfl) (hW hw 118 rfl) (hW hw 117 rfl) (hW hw 43 rfl) (hW hw 119 rfl) (by decide) f11 (m_gma2 l Z a0 hw _ _ m0 m1 _ f11 f12 f13 f14 f15) (lenOf pd9 rfl) rfl rfl (bL rfl) (by decide) (by decide) (by decide) (by decide) all0 (fun v16 h17 L18 q19 K20 => ?_)
  obtain rfl := q19
  refine gA (mkF m_ 23 #[.val (.ref a), .val (.int s)] [(.ref b), (.ref a1), (.ref a1)]) <| g_iloadN C eTB_23 rfl ?_
  have f27 := (f6.keep K20)
  have f28 := (f9.keep K20 nin0)
  have f29 := (f10.keep K20 nin0)
  have f30 := ((Eb.keep K8).keep K20)
  have f31 := (f15.keep K20 nin0)
  refine g_invokespecial [(.ref b), (.int s)] [(.ref a1)] 1 C eTB_24 rfl (hW hw 120 rfl) (hW hw 121 rfl) (hW hw 8 rfl) (hW hw 123 rfl) (by decide) (m_biA2 l Z a0 hw _ _ s m0 m1 _ f27 f28 f29 f30 f31 (Nat.ne_of_lt (lL A.lt (Nat.le_of_eq e3.symm)))) (lenOf pd10 rfl) rfl rfl (bL rfl) (by decide) (by decide) (by decide) (by decide) (allS (mm 0 rfl) all0) (fun v32 h33 L34 q35 K36 => ?_)
  obtain ⟨rfl, b21, f22, f23, f24, f25, f26⟩ := q35
  have f26 : Av Z h33 b21 .int [(.int m0), (.int m1)] := f26
  refine gA (mkF m_ 27 #[.val (.ref a), .val (.int s)] [(.ref a1)]) ?_
  exact g_retA C eTB_27 rfl rfl ⟨_, rfl, ⟨b21, f22, f23, f24, f25, f26⟩⟩ (by decide) (by decide)
theorem eGC_0 : decode k13 0 = .ok (.aload_n 1, 1) := by decide +kernel
theorem eGC_1 : decode k13 1 = .ok (.getfield 32, 3) := by decide +kernel
theorem eGC_4 : decode k13 4 = .ok (.ifCond .ne 8, 3) := by decide +kernel
theorem eGC_12 : decode k13 12 = .ok (.aload_n 0, 1) := by decide +kernel
theorem eGC_13 : decode k13 13 = .ok (.getfield 32, 3) := by decide +kernel
theorem eGC_16 : decode k13 16 = .ok (.ifCond .ne 8, 3) := by decide +kernel
theorem eGC_19 : decode k13 19 = .ok (.aload_n 1, 1) := by decide +kernel
theorem eGC_20 : decode k13 20 = .ok (.invokevirtual 485, 3) := by decide +kernel
theorem eGC_23 : decode k13 23 = .ok (.areturn, 1) := by decide +kernel
theorem m_gcd0 (l : Launch) (Z : State) (a0 : Array Value) (hw : ∀ d ∈ tables_1, d.before a0 Z = true) (x y : Addr) (h : Heap) (Xx : Big Z h x (0 : Int32) []) (Xy : Big Z h y (1 : Int32) [(1 : Int32)]) :
    MetW false l Z [] (⟨"java/math/BigInteger", "gcd", "(Ljava/math/BigInteger;)Ljava/math/BigInteger;"⟩ : MethodName) k13 5 (some (.object "java/math/BigInteger")) [] (rM 5 9 23 82) #[(.ref x), (.ref y)] [] h (fun v h' => ∃ z : Addr, v = some (.ref z) ∧ Big Z h' z 1 [1]) := by
  obtain ⟨arx, Ex, Sx, Gx, Bx, Ax⟩ := Xx
  have Ax : Av Z h arx .int [] := Ax
  obtain ⟨ary, Ey, Sy, Gy, By, Ay⟩ := Xy
  have Ay : Av Z h ary .int [(.int 1)] := Ay
  refine mO a0 #[.val (.ref x), .val (.ref y), .unset, .unset, .unset] (fun _ _ _ m_ _ _ _ hs0 C => ?_)
  refine Go.know (fun hX hK _ => ?_)
  refine g_aloadN C eGC_0 rfl rfl <| gF C eGC_1 (hW hw 34 rfl) Sy <| g_ifT 12 C eGC_4 (show ¬ (1 : Int32) = (0 : Int32) by decide) (by decide) (by decide) <| g_aloadN C eGC_12 rfl rfl <| gF C eGC_13 (hW hw 34 rfl) Sx <| g_ifF C eGC_16 (show (0 : Int32) = (0 : Int32) by decide) <| g_aloadN C eGC_19 rfl rfl ?_
  refine g_invokevirtual [] [] 0 C eGC_20 (hW hw 269 rfl) (hW hw 270 rfl) (hW hw 272 rfl) (hW hw 271 rfl) (hW hw 8 rfl) (hW hw 273 rfl) (fun _ hZ => notFace_of_selects (args := #[]) (mvT hZ (hW hw 272 rfl))) (by decide) Ey (m_abs l Z a0 hw _ _ Sy) (lenOf pd11 rfl) rfl rfl (bL rfl) (by decide) (by decide) (by decide) (by decide) all0 (fun v1 h2 L3 q4 K5 => ?_)
  obtain rfl := q4
  refine gA (mkF m_ 23 #[.val (.ref x), .val (.ref y), .unset, .unset, .unset] [(.ref y)]) ?_
  have f6 := (Ey.keep K5)
  have f7 := (Sy.keep K5 nin0)
  have f8 := (Gy.keep K5 nin0)
  have f9 := (By.keep K5)
  have f10 := (Ay.keep K5 nin0)
  exact g_retA C eGC_23 rfl rfl ⟨_, rfl, ⟨ary, f6, f7, f8, f9, f10⟩⟩ (by decide) (by decide)
theorem eGC_24 : decode k13 24 = .ok (.new 541, 3) := by decide +kernel
theorem eGC_27 : decode k13 27 = .ok (.dup, 1) := by decide +kernel
theorem eGC_28 : decode k13 28 = .ok (.aload_n 0, 1) := by decide +kernel
theorem eGC_29 : decode k13 29 = .ok (.invokespecial 567, 3) := by decide +kernel
theorem eGC_32 : decode k13 32 = .ok (.astore_n 2, 1) := by decide +kernel
theorem eGC_33 : decode k13 33 = .ok (.new 541, 3) := by decide +kernel
theorem eGC_36 : decode k13 36 = .ok (.dup, 1) := by decide +kernel
theorem eGC_37 : decode k13 37 = .ok (.aload_n 1, 1) := by decide +kernel
theorem eGC_38 : decode k13 38 = .ok (.invokespecial 567, 3) := by decide +kernel
theorem eGC_41 : decode k13 41 = .ok (.astore_n 3, 1) := by decide +kernel
theorem eGC_42 : decode k13 42 = .ok (.aload_n 2, 1) := by decide +kernel
theorem eGC_43 : decode k13 43 = .ok (.aload_n 3, 1) := by decide +kernel
theorem eGC_44 : decode k13 44 = .ok (.invokevirtual 598, 3) := by decide +kernel
theorem eGC_47 : decode k13 47 = .ok (.astore 4, 2) := by decide +kernel
theorem eGC_49 : decode k13 49 = .ok (.aload 4, 2) := by decide +kernel
theorem eGC_51 : decode k13 51 = .ok (.iconst 1, 1) := by decide +kernel
theorem eGC_52 : decode k13 52 = .ok (.invokevirtual 548, 3) := by decide +kernel
theorem eGC_55 : decode k13 55 = .ok (.areturn, 1) := by decide +kernel
theorem m_gcd1 (l : Launch) (Z : State) (a0 : Array Value) (hw : ∀ d ∈ tables_1, d.before a0 Z = true) (x y : Addr) (s m0 : Int32) (h : Heap) (Xx : Big Z h x s [m0]) (Xy : Big Z h y (1 : Int32) [(1 : Int32)]) (hs : ¬ s = 0) (k0 : ¬ m0 = 0) :
    MetW false l Z [] (⟨"java/math/BigInteger", "gcd", "(Ljava/math/BigInteger;)Ljava/math/BigInteger;"⟩ : MethodName) k13 5 (some (.object "java/math/BigInteger")) [] (rM 5 9 23 82) #[(.ref x), (.ref y)] [] h (fun v h' => ∃ z : Addr, v = some (.ref z) ∧ Big Z h' z 1 [1]) := by
  obtain ⟨arx, Ex, Sx, Gx, Bx, Ax⟩ := Xx
  have Ax : Av Z h arx .int [(.int m0)] := Ax
  obtain ⟨ary, Ey, Sy, Gy, By, Ay⟩ := Xy
  have Ay : Av Z h ary .int [(.int 1)] := Ay
  refine mO a0 #[.val (.ref x), .val (.ref y), .unset, .unset, .unset] (fun _ _ _ m_ _ _ _ hs0 C => ?_)
  refine Go.know (fun hX hK _ => ?_)
  refine g_aloadN C eGC_0 rfl rfl <| gF C eGC_1 (hW hw 34 rfl) Sy <| g_ifT 12 C eGC_4 (show ¬ (1 : Int32) = (0 : Int32) by decide) (by decide) (by decide) <| g_aloadN C eGC_12 rfl rfl <| gF C eGC_13 (hW hw 34 rfl) Sx <| g_ifT 24 C eGC_16 (show ¬ s = (0 : Int32) from hs) (by decide) (by decide) ?_
  refine g_new_ C eGC_24 (hW hw 41 rfl) (hW hw 42 rfl) (hW hw 43 rfl) (by decide) (by decide) (fun a1 h2 e3 E4 l5 f6 D7 => ?_)
  have K8 := keep_ext E4
  have f9 : fO Z h2 a1 (.int 0) := D7 (Or.inl (hW hw 50 rfl)) (ty := .int) (by decide)
  have f10 : fI Z h2 a1 (.int 0) := D7 (Or.inl (hW hw 54 rfl)) (ty := .int) (by decide)
  have f11 : fV Z h2 a1 .null := D7 (Or.inl (hW hw 69 rfl)) (ty := (.array .int)) (by decide)
  refine g_dup C eGC_27 rfl <| g_aloadN C eGC_28 rfl rfl ?_
  have f20 := (Gx.keep K8 nin0)
  have f21 := (Bx.keep K8)
  have f22 := (Ax.keep K8 nin0)
  refine g_invokespecial [(.ref x)] [(.ref a1)] 1 C eGC_29 rfl (hW hw 44 rfl) (hW hw 45 rfl) (hW hw 43 rfl) (hW hw 47 rfl) (by decide) (m_mbB1 l Z a0 hw _ _ _ m0 _ f6 f11 f10 f9 f20 f21 f22 (Nat.ne_of_lt (lL Ex.lt (Nat.le_of_eq e3.symm))) (Nat.ne_of_lt (lL Ax.lt (Nat.le_of_eq e3.symm)))) (lenOf pd12 rfl) rfl rfl (bL rfl) (by decide) (by decide) (by decide) (by decide) (allS (mm 0 rfl) all0) (fun v23 h24 L25 q26 K27 => ?_)
  obtain ⟨rfl, d12, g13, f14, f15, f16, f17, f18, f19⟩ := q26
  refine gA (mkF m_ 32 #[.val (.ref x), .val (.ref y), .unset, .unset, .unset] [(.ref a1)]) <| g_astoreN #[.val (.ref x), .val (.ref y), .val (.ref a1), .unset, .unset] C eGC_32 rfl rfl ?_
  refine g_new_ C eGC_33 (hW hw 41 rfl) (hW hw 42 rfl) (hW hw 43 rfl) (by decide) (by decide) (fun a28 h29 e30 E31 l32 f33 D34 => ?_)
  have K35 := keep_ext E31
  have f36 : fO Z h29 a28 (.int 0) := D34 (Or.inl (hW hw 50 rfl)) (ty := .int) (by decide)
  have f37 : fI Z h29 a28 (.int 0) := D34 (Or.inl (hW hw 54 rfl)) (ty := .int) (by decide)
  have f38 : fV Z h29 a28 .null := D34 (Or.inl (hW hw 69 rfl)) (ty := (.array .int)) (by decide)
  refine g_dup C eGC_36 rfl <| g_aloadN C eGC_37 rfl rfl ?_
  have f47 := (((Gy.keep K8 nin0).keep K27 (ninS (Nat.ne_of_lt (lL Ey.lt (Nat.le_of_eq e3.symm))) nin0)).keep K35 nin0)
  have f48 := (((By.keep K8).keep K27).keep K35)
  have f49 := (((Ay.keep K8 nin0).keep K27 (ninS (Nat.ne_of_lt (lL Ay.lt (Nat.le_of_eq e3.symm))) nin0)).keep K35 nin0)
  refine g_invokespecial [(.ref y)] [(.ref a28)] 1 C eGC_38 rfl (hW hw 44 rfl) (hW hw 45 rfl) (hW hw 43 rfl) (hW hw 47 rfl) (by decide) (m_mbB1 l Z a0 hw _ _ _ (1 : Int32) _ f33 f38 f37 f36 f47 f48 f49 (Nat.ne_of_lt (lL (lL Ey.lt (lT K8.1 K27.1)) (Nat.le_of_eq e30.symm))) (Nat.ne_of_lt (lL (lL Ay.lt (lT K8.1 K27.1)) (Nat.le_of_eq e30.symm)))) (lenOf pd12 rfl) rfl rfl (bL rfl) (by decide) (by decide) (by decide) (by decide) (allS (mm 0 rfl) all0) (fun v50 h51 L52 q53 K54 => ?_)
  obtain ⟨rfl, d39, g40, f41, f42, f43, f44, f45, f46⟩ := q53
  refine gA (mkF m_ 41 #[.val (.ref x), .val (.ref y), .val (.ref a1), .unset, .unset] [(.ref a28)]) <| g_astoreN #[.val (.ref x), .val (.ref y), .val (.ref a1), .val (.ref a28), .unset] C eGC_41 rfl rfl ?_
  have f55 := ((f18.keep K35).keep K54)
  refine Go.take f55 (by decide) (by decide) (lT hX.1 (lT K8.1 g13)) (by rw [hs0]; exact (lT K8.1 g13)) ?_
  refine gA (mkF m_ 42 #[.val (.ref x), .val (.ref y), .val (.ref a1), .val (.ref a28), .unset] []) <| g_aloadN C eGC_42 rfl rfl <| g_aloadN C eGC_43 rfl rfl ?_
  have f56 := ((f14.keep K35).keep K54)
  have f57 := ((f15.keep K35 nin0).keep K54 (ninS (Nat.ne_of_lt (lL (lL l5 K27.1) (Nat.le_of_eq e30.symm))) nin0))
  have f58 := ((f16.keep K35 nin0).keep K54 (ninS (Nat.ne_of_lt (lL (lL l5 K27.1) (Nat.le_of_eq e30.symm))) nin0))
  have f59 := ((f17.keep K35 nin0).keep K54 (ninS (Nat.ne_of_lt (lL (lL l5 K27.1) (Nat.le_of_eq e30.symm))) nin0))
  have f60 := ((f19.keep K35 nin0).keep K54 (ninS (Nat.ne_of_lt (lL f18.lt (Nat.le_of_eq e30.symm))) nin0))
  refine g_invokevirtual [(.ref a28)] [] 0 C eGC_44 (hW hw 70 rfl) (hW hw 71 rfl) (hW hw 73 rfl) (hW hw 72 rfl) (hW hw 43 rfl) (hW hw 74 rfl) (fun _ hZ => notFace_of_selects (args := #[]) (mvT hZ (hW hw 73 rfl))) (by decide) f56 (m_hg1 l Z a0 hw _ _ _ _ m0 _ f56 f57 f58 f59 f60 f55 f41 f42 f43 f44 f46 (Nat.ne_of_lt (lL (lL l5 K27.1) (Nat.le_of_eq e30.symm))) (Nat.ne_of_gt (lL l5 g13)) (Nat.ne_of_lt (lL f18.lt (Nat.le_of_eq e30.symm))) (Nat.ne_of_gt (lL (lL l5 (lT K27.1 K35.1)) g40)) (Nat.ne_of_gt (lL (lL f18.lt K35.1) g40)) (Nat.ne_of_gt (lL l32 g40)) k0) (lenOf pd8 rfl) rfl rfl (bL rfl) (by decide) (by decide) (by decide) (by decide) (allS (mm 2 rfl) (allS (mm 1 rfl) (allS (mm 0 rfl) all0))) (fun v71 h72 L73 q74 K75 => ?_)
  obtain ⟨r61, d62, rfl, g63, g64, f65, f66, f67, f68, f69, f70⟩ := q74
  refine gA (mkF m_ 47 #[.val (.ref x), .val (.ref y), .val (.ref a1), .val (.ref a28), .unset] [(.ref r61)]) <| g_astore #[.val (.ref x), .val (.ref y), .val (.ref a1), .val (.ref a28), .val (.ref r61)] C eGC_47 rfl rfl <| g_aload C eGC_49 rfl rfl <| g_iconst 1 C eGC_51 (by decide) ?_
  refine g_invokevirtual [(.int 1)] [] 0 C eGC_52 (hW hw 108 rfl) (hW hw 109 rfl) (hW hw 111 rfl) (hW hw 110 rfl) (hW hw 43 rfl) (hW hw 112 rfl) (fun _ hZ => notFace_of_selects (args := #[]) (mvT hZ (hW hw 111 rfl))) (by decide) f65 (m_tb1 l Z a0 hw _ _ (1 : Int32) (1 : Int32) _ f65 f66 f67 f68 f70 f69 (by decide)) (lenOf pd13 rfl) rfl rfl (bL rfl) (by decide) (by decide) (by decide) (by decide) all0 (fun v83 h84 L85 q86 K87 => ?_)
  obtain ⟨z76, rfl, b77, f78, f79, f80, f81, f82⟩ := q86
  have f82 : Av Z h84 b77 .int [(.int 1)] := f82
  refine gA (mkF m_ 55 #[.val (.ref x), .val (.ref y), .val (.ref a1), .val (.ref a28), .val (.ref r61)] [(.ref z76)]) ?_
  exact g_retA C eGC_55 rfl rfl ⟨_, rfl, ⟨b77, f78, f79, f80, f81, f82⟩⟩ (by decide) (by decide)
theorem m_gcd2 (l : Launch) (Z : State) (a0 : Array Value) (hw : ∀ d ∈ tables_1, d.before a0 Z = true) (x y : Addr) (s m0 m1 : Int32) (h : Heap) (Xx : Big Z h x s [m0, m1]) (Xy : Big Z h y (1 : Int32) [(1 : Int32)]) (hs : ¬ s = 0) (k0 : ¬ m0 = 0) :
    MetW false l Z [] (⟨"java/math/BigInteger", "gcd", "(Ljava/math/BigInteger;)Ljava/math/BigInteger;"⟩ : MethodName) k13 5 (some (.object "java/math/BigInteger")) [] (rM 5 9 23 82) #[(.ref x), (.ref y)] [] h (fun v h' => ∃ z : Addr, v = some (.ref z) ∧ Big Z h' z 1 [1]) := by
  obtain ⟨arx, Ex, Sx, Gx, Bx, Ax⟩ := Xx
  have Ax : Av Z h arx .int [(.int m0), (.int m1)] := Ax
  obtain ⟨ary, Ey, Sy, Gy, By, Ay⟩ := Xy
  have Ay : Av Z h ary .int [(.int 1)] := Ay
  refine mO a0 #[.val (.ref x), .val (.ref y), .unset, .unset, .unset] (fun _ _ _ m_ _ _ _ hs0 C => ?_)
  refine Go.know (fun hX hK _ => ?_)
  refine g_aloadN C eGC_0 rfl rfl <| gF C eGC_1 (hW hw 34 rfl) Sy <| g_ifT 12 C eGC_4 (show ¬ (1 : Int32) = (0 : Int32) by decide) (by decide) (by decide) <| g_aloadN C eGC_12 rfl rfl <| gF C eGC_13 (hW hw 34 rfl) Sx <| g_ifT 24 C eGC_16 (show ¬ s = (0 : Int32) from hs) (by decide) (by decide) ?_
  refine g_new_ C eGC_24 (hW hw 41 rfl) (hW hw 42 rfl) (hW hw 43 rfl) (by decide) (by decide) (fun a1 h2 e3 E4 l5 f6 D7 => ?_)
  have K8 := keep_ext E4
  have f9 : fO Z h2 a1 (.int 0) := D7 (Or.inl (hW hw 50 rfl)) (ty := .int) (by decide)
  have f10 : fI Z h2 a1 (.int 0) := D7 (Or.inl (hW hw 54 rfl)) (ty := .int) (by decide)
  have f11 : fV Z h2 a1 .null := D7 (Or.inl (hW hw 69 rfl)) (ty := (.array .int)) (by decide)
  refine g_dup C eGC_27 rfl <| g_aloadN C eGC_28 rfl rfl ?_
  have f20 := (Gx.keep K8 nin0)
  have f21 := (Bx.keep K8)
  have f22 := (Ax.keep K8 nin0)
  refine g_invokespecial [(.ref x)] [(.ref a1)] 1 C eGC_29 rfl (hW hw 44 rfl) (hW hw 45 rfl) (hW hw 43 rfl) (hW hw 47 rfl) (by decide) (m_mbB2 l Z a0 hw _ _ _ m0 m1 _ f6 f11 f10 f9 f20 f21 f22 (Nat.ne_of_lt (lL Ex.lt (Nat.le_of_eq e3.symm))) (Nat.ne_of_lt (lL Ax.lt (Nat.le_of_eq e3.symm)))) (lenOf pd12 rfl) rfl rfl (bL rfl) (by decide) (by decide) (by decide) (by decide) (allS (mm 0 rfl) all0) (fun v23 h24 L25 q26 K27 => ?_)
  obtain ⟨rfl, d12, g13, f14, f15, f16, f17, f18, f19⟩ := q26
  refine gA (mkF m_ 32 #[.val (.ref x), .val (.ref y), .unset, .unset, .unset] [(.ref a1)]) <| g_astoreN #[.val (.ref x), .val (.ref y), .val (.ref a1), .unset, .unset] C eGC_32 rfl rfl ?_
  refine g_new_ C eGC_33 (hW hw 41 rfl) (hW hw 42 rfl) (hW hw 43 rfl) (by decide) (by decide) (fun a28 h29 e30 E31 l32 f33 D34 => ?_)
  have K35 := keep_ext E31
  have f36 : fO Z h29 a28 (.int 0) := D34 (Or.inl (hW hw 50 rfl)) (ty := .int) (by decide)
  have f37 : fI Z h29 a28 (.int 0) := D34 (Or.inl (hW hw 54 rfl)) (ty := .int) (by decide)
  have f38 : fV Z h29 a28 .null := D34 (Or.inl (hW hw 69 rfl)) (ty := (.array .int)) (by decide)
  refine g_dup C eGC_36 rfl <| g_aloadN C eGC_37 rfl rfl ?_
  have f47 := (((Gy.keep K8 nin0).keep K27 (ninS (Nat.ne_of_lt (lL Ey.lt (Nat.le_of_eq e3.symm))) nin0)).keep K35 nin0)
  have f48 := (((By.keep K8).keep K27).keep K35)
  have f49 := (((Ay.keep K8 nin0).keep K27 (ninS (Nat.ne_of_lt (lL Ay.lt (Nat.le_of_eq e3.symm))) nin0)).keep K35 nin0)
  refine g_invokespecial [(.ref y)] [(.ref a28)] 1 C eGC_38 rfl (hW hw 44 rfl) (hW hw 45 rfl) (hW hw 43 rfl) (hW hw 47 rfl) (by decide) (m_mbB1 l Z a0 hw _ _ _ (1 : Int32) _ f33 f38 f37 f36 f47 f48 f49 (Nat.ne_of_lt (lL (lL Ey.lt (lT K8.1 K27.1)) (Nat.le_of_eq e30.symm))) (Nat.ne_of_lt (lL (lL Ay.lt (lT K8.1 K27.1)) (Nat.le_of_eq e30.symm)))) (lenOf pd12 rfl) rfl rfl (bL rfl) (by decide) (by decide) (by decide) (by decide) (allS (mm 0 rfl) all0) (fun v50 h51 L52 q53 K54 => ?_)
  obtain ⟨rfl, d39, g40, f41, f42, f43, f44, f45, f46⟩ := q53
  refine gA (mkF m_ 41 #[.val (.ref x), .val (.ref y), .val (.ref a1), .unset, .unset] [(.ref a28)]) <| g_astoreN #[.val (.ref x), .val (.ref y), .val (.ref a1), .val (.ref a28), .unset] C eGC_41 rfl rfl ?_
  have f55 := ((f18.keep K35).keep K54)
  refine Go.take f55 (by decide) (by decide) (lT hX.1 (lT K8.1 g13)) (by rw [hs0]; exact (lT K8.1 g13)) ?_
  refine gA (mkF m_ 42 #[.val (.ref x), .val (.ref y), .val (.ref a1), .val (.ref a28), .unset] []) <| g_aloadN C eGC_42 rfl rfl <| g_aloadN C eGC_43 rfl rfl ?_
  have f56 := ((f14.keep K35).keep K54)
  have f57 := ((f15.keep K35 nin0).keep K54 (ninS (Nat.ne_of_lt (lL (lL l5 K27.1) (Nat.le_of_eq e30.symm))) nin0))
  have f58 := ((f16.keep K35 nin0).keep K54 (ninS (Nat.ne_of_lt (lL (lL l5 K27.1) (Nat.le_of_eq e30.symm))) nin0))
  have f59 := ((f17.keep K35 nin0).keep K54 (ninS (Nat.ne_of_lt (lL (lL l5 K27.1) (Nat.le_of_eq e30.symm))) nin0))
  have f60 := ((f19.keep K35 nin0).keep K54 (ninS (Nat.ne_of_lt (lL f18.lt (Nat.le_of_eq e30.symm))) nin0))
  refine g_invokevirtual [(.ref a28)] [] 0 C eGC_44 (hW hw 70 rfl) (hW hw 71 rfl) (hW hw 73 rfl) (hW hw 72 rfl) (hW hw 43 rfl) (hW hw 74 rfl) (fun _ hZ => notFace_of_selects (args := #[]) (mvT hZ (hW hw 73 rfl))) (by decide) f56 (m_hg2 l Z a0 hw _ _ _ _ m0 m1 _ f56 f57 f58 f59 f60 f55 f41 f42 f43 f44 f46 (Nat.ne_of_lt (lL (lL l5 K27.1) (Nat.le_of_eq e30.symm))) (Nat.ne_of_gt (lL l5 g13)) (Nat.ne_of_lt (lL f18.lt (Nat.le_of_eq e30.symm))) (Nat.ne_of_gt (lL (lL l5 (lT K27.1 K35.1)) g40)) (Nat.ne_of_gt (lL (lL f18.lt K35.1) g40)) (Nat.ne_of_gt (lL l32 g40)) k0) (lenOf pd8 rfl) rfl rfl (bL rfl) (by decide) (by decide) (by decide) (by decide) (allS (mm 2 rfl) (allS (mm 1 rfl) (allS (mm 0 rfl) all0))) (fun v71 h72 L73 q74 K75 => ?_)
  obtain ⟨r61, d62, rfl, g63, g64, f65, f66, f67, f68, f69, f70⟩ := q74
  refine gA (mkF m_ 47 #[.val (.ref x), .val (.ref y), .val (.ref a1), .val (.ref a28), .unset] [(.ref r61)]) <| g_astore #[.val (.ref x), .val (.ref y), .val (.ref a1), .val (.ref a28), .val (.ref r61)] C eGC_47 rfl rfl <| g_aload C eGC_49 rfl rfl <| g_iconst 1 C eGC_51 (by decide) ?_
  refine g_invokevirtual [(.int 1)] [] 0 C eGC_52 (hW hw 108 rfl) (hW hw 109 rfl) (hW hw 111 rfl) (hW hw 110 rfl) (hW hw 43 rfl) (hW hw 112 rfl) (fun _ hZ => notFace_of_selects (args := #[]) (mvT hZ (hW hw 111 rfl))) (by decide) f65 (m_tb1 l Z a0 hw _ _ (1 : Int32) (1 : Int32) _ f65 f66 f67 f68 f70 f69 (by decide)) (lenOf pd13 rfl) rfl rfl (bL rfl) (by decide) (by decide) (by decide) (by decide) all0 (fun v83 h84 L85 q86 K87 => ?_)
  obtain ⟨z76, rfl, b77, f78, f79, f80, f81, f82⟩ := q86
  have f82 : Av Z h84 b77 .int [(.int 1)] := f82
  refine gA (mkF m_ 55 #[.val (.ref x), .val (.ref y), .val (.ref a1), .val (.ref a28), .val (.ref r61)] [(.ref z76)]) ?_
  exact g_retA C eGC_55 rfl rfl ⟨_, rfl, ⟨b77, f78, f79, f80, f81, f82⟩⟩ (by decide) (by decide)
theorem own_s {s : Int32} (h : s = 1 ∨ s = -1) : ¬ s = 0 := by rcases h with rfl | rfl <;> decide
theorem m_gcd (l : Launch) (Z : State) (a0 : Array Value) (hw : ∀ d ∈ tables_1, d.before a0 Z = true) (x y : Addr) (s : Int32) (ms : List Int32) (h : Heap) (hc : Canon s ms) (Xx : Big Z h x s ms) (Xy : Big Z h y 1 [1]) :
    MetW false l Z [] (⟨"java/math/BigInteger", "gcd", "(Ljava/math/BigInteger;)Ljava/math/BigInteger;"⟩ : MethodName) k13 5 (some (.object "java/math/BigInteger")) [] (rM 5 9 23 82) #[(.ref x), (.ref y)] [] h (fun v h' => ∃ z : Addr, v = some (.ref z) ∧ Big Z h' z 1 [1]) := by
  rcases hc with ⟨rfl, rfl⟩ | ⟨hs, ⟨m, hm, rfl⟩ | ⟨p, q, hp, rfl⟩⟩
  · exact m_gcd0 l Z a0 hw x y h Xx Xy
  · exact m_gcd1 l Z a0 hw x y s m h Xx Xy (own_s hs) hm
  · exact m_gcd2 l Z a0 hw x y s p q h Xx Xy (own_s hs) hp
theorem eCL_0 : decode k17 0 = .ok (.aload_n 0, 1) := by decide +kernel
theorem eCL_1 : decode k17 1 = .ok (.aload_n 0, 1) := by decide +kernel
theorem eCL_2 : decode k17 2 = .ok (.iconst 0, 1) := by decide +kernel
theorem eCL_3 : decode k17 3 = .ok (.dup_x1, 1) := by decide +kernel
theorem eCL_4 : decode k17 4 = .ok (.putfield 21, 3) := by decide +kernel
theorem eCL_7 : decode k17 7 = .ok (.putfield 11, 3) := by decide +kernel
theorem eCL_10 : decode k17 10 = .ok (.iconst 0, 1) := by decide +kernel
theorem eCL_11 : decode k17 11 = .ok (.istore_n 1, 1) := by decide +kernel
theorem eCL_12 : decode k17 12 = .ok (.aload_n 0, 1) := by decide +kernel
theorem eCL_13 : decode k17 13 = .ok (.getfield 17, 3) := by decide +kernel
theorem eCL_16 : decode k17 16 = .ok (.arraylength, 1) := by decide +kernel
theorem eCL_17 : decode k17 17 = .ok (.istore_n 2, 1) := by decide +kernel
theorem eCL_18 : decode k17 18 = .ok (.iload_n 1, 1) := by decide +kernel
theorem eCL_19 : decode k17 19 = .ok (.iload_n 2, 1) := by decide +kernel
theorem eCL_20 : decode k17 20 = .ok (.if_icmp .ge 16, 3) := by decide +kernel
theorem eCL_23 : decode k17 23 = .ok (.aload_n 0, 1) := by decide +kernel
theorem eCL_24 : decode k17 24 = .ok (.getfield 17, 3) := by decide +kernel
theorem eCL_27 : decode k17 27 = .ok (.iload_n 1, 1) := by decide +kernel
theorem eCL_28 : decode k17 28 = .ok (.iconst 0, 1) := by decide +kernel
theorem eCL_29 : decode k17 29 = .ok (.iastore, 1) := by decide +kernel
theorem eCL_30 : decode k17 30 = .ok (.iinc 1 1, 3) := by decide +kernel
theorem eCL_33 : decode k17 33 = .ok (.goto (-15), 3) := by decide +kernel
theorem eCL_36 : decode k17 36 = .ok (.return_, 1) := by decide +kernel
theorem m_clear (l : Launch) (Z : State) (a0 : Array Value) (hw : ∀ d ∈ tables_1, d.before a0 Z = true) (a b : Addr) (h : Heap) (E : eM Z h a) (F0 : fV Z h a (.ref b)) (F1 : fI Z h a (.int 0)) (F2 : fO Z h a (.int 0)) (A : Av Z h b .int [(.int 0)]) (hba : b ≠ a) :
    MetW false l Z [] (⟨"java/math/MutableBigInteger", "clear", "()V"⟩ : MethodName) k17 3 none [] (rM 0 0 0 0) #[(.ref a)] [a, b] h (fun v h' => v = none ∧ eM Z h' a ∧ fV Z h' a (.ref b) ∧ fI Z h' a (.int 0) ∧ fO Z h' a (.int 0) ∧ Av Z h' b .int [(.int 0)]) := by
  refine mO a0 #[.val (.ref a), .unset, .unset] (fun _ _ _ m_ _ _ _ hs0 C => ?_)
  refine g_aloadN C eCL_0 rfl rfl <| g_aloadN C eCL_1 rfl rfl <| g_iconst 0 C eCL_2 (by decide) <| g_dupX1 C eCL_3 rfl rfl ?_
  refine g_putfield (host := "") C eCL_4 (Or.inl (hW hw 53 rfl)) Via.refl F1 E (Or.inl (hW hw 54 rfl)) (hW hw 42 rfl) (ty := .int) (by decide) rfl rfl (mm 0 rfl) (fun h1 W2 K3 => ?_)
  have f4 := Fld.same W2 F1
  have f5 := Fld.other W2 F0 (Or.inr (s69_54 hw))
  have f6 := Fld.other W2 F2 (Or.inr (s50_54 hw))
  have f7 := (E.keep K3)
  refine g_putfield (host := "") C eCL_7 (Or.inl (hW hw 49 rfl)) Via.refl f6 f7 (Or.inl (hW hw 50 rfl)) (hW hw 42 rfl) (ty := .int) (by decide) rfl rfl (mm 0 rfl) (fun h8 W9 K10 => ?_)
  have f11 := Fld.same W9 f6
  have f12 := Fld.other W9 f5 (Or.inr (s69_50 hw))
  have f13 := Fld.other W9 f4 (Or.inr (s54_50 hw))
  refine g_iconst 0 C eCL_10 (by decide) <| g_istoreN #[.val (.ref a), .val (.int 0), .unset] C eCL_11 rfl <| g_aloadN C eCL_12 rfl rfl <| gF C eCL_13 (hW hw 68 rfl) f12 ?_
  have f14 := ((A.keep K3 (ninS hba nin0)).keep K10 (ninS hba nin0))
  refine g_alen C eCL_16 f14 (z := (1 : Int32)) rfl <| g_istoreN #[.val (.ref a), .val (.int 0), .val (.int 1)] C eCL_17 rfl <| g_iloadN C eCL_18 rfl <| g_iloadN C eCL_19 rfl <| g_icmpF C eCL_20 (show (0 : Int32) < (1 : Int32) by decide) <| g_aloadN C eCL_23 rfl rfl <| gF C eCL_24 (hW hw 68 rfl) f12 <| g_iloadN C eCL_27 rfl <| g_iconst 0 C eCL_28 (by decide) ?_
  refine g_iastore 0 C eCL_29 f14 (by decide) (by decide) (bL rfl) (mm 1 rfl) (fun h15 K16 z17 f18 => ?_)
  have f19 : Av Z h15 b .int [(.int 0)] := f18
  refine g_iinc (1 : Int32) #[.val (.ref a), .val (.int 1), .val (.int 1)] C eCL_30 rfl (by decide) rfl <| g_goto 18 C eCL_33 (by decide) (by decide) <| g_iloadN C eCL_18 rfl <| g_iloadN C eCL_19 rfl <| g_icmpT 36 C eCL_20 (show ¬ (1 : Int32) < (1 : Int32) by decide) (by decide) (by decide) ?_
  have f20 := ((f7.keep K10).keep K16)
  have f21 := (f12.keep K16 (ninS (Ne.symm hba) nin0))
  have f22 := (f13.keep K16 (ninS (Ne.symm hba) nin0))
  have f23 := (f11.keep K16 (ninS (Ne.symm hba) nin0))
  exact g_retU C eCL_36 ⟨rfl, f20, f21, f22, f23, f19⟩ (by decide) (by decide)
theorem eDO_0 : decode k28 0 = .ok (.iload_n 1, 1) := by decide +kernel
theorem eDO_1 : decode k28 1 = .ok (.i2l, 1) := by decide +kernel
theorem eDO_2 : decode k28 2 = .ok (.ldc2_w 52, 3) := by decide +kernel
theorem eDO_5 : decode k28 5 = .ok (.land, 1) := by decide +kernel
theorem eDO_6 : decode k28 6 = .ok (.lstore_n 3, 1) := by decide +kernel
theorem eDO_7 : decode k28 7 = .ok (.aload_n 0, 1) := by decide +kernel
theorem eDO_8 : decode k28 8 = .ok (.getfield 21, 3) := by decide +kernel
theorem eDO_11 : decode k28 11 = .ok (.iconst 1, 1) := by decide +kernel
theorem eDO_12 : decode k28 12 = .ok (.if_icmp .ne 67, 3) := by decide +kernel
theorem eDO_15 : decode k28 15 = .ok (.aload_n 0, 1) := by decide +kernel
theorem eDO_16 : decode k28 16 = .ok (.getfield 17, 3) := by decide +kernel
theorem eDO_19 : decode k28 19 = .ok (.aload_n 0, 1) := by decide +kernel
theorem eDO_20 : decode k28 20 = .ok (.getfield 11, 3) := by decide +kernel
theorem eDO_23 : decode k28 23 = .ok (.iaload, 1) := by decide +kernel
theorem eDO_24 : decode k28 24 = .ok (.i2l, 1) := by decide +kernel
theorem eDO_25 : decode k28 25 = .ok (.ldc2_w 52, 3) := by decide +kernel
theorem eDO_28 : decode k28 28 = .ok (.land, 1) := by decide +kernel
theorem eDO_29 : decode k28 29 = .ok (.lstore 5, 2) := by decide +kernel
theorem eDO_31 : decode k28 31 = .ok (.lload 5, 2) := by decide +kernel
theorem eDO_33 : decode k28 33 = .ok (.lload_n 3, 1) := by decide +kernel
theorem eDO_34 : decode k28 34 = .ok (.ldiv, 1) := by decide +kernel
theorem eDO_35 : decode k28 35 = .ok (.l2i, 1) := by decide +kernel
theorem eDO_36 : decode k28 36 = .ok (.istore 7, 2) := by decide +kernel
theorem eDO_38 : decode k28 38 = .ok (.lload 5, 2) := by decide +kernel
theorem eDO_40 : decode k28 40 = .ok (.iload 7, 2) := by decide +kernel
theorem eDO_42 : decode k28 42 = .ok (.i2l, 1) := by decide +kernel
theorem eDO_43 : decode k28 43 = .ok (.lload_n 3, 1) := by decide +kernel
theorem eDO_44 : decode k28 44 = .ok (.lmul, 1) := by decide +kernel
theorem eDO_45 : decode k28 45 = .ok (.lsub, 1) := by decide +kernel
theorem eDO_46 : decode k28 46 = .ok (.l2i, 1) := by decide +kernel
theorem eDO_47 : decode k28 47 = .ok (.istore 8, 2) := by decide +kernel
theorem eDO_49 : decode k28 49 = .ok (.aload_n 2, 1) := by decide +kernel
theorem eDO_50 : decode k28 50 = .ok (.getfield 17, 3) := by decide +kernel
theorem eDO_53 : decode k28 53 = .ok (.iconst 0, 1) := by decide +kernel
theorem eDO_54 : decode k28 54 = .ok (.iload 7, 2) := by decide +kernel
theorem eDO_56 : decode k28 56 = .ok (.iastore, 1) := by decide +kernel
theorem eDO_57 : decode k28 57 = .ok (.aload_n 2, 1) := by decide +kernel
theorem eDO_58 : decode k28 58 = .ok (.iload 7, 2) := by decide +kernel
theorem eDO_60 : decode k28 60 = .ok (.ifCond .ne 7, 3) := by decide +kernel
theorem eDO_67 : decode k28 67 = .ok (.iconst 1, 1) := by decide +kernel
theorem eDO_68 : decode k28 68 = .ok (.putfield 21, 3) := by decide +kernel
theorem eDO_71 : decode k28 71 = .ok (.aload_n 2, 1) := by decide +kernel
theorem eDO_72 : decode k28 72 = .ok (.iconst 0, 1) := by decide +kernel
theorem eDO_73 : decode k28 73 = .ok (.putfield 11, 3) := by decide +kernel
theorem eDO_76 : decode k28 76 = .ok (.iload 8, 2) := by decide +kernel
theorem eDO_78 : decode k28 78 = .ok (.ireturn, 1) := by decide +kernel
theorem m_do1 (l : Launch) (Z : State) (a0 : Array Value) (hw : ∀ d ∈ tables_1, d.before a0 Z = true) (a b c d : Addr) (m0 : Int32) (h : Heap) (E : eM Z h a) (F0 : fV Z h a (.ref b)) (F1 : fI Z h a (.int 1)) (F2 : fO Z h a (.int 0)) (A : Av Z h b .int [(.int m0)]) (E' : eM Z h c) (G0 : fV Z h c (.ref d)) (G1 : fI Z h c (.int 0)) (G2 : fO Z h c (.int 0)) (B : Av Z h d .int [(.int 0)]) (Ed : Exa Z h d "[I") (nac : a ≠ c) (nbc : b ≠ c) (nad : a ≠ d) (nbd : b ≠ d) (ndc : d ≠ c) (k0 : ¬ m0 = 0) :
    MetW false l Z [] (⟨"java/math/MutableBigInteger", "divideOneWord", "(ILjava/math/MutableBigInteger;)I"⟩ : MethodName) k28 15 (some .int) [] (rM 1 1 2 15) #[(.ref a), (.int 1), (.ref c)] [c, d] h (fun v h' => ∃ z : Int32, v = some (.int z) ∧ ∃ d' : Addr, eM Z h' c ∧ fV Z h' c (.ref d') ∧ fI Z h' c (.int 1) ∧ fO Z h' c (.int 0) ∧ Exa Z h' d' "[I" ∧ Av Z h' d' .int [(.int m0)]) := by
  refine mO a0 #[.val (.ref a), .val (.int 1), .val (.ref c), .unset, .unset, .unset, .unset, .unset, .unset, .unset, .unset, .unset, .unset, .unset, .unset] (fun _ _ _ m_ _ _ _ hs0 C => ?_)
  refine g_iloadN C eDO_0 rfl <| g_i2l (1 : Int64) C eDO_1 (by decide) <| g_ldc2w (4294967295 : Int64) C eDO_2 (hW hw 167 rfl) <| g_land (1 : Int64) C eDO_5 (by decide) <| g_lstoreN #[.val (.ref a), .val (.int 1), .val (.ref c), .val (.long (1 : Int64)), .second, .unset, .unset, .unset, .unset, .unset, .unset, .unset, .unset, .unset, .unset] C eDO_6 rfl <| g_aloadN C eDO_7 rfl rfl <| gF C eDO_8 (hW hw 53 rfl) F1 <| g_iconst 1 C eDO_11 (by decide) <| g_icmpF C eDO_12 (show (1 : Int32) = (1 : Int32) by decide) <| g_aloadN C eDO_15 rfl rfl <| gF C eDO_16 (hW hw 68 rfl) F0 ?_
  refine g_aloadN C eDO_19 rfl rfl <| gF C eDO_20 (hW hw 49 rfl) F2 <| g_iaload 0 C eDO_23 A (by decide) (by decide) rfl <| g_i2l _ C eDO_24 rfl <| g_ldc2w (4294967295 : Int64) C eDO_25 (hW hw 167 rfl) <| g_land _ C eDO_28 rfl <| g_lstore #[.val (.ref a), .val (.int 1), .val (.ref c), .val (.long (1 : Int64)), .second, .val (.long ((m0.toInt64) &&& (4294967295 : Int64))), .second, .unset, .unset, .unset, .unset, .unset, .unset, .unset, .unset] C eDO_29 rfl <| g_lload C eDO_31 rfl <| g_lloadN C eDO_33 rfl <| g_ldiv _ C eDO_34 (by decide) rfl <| g_l2i _ C eDO_35 rfl ?_
  rw [own_div1]
  refine gA (mkF m_ 36 #[.val (.ref a), .val (.int 1), .val (.ref c), .val (.long (1 : Int64)), .second, .val (.long ((m0.toInt64) &&& (4294967295 : Int64))), .second, .unset, .unset, .unset, .unset, .unset, .unset, .unset, .unset] [(.int m0)]) <| g_istore #[.val (.ref a), .val (.int 1), .val (.ref c), .val (.long (1 : Int64)), .second, .val (.long ((m0.toInt64) &&& (4294967295 : Int64))), .second, .val (.int m0), .unset, .unset, .unset, .unset, .unset, .unset, .unset] C eDO_36 rfl <| g_lload C eDO_38 rfl <| g_iload C eDO_40 rfl <| g_i2l _ C eDO_42 rfl <| g_lloadN C eDO_43 rfl <| g_lmul _ C eDO_44 rfl <| g_lsub _ C eDO_45 rfl <| g_l2i _ C eDO_46 rfl <| g_istore #[.val (.ref a), .val (.int 1), .val (.ref c), .val (.long (1 : Int64)), .second, .val (.long ((m0.toInt64) &&& (4294967295 : Int64))), .second, .val (.int m0), .val (.int ((((m0.toInt64) &&& (4294967295 : Int64)) - ((m0.toInt64) * (1 : Int64))).toInt32)), .unset, .unset, .unset, .unset, .unset, .unset] C eDO_47 rfl <| g_aloadN C eDO_49 rfl rfl ?_
  refine gF C eDO_50 (hW hw 68 rfl) G0 <| g_iconst 0 C eDO_53 (by decide) <| g_iload C eDO_54 rfl ?_
  refine g_iastore 0 C eDO_56 B (by decide) (by decide) (bL rfl) (mm 1 rfl) (fun h1 K2 z3 f4 => ?_)
  have f5 : Av Z h1 d .int [(.int m0)] := f4
  refine g_aloadN C eDO_57 rfl rfl <| g_iload C eDO_58 rfl <| g_ifT 67 C eDO_60 (show ¬ m0 = (0 : Int32) from k0) (by decide) (by decide) <| g_iconst 1 C eDO_67 (by decide) ?_
  have f6 := (G1.keep K2 (ninS (Ne.symm ndc) nin0))
  have f7 := (E'.keep K2)
  have f8 := (G0.keep K2 (ninS (Ne.symm ndc) nin0))
  have f9 := (G2.keep K2 (ninS (Ne.symm ndc) nin0))
  refine g_putfield (host := "") C eDO_68 (Or.inl (hW hw 53 rfl)) Via.refl f6 f7 (Or.inl (hW hw 54 rfl)) (hW hw 42 rfl) (ty := .int) (by decide) rfl rfl (mm 0 rfl) (fun h10 W11 K12 => ?_)
  have f13 := Fld.same W11 f6
  have f14 := Fld.other W11 f8 (Or.inr (s69_54 hw))
  have f15 := Fld.other W11 f9 (Or.inr (s50_54 hw))
  refine g_aloadN C eDO_71 rfl rfl <| g_iconst 0 C eDO_72 (by decide) ?_
  have f16 := (f7.keep K12)
  refine g_putfield (host := "") C eDO_73 (Or.inl (hW hw 49 rfl)) Via.refl f15 f16 (Or.inl (hW hw 50 rfl)) (hW hw 42 rfl) (ty := .int) (by decide) rfl rfl (mm 0 rfl) (fun h17 W18 K19 => ?_)
  have f20 := Fld.same W18 f15
  have f21 := Fld.other W18 f14 (Or.inr (s69_50 hw))
  have f22 := Fld.other W18 f13 (Or.inr (s54_50 hw))
  refine g_iload C eDO_76 rfl ?_
  have f23 := (f16.keep K19)
  have f24 := (((Ed.keep K2).keep K12).keep K19)
  have f25 := ((f5.keep K12 (ninS ndc nin0)).keep K19 (ninS ndc nin0))
  exact g_retI C eDO_78 ⟨_, rfl, d, f23, f21, f22, f20, f24, f25⟩ (by decide) (by decide)
theorem eDO_79 : decode k28 79 = .ok (.aload_n 2, 1) := by decide +kernel
theorem eDO_80 : decode k28 80 = .ok (.getfield 17, 3) := by decide +kernel
theorem eDO_83 : decode k28 83 = .ok (.arraylength, 1) := by decide +kernel
theorem eDO_84 : decode k28 84 = .ok (.aload_n 0, 1) := by decide +kernel
theorem eDO_85 : decode k28 85 = .ok (.getfield 21, 3) := by decide +kernel
theorem eDO_88 : decode k28 88 = .ok (.if_icmp .ge 13, 3) := by decide +kernel
theorem eDO_91 : decode k28 91 = .ok (.aload_n 2, 1) := by decide +kernel
theorem eDO_92 : decode k28 92 = .ok (.aload_n 0, 1) := by decide +kernel
theorem eDO_93 : decode k28 93 = .ok (.getfield 21, 3) := by decide +kernel
theorem eDO_96 : decode k28 96 = .ok (.newarray .int, 2) := by decide +kernel
theorem eDO_98 : decode k28 98 = .ok (.putfield 17, 3) := by decide +kernel
theorem eDO_101 : decode k28 101 = .ok (.aload_n 2, 1) := by decide +kernel
theorem eDO_102 : decode k28 102 = .ok (.iconst 0, 1) := by decide +kernel
theorem eDO_103 : decode k28 103 = .ok (.putfield 11, 3) := by decide +kernel
theorem eDO_106 : decode k28 106 = .ok (.aload_n 2, 1) := by decide +kernel
theorem eDO_107 : decode k28 107 = .ok (.aload_n 0, 1) := by decide +kernel
theorem eDO_108 : decode k28 108 = .ok (.getfield 21, 3) := by decide +kernel
theorem eDO_111 : decode k28 111 = .ok (.putfield 21, 3) := by decide +kernel
theorem eDO_114 : decode k28 114 = .ok (.iload_n 1, 1) := by decide +kernel
theorem eDO_115 : decode k28 115 = .ok (.invokestatic 152, 3) := by decide +kernel
theorem eDO_118 : decode k28 118 = .ok (.istore 5, 2) := by decide +kernel
theorem eDO_120 : decode k28 120 = .ok (.aload_n 0, 1) := by decide +kernel
theorem eDO_121 : decode k28 121 = .ok (.getfield 17, 3) := by decide +kernel
theorem eDO_124 : decode k28 124 = .ok (.aload_n 0, 1) := by decide +kernel
theorem eDO_125 : decode k28 125 = .ok (.getfield 11, 3) := by decide +kernel
theorem eDO_128 : decode k28 128 = .ok (.iaload, 1) := by decide +kernel
theorem eDO_129 : decode k28 129 = .ok (.istore 6, 2) := by decide +kernel
theorem eDO_131 : decode k28 131 = .ok (.iload 6, 2) := by decide +kernel
theorem eDO_133 : decode k28 133 = .ok (.i2l, 1) := by decide +kernel
theorem eDO_134 : decode k28 134 = .ok (.ldc2_w 52, 3) := by decide +kernel
theorem eDO_137 : decode k28 137 = .ok (.land, 1) := by decide +kernel
theorem eDO_138 : decode k28 138 = .ok (.lstore 7, 2) := by decide +kernel
theorem eDO_140 : decode k28 140 = .ok (.lload 7, 2) := by decide +kernel
theorem eDO_142 : decode k28 142 = .ok (.lload_n 3, 1) := by decide +kernel
theorem eDO_143 : decode k28 143 = .ok (.lcmp, 1) := by decide +kernel
theorem eDO_144 : decode k28 144 = .ok (.ifCond .ge 13, 3) := by decide +kernel
theorem eDO_157 : decode k28 157 = .ok (.aload_n 2, 1) := by decide +kernel
theorem eDO_158 : decode k28 158 = .ok (.getfield 17, 3) := by decide +kernel
theorem eDO_161 : decode k28 161 = .ok (.iconst 0, 1) := by decide +kernel
theorem eDO_162 : decode k28 162 = .ok (.lload 7, 2) := by decide +kernel
theorem eDO_164 : decode k28 164 = .ok (.lload_n 3, 1) := by decide +kernel
theorem eDO_165 : decode k28 165 = .ok (.ldiv, 1) := by decide +kernel
theorem eDO_166 : decode k28 166 = .ok (.l2i, 1) := by decide +kernel
theorem eDO_167 : decode k28 167 = .ok (.iastore, 1) := by decide +kernel
theorem eDO_168 : decode k28 168 = .ok (.lload 7, 2) := by decide +kernel
theorem eDO_170 : decode k28 170 = .ok (.aload_n 2, 1) := by decide +kernel
theorem eDO_171 : decode k28 171 = .ok (.getfield 17, 3) := by decide +kernel
theorem eDO_174 : decode k28 174 = .ok (.iconst 0, 1) := by decide +kernel
theorem eDO_175 : decode k28 175 = .ok (.iaload, 1) := by decide +kernel
theorem eDO_176 : decode k28 176 = .ok (.i2l, 1) := by decide +kernel
theorem eDO_177 : decode k28 177 = .ok (.lload_n 3, 1) := by decide +kernel
theorem eDO_178 : decode k28 178 = .ok (.lmul, 1) := by decide +kernel
theorem eDO_179 : decode k28 179 = .ok (.lsub, 1) := by decide +kernel
theorem eDO_180 : decode k28 180 = .ok (.l2i, 1) := by decide +kernel
theorem eDO_181 : decode k28 181 = .ok (.istore 6, 2) := by decide +kernel
theorem eDO_183 : decode k28 183 = .ok (.iload 6, 2) := by decide +kernel
theorem eDO_185 : decode k28 185 = .ok (.i2l, 1) := by decide +kernel
theorem eDO_186 : decode k28 186 = .ok (.ldc2_w 52, 3) := by decide +kernel
theorem eDO_189 : decode k28 189 = .ok (.land, 1) := by decide +kernel
theorem eDO_190 : decode k28 190 = .ok (.lstore 7, 2) := by decide +kernel
theorem eDO_192 : decode k28 192 = .ok (.aload_n 0, 1) := by decide +kernel
theorem eDO_193 : decode k28 193 = .ok (.getfield 21, 3) := by decide +kernel
theorem eDO_196 : decode k28 196 = .ok (.istore 9, 2) := by decide +kernel
theorem eDO_198 : decode k28 198 = .ok (.iinc 9 (-1), 3) := by decide +kernel
theorem eDO_201 : decode k28 201 = .ok (.iload 9, 2) := by decide +kernel
theorem eDO_203 : decode k28 203 = .ok (.ifCond .le 112, 3) := by decide +kernel
theorem eDO_206 : decode k28 206 = .ok (.lload 7, 2) := by decide +kernel
theorem eDO_208 : decode k28 208 = .ok (.bipush 32, 2) := by decide +kernel
theorem eDO_210 : decode k28 210 = .ok (.lshl, 1) := by decide +kernel
theorem eDO_211 : decode k28 211 = .ok (.aload_n 0, 1) := by decide +kernel
theorem eDO_212 : decode k28 212 = .ok (.getfield 17, 3) := by decide +kernel
theorem eDO_215 : decode k28 215 = .ok (.aload_n 0, 1) := by decide +kernel
theorem eDO_216 : decode k28 216 = .ok (.getfield 11, 3) := by decide +kernel
theorem eDO_219 : decode k28 219 = .ok (.aload_n 0, 1) := by decide +kernel
theorem eDO_220 : decode k28 220 = .ok (.getfield 21, 3) := by decide +kernel
theorem eDO_223 : decode k28 223 = .ok (.iadd, 1) := by decide +kernel
theorem eDO_224 : decode k28 224 = .ok (.iload 9, 2) := by decide +kernel
theorem eDO_226 : decode k28 226 = .ok (.isub, 1) := by decide +kernel
theorem eDO_227 : decode k28 227 = .ok (.iaload, 1) := by decide +kernel
theorem eDO_228 : decode k28 228 = .ok (.i2l, 1) := by decide +kernel
theorem eDO_229 : decode k28 229 = .ok (.ldc2_w 52, 3) := by decide +kernel
theorem eDO_232 : decode k28 232 = .ok (.land, 1) := by decide +kernel
theorem eDO_233 : decode k28 233 = .ok (.lor, 1) := by decide +kernel
theorem eDO_234 : decode k28 234 = .ok (.lstore 10, 2) := by decide +kernel
theorem eDO_236 : decode k28 236 = .ok (.lload 10, 2) := by decide +kernel
theorem eDO_238 : decode k28 238 = .ok (.lconst 0, 1) := by decide +kernel
theorem eDO_239 : decode k28 239 = .ok (.lcmp, 1) := by decide +kernel
theorem eDO_240 : decode k28 240 = .ok (.ifCond .lt 24, 3) := by decide +kernel
theorem eDO_243 : decode k28 243 = .ok (.lload 10, 2) := by decide +kernel
theorem eDO_245 : decode k28 245 = .ok (.lload_n 3, 1) := by decide +kernel
theorem eDO_246 : decode k28 246 = .ok (.ldiv, 1) := by decide +kernel
theorem eDO_247 : decode k28 247 = .ok (.l2i, 1) := by decide +kernel
theorem eDO_248 : decode k28 248 = .ok (.istore 12, 2) := by decide +kernel
theorem eDO_250 : decode k28 250 = .ok (.lload 10, 2) := by decide +kernel
theorem eDO_252 : decode k28 252 = .ok (.iload 12, 2) := by decide +kernel
theorem eDO_254 : decode k28 254 = .ok (.i2l, 1) := by decide +kernel
theorem eDO_255 : decode k28 255 = .ok (.lload_n 3, 1) := by decide +kernel
theorem eDO_256 : decode k28 256 = .ok (.lmul, 1) := by decide +kernel
theorem eDO_257 : decode k28 257 = .ok (.lsub, 1) := by decide +kernel
theorem eDO_258 : decode k28 258 = .ok (.l2i, 1) := by decide +kernel
theorem eDO_259 : decode k28 259 = .ok (.istore 6, 2) := by decide +kernel
theorem eDO_261 : decode k28 261 = .ok (.goto 28, 3) := by decide +kernel
theorem eDO_289 : decode k28 289 = .ok (.aload_n 2, 1) := by decide +kernel
theorem eDO_290 : decode k28 290 = .ok (.getfield 17, 3) := by decide +kernel
theorem eDO_293 : decode k28 293 = .ok (.aload_n 0, 1) := by decide +kernel
theorem eDO_294 : decode k28 294 = .ok (.getfield 21, 3) := by decide +kernel
theorem eDO_297 : decode k28 297 = .ok (.iload 9, 2) := by decide +kernel
theorem eDO_299 : decode k28 299 = .ok (.isub, 1) := by decide +kernel
theorem eDO_300 : decode k28 300 = .ok (.iload 12, 2) := by decide +kernel
theorem eDO_302 : decode k28 302 = .ok (.iastore, 1) := by decide +kernel
theorem eDO_303 : decode k28 303 = .ok (.iload 6, 2) := by decide +kernel
theorem eDO_305 : decode k28 305 = .ok (.i2l, 1) := by decide +kernel
theorem eDO_306 : decode k28 306 = .ok (.ldc2_w 52, 3) := by decide +kernel
theorem eDO_309 : decode k28 309 = .ok (.land, 1) := by decide +kernel
theorem eDO_310 : decode k28 310 = .ok (.lstore 7, 2) := by decide +kernel
theorem eDO_312 : decode k28 312 = .ok (.goto (-114), 3) := by decide +kernel
theorem eDO_315 : decode k28 315 = .ok (.aload_n 2, 1) := by decide +kernel
theorem eDO_316 : decode k28 316 = .ok (.invokevirtual 64, 3) := by decide +kernel
theorem eDO_319 : decode k28 319 = .ok (.iload 5, 2) := by decide +kernel
theorem eDO_321 : decode k28 321 = .ok (.ifCond .le 8, 3) := by decide +kernel
theorem eDO_324 : decode k28 324 = .ok (.iload 6, 2) := by decide +kernel
theorem eDO_326 : decode k28 326 = .ok (.iload_n 1, 1) := by decide +kernel
theorem eDO_327 : decode k28 327 = .ok (.irem, 1) := by decide +kernel
theorem eDO_328 : decode k28 328 = .ok (.ireturn, 1) := by decide +kernel
theorem m_do2 (l : Launch) (Z : State) (a0 : Array Value) (hw : ∀ d ∈ tables_1, d.before a0 Z = true) (a b c d : Addr) (m0 m1 : Int32) (h : Heap) (E : eM Z h a) (F0 : fV Z h a (.ref b)) (F1 : fI Z h a (.int 2)) (F2 : fO Z h a (.int 0)) (A : Av Z h b .int [(.int m0), (.int m1)]) (E' : eM Z h c) (G0 : fV Z h c (.ref d)) (G1 : fI Z h c (.int 0)) (G2 : fO Z h c (.int 0)) (B : Av Z h d .int [(.int 0)]) (Ed : Exa Z h d "[I") (nac : a ≠ c) (nbc : b ≠ c) (nad : a ≠ d) (nbd : b ≠ d) (ndc : d ≠ c) (k0 : ¬ m0 = 0) :
    MetW false l Z [] (⟨"java/math/MutableBigInteger", "divideOneWord", "(ILjava/math/MutableBigInteger;)I"⟩ : MethodName) k28 15 (some .int) [] (rM 1 1 2 15) #[(.ref a), (.int 1), (.ref c)] [c, d] h (fun v h' => ∃ z : Int32, v = some (.int z) ∧ ∃ d' : Addr, eM Z h' c ∧ fV Z h' c (.ref d') ∧ fI Z h' c (.int 2) ∧ fO Z h' c (.int 0) ∧ Exa Z h' d' "[I" ∧ Av Z h' d' .int [(.int m0), (.int m1)]) := by
  refine mO a0 #[.val (.ref a), .val (.int 1), .val (.ref c), .unset, .unset, .unset, .unset, .unset, .unset, .unset, .unset, .unset, .unset, .unset, .unset] (fun _ _ _ m_ _ _ _ hs0 C => ?_)
  refine g_iloadN C eDO_0 rfl <| g_i2l (1 : Int64) C eDO_1 (by decide) <| g_ldc2w (4294967295 : Int64) C eDO_2 (hW hw 167 rfl) <| g_land (1 : Int64) C eDO_5 (by decide) <| g_lstoreN #[.val (.ref a), .val (.int 1), .val (.ref c), .val (.long (1 : Int64)), .second, .unset, .unset, .unset, .unset, .unset, .unset, .unset, .unset, .unset, .unset] C eDO_6 rfl <| g_aloadN C eDO_7 rfl rfl <| gF C eDO_8 (hW hw 53 rfl) F1 <| g_iconst 1 C eDO_11 (by decide) <| g_icmpT 79 C eDO_12 (show ¬ (2 : Int32) = (1 : Int32) by decide) (by decide) (by decide) <| g_aloadN C eDO_79 rfl rfl <| gF C eDO_80 (hW hw 68 rfl) G0 ?_
  refine g_alen C eDO_83 B (z := (1 : Int32)) rfl <| g_aloadN C eDO_84 rfl rfl <| gF C eDO_85 (hW hw 53 rfl) F1 <| g_icmpF C eDO_88 (show (1 : Int32) < (2 : Int32) by decide) <| g_aloadN C eDO_91 rfl rfl <| g_aloadN C eDO_92 rfl rfl <| gF C eDO_93 (hW hw 53 rfl) F1 ?_
  refine g_newarray_ (ad := "[I") 2 [(.int 0), (.int 0)] C eDO_96 (hW hw 79 rfl) (by decide) (by decide) (by decide) (by decide) (by decide) (by decide) (by decide) (fun a1 h2 e3 E4 l5 f6 f7 => ?_)
  have K8 := keep_ext E4
  have f9 := (G0.keep K8 nin0)
  have f10 := (E'.keep K8)
  have f11 := (G1.keep K8 nin0)
  have f12 := (G2.keep K8 nin0)
  refine g_putfield (host := "") C eDO_98 (Or.inl (hW hw 68 rfl)) Via.refl f9 f10 (Or.inl (hW hw 69 rfl)) (hW hw 42 rfl) (ty := (.array .int)) (by decide) rfl rfl (mm 1 rfl) (fun h13 W14 K15 => ?_)
  have f16 := Fld.same W14 f9
  have f17 := Fld.other W14 f11 (Or.inr (s54_69 hw))
  have f18 := Fld.other W14 f12 (Or.inr (s50_69 hw))
  refine g_aloadN C eDO_101 rfl rfl <| g_iconst 0 C eDO_102 (by decide) ?_
  have f19 := (f10.keep K15)
  refine g_putfield (host := "") C eDO_103 (Or.inl (hW hw 49 rfl)) Via.refl f18 f19 (Or.inl (hW hw 50 rfl)) (hW hw 42 rfl) (ty := .int) (by decide) rfl rfl (mm 1 rfl) (fun h20 W21 K22 => ?_)
  have f23 := Fld.same W21 f18
  have f24 := Fld.other W21 f16 (Or.inr (s69_50 hw))
  have f25 := Fld.other W21 f17 (Or.inr (s54_50 hw))
  refine g_aloadN C eDO_106 rfl rfl <| g_aloadN C eDO_107 rfl rfl ?_
  have f26 := (((F1.keep K8 nin0).keep K15 (ninS nac nin0)).keep K22 (ninS nac nin0))
  refine gF C eDO_108 (hW hw 53 rfl) f26 ?_
  have f27 := (f19.keep K22)
  refine g_putfield (host := "") C eDO_111 (Or.inl (hW hw 53 rfl)) Via.refl f25 f27 (Or.inl (hW hw 54 rfl)) (hW hw 42 rfl) (ty := .int) (by decide) rfl rfl (mm 1 rfl) (fun h28 W29 K30 => ?_)
  have f31 := Fld.same W29 f25
  have f32 := Fld.other W29 f24 (Or.inr (s69_54 hw))
  have f33 := Fld.other W29 f23 (Or.inr (s50_54 hw))
  refine g_iloadN C eDO_114 rfl ?_
  refine g_invokestatic [(.int 1)] [] 0 C eDO_115 (hW hw 266 rfl) (hW hw 244 rfl) (hW hw 96 rfl) (hW hw 245 rfl) (by decide) (m_nlz l Z a0 hw _ _) (lenOf pd0 rfl) rfl rfl (bL rfl) (by decide) (by decide) (by decide) (by decide) all0 (fun v34 h35 L36 q37 K38 => ?_)
  obtain rfl := q37
  simp only [show JP.Integer_numberOfLeadingZeros_I.val 1 = (31 : Int32) from by decide]
  refine gA (mkF m_ 118 #[.val (.ref a), .val (.int 1), .val (.ref c), .val (.long (1 : Int64)), .second, .unset, .unset, .unset, .unset, .unset, .unset, .unset, .unset, .unset, .unset] [(.int 31)]) <| g_istore #[.val (.ref a), .val (.int 1), .val (.ref c), .val (.long (1 : Int64)), .second, .val (.int 31), .unset, .unset, .unset, .unset, .unset, .unset, .unset, .unset, .unset] C eDO_118 rfl <| g_aloadN C eDO_120 rfl rfl ?_
  have f39 := (((((F0.keep K8 nin0).keep K15 (ninS nac nin0)).keep K22 (ninS nac nin0)).keep K30 (ninS nac nin0)).keep K38 nin0)
  refine gF C eDO_121 (hW hw 68 rfl) f39 <| g_aloadN C eDO_124 rfl rfl ?_
  have f40 := (((((F2.keep K8 nin0).keep K15 (ninS nac nin0)).keep K22 (ninS nac nin0)).keep K30 (ninS nac nin0)).keep K38 nin0)
  refine gF C eDO_125 (hW hw 49 rfl) f40 ?_
  have f41 := (((((A.keep K8 nin0).keep K15 (ninS nbc nin0)).keep K22 (ninS nbc nin0)).keep K30 (ninS nbc nin0)).keep K38 nin0)
  refine g_iaload 0 C eDO_128 f41 (by decide) (by decide) rfl <| g_istore #[.val (.ref a), .val (.int 1), .val (.ref c), .val (.long (1 : Int64)), .second, .val (.int 31), .val (.int m0), .unset, .unset, .unset, .unset, .unset, .unset, .unset, .unset] C eDO_129 rfl <| g_iload C eDO_131 rfl <| g_i2l _ C eDO_133 rfl <| g_ldc2w (4294967295 : Int64) C eDO_134 (hW hw 167 rfl) <| g_land _ C eDO_137 rfl <| g_lstore #[.val (.ref a), .val (.int 1), .val (.ref c), .val (.long (1 : Int64)), .second, .val (.int 31), .val (.int m0), .val (.long ((m0.toInt64) &&& (4294967295 : Int64))), .second, .unset, .unset, .unset, .unset, .unset, .unset] C eDO_138 rfl <| g_lload C eDO_140 rfl <| g_lloadN C eDO_142 rfl <| g_lcmp C eDO_143 <| g_ifT 157 C eDO_144 (cl_ge_t (own_ge1L k0)) (by decide) (by decide) ?_
  refine g_aloadN C eDO_157 rfl rfl ?_
  have f42 := (f32.keep K38 nin0)
  refine gF C eDO_158 (hW hw 68 rfl) f42 <| g_iconst 0 C eDO_161 (by decide) <| g_lload C eDO_162 rfl <| g_lloadN C eDO_164 rfl <| g_ldiv _ C eDO_165 (by decide) rfl <| g_l2i _ C eDO_166 rfl ?_
  rw [own_div1]
  refine gA (mkF m_ 167 #[.val (.ref a), .val (.int 1), .val (.ref c), .val (.long (1 : Int64)), .second, .val (.int 31), .val (.int m0), .val (.long ((m0.toInt64) &&& (4294967295 : Int64))), .second, .unset, .unset, .unset, .unset, .unset, .unset] [(.int m0), (.int 0), (.ref a1)]) ?_
  have f43 := ((((f7.keep K15 (ninS (Nat.ne_of_gt (lL E'.lt (Nat.le_of_eq e3.symm))) nin0)).keep K22 (ninS (Nat.ne_of_gt (lL E'.lt (Nat.le_of_eq e3.symm))) nin0)).keep K30 (ninS (Nat.ne_of_gt (lL E'.lt (Nat.le_of_eq e3.symm))) nin0)).keep K38 nin0)
  refine g_iastore 0 C eDO_167 f43 (by decide) (by decide) (bL rfl) (mm 0 rfl) (fun h44 K45 z46 f47 => ?_)
  have f48 : Av Z h44 a1 .int [(.int m0), (.int 0)] := f47
  refine g_lload C eDO_168 rfl <| g_aloadN C eDO_170 rfl rfl ?_
  have f49 := (f42.keep K45 (ninS (Nat.ne_of_lt (lL E'.lt (Nat.le_of_eq e3.symm))) nin0))
  refine gF C eDO_171 (hW hw 68 rfl) f49 <| g_iconst 0 C eDO_174 (by decide) <| g_iaload 0 C eDO_175 f48 (by decide) (by decide) rfl <| g_i2l _ C eDO_176 rfl <| g_lloadN C eDO_177 rfl <| g_lmul _ C eDO_178 rfl <| g_lsub _ C eDO_179 rfl <| g_l2i _ C eDO_180 rfl ?_
  rw [own_rem1]
  refine gA (mkF m_ 181 #[.val (.ref a), .val (.int 1), .val (.ref c), .val (.long (1 : Int64)), .second, .val (.int 31), .val (.int m0), .val (.long ((m0.toInt64) &&& (4294967295 : Int64))), .second, .unset, .unset, .unset, .unset, .unset, .unset] [(.int 0)]) <| g_istore #[.val (.ref a), .val (.int 1), .val (.ref c), .val (.long (1 : Int64)), .second, .val (.int 31), .val (.int 0), .val (.long ((m0.toInt64) &&& (4294967295 : Int64))), .second, .unset, .unset, .unset, .unset, .unset, .unset] C eDO_181 rfl <| g_iload C eDO_183 rfl <| g_i2l (0 : Int64) C eDO_185 (by decide) <| g_ldc2w (4294967295 : Int64) C eDO_186 (hW hw 167 rfl) <| g_land (0 : Int64) C eDO_189 (by decide) <| g_lstore #[.val (.ref a), .val (.int 1), .val (.ref c), .val (.long (1 : Int64)), .second, .val (.int 31), .val (.int 0), .val (.long (0 : Int64)), .second, .unset, .unset, .unset, .unset, .unset, .unset] C eDO_190 rfl <| g_aloadN C eDO_192 rfl rfl ?_
  have f50 := (((f26.keep K30 (ninS nac nin0)).keep K38 nin0).keep K45 (ninS (Nat.ne_of_lt (lL E.lt (Nat.le_of_eq e3.symm))) nin0))
  refine gF C eDO_193 (hW hw 53 rfl) f50 <| g_istore #[.val (.ref a), .val (.int 1), .val (.ref c), .val (.long (1 : Int64)), .second, .val (.int 31), .val (.int 0), .val (.long (0 : Int64)), .second, .val (.int 2), .unset, .unset, .unset, .unset, .unset] C eDO_196 rfl <| g_iinc (1 : Int32) #[.val (.ref a), .val (.int 1), .val (.ref c), .val (.long (1 : Int64)), .second, .val (.int 31), .val (.int 0), .val (.long (0 : Int64)), .second, .val (.int 1), .unset, .unset, .unset, .unset, .unset] C eDO_198 rfl (by decide) rfl <| g_iload C eDO_201 rfl <| g_ifF C eDO_203 (show (0 : Int32) < (1 : Int32) by decide) <| g_lload C eDO_206 rfl <| g_bipush 32 C eDO_208 (by decide) <| g_lshl (0 : Int64) C eDO_210 (by decide) <| g_aloadN C eDO_211 rfl rfl ?_
  have f51 := (f39.keep K45 (ninS (Nat.ne_of_lt (lL E.lt (Nat.le_of_eq e3.symm))) nin0))
  refine gF C eDO_212 (hW hw 68 rfl) f51 <| g_aloadN C eDO_215 rfl rfl ?_
  have f52 := (f40.keep K45 (ninS (Nat.ne_of_lt (lL E.lt (Nat.le_of_eq e3.symm))) nin0))
  refine gF C eDO_216 (hW hw 49 rfl) f52 <| g_aloadN C eDO_219 rfl rfl <| gF C eDO_220 (hW hw 53 rfl) f50 <| g_iadd 2 C eDO_223 (by decide) <| g_iload C eDO_224 rfl <| g_isub 1 C eDO_226 (by decide) ?_
  have f53 := (f41.keep K45 (ninS (Nat.ne_of_lt (lL A.lt (Nat.le_of_eq e3.symm))) nin0))
  refine g_iaload 1 C eDO_227 f53 (by decide) (by decide) rfl <| g_i2l _ C eDO_228 rfl <| g_ldc2w (4294967295 : Int64) C eDO_229 (hW hw 167 rfl) <| g_land _ C eDO_232 rfl <| g_lor _ C eDO_233 rfl ?_
  rw [own_or0]
  refine gA (mkF m_ 234 #[.val (.ref a), .val (.int 1), .val (.ref c), .val (.long (1 : Int64)), .second, .val (.int 31), .val (.int 0), .val (.long (0 : Int64)), .second, .val (.int 1), .unset, .unset, .unset, .unset, .unset] [(.long (m1.toInt64 &&& (4294967295 : Int64)))]) <| g_lstore #[.val (.ref a), .val (.int 1), .val (.ref c), .val (.long (1 : Int64)), .second, .val (.int 31), .val (.int 0), .val (.long (0 : Int64)), .second, .val (.int 1), .val (.long (m1.toInt64 &&& (4294967295 : Int64))), .second, .unset, .unset, .unset] C eDO_234 rfl <| g_lload C eDO_236 rfl <| g_lconst (0 : Int64) C eDO_238 (by decide) <| g_lcmp C eDO_239 <| g_ifF C eDO_240 (cl_lt_f (own_nn64 m1)) <| g_lload C eDO_243 rfl <| g_lloadN C eDO_245 rfl <| g_ldiv _ C eDO_246 (by decide) rfl <| g_l2i _ C eDO_247 rfl ?_
  rw [own_div1]
  refine gA (mkF m_ 248 #[.val (.ref a), .val (.int 1), .val (.ref c), .val (.long (1 : Int64)), .second, .val (.int 31), .val (.int 0), .val (.long (0 : Int64)), .second, .val (.int 1), .val (.long (m1.toInt64 &&& (4294967295 : Int64))), .second, .unset, .unset, .unset] [(.int m1)]) <| g_istore #[.val (.ref a), .val (.int 1), .val (.ref c), .val (.long (1 : Int64)), .second, .val (.int 31), .val (.int 0), .val (.long (0 : Int64)), .second, .val (.int 1), .val (.long (m1.toInt64 &&& (4294967295 : Int64))), .second, .val (.int m1), .unset, .unset] C eDO_248 rfl <| g_lload C eDO_250 rfl <| g_iload C eDO_252 rfl <| g_i2l _ C eDO_254 rfl <| g_lloadN C eDO_255 rfl <| g_lmul _ C eDO_256 rfl <| g_lsub _ C eDO_257 rfl <| g_l2i _ C eDO_258 rfl ?_
  rw [own_rem1]
  refine gA (mkF m_ 259 #[.val (.ref a), .val (.int 1), .val (.ref c), .val (.long (1 : Int64)), .second, .val (.int 31), .val (.int 0), .val (.long (0 : Int64)), .second, .val (.int 1), .val (.long (m1.toInt64 &&& (4294967295 : Int64))), .second, .val (.int m1), .unset, .unset] [(.int 0)]) <| g_istore #[.val (.ref a), .val (.int 1), .val (.ref c), .val (.long (1 : Int64)), .second, .val (.int 31), .val (.int 0), .val (.long (0 : Int64)), .second, .val (.int 1), .val (.long (m1.toInt64 &&& (4294967295 : Int64))), .second, .val (.int m1), .unset, .unset] C eDO_259 rfl <| g_goto 289 C eDO_261 (by decide) (by decide) <| g_aloadN C eDO_289 rfl rfl <| gF C eDO_290 (hW hw 68 rfl) f49 <| g_aloadN C eDO_293 rfl rfl <| gF C eDO_294 (hW hw 53 rfl) f50 <| g_iload C eDO_297 rfl <| g_isub 1 C eDO_299 (by decide) <| g_iload C eDO_300 rfl ?_
  refine g_iastore 1 C eDO_302 f48 (by decide) (by decide) (bL rfl) (mm 0 rfl) (fun h54 K55 z56 f57 => ?_)
  have f58 : Av Z h54 a1 .int [(.int m0), (.int m1)] := f57
  refine g_iload C eDO_303 rfl <| g_i2l (0 : Int64) C eDO_305 (by decide) <| g_ldc2w (4294967295 : Int64) C eDO_306 (hW hw 167 rfl) <| g_land (0 : Int64) C eDO_309 (by decide) <| g_lstore #[.val (.ref a), .val (.int 1), .val (.ref c), .val (.long (1 : Int64)), .second, .val (.int 31), .val (.int 0), .val (.long (0 : Int64)), .second, .val (.int 1), .val (.long (m1.toInt64 &&& (4294967295 : Int64))), .second, .val (.int m1), .unset, .unset] C eDO_310 rfl <| g_goto 198 C eDO_312 (by decide) (by decide) <| g_iinc (0 : Int32) #[.val (.ref a), .val (.int 1), .val (.ref c), .val (.long (1 : Int64)), .second, .val (.int 31), .val (.int 0), .val (.long (0 : Int64)), .second, .val (.int 0), .val (.long (m1.toInt64 &&& (4294967295 : Int64))), .second, .val (.int m1), .unset, .unset] C eDO_198 rfl (by decide) rfl <| g_iload C eDO_201 rfl <| g_ifT 315 C eDO_203 (show ¬ (0 : Int32) < (0 : Int32) by decide) (by decide) (by decide) <| g_aloadN C eDO_315 rfl rfl ?_
  have f59 := ((((f27.keep K30).keep K38).keep K45).keep K55)
  have f60 := (f49.keep K55 (ninS (Nat.ne_of_lt (lL E'.lt (Nat.le_of_eq e3.symm))) nin0))
  have f61 := (((f31.keep K38 nin0).keep K45 (ninS (Nat.ne_of_lt (lL E'.lt (Nat.le_of_eq e3.symm))) nin0)).keep K55 (ninS (Nat.ne_of_lt (lL E'.lt (Nat.le_of_eq e3.symm))) nin0))
  have f62 := (((f33.keep K38 nin0).keep K45 (ninS (Nat.ne_of_lt (lL E'.lt (Nat.le_of_eq e3.symm))) nin0)).keep K55 (ninS (Nat.ne_of_lt (lL E'.lt (Nat.le_of_eq e3.symm))) nin0))
  refine g_invokevirtual [] [] 0 C eDO_316 (hW hw 256 rfl) (hW hw 257 rfl) (hW hw 259 rfl) (hW hw 258 rfl) (hW hw 43 rfl) (hW hw 260 rfl) (fun _ hZ => notFace_of_selects (args := #[]) (mvT hZ (hW hw 259 rfl))) (by decide) f59 (m_no1 l Z a0 hw _ _ m0 m1 _ f59 f60 f61 f62 f58 k0) (lenOf pd2 rfl) rfl rfl (bL rfl) (by decide) (by decide) (by decide) (by decide) all0 (fun v63 h64 L65 q66 K67 => ?_)
  obtain rfl := q66
  refine gA (mkF m_ 319 #[.val (.ref a), .val (.int 1), .val (.ref c), .val (.long (1 : Int64)), .second, .val (.int 31), .val (.int 0), .val (.long (0 : Int64)), .second, .val (.int 0), .val (.long (m1.toInt64 &&& (4294967295 : Int64))), .second, .val (.int m1), .unset, .unset] []) <| g_iload C eDO_319 rfl <| g_ifF C eDO_321 (show (0 : Int32) < (31 : Int32) by decide) <| g_iload C eDO_324 rfl <| g_iloadN C eDO_326 rfl <| g_irem 0 C eDO_327 (by decide) (by decide) ?_
  have f68 := (f59.keep K67)
  have f69 := (f60.keep K67 nin0)
  have f70 := (f61.keep K67 nin0)
  have f71 := (f62.keep K67 nin0)
  have f72 := (((((((f6.keep K15).keep K22).keep K30).keep K38).keep K45).keep K55).keep K67)
  have f73 := (f58.keep K67 nin0)
  exact g_retI C eDO_328 ⟨_, rfl, a1, f68, f69, f70, f71, f72, f73⟩ (by decide) (by decide)
theorem eDK_0 : decode k29 0 = .ok (.aload_n 1, 1) := by decide +kernel
theorem eDK_1 : decode k29 1 = .ok (.getfield 21, 3) := by decide +kernel
theorem eDK_4 : decode k29 4 = .ok (.ifCond .ne 13, 3) := by decide +kernel
theorem eDK_17 : decode k29 17 = .ok (.aload_n 0, 1) := by decide +kernel
theorem eDK_18 : decode k29 18 = .ok (.getfield 21, 3) := by decide +kernel
theorem eDK_21 : decode k29 21 = .ok (.ifCond .ne 29, 3) := by decide +kernel
theorem eDK_24 : decode k29 24 = .ok (.aload_n 2, 1) := by decide +kernel
theorem eDK_25 : decode k29 25 = .ok (.aload_n 2, 1) := by decide +kernel
theorem eDK_26 : decode k29 26 = .ok (.iconst 0, 1) := by decide +kernel
theorem eDK_27 : decode k29 27 = .ok (.dup_x1, 1) := by decide +kernel
theorem eDK_28 : decode k29 28 = .ok (.putfield 11, 3) := by decide +kernel
theorem eDK_31 : decode k29 31 = .ok (.putfield 21, 3) := by decide +kernel
theorem eDK_34 : decode k29 34 = .ok (.iload_n 3, 1) := by decide +kernel
theorem eDK_35 : decode k29 35 = .ok (.ifCond .eq 13, 3) := by decide +kernel
theorem eDK_48 : decode k29 48 = .ok (.aconst_null, 1) := by decide +kernel
theorem eDK_49 : decode k29 49 = .ok (.areturn, 1) := by decide +kernel
theorem m_dk0 (l : Launch) (Z : State) (a0 : Array Value) (hw : ∀ d ∈ tables_1, d.before a0 Z = true) (a b c d e f : Addr) (h : Heap) (E : eM Z h a) (F0 : fV Z h a (.ref b)) (F1 : fI Z h a (.int 0)) (F2 : fO Z h a (.int 0)) (A : Av Z h b .int []) (E' : eM Z h c) (G0 : fV Z h c (.ref d)) (G1 : fI Z h c (.int 0)) (G2 : fO Z h c (.int 0)) (B : Av Z h d .int [(.int 0)]) (Ed : Exa Z h d "[I") (nac : a ≠ c) (nbc : b ≠ c) (nad : a ≠ d) (nbd : b ≠ d) (ndc : d ≠ c) (E2 : eM Z h e) (H0 : fV Z h e (.ref f)) (H1 : fI Z h e (.int 1)) (H2 : fO Z h e (.int 0)) (A2 : Av Z h f .int [(.int 1)]) (nec : e ≠ c) (nfc : f ≠ c) (ned : e ≠ d) (nfd : f ≠ d) :
    MetW false l Z [] (⟨"java/math/MutableBigInteger", "divideKnuth", "(Ljava/math/MutableBigInteger;Ljava/math/MutableBigInteger;Z)Ljava/math/MutableBigInteger;"⟩ : MethodName) k29 8 (some (.object "java/math/MutableBigInteger")) [] (rM 2 1 2 41) #[(.ref a), (.ref e), (.ref c), (.int 0)] [c, d] h (fun v h' => v = some .null ∧ ∃ d' : Addr, eM Z h' c ∧ fV Z h' c (.ref d') ∧ fI Z h' c (.int 0) ∧ fO Z h' c (.int 0) ∧ Exa Z h' d' "[I" ∧ Av Z h' d' .int [(.int 0)]) := by
  refine mO a0 #[.val (.ref a), .val (.ref e), .val (.ref c), .val (.int 0), .unset, .unset, .unset, .unset] (fun _ _ _ m_ _ _ _ hs0 C => ?_)
  refine g_aloadN C eDK_0 rfl rfl <| gF C eDK_1 (hW hw 53 rfl) H1 <| g_ifT 17 C eDK_4 (show ¬ (1 : Int32) = (0 : Int32) by decide) (by decide) (by decide) <| g_aloadN C eDK_17 rfl rfl <| gF C eDK_18 (hW hw 53 rfl) F1 <| g_ifF C eDK_21 (show (0 : Int32) = (0 : Int32) by decide) <| g_aloadN C eDK_24 rfl rfl <| g_aloadN C eDK_25 rfl rfl <| g_iconst 0 C eDK_26 (by decide) <| g_dupX1 C eDK_27 rfl rfl ?_
  refine g_putfield (host := "") C eDK_28 (Or.inl (hW hw 49 rfl)) Via.refl G2 E' (Or.inl (hW hw 50 rfl)) (hW hw 42 rfl) (ty := .int) (by decide) rfl rfl (mm 0 rfl) (fun h1 W2 K3 => ?_)
  have f4 := Fld.same W2 G2
  have f5 := Fld.other W2 G0 (Or.inr (s69_50 hw))
  have f6 := Fld.other W2 G1 (Or.inr (s54_50 hw))
  have f7 := (E'.keep K3)
  refine g_putfield (host := "") C eDK_31 (Or.inl (hW hw 53 rfl)) Via.refl f6 f7 (Or.inl (hW hw 54 rfl)) (hW hw 42 rfl) (ty := .int) (by decide) rfl rfl (mm 0 rfl) (fun h8 W9 K10 => ?_)
  have f11 := Fld.same W9 f6
  have f12 := Fld.other W9 f5 (Or.inr (s69_54 hw))
  have f13 := Fld.other W9 f4 (Or.inr (s50_54 hw))
  refine g_iloadN C eDK_34 rfl <| g_ifT 48 C eDK_35 (show (0 : Int32) = (0 : Int32) by decide) (by decide) (by decide) <| g_aconstNull C eDK_48 ?_
  have f14 := (f7.keep K10)
  have f15 := ((Ed.keep K3).keep K10)
  have f16 := ((B.keep K3 (ninS ndc nin0)).keep K10 (ninS ndc nin0))
  exact g_retA C eDK_49 rfl rfl ⟨rfl, d, f14, f12, f11, f13, f15, f16⟩ (by decide) (by decide)
theorem eDK_50 : decode k29 50 = .ok (.aload_n 0, 1) := by decide +kernel
theorem eDK_51 : decode k29 51 = .ok (.aload_n 1, 1) := by decide +kernel
theorem eDK_52 : decode k29 52 = .ok (.invokevirtual 142, 3) := by decide +kernel
theorem eDK_55 : decode k29 55 = .ok (.istore 4, 2) := by decide +kernel
theorem eDK_57 : decode k29 57 = .ok (.iload 4, 2) := by decide +kernel
theorem eDK_59 : decode k29 59 = .ok (.ifCond .ge 30, 3) := by decide +kernel
theorem eDK_89 : decode k29 89 = .ok (.iload 4, 2) := by decide +kernel
theorem eDK_91 : decode k29 91 = .ok (.ifCond .ne 36, 3) := by decide +kernel
theorem eDK_94 : decode k29 94 = .ok (.aload_n 2, 1) := by decide +kernel
theorem eDK_95 : decode k29 95 = .ok (.getfield 17, 3) := by decide +kernel
theorem eDK_98 : decode k29 98 = .ok (.iconst 0, 1) := by decide +kernel
theorem eDK_99 : decode k29 99 = .ok (.aload_n 2, 1) := by decide +kernel
theorem eDK_100 : decode k29 100 = .ok (.iconst 1, 1) := by decide +kernel
theorem eDK_101 : decode k29 101 = .ok (.dup_x1, 1) := by decide +kernel
theorem eDK_102 : decode k29 102 = .ok (.putfield 21, 3) := by decide +kernel
theorem eDK_105 : decode k29 105 = .ok (.iastore, 1) := by decide +kernel
theorem eDK_106 : decode k29 106 = .ok (.aload_n 2, 1) := by decide +kernel
theorem eDK_107 : decode k29 107 = .ok (.iconst 0, 1) := by decide +kernel
theorem eDK_108 : decode k29 108 = .ok (.putfield 11, 3) := by decide +kernel
theorem eDK_111 : decode k29 111 = .ok (.iload_n 3, 1) := by decide +kernel
theorem eDK_112 : decode k29 112 = .ok (.ifCond .eq 13, 3) := by decide +kernel
theorem eDK_125 : decode k29 125 = .ok (.aconst_null, 1) := by decide +kernel
theorem eDK_126 : decode k29 126 = .ok (.areturn, 1) := by decide +kernel
theorem m_dk1a (l : Launch) (Z : State) (a0 : Array Value) (hw : ∀ d ∈ tables_1, d.before a0 Z = true) (a b c d e f : Addr) (h : Heap) (E : eM Z h a) (F0 : fV Z h a (.ref b)) (F1 : fI Z h a (.int 1)) (F2 : fO Z h a (.int 0)) (A : Av Z h b .int [(.int 1)]) (E' : eM Z h c) (G0 : fV Z h c (.ref d)) (G1 : fI Z h c (.int 0)) (G2 : fO Z h c (.int 0)) (B : Av Z h d .int [(.int 0)]) (Ed : Exa Z h d "[I") (nac : a ≠ c) (nbc : b ≠ c) (nad : a ≠ d) (nbd : b ≠ d) (ndc : d ≠ c) (E2 : eM Z h e) (H0 : fV Z h e (.ref f)) (H1 : fI Z h e (.int 1)) (H2 : fO Z h e (.int 0)) (A2 : Av Z h f .int [(.int 1)]) (nec : e ≠ c) (nfc : f ≠ c) (ned : e ≠ d) (nfd : f ≠ d) :
    MetW false l Z [] (⟨"java/math/MutableBigInteger", "divideKnuth", "(Ljava/math/MutableBigInteger;Ljava/math/MutableBigInteger;Z)Ljava/math/MutableBigInteger;"⟩ : MethodName) k29 8 (some (.object "java/math/MutableBigInteger")) [] (rM 2 1 2 41) #[(.ref a), (.ref e), (.ref c), (.int 0)] [c, d] h (fun v h' => v = some .null ∧ ∃ d' : Addr, eM Z h' c ∧ fV Z h' c (.ref d') ∧ fI Z h' c (.int 1) ∧ fO Z h' c (.int 0) ∧ Exa Z h' d' "[I" ∧ Av Z h' d' .int [(.int 1)]) := by
  refine mO a0 #[.val (.ref a), .val (.ref e), .val (.ref c), .val (.int 0), .unset, .unset, .unset, .unset] (fun _ _ _ m_ _ _ _ hs0 C => ?_)
  refine g_aloadN C eDK_0 rfl rfl <| gF C eDK_1 (hW hw 53 rfl) H1 <| g_ifT 17 C eDK_4 (show ¬ (1 : Int32) = (0 : Int32) by decide) (by decide) (by decide) <| g_aloadN C eDK_17 rfl rfl <| gF C eDK_18 (hW hw 53 rfl) F1 <| g_ifT 50 C eDK_21 (show ¬ (1 : Int32) = (0 : Int32) by decide) (by decide) (by decide) <| g_aloadN C eDK_50 rfl rfl <| g_aloadN C eDK_51 rfl rfl ?_
  refine g_invokevirtual [(.ref e)] [] 0 C eDK_52 (hW hw 152 rfl) (hW hw 153 rfl) (hW hw 155 rfl) (hW hw 154 rfl) (hW hw 43 rfl) (hW hw 156 rfl) (fun _ hZ => notFace_of_selects (args := #[]) (mvT hZ (hW hw 155 rfl))) (by decide) E (m_cmp1a l Z a0 hw _ _ _ _  _ E F0 F1 F2 A E2 H0 H1 H2 A2 ) (lenOf pd5 rfl) rfl rfl (bL rfl) (by decide) (by decide) (by decide) (by decide) all0 (fun v1 h2 L3 q4 K5 => ?_)
  obtain rfl := q4
  refine gA (mkF m_ 55 #[.val (.ref a), .val (.ref e), .val (.ref c), .val (.int 0), .unset, .unset, .unset, .unset] [(.int 0)]) <| g_istore #[.val (.ref a), .val (.ref e), .val (.ref c), .val (.int 0), .val (.int 0), .unset, .unset, .unset] C eDK_55 rfl <| g_iload C eDK_57 rfl <| g_ifT 89 C eDK_59 (show ¬ (0 : Int32) < (0 : Int32) by decide) (by decide) (by decide) <| g_iload C eDK_89 rfl <| g_ifF C eDK_91 (show (0 : Int32) = (0 : Int32) by decide) <| g_aloadN C eDK_94 rfl rfl ?_
  have f6 := (G0.keep K5 nin0)
  refine gF C eDK_95 (hW hw 68 rfl) f6 <| g_iconst 0 C eDK_98 (by decide) <| g_aloadN C eDK_99 rfl rfl <| g_iconst 1 C eDK_100 (by decide) <| g_dupX1 C eDK_101 rfl rfl ?_
  have f7 := (G1.keep K5 nin0)
  have f8 := (E'.keep K5)
  have f9 := (G2.keep K5 nin0)
  refine g_putfield (host := "") C eDK_102 (Or.inl (hW hw 53 rfl)) Via.refl f7 f8 (Or.inl (hW hw 54 rfl)) (hW hw 42 rfl) (ty := .int) (by decide) rfl rfl (mm 0 rfl) (fun h10 W11 K12 => ?_)
  have f13 := Fld.same W11 f7
  have f14 := Fld.other W11 f6 (Or.inr (s69_54 hw))
  have f15 := Fld.other W11 f9 (Or.inr (s50_54 hw))
  have f16 := ((B.keep K5 nin0).keep K12 (ninS ndc nin0))
  refine g_iastore 0 C eDK_105 f16 (by decide) (by decide) (bL rfl) (mm 1 rfl) (fun h17 K18 z19 f20 => ?_)
  have f21 : Av Z h17 d .int [(.int 1)] := f20
  refine g_aloadN C eDK_106 rfl rfl <| g_iconst 0 C eDK_107 (by decide) ?_
  have f22 := (f15.keep K18 (ninS (Ne.symm ndc) nin0))
  have f23 := ((f8.keep K12).keep K18)
  have f24 := (f14.keep K18 (ninS (Ne.symm ndc) nin0))
  have f25 := (f13.keep K18 (ninS (Ne.symm ndc) nin0))
  refine g_putfield (host := "") C eDK_108 (Or.inl (hW hw 49 rfl)) Via.refl f22 f23 (Or.inl (hW hw 50 rfl)) (hW hw 42 rfl) (ty := .int) (by decide) rfl rfl (mm 0 rfl) (fun h26 W27 K28 => ?_)
  have f29 := Fld.same W27 f22
  have f30 := Fld.other W27 f24 (Or.inr (s69_50 hw))
  have f31 := Fld.other W27 f25 (Or.inr (s54_50 hw))
  refine g_iloadN C eDK_111 rfl <| g_ifT 125 C eDK_112 (show (0 : Int32) = (0 : Int32) by decide) (by decide) (by decide) <| g_aconstNull C eDK_125 ?_
  have f32 := (f23.keep K28)
  have f33 := ((((Ed.keep K5).keep K12).keep K18).keep K28)
  have f34 := (f21.keep K28 (ninS ndc nin0))
  exact g_retA C eDK_126 rfl rfl ⟨rfl, d, f32, f30, f31, f29, f33, f34⟩ (by decide) (by decide)
theorem eDK_127 : decode k29 127 = .ok (.aload_n 2, 1) := by decide +kernel
theorem eDK_128 : decode k29 128 = .ok (.invokevirtual 149, 3) := by decide +kernel
theorem eDK_131 : decode k29 131 = .ok (.aload_n 1, 1) := by decide +kernel
theorem eDK_132 : decode k29 132 = .ok (.getfield 21, 3) := by decide +kernel
theorem eDK_135 : decode k29 135 = .ok (.iconst 1, 1) := by decide +kernel
theorem eDK_136 : decode k29 136 = .ok (.if_icmp .ne 48, 3) := by decide +kernel
theorem eDK_139 : decode k29 139 = .ok (.aload_n 0, 1) := by decide +kernel
theorem eDK_140 : decode k29 140 = .ok (.aload_n 1, 1) := by decide +kernel
theorem eDK_141 : decode k29 141 = .ok (.getfield 17, 3) := by decide +kernel
theorem eDK_144 : decode k29 144 = .ok (.aload_n 1, 1) := by decide +kernel
theorem eDK_145 : decode k29 145 = .ok (.getfield 11, 3) := by decide +kernel
theorem eDK_148 : decode k29 148 = .ok (.iaload, 1) := by decide +kernel
theorem eDK_149 : decode k29 149 = .ok (.aload_n 2, 1) := by decide +kernel
theorem eDK_150 : decode k29 150 = .ok (.invokevirtual 178, 3) := by decide +kernel
theorem eDK_153 : decode k29 153 = .ok (.istore 5, 2) := by decide +kernel
theorem eDK_155 : decode k29 155 = .ok (.iload_n 3, 1) := by decide +kernel
theorem eDK_156 : decode k29 156 = .ok (.ifCond .eq 26, 3) := by decide +kernel
theorem eDK_182 : decode k29 182 = .ok (.aconst_null, 1) := by decide +kernel
theorem eDK_183 : decode k29 183 = .ok (.areturn, 1) := by decide +kernel
theorem m_dk1b (l : Launch) (Z : State) (a0 : Array Value) (hw : ∀ d ∈ tables_1, d.before a0 Z = true) (a b c d e f : Addr) (m0 : Int32) (h : Heap) (E : eM Z h a) (F0 : fV Z h a (.ref b)) (F1 : fI Z h a (.int 1)) (F2 : fO Z h a (.int 0)) (A : Av Z h b .int [(.int m0)]) (E' : eM Z h c) (G0 : fV Z h c (.ref d)) (G1 : fI Z h c (.int 0)) (G2 : fO Z h c (.int 0)) (B : Av Z h d .int [(.int 0)]) (Ed : Exa Z h d "[I") (nac : a ≠ c) (nbc : b ≠ c) (nad : a ≠ d) (nbd : b ≠ d) (ndc : d ≠ c) (E2 : eM Z h e) (H0 : fV Z h e (.ref f)) (H1 : fI Z h e (.int 1)) (H2 : fO Z h e (.int 0)) (A2 : Av Z h f .int [(.int 1)]) (nec : e ≠ c) (nfc : f ≠ c) (ned : e ≠ d) (nfd : f ≠ d) (k0 : ¬ m0 = 0) (k1 : ¬ m0 = 1) :
    MetW false l Z [] (⟨"java/math/MutableBigInteger", "divideKnuth", "(Ljava/math/MutableBigInteger;Ljava/math/MutableBigInteger;Z)Ljava/math/MutableBigInteger;"⟩ : MethodName) k29 8 (some (.object "java/math/MutableBigInteger")) [] (rM 2 1 2 41) #[(.ref a), (.ref e), (.ref c), (.int 0)] [c, d] h (fun v h' => v = some .null ∧ ∃ d' : Addr, eM Z h' c ∧ fV Z h' c (.ref d') ∧ fI Z h' c (.int 1) ∧ fO Z h' c (.int 0) ∧ Exa Z h' d' "[I" ∧ Av Z h' d' .int [(.int m0)]) := by
  refine mO a0 #[.val (.ref a), .val (.ref e), .val (.ref c), .val (.int 0), .unset, .unset, .unset, .unset] (fun _ _ _ m_ _ _ _ hs0 C => ?_)
  refine g_aloadN C eDK_0 rfl rfl <| gF C eDK_1 (hW hw 53 rfl) H1 <| g_ifT 17 C eDK_4 (show ¬ (1 : Int32) = (0 : Int32) by decide) (by decide) (by decide) <| g_aloadN C eDK_17 rfl rfl <| gF C eDK_18 (hW hw 53 rfl) F1 <| g_ifT 50 C eDK_21 (show ¬ (1 : Int32) = (0 : Int32) by decide) (by decide) (by decide) <| g_aloadN C eDK_50 rfl rfl <| g_aloadN C eDK_51 rfl rfl ?_
  refine g_invokevirtual [(.ref e)] [] 0 C eDK_52 (hW hw 152 rfl) (hW hw 153 rfl) (hW hw 155 rfl) (hW hw 154 rfl) (hW hw 43 rfl) (hW hw 156 rfl) (fun _ hZ => notFace_of_selects (args := #[]) (mvT hZ (hW hw 155 rfl))) (by decide) E (m_cmp1b l Z a0 hw _ _ _ _ m0 _ E F0 F1 F2 A E2 H0 H1 H2 A2 k0 k1) (lenOf pd5 rfl) rfl rfl (bL rfl) (by decide) (by decide) (by decide) (by decide) all0 (fun v1 h2 L3 q4 K5 => ?_)
  obtain rfl := q4
  refine gA (mkF m_ 55 #[.val (.ref a), .val (.ref e), .val (.ref c), .val (.int 0), .unset, .unset, .unset, .unset] [(.int 1)]) <| g_istore #[.val (.ref a), .val (.ref e), .val (.ref c), .val (.int 0), .val (.int 1), .unset, .unset, .unset] C eDK_55 rfl <| g_iload C eDK_57 rfl <| g_ifT 89 C eDK_59 (show ¬ (1 : Int32) < (0 : Int32) by decide) (by decide) (by decide) <| g_iload C eDK_89 rfl <| g_ifT 127 C eDK_91 (show ¬ (1 : Int32) = (0 : Int32) by decide) (by decide) (by decide) <| g_aloadN C eDK_127 rfl rfl ?_
  have f11 := (E'.keep K5)
  have f12 := (G0.keep K5 nin0)
  have f13 := (G1.keep K5 nin0)
  have f14 := (G2.keep K5 nin0)
  have f15 := (B.keep K5 nin0)
  refine g_invokevirtual [] [] 0 C eDK_128 (hW hw 157 rfl) (hW hw 158 rfl) (hW hw 160 rfl) (hW hw 159 rfl) (hW hw 43 rfl) (hW hw 161 rfl) (fun _ hZ => notFace_of_selects (args := #[]) (mvT hZ (hW hw 160 rfl))) (by decide) f11 (m_clear l Z a0 hw _ _ _ f11 f12 f13 f14 f15 ndc) (lenOf pd2 rfl) rfl rfl (bL rfl) (by decide) (by decide) (by decide) (by decide) (allS (mm 0 rfl) (allS (mm 1 rfl) all0)) (fun v16 h17 L18 q19 K20 => ?_)
  obtain ⟨rfl, f6, f7, f8, f9, f10⟩ := q19
  refine gA (mkF m_ 131 #[.val (.ref a), .val (.ref e), .val (.ref c), .val (.int 0), .val (.int 1), .unset, .unset, .unset] []) <| g_aloadN C eDK_131 rfl rfl ?_
  have f21 := ((H1.keep K5 nin0).keep K20 (ninS nec (ninS ned nin0)))
  refine gF C eDK_132 (hW hw 53 rfl) f21 <| g_iconst 1 C eDK_135 (by decide) <| g_icmpF C eDK_136 (show (1 : Int32) = (1 : Int32) by decide) <| g_aloadN C eDK_139 rfl rfl <| g_aloadN C eDK_140 rfl rfl ?_
  have f22 := ((H0.keep K5 nin0).keep K20 (ninS nec (ninS ned nin0)))
  refine gF C eDK_141 (hW hw 68 rfl) f22 <| g_aloadN C eDK_144 rfl rfl ?_
  have f23 := ((H2.keep K5 nin0).keep K20 (ninS nec (ninS ned nin0)))
  refine gF C eDK_145 (hW hw 49 rfl) f23 ?_
  have f24 := ((A2.keep K5 nin0).keep K20 (ninS nfc (ninS nfd nin0)))
  refine g_iaload 0 C eDK_148 f24 (by decide) (by decide) rfl <| g_aloadN C eDK_149 rfl rfl ?_
  have f33 := ((E.keep K5).keep K20)
  have f34 := ((F0.keep K5 nin0).keep K20 (ninS nac (ninS nad nin0)))
  have f35 := ((F1.keep K5 nin0).keep K20 (ninS nac (ninS nad nin0)))
  have f36 := ((F2.keep K5 nin0).keep K20 (ninS nac (ninS nad nin0)))
  have f37 := ((A.keep K5 nin0).keep K20 (ninS nbc (ninS nbd nin0)))
  have f38 := ((Ed.keep K5).keep K20)
  refine g_invokevirtual [(.int 1), (.ref c)] [] 0 C eDK_150 (hW hw 162 rfl) (hW hw 163 rfl) (hW hw 165 rfl) (hW hw 164 rfl) (hW hw 43 rfl) (hW hw 166 rfl) (fun _ hZ => notFace_of_selects (args := #[]) (mvT hZ (hW hw 165 rfl))) (by decide) f33 (m_do1 l Z a0 hw _ _ _ _ m0 _ f33 f34 f35 f36 f37 f6 f7 f8 f9 f10 f38 nac nbc nad nbd ndc k0) (lenOf pd14 rfl) rfl rfl (bL rfl) (by decide) (by decide) (by decide) (by decide) (allS (mm 0 rfl) (allS (mm 1 rfl) all0)) (fun v39 h40 L41 q42 K43 => ?_)
  obtain ⟨z25, rfl, d26, f27, f28, f29, f30, f31, f32⟩ := q42
  refine gA (mkF m_ 153 #[.val (.ref a), .val (.ref e), .val (.ref c), .val (.int 0), .val (.int 1), .unset, .unset, .unset] [(.int z25)]) <| g_istore #[.val (.ref a), .val (.ref e), .val (.ref c), .val (.int 0), .val (.int 1), .val (.int z25), .unset, .unset] C eDK_153 rfl <| g_iloadN C eDK_155 rfl <| g_ifT 182 C eDK_156 (show (0 : Int32) = (0 : Int32) by decide) (by decide) (by decide) <| g_aconstNull C eDK_182 ?_
  exact g_retA C eDK_183 rfl rfl ⟨rfl, d26, f27, f28, f29, f30, f31, f32⟩ (by decide) (by decide)
theorem m_dk2 (l : Launch) (Z : State) (a0 : Array Value) (hw : ∀ d ∈ tables_1, d.before a0 Z = true) (a b c d e f : Addr) (m0 m1 : Int32) (h : Heap) (E : eM Z h a) (F0 : fV Z h a (.ref b)) (F1 : fI Z h a (.int 2)) (F2 : fO Z h a (.int 0)) (A : Av Z h b .int [(.int m0), (.int m1)]) (E' : eM Z h c) (G0 : fV Z h c (.ref d)) (G1 : fI Z h c (.int 0)) (G2 : fO Z h c (.int 0)) (B : Av Z h d .int [(.int 0)]) (Ed : Exa Z h d "[I") (nac : a ≠ c) (nbc : b ≠ c) (nad : a ≠ d) (nbd : b ≠ d) (ndc : d ≠ c) (E2 : eM Z h e) (H0 : fV Z h e (.ref f)) (H1 : fI Z h e (.int 1)) (H2 : fO Z h e (.int 0)) (A2 : Av Z h f .int [(.int 1)]) (nec : e ≠ c) (nfc : f ≠ c) (ned : e ≠ d) (nfd : f ≠ d) (k0 : ¬ m0 = 0) :
    MetW false l Z [] (⟨"java/math/MutableBigInteger", "divideKnuth", "(Ljava/math/MutableBigInteger;Ljava/math/MutableBigInteger;Z)Ljava/math/MutableBigInteger;"⟩ : MethodName) k29 8 (some (.object "java/math/MutableBigInteger")) [] (rM 2 1 2 41) #[(.ref a), (.ref e), (.ref c), (.int 0)] [c, d] h (fun v h' => v = some .null ∧ ∃ d' : Addr, eM Z h' c ∧ fV Z h' c (.ref d') ∧ fI Z h' c (.int 2) ∧ fO Z h' c (.int 0) ∧ Exa Z h' d' "[I" ∧ Av Z h' d' .int [(.int m0), (.int m1)]) := by
  refine mO a0 #[.val (.ref a), .val (.ref e), .val (.ref c), .val (.int 0), .unset, .unset, .unset, .unset] (fun _ _ _ m_ _ _ _ hs0 C => ?_)
  refine g_aloadN C eDK_0 rfl rfl <| gF C eDK_1 (hW hw 53 rfl) H1 <| g_ifT 17 C eDK_4 (show ¬ (1 : Int32) = (0 : Int32) by decide) (by decide) (by decide) <| g_aloadN C eDK_17 rfl rfl <| gF C eDK_18 (hW hw 53 rfl) F1 <| g_ifT 50 C eDK_21 (show ¬ (2 : Int32) = (0 : Int32) by decide) (by decide) (by decide) <| g_aloadN C eDK_50 rfl rfl <| g_aloadN C eDK_51 rfl rfl ?_
  refine g_invokevirtual [(.ref e)] [] 0 C eDK_52 (hW hw 152 rfl) (hW hw 153 rfl) (hW hw 155 rfl) (hW hw 154 rfl) (hW hw 43 rfl) (hW hw 156 rfl) (fun _ hZ => notFace_of_selects (args := #[]) (mvT hZ (hW hw 155 rfl))) (by decide) E (m_cmp2 l Z a0 hw _ _ _ _ m0 m1 _ E F0 F1 F2 A E2 H0 H1 H2 A2 ) (lenOf pd5 rfl) rfl rfl (bL rfl) (by decide) (by decide) (by decide) (by decide) all0 (fun v1 h2 L3 q4 K5 => ?_)
  obtain rfl := q4
  refine gA (mkF m_ 55 #[.val (.ref a), .val (.ref e), .val (.ref c), .val (.int 0), .unset, .unset, .unset, .unset] [(.int 1)]) <| g_istore #[.val (.ref a), .val (.ref e), .val (.ref c), .val (.int 0), .val (.int 1), .unset, .unset, .unset] C eDK_55 rfl <| g_iload C eDK_57 rfl <| g_ifT 89 C eDK_59 (show ¬ (1 : Int32) < (0 : Int32) by decide) (by decide) (by decide) <| g_iload C eDK_89 rfl <| g_ifT 127 C eDK_91 (show ¬ (1 : Int32) = (0 : Int32) by decide) (by decide) (by decide) <| g_aloadN C eDK_127 rfl rfl ?_
  have f11 := (E'.keep K5)
  have f12 := (G0.keep K5 nin0)
  have f13 := (G1.keep K5 nin0)
  have f14 := (G2.keep K5 nin0)
  have f15 := (B.keep K5 nin0)
  refine g_invokevirtual [] [] 0 C eDK_128 (hW hw 157 rfl) (hW hw 158 rfl) (hW hw 160 rfl) (hW hw 159 rfl) (hW hw 43 rfl) (hW hw 161 rfl) (fun _ hZ => notFace_of_selects (args := #[]) (mvT hZ (hW hw 160 rfl))) (by decide) f11 (m_clear l Z a0 hw _ _ _ f11 f12 f13 f14 f15 ndc) (lenOf pd2 rfl) rfl rfl (bL rfl) (by decide) (by decide) (by decide) (by decide) (allS (mm 0 rfl) (allS (mm 1 rfl) all0)) (fun v16 h17 L18 q19 K20 => ?_)
  obtain ⟨rfl, f6, f7, f8, f9, f10⟩ := q19
  refine gA (mkF m_ 131 #[.val (.ref a), .val (.ref e), .val (.ref c), .val (.int 0), .val (.int 1), .unset, .unset, .unset] []) <| g_aloadN C eDK_131 rfl rfl ?_
  have f21 := ((H1.keep K5 nin0).keep K20 (ninS nec (ninS ned nin0)))
  refine gF C eDK_132 (hW hw 53 rfl) f21 <| g_iconst 1 C eDK_135 (by decide) <| g_icmpF C eDK_136 (show (1 : Int32) = (1 : Int32) by decide) <| g_aloadN C eDK_139 rfl rfl <| g_aloadN C eDK_140 rfl rfl ?_
  have f22 := ((H0.keep K5 nin0).keep K20 (ninS nec (ninS ned nin0)))
  refine gF C eDK_141 (hW hw 68 rfl) f22 <| g_aloadN C eDK_144 rfl rfl ?_
  have f23 := ((H2.keep K5 nin0).keep K20 (ninS nec (ninS ned nin0)))
  refine gF C eDK_145 (hW hw 49 rfl) f23 ?_
  have f24 := ((A2.keep K5 nin0).keep K20 (ninS nfc (ninS nfd nin0)))
  refine g_iaload 0 C eDK_148 f24 (by decide) (by decide) rfl <| g_aloadN C eDK_149 rfl rfl ?_
  have f33 := ((E.keep K5).keep K20)
  have f34 := ((F0.keep K5 nin0).keep K20 (ninS nac (ninS nad nin0)))
  have f35 := ((F1.keep K5 nin0).keep K20 (ninS nac (ninS nad nin0)))
  have f36 := ((F2.keep K5 nin0).keep K20 (ninS nac (ninS nad nin0)))
  have f37 := ((A.keep K5 nin0).keep K20 (ninS nbc (ninS nbd nin0)))
  have f38 := ((Ed.keep K5).keep K20)
  refine g_invokevirtual [(.int 1), (.ref c)] [] 0 C eDK_150 (hW hw 162 rfl) (hW hw 163 rfl) (hW hw 165 rfl) (hW hw 164 rfl) (hW hw 43 rfl) (hW hw 166 rfl) (fun _ hZ => notFace_of_selects (args := #[]) (mvT hZ (hW hw 165 rfl))) (by decide) f33 (m_do2 l Z a0 hw _ _ _ _ m0 m1 _ f33 f34 f35 f36 f37 f6 f7 f8 f9 f10 f38 nac nbc nad nbd ndc k0) (lenOf pd14 rfl) rfl rfl (bL rfl) (by decide) (by decide) (by decide) (by decide) (allS (mm 0 rfl) (allS (mm 1 rfl) all0)) (fun v39 h40 L41 q42 K43 => ?_)
  obtain ⟨z25, rfl, d26, f27, f28, f29, f30, f31, f32⟩ := q42
  refine gA (mkF m_ 153 #[.val (.ref a), .val (.ref e), .val (.ref c), .val (.int 0), .val (.int 1), .unset, .unset, .unset] [(.int z25)]) <| g_istore #[.val (.ref a), .val (.ref e), .val (.ref c), .val (.int 0), .val (.int 1), .val (.int z25), .unset, .unset] C eDK_153 rfl <| g_iloadN C eDK_155 rfl <| g_ifT 182 C eDK_156 (show (0 : Int32) = (0 : Int32) by decide) (by decide) (by decide) <| g_aconstNull C eDK_182 ?_
  exact g_retA C eDK_183 rfl rfl ⟨rfl, d26, f27, f28, f29, f30, f31, f32⟩ (by decide) (by decide)
theorem eBK_0 : decode k12 0 = .ok (.new 541, 3) := by decide +kernel
theorem eBK_3 : decode k12 3 = .ok (.dup, 1) := by decide +kernel
theorem eBK_4 : decode k12 4 = .ok (.invokespecial 543, 3) := by decide +kernel
theorem eBK_7 : decode k12 7 = .ok (.astore_n 2, 1) := by decide +kernel
theorem eBK_8 : decode k12 8 = .ok (.new 541, 3) := by decide +kernel
theorem eBK_11 : decode k12 11 = .ok (.dup, 1) := by decide +kernel
theorem eBK_12 : decode k12 12 = .ok (.aload_n 0, 1) := by decide +kernel
theorem eBK_13 : decode k12 13 = .ok (.getfield 28, 3) := by decide +kernel
theorem eBK_16 : decode k12 16 = .ok (.invokespecial 544, 3) := by decide +kernel
theorem eBK_19 : decode k12 19 = .ok (.astore_n 3, 1) := by decide +kernel
theorem eBK_20 : decode k12 20 = .ok (.new 541, 3) := by decide +kernel
theorem eBK_23 : decode k12 23 = .ok (.dup, 1) := by decide +kernel
theorem eBK_24 : decode k12 24 = .ok (.aload_n 1, 1) := by decide +kernel
theorem eBK_25 : decode k12 25 = .ok (.getfield 28, 3) := by decide +kernel
theorem eBK_28 : decode k12 28 = .ok (.invokespecial 544, 3) := by decide +kernel
theorem eBK_31 : decode k12 31 = .ok (.astore 4, 2) := by decide +kernel
theorem eBK_33 : decode k12 33 = .ok (.aload_n 3, 1) := by decide +kernel
theorem eBK_34 : decode k12 34 = .ok (.aload 4, 2) := by decide +kernel
theorem eBK_36 : decode k12 36 = .ok (.aload_n 2, 1) := by decide +kernel
theorem eBK_37 : decode k12 37 = .ok (.iconst 0, 1) := by decide +kernel
theorem eBK_38 : decode k12 38 = .ok (.invokevirtual 545, 3) := by decide +kernel
theorem eBK_41 : decode k12 41 = .ok (.pop, 1) := by decide +kernel
theorem eBK_42 : decode k12 42 = .ok (.aload_n 2, 1) := by decide +kernel
theorem eBK_43 : decode k12 43 = .ok (.aload_n 0, 1) := by decide +kernel
theorem eBK_44 : decode k12 44 = .ok (.getfield 32, 3) := by decide +kernel
theorem eBK_47 : decode k12 47 = .ok (.aload_n 1, 1) := by decide +kernel
theorem eBK_48 : decode k12 48 = .ok (.getfield 32, 3) := by decide +kernel
theorem eBK_51 : decode k12 51 = .ok (.imul, 1) := by decide +kernel
theorem eBK_52 : decode k12 52 = .ok (.invokevirtual 548, 3) := by decide +kernel
theorem eBK_55 : decode k12 55 = .ok (.areturn, 1) := by decide +kernel
theorem m_bk0 (l : Launch) (Z : State) (a0 : Array Value) (hw : ∀ d ∈ tables_1, d.before a0 Z = true) (x y : Addr) (h : Heap) (Xx : Big Z h x (0 : Int32) []) (Xy : Big Z h y (1 : Int32) [(1 : Int32)]) {ps ns one zero : Addr} (ST : Start Z ps ns one zero) :
    MetW false l Z [] (⟨"java/math/BigInteger", "divideKnuth", "(Ljava/math/BigInteger;)Ljava/math/BigInteger;"⟩ : MethodName) k12 5 (some (.object "java/math/BigInteger")) [] (rM 4 6 18 60) #[(.ref x), (.ref y)] [] h (fun v h' => ∃ z : Addr, v = some (.ref z) ∧ Big Z h' z 0 []) := by
  obtain ⟨arx, Ex, Sx, Gx, Bx, Ax⟩ := Xx
  have Ax : Av Z h arx .int [] := Ax
  obtain ⟨ary, Ey, Sy, Gy, By, Ay⟩ := Xy
  have Ay : Av Z h ary .int [(.int 1)] := Ay
  refine mO a0 #[.val (.ref x), .val (.ref y), .unset, .unset, .unset] (fun _ _ _ m_ _ _ _ hs0 C => ?_)
  refine Go.know (fun hX hK _ => ?_)
  refine g_new_ C eBK_0 (hW hw 41 rfl) (hW hw 42 rfl) (hW hw 43 rfl) (by decide) (by decide) (fun a1 h2 e3 E4 l5 f6 D7 => ?_)
  have K8 := keep_ext E4
  have f9 : fO Z h2 a1 (.int 0) := D7 (Or.inl (hW hw 50 rfl)) (ty := .int) (by decide)
  have f10 : fI Z h2 a1 (.int 0) := D7 (Or.inl (hW hw 54 rfl)) (ty := .int) (by decide)
  have f11 : fV Z h2 a1 .null := D7 (Or.inl (hW hw 69 rfl)) (ty := (.array .int)) (by decide)
  refine g_dup C eBK_3 rfl ?_
  refine g_invokespecial [] [(.ref a1)] 1 C eBK_4 rfl (hW hw 143 rfl) (hW hw 77 rfl) (hW hw 43 rfl) (hW hw 78 rfl) (by decide) (m_mb0 l Z a0 hw _ _ f6 f11 f10 f9) (lenOf pd2 rfl) rfl rfl (bL rfl) (by decide) (by decide) (by decide) (by decide) (allS (mm 0 rfl) all0) (fun v20 h21 L22 q23 K24 => ?_)
  obtain ⟨rfl, d12, g13, f14, f15, f16, f17, f18, f19⟩ := q23
  refine gA (mkF m_ 7 #[.val (.ref x), .val (.ref y), .unset, .unset, .unset] [(.ref a1)]) <| g_astoreN #[.val (.ref x), .val (.ref y), .val (.ref a1), .unset, .unset] C eBK_7 rfl rfl ?_
  refine g_new_ C eBK_8 (hW hw 41 rfl) (hW hw 42 rfl) (hW hw 43 rfl) (by decide) (by decide) (fun a25 h26 e27 E28 l29 f30 D31 => ?_)
  have K32 := keep_ext E28
  have f33 : fO Z h26 a25 (.int 0) := D31 (Or.inl (hW hw 50 rfl)) (ty := .int) (by decide)
  have f34 : fI Z h26 a25 (.int 0) := D31 (Or.inl (hW hw 54 rfl)) (ty := .int) (by decide)
  have f35 : fV Z h26 a25 .null := D31 (Or.inl (hW hw 69 rfl)) (ty := (.array .int)) (by decide)
  refine g_dup C eBK_11 rfl <| g_aloadN C eBK_12 rfl rfl ?_
  have f36 := (((Gx.keep K8 nin0).keep K24 (ninS (Nat.ne_of_lt (lL Ex.lt (Nat.le_of_eq e3.symm))) nin0)).keep K32 nin0)
  refine gF C eBK_13 (hW hw 131 rfl) f36 ?_
  have f41 := (((Ax.keep K8 nin0).keep K24 (ninS (Nat.ne_of_lt (lL Ax.lt (Nat.le_of_eq e3.symm))) nin0)).keep K32 nin0)
  refine g_invokespecial [(.ref arx)] [(.ref a25)] 1 C eBK_16 rfl (hW hw 144 rfl) (hW hw 145 rfl) (hW hw 43 rfl) (hW hw 146 rfl) (by decide) (m_mbA0 l Z a0 hw _ _  _ f30 f35 f34 f33 f41 (Nat.ne_of_lt (lL (lL Ax.lt (lT K8.1 K24.1)) (Nat.le_of_eq e27.symm)))) (lenOf pd15 rfl) rfl rfl (bL rfl) (by decide) (by decide) (by decide) (by decide) (allS (mm 0 rfl) all0) (fun v42 h43 L44 q45 K46 => ?_)
  obtain ⟨rfl, f37, f38, f39, f40⟩ := q45
  refine gA (mkF m_ 19 #[.val (.ref x), .val (.ref y), .val (.ref a1), .unset, .unset] [(.ref a25)]) <| g_astoreN #[.val (.ref x), .val (.ref y), .val (.ref a1), .val (.ref a25), .unset] C eBK_19 rfl rfl ?_
  refine g_new_ C eBK_20 (hW hw 41 rfl) (hW hw 42 rfl) (hW hw 43 rfl) (by decide) (by decide) (fun a47 h48 e49 E50 l51 f52 D53 => ?_)
  have K54 := keep_ext E50
  have f55 : fO Z h48 a47 (.int 0) := D53 (Or.inl (hW hw 50 rfl)) (ty := .int) (by decide)
  have f56 : fI Z h48 a47 (.int 0) := D53 (Or.inl (hW hw 54 rfl)) (ty := .int) (by decide)
  have f57 : fV Z h48 a47 .null := D53 (Or.inl (hW hw 69 rfl)) (ty := (.array .int)) (by decide)
  refine g_dup C eBK_23 rfl <| g_aloadN C eBK_24 rfl rfl ?_
  have f58 := (((((Gy.keep K8 nin0).keep K24 (ninS (Nat.ne_of_lt (lL Ey.lt (Nat.le_of_eq e3.symm))) nin0)).keep K32 nin0).keep K46 (ninS (Nat.ne_of_lt (lL (lL Ey.lt (lT K8.1 K24.1)) (Nat.le_of_eq e27.symm))) nin0)).keep K54 nin0)
  refine gF C eBK_25 (hW hw 131 rfl) f58 ?_
  have f63 := (((((Ay.keep K8 nin0).keep K24 (ninS (Nat.ne_of_lt (lL Ay.lt (Nat.le_of_eq e3.symm))) nin0)).keep K32 nin0).keep K46 (ninS (Nat.ne_of_lt (lL (lL Ay.lt (lT K8.1 K24.1)) (Nat.le_of_eq e27.symm))) nin0)).keep K54 nin0)
  refine g_invokespecial [(.ref ary)] [(.ref a47)] 1 C eBK_28 rfl (hW hw 144 rfl) (hW hw 145 rfl) (hW hw 43 rfl) (hW hw 146 rfl) (by decide) (m_mbA1 l Z a0 hw _ _ (1 : Int32) _ f52 f57 f56 f55 f63 (Nat.ne_of_lt (lL (lL Ay.lt (lT (lT (lT K8.1 K24.1) K32.1) K46.1)) (Nat.le_of_eq e49.symm)))) (lenOf pd15 rfl) rfl rfl (bL rfl) (by decide) (by decide) (by decide) (by decide) (allS (mm 0 rfl) all0) (fun v64 h65 L66 q67 K68 => ?_)
  obtain ⟨rfl, f59, f60, f61, f62⟩ := q67
  refine gA (mkF m_ 31 #[.val (.ref x), .val (.ref y), .val (.ref a1), .val (.ref a25), .unset] [(.ref a47)]) <| g_astore #[.val (.ref x), .val (.ref y), .val (.ref a1), .val (.ref a25), .val (.ref a47)] C eBK_31 rfl rfl ?_
  have f69 := ((((f18.keep K32).keep K46).keep K54).keep K68)
  refine Go.take f69 (by decide) (by decide) (lT hX.1 (lT K8.1 g13)) (by rw [hs0]; exact (lT K8.1 g13)) ?_
  refine gA (mkF m_ 33 #[.val (.ref x), .val (.ref y), .val (.ref a1), .val (.ref a25), .val (.ref a47)] []) <| g_aloadN C eBK_33 rfl rfl <| g_aload C eBK_34 rfl rfl <| g_aloadN C eBK_36 rfl rfl <| g_iconst 0 C eBK_37 (by decide) ?_
  have f77 := ((f37.keep K54).keep K68)
  have f78 := ((f38.keep K54 nin0).keep K68 (ninS (Nat.ne_of_lt (lL (lL l29 K46.1) (Nat.le_of_eq e49.symm))) nin0))
  have f79 := ((f39.keep K54 nin0).keep K68 (ninS (Nat.ne_of_lt (lL (lL l29 K46.1) (Nat.le_of_eq e49.symm))) nin0))
  have f80 := ((f40.keep K54 nin0).keep K68 (ninS (Nat.ne_of_lt (lL (lL l29 K46.1) (Nat.le_of_eq e49.symm))) nin0))
  have f81 := (((f41.keep K46 (ninS (Nat.ne_of_lt (lL (lL Ax.lt (lT K8.1 K24.1)) (Nat.le_of_eq e27.symm))) nin0)).keep K54 nin0).keep K68 (ninS (Nat.ne_of_lt (lL (lL Ax.lt (lT (lT (lT K8.1 K24.1) K32.1) K46.1)) (Nat.le_of_eq e49.symm))) nin0))
  have f82 := ((((f14.keep K32).keep K46).keep K54).keep K68)
  have f83 := ((((f15.keep K32 nin0).keep K46 (ninS (Nat.ne_of_lt (lL (lL l5 K24.1) (Nat.le_of_eq e27.symm))) nin0)).keep K54 nin0).keep K68 (ninS (Nat.ne_of_lt (lL (lL l5 (lT (lT K24.1 K32.1) K46.1)) (Nat.le_of_eq e49.symm))) nin0))
  have f84 := ((((f16.keep K32 nin0).keep K46 (ninS (Nat.ne_of_lt (lL (lL l5 K24.1) (Nat.le_of_eq e27.symm))) nin0)).keep K54 nin0).keep K68 (ninS (Nat.ne_of_lt (lL (lL l5 (lT (lT K24.1 K32.1) K46.1)) (Nat.le_of_eq e49.symm))) nin0))
  have f85 := ((((f17.keep K32 nin0).keep K46 (ninS (Nat.ne_of_lt (lL (lL l5 K24.1) (Nat.le_of_eq e27.symm))) nin0)).keep K54 nin0).keep K68 (ninS (Nat.ne_of_lt (lL (lL l5 (lT (lT K24.1 K32.1) K46.1)) (Nat.le_of_eq e49.symm))) nin0))
  have f86 := ((((f19.keep K32 nin0).keep K46 (ninS (Nat.ne_of_lt (lL f18.lt (Nat.le_of_eq e27.symm))) nin0)).keep K54 nin0).keep K68 (ninS (Nat.ne_of_lt (lL (lL f18.lt (lT K32.1 K46.1)) (Nat.le_of_eq e49.symm))) nin0))
  have f87 := (f63.keep K68 (ninS (Nat.ne_of_lt (lL (lL Ay.lt (lT (lT (lT K8.1 K24.1) K32.1) K46.1)) (Nat.le_of_eq e49.symm))) nin0))
  refine g_invokevirtual [(.ref a47), (.ref a1), (.int 0)] [] 0 C eBK_38 (hW hw 147 rfl) (hW hw 148 rfl) (hW hw 150 rfl) (hW hw 149 rfl) (hW hw 43 rfl) (hW hw 151 rfl) (fun _ hZ => notFace_of_selects (args := #[]) (mvT hZ (hW hw 150 rfl))) (by decide) f77 (m_dk0 l Z a0 hw _ _ _ _ _ _  _ f77 f78 f79 f80 f81 f82 f83 f84 f85 f86 f69 (Nat.ne_of_gt (lL (lL l5 K24.1) (Nat.le_of_eq e27.symm))) (Nat.ne_of_lt (lL Ax.lt (Nat.le_of_eq e3.symm))) (Nat.ne_of_gt (lL f18.lt (Nat.le_of_eq e27.symm))) (Nat.ne_of_lt (lL (lL Ax.lt K8.1) g13)) (Nat.ne_of_gt (lL l5 g13)) f59 f60 f61 f62 f87 (Nat.ne_of_gt (lL (lL l5 (lT (lT K24.1 K32.1) K46.1)) (Nat.le_of_eq e49.symm))) (Nat.ne_of_lt (lL Ay.lt (Nat.le_of_eq e3.symm))) (Nat.ne_of_gt (lL (lL f18.lt (lT K32.1 K46.1)) (Nat.le_of_eq e49.symm))) (Nat.ne_of_lt (lL (lL Ay.lt K8.1) g13)) ) (lenOf pd16 rfl) rfl rfl (bL rfl) (by decide) (by decide) (by decide) (by decide) (allS (mm 3 rfl) (allS (mm 0 rfl) all0)) (fun v88 h89 L90 q91 K92 => ?_)
  obtain ⟨rfl, d70, f71, f72, f73, f74, f75, f76⟩ := q91
  refine gA (mkF m_ 41 #[.val (.ref x), .val (.ref y), .val (.ref a1), .val (.ref a25), .val (.ref a47)] [.null]) <| g_pop C eBK_41 rfl <| g_aloadN C eBK_42 rfl rfl <| g_aloadN C eBK_43 rfl rfl ?_
  have f93 := (((((((Sx.keep K8 nin0).keep K24 (ninS (Nat.ne_of_lt (lL Ex.lt (Nat.le_of_eq e3.symm))) nin0)).keep K32 nin0).keep K46 (ninS (Nat.ne_of_lt (lL (lL Ex.lt (lT K8.1 K24.1)) (Nat.le_of_eq e27.symm))) nin0)).keep K54 nin0).keep K68 (ninS (Nat.ne_of_lt (lL (lL Ex.lt (lT (lT (lT K8.1 K24.1) K32.1) K46.1)) (Nat.le_of_eq e49.symm))) nin0)).keep K92 (ninS (Nat.ne_of_lt (lL Ex.lt (Nat.le_of_eq e3.symm))) (ninS (Nat.ne_of_lt (lL (lL Ex.lt K8.1) g13)) nin0)))
  refine gF C eBK_44 (hW hw 34 rfl) f93 <| g_aloadN C eBK_47 rfl rfl ?_
  have f94 := (((((((Sy.keep K8 nin0).keep K24 (ninS (Nat.ne_of_lt (lL Ey.lt (Nat.le_of_eq e3.symm))) nin0)).keep K32 nin0).keep K46 (ninS (Nat.ne_of_lt (lL (lL Ey.lt (lT K8.1 K24.1)) (Nat.le_of_eq e27.symm))) nin0)).keep K54 nin0).keep K68 (ninS (Nat.ne_of_lt (lL (lL Ey.lt (lT (lT (lT K8.1 K24.1) K32.1) K46.1)) (Nat.le_of_eq e49.symm))) nin0)).keep K92 (ninS (Nat.ne_of_lt (lL Ey.lt (Nat.le_of_eq e3.symm))) (ninS (Nat.ne_of_lt (lL (lL Ey.lt K8.1) g13)) nin0)))
  refine gF C eBK_48 (hW hw 34 rfl) f94 <| g_imul 0 C eBK_51 (by decide) ?_
  refine g_invokevirtual [(.int 0)] [] 0 C eBK_52 (hW hw 108 rfl) (hW hw 109 rfl) (hW hw 111 rfl) (hW hw 110 rfl) (hW hw 43 rfl) (hW hw 112 rfl) (fun _ hZ => notFace_of_selects (args := #[]) (mvT hZ (hW hw 111 rfl))) (by decide) f71 (m_tb0 l Z a0 hw _ _ _ _ f71 f72 f73 f74 ST) (lenOf pd13 rfl) rfl rfl (bL rfl) (by decide) (by decide) (by decide) (by decide) all0 (fun v102 h103 L104 q105 K106 => ?_)
  obtain ⟨z95, rfl, b96, f97, f98, f99, f100, f101⟩ := q105
  have f101 : Av Z h103 b96 .int [] := f101
  refine gA (mkF m_ 55 #[.val (.ref x), .val (.ref y), .val (.ref a1), .val (.ref a25), .val (.ref a47)] [(.ref z95)]) ?_
  exact g_retA C eBK_55 rfl rfl ⟨_, rfl, ⟨b96, f97, f98, f99, f100, f101⟩⟩ (by decide) (by decide)
theorem m_bk1a (l : Launch) (Z : State) (a0 : Array Value) (hw : ∀ d ∈ tables_1, d.before a0 Z = true) (x y : Addr) (s  : Int32) (h : Heap) (Xx : Big Z h x s [(1 : Int32)]) (Xy : Big Z h y (1 : Int32) [(1 : Int32)]) (hs : ¬ s = 0) :
    MetW false l Z [] (⟨"java/math/BigInteger", "divideKnuth", "(Ljava/math/BigInteger;)Ljava/math/BigInteger;"⟩ : MethodName) k12 5 (some (.object "java/math/BigInteger")) [] (rM 4 6 18 60) #[(.ref x), (.ref y)] [] h (fun v h' => ∃ z : Addr, v = some (.ref z) ∧ Big Z h' z s [(1 : Int32)]) := by
  obtain ⟨arx, Ex, Sx, Gx, Bx, Ax⟩ := Xx
  have Ax : Av Z h arx .int [(.int 1)] := Ax
  obtain ⟨ary, Ey, Sy, Gy, By, Ay⟩ := Xy
  have Ay : Av Z h ary .int [(.int 1)] := Ay
  refine mO a0 #[.val (.ref x), .val (.ref y), .unset, .unset, .unset] (fun _ _ _ m_ _ _ _ hs0 C => ?_)
  refine Go.know (fun hX hK _ => ?_)
  refine g_new_ C eBK_0 (hW hw 41 rfl) (hW hw 42 rfl) (hW hw 43 rfl) (by decide) (by decide) (fun a1 h2 e3 E4 l5 f6 D7 => ?_)
  have K8 := keep_ext E4
  have f9 : fO Z h2 a1 (.int 0) := D7 (Or.inl (hW hw 50 rfl)) (ty := .int) (by decide)
  have f10 : fI Z h2 a1 (.int 0) := D7 (Or.inl (hW hw 54 rfl)) (ty := .int) (by decide)
  have f11 : fV Z h2 a1 .null := D7 (Or.inl (hW hw 69 rfl)) (ty := (.array .int)) (by decide)
  refine g_dup C eBK_3 rfl ?_
  refine g_invokespecial [] [(.ref a1)] 1 C eBK_4 rfl (hW hw 143 rfl) (hW hw 77 rfl) (hW hw 43 rfl) (hW hw 78 rfl) (by decide) (m_mb0 l Z a0 hw _ _ f6 f11 f10 f9) (lenOf pd2 rfl) rfl rfl (bL rfl) (by decide) (by decide) (by decide) (by decide) (allS (mm 0 rfl) all0) (fun v20 h21 L22 q23 K24 => ?_)
  obtain ⟨rfl, d12, g13, f14, f15, f16, f17, f18, f19⟩ := q23
  refine gA (mkF m_ 7 #[.val (.ref x), .val (.ref y), .unset, .unset, .unset] [(.ref a1)]) <| g_astoreN #[.val (.ref x), .val (.ref y), .val (.ref a1), .unset, .unset] C eBK_7 rfl rfl ?_
  refine g_new_ C eBK_8 (hW hw 41 rfl) (hW hw 42 rfl) (hW hw 43 rfl) (by decide) (by decide) (fun a25 h26 e27 E28 l29 f30 D31 => ?_)
  have K32 := keep_ext E28
  have f33 : fO Z h26 a25 (.int 0) := D31 (Or.inl (hW hw 50 rfl)) (ty := .int) (by decide)
  have f34 : fI Z h26 a25 (.int 0) := D31 (Or.inl (hW hw 54 rfl)) (ty := .int) (by decide)
  have f35 : fV Z h26 a25 .null := D31 (Or.inl (hW hw 69 rfl)) (ty := (.array .int)) (by decide)
  refine g_dup C eBK_11 rfl <| g_aloadN C eBK_12 rfl rfl ?_
  have f36 := (((Gx.keep K8 nin0).keep K24 (ninS (Nat.ne_of_lt (lL Ex.lt (Nat.le_of_eq e3.symm))) nin0)).keep K32 nin0)
  refine gF C eBK_13 (hW hw 131 rfl) f36 ?_
  have f41 := (((Ax.keep K8 nin0).keep K24 (ninS (Nat.ne_of_lt (lL Ax.lt (Nat.le_of_eq e3.symm))) nin0)).keep K32 nin0)
  refine g_invokespecial [(.ref arx)] [(.ref a25)] 1 C eBK_16 rfl (hW hw 144 rfl) (hW hw 145 rfl) (hW hw 43 rfl) (hW hw 146 rfl) (by decide) (m_mbA1 l Z a0 hw _ _ (1 : Int32) _ f30 f35 f34 f33 f41 (Nat.ne_of_lt (lL (lL Ax.lt (lT K8.1 K24.1)) (Nat.le_of_eq e27.symm)))) (lenOf pd15 rfl) rfl rfl (bL rfl) (by decide) (by decide) (by decide) (by decide) (allS (mm 0 rfl) all0) (fun v42 h43 L44 q45 K46 => ?_)
  obtain ⟨rfl, f37, f38, f39, f40⟩ := q45
  refine gA (mkF m_ 19 #[.val (.ref x), .val (.ref y), .val (.ref a1), .unset, .unset] [(.ref a25)]) <| g_astoreN #[.val (.ref x), .val (.ref y), .val (.ref a1), .val (.ref a25), .unset] C eBK_19 rfl rfl ?_
  refine g_new_ C eBK_20 (hW hw 41 rfl) (hW hw 42 rfl) (hW hw 43 rfl) (by decide) (by decide) (fun a47 h48 e49 E50 l51 f52 D53 => ?_)
  have K54 := keep_ext E50
  have f55 : fO Z h48 a47 (.int 0) := D53 (Or.inl (hW hw 50 rfl)) (ty := .int) (by decide)
  have f56 : fI Z h48 a47 (.int 0) := D53 (Or.inl (hW hw 54 rfl)) (ty := .int) (by decide)
  have f57 : fV Z h48 a47 .null := D53 (Or.inl (hW hw 69 rfl)) (ty := (.array .int)) (by decide)
  refine g_dup C eBK_23 rfl <| g_aloadN C eBK_24 rfl rfl ?_
  have f58 := (((((Gy.keep K8 nin0).keep K24 (ninS (Nat.ne_of_lt (lL Ey.lt (Nat.le_of_eq e3.symm))) nin0)).keep K32 nin0).keep K46 (ninS (Nat.ne_of_lt (lL (lL Ey.lt (lT K8.1 K24.1)) (Nat.le_of_eq e27.symm))) nin0)).keep K54 nin0)
  refine gF C eBK_25 (hW hw 131 rfl) f58 ?_
  have f63 := (((((Ay.keep K8 nin0).keep K24 (ninS (Nat.ne_of_lt (lL Ay.lt (Nat.le_of_eq e3.symm))) nin0)).keep K32 nin0).keep K46 (ninS (Nat.ne_of_lt (lL (lL Ay.lt (lT K8.1 K24.1)) (Nat.le_of_eq e27.symm))) nin0)).keep K54 nin0)
  refine g_invokespecial [(.ref ary)] [(.ref a47)] 1 C eBK_28 rfl (hW hw 144 rfl) (hW hw 145 rfl) (hW hw 43 rfl) (hW hw 146 rfl) (by decide) (m_mbA1 l Z a0 hw _ _ (1 : Int32) _ f52 f57 f56 f55 f63 (Nat.ne_of_lt (lL (lL Ay.lt (lT (lT (lT K8.1 K24.1) K32.1) K46.1)) (Nat.le_of_eq e49.symm)))) (lenOf pd15 rfl) rfl rfl (bL rfl) (by decide) (by decide) (by decide) (by decide) (allS (mm 0 rfl) all0) (fun v64 h65 L66 q67 K68 => ?_)
  obtain ⟨rfl, f59, f60, f61, f62⟩ := q67
  refine gA (mkF m_ 31 #[.val (.ref x), .val (.ref y), .val (.ref a1), .val (.ref a25), .unset] [(.ref a47)]) <| g_astore #[.val (.ref x), .val (.ref y), .val (.ref a1), .val (.ref a25), .val (.ref a47)] C eBK_31 rfl rfl ?_
  have f69 := ((((f18.keep K32).keep K46).keep K54).keep K68)
  refine Go.take f69 (by decide) (by decide) (lT hX.1 (lT K8.1 g13)) (by rw [hs0]; exact (lT K8.1 g13)) ?_
  refine gA (mkF m_ 33 #[.val (.ref x), .val (.ref y), .val (.ref a1), .val (.ref a25), .val (.ref a47)] []) <| g_aloadN C eBK_33 rfl rfl <| g_aload C eBK_34 rfl rfl <| g_aloadN C eBK_36 rfl rfl <| g_iconst 0 C eBK_37 (by decide) ?_
  have f77 := ((f37.keep K54).keep K68)
  have f78 := ((f38.keep K54 nin0).keep K68 (ninS (Nat.ne_of_lt (lL (lL l29 K46.1) (Nat.le_of_eq e49.symm))) nin0))
  have f79 := ((f39.keep K54 nin0).keep K68 (ninS (Nat.ne_of_lt (lL (lL l29 K46.1) (Nat.le_of_eq e49.symm))) nin0))
  have f80 := ((f40.keep K54 nin0).keep K68 (ninS (Nat.ne_of_lt (lL (lL l29 K46.1) (Nat.le_of_eq e49.symm))) nin0))
  have f81 := (((f41.keep K46 (ninS (Nat.ne_of_lt (lL (lL Ax.lt (lT K8.1 K24.1)) (Nat.le_of_eq e27.symm))) nin0)).keep K54 nin0).keep K68 (ninS (Nat.ne_of_lt (lL (lL Ax.lt (lT (lT (lT K8.1 K24.1) K32.1) K46.1)) (Nat.le_of_eq e49.symm))) nin0))
  have f82 := ((((f14.keep K32).keep K46).keep K54).keep K68)
  have f83 := ((((f15.keep K32 nin0).keep K46 (ninS (Nat.ne_of_lt (lL (lL l5 K24.1) (Nat.le_of_eq e27.symm))) nin0)).keep K54 nin0).keep K68 (ninS (Nat.ne_of_lt (lL (lL l5 (lT (lT K24.1 K32.1) K46.1)) (Nat.le_of_eq e49.symm))) nin0))
  have f84 := ((((f16.keep K32 nin0).keep K46 (ninS (Nat.ne_of_lt (lL (lL l5 K24.1) (Nat.le_of_eq e27.symm))) nin0)).keep K54 nin0).keep K68 (ninS (Nat.ne_of_lt (lL (lL l5 (lT (lT K24.1 K32.1) K46.1)) (Nat.le_of_eq e49.symm))) nin0))
  have f85 := ((((f17.keep K32 nin0).keep K46 (ninS (Nat.ne_of_lt (lL (lL l5 K24.1) (Nat.le_of_eq e27.symm))) nin0)).keep K54 nin0).keep K68 (ninS (Nat.ne_of_lt (lL (lL l5 (lT (lT K24.1 K32.1) K46.1)) (Nat.le_of_eq e49.symm))) nin0))
  have f86 := ((((f19.keep K32 nin0).keep K46 (ninS (Nat.ne_of_lt (lL f18.lt (Nat.le_of_eq e27.symm))) nin0)).keep K54 nin0).keep K68 (ninS (Nat.ne_of_lt (lL (lL f18.lt (lT K32.1 K46.1)) (Nat.le_of_eq e49.symm))) nin0))
  have f87 := (f63.keep K68 (ninS (Nat.ne_of_lt (lL (lL Ay.lt (lT (lT (lT K8.1 K24.1) K32.1) K46.1)) (Nat.le_of_eq e49.symm))) nin0))
  refine g_invokevirtual [(.ref a47), (.ref a1), (.int 0)] [] 0 C eBK_38 (hW hw 147 rfl) (hW hw 148 rfl) (hW hw 150 rfl) (hW hw 149 rfl) (hW hw 43 rfl) (hW hw 151 rfl) (fun _ hZ => notFace_of_selects (args := #[]) (mvT hZ (hW hw 150 rfl))) (by decide) f77 (m_dk1a l Z a0 hw _ _ _ _ _ _  _ f77 f78 f79 f80 f81 f82 f83 f84 f85 f86 f69 (Nat.ne_of_gt (lL (lL l5 K24.1) (Nat.le_of_eq e27.symm))) (Nat.ne_of_lt (lL Ax.lt (Nat.le_of_eq e3.symm))) (Nat.ne_of_gt (lL f18.lt (Nat.le_of_eq e27.symm))) (Nat.ne_of_lt (lL (lL Ax.lt K8.1) g13)) (Nat.ne_of_gt (lL l5 g13)) f59 f60 f61 f62 f87 (Nat.ne_of_gt (lL (lL l5 (lT (lT K24.1 K32.1) K46.1)) (Nat.le_of_eq e49.symm))) (Nat.ne_of_lt (lL Ay.lt (Nat.le_of_eq e3.symm))) (Nat.ne_of_gt (lL (lL f18.lt (lT K32.1 K46.1)) (Nat.le_of_eq e49.symm))) (Nat.ne_of_lt (lL (lL Ay.lt K8.1) g13)) ) (lenOf pd16 rfl) rfl rfl (bL rfl) (by decide) (by decide) (by decide) (by decide) (allS (mm 3 rfl) (allS (mm 0 rfl) all0)) (fun v88 h89 L90 q91 K92 => ?_)
  obtain ⟨rfl, d70, f71, f72, f73, f74, f75, f76⟩ := q91
  refine gA (mkF m_ 41 #[.val (.ref x), .val (.ref y), .val (.ref a1), .val (.ref a25), .val (.ref a47)] [.null]) <| g_pop C eBK_41 rfl <| g_aloadN C eBK_42 rfl rfl <| g_aloadN C eBK_43 rfl rfl ?_
  have f93 := (((((((Sx.keep K8 nin0).keep K24 (ninS (Nat.ne_of_lt (lL Ex.lt (Nat.le_of_eq e3.symm))) nin0)).keep K32 nin0).keep K46 (ninS (Nat.ne_of_lt (lL (lL Ex.lt (lT K8.1 K24.1)) (Nat.le_of_eq e27.symm))) nin0)).keep K54 nin0).keep K68 (ninS (Nat.ne_of_lt (lL (lL Ex.lt (lT (lT (lT K8.1 K24.1) K32.1) K46.1)) (Nat.le_of_eq e49.symm))) nin0)).keep K92 (ninS (Nat.ne_of_lt (lL Ex.lt (Nat.le_of_eq e3.symm))) (ninS (Nat.ne_of_lt (lL (lL Ex.lt K8.1) g13)) nin0)))
  refine gF C eBK_44 (hW hw 34 rfl) f93 <| g_aloadN C eBK_47 rfl rfl ?_
  have f94 := (((((((Sy.keep K8 nin0).keep K24 (ninS (Nat.ne_of_lt (lL Ey.lt (Nat.le_of_eq e3.symm))) nin0)).keep K32 nin0).keep K46 (ninS (Nat.ne_of_lt (lL (lL Ey.lt (lT K8.1 K24.1)) (Nat.le_of_eq e27.symm))) nin0)).keep K54 nin0).keep K68 (ninS (Nat.ne_of_lt (lL (lL Ey.lt (lT (lT (lT K8.1 K24.1) K32.1) K46.1)) (Nat.le_of_eq e49.symm))) nin0)).keep K92 (ninS (Nat.ne_of_lt (lL Ey.lt (Nat.le_of_eq e3.symm))) (ninS (Nat.ne_of_lt (lL (lL Ey.lt K8.1) g13)) nin0)))
  refine gF C eBK_48 (hW hw 34 rfl) f94 <| g_imul _ C eBK_51 rfl ?_
  rw [Int32.mul_one]
  refine gA (mkF m_ 52 #[.val (.ref x), .val (.ref y), .val (.ref a1), .val (.ref a25), .val (.ref a47)] [(.int s), (.ref a1)]) ?_
  refine g_invokevirtual [(.int s)] [] 0 C eBK_52 (hW hw 108 rfl) (hW hw 109 rfl) (hW hw 111 rfl) (hW hw 110 rfl) (hW hw 43 rfl) (hW hw 112 rfl) (fun _ hZ => notFace_of_selects (args := #[]) (mvT hZ (hW hw 111 rfl))) (by decide) f71 (m_tb1 l Z a0 hw _ _ s (1 : Int32) _ f71 f72 f73 f74 f76 f75 hs) (lenOf pd13 rfl) rfl rfl (bL rfl) (by decide) (by decide) (by decide) (by decide) all0 (fun v102 h103 L104 q105 K106 => ?_)
  obtain ⟨z95, rfl, b96, f97, f98, f99, f100, f101⟩ := q105
  have f101 : Av Z h103 b96 .int [(.int 1)] := f101
  refine gA (mkF m_ 55 #[.val (.ref x), .val (.ref y), .val (.ref a1), .val (.ref a25), .val (.ref a47)] [(.ref z95)]) ?_
  exact g_retA C eBK_55 rfl rfl ⟨_, rfl, ⟨b96, f97, f98, f99, f100, f101⟩⟩ (by decide) (by decide)
theorem m_bk1b (l : Launch) (Z : State) (a0 : Array Value) (hw : ∀ d ∈ tables_1, d.before a0 Z = true) (x y : Addr) (s m0 : Int32) (h : Heap) (Xx : Big Z h x s [m0]) (Xy : Big Z h y (1 : Int32) [(1 : Int32)]) (hs : ¬ s = 0) (k0 : ¬ m0 = 0) (k1 : ¬ m0 = 1) :
    MetW false l Z [] (⟨"java/math/BigInteger", "divideKnuth", "(Ljava/math/BigInteger;)Ljava/math/BigInteger;"⟩ : MethodName) k12 5 (some (.object "java/math/BigInteger")) [] (rM 4 6 18 60) #[(.ref x), (.ref y)] [] h (fun v h' => ∃ z : Addr, v = some (.ref z) ∧ Big Z h' z s [m0]) := by
  obtain ⟨arx, Ex, Sx, Gx, Bx, Ax⟩ := Xx
  have Ax : Av Z h arx .int [(.int m0)] := Ax
  obtain ⟨ary, Ey, Sy, Gy, By, Ay⟩ := Xy
  have Ay : Av Z h ary .int [(.int 1)] := Ay
  refine mO a0 #[.val (.ref x), .val (.ref y), .unset, .unset, .unset] (fun _ _ _ m_ _ _ _ hs0 C => ?_)
  refine Go.know (fun hX hK _ => ?_)
  refine g_new_ C eBK_0 (hW hw 41 rfl) (hW hw 42 rfl) (hW hw 43 rfl) (by decide) (by decide) (fun a1 h2 e3 E4 l5 f6 D7 => ?_)
  have K8 := keep_ext E4
  have f9 : fO Z h2 a1 (.int 0) := D7 (Or.inl (hW hw 50 rfl)) (ty := .int) (by decide)
  have f10 : fI Z h2 a1 (.int 0) := D7 (Or.inl (hW hw 54 rfl)) (ty := .int) (by decide)
  have f11 : fV Z h2 a1 .null := D7 (Or.inl (hW hw 69 rfl)) (ty := (.array .int)) (by decide)
  refine g_dup C eBK_3 rfl ?_
  refine g_invokespecial [] [(.ref a1)] 1 C eBK_4 rfl (hW hw 143 rfl) (hW hw 77 rfl) (hW hw 43 rfl) (hW hw 78 rfl) (by decide) (m_mb0 l Z a0 hw _ _ f6 f11 f10 f9) (lenOf pd2 rfl) rfl rfl (bL rfl) (by decide) (by decide) (by decide) (by decide) (allS (mm 0 rfl) all0) (fun v20 h21 L22 q23 K24 => ?_)
  obtain ⟨rfl, d12, g13, f14, f15, f16, f17, f18, f19⟩ := q23
  refine gA (mkF m_ 7 #[.val (.ref x), .val (.ref y), .unset, .unset, .unset] [(.ref a1)]) <| g_astoreN #[.val (.ref x), .val (.ref y), .val (.ref a1), .unset, .unset] C eBK_7 rfl rfl ?_
  refine g_new_ C eBK_8 (hW hw 41 rfl) (hW hw 42 rfl) (hW hw 43 rfl) (by decide) (by decide) (fun a25 h26 e27 E28 l29 f30 D31 => ?_)
  have K32 := keep_ext E28
  have f33 : fO Z h26 a25 (.int 0) := D31 (Or.inl (hW hw 50 rfl)) (ty := .int) (by decide)
  have f34 : fI Z h26 a25 (.int 0) := D31 (Or.inl (hW hw 54 rfl)) (ty := .int) (by decide)
  have f35 : fV Z h26 a25 .null := D31 (Or.inl (hW hw 69 rfl)) (ty := (.array .int)) (by decide)
  refine g_dup C eBK_11 rfl <| g_aloadN C eBK_12 rfl rfl ?_
  have f36 := (((Gx.keep K8 nin0).keep K24 (ninS (Nat.ne_of_lt (lL Ex.lt (Nat.le_of_eq e3.symm))) nin0)).keep K32 nin0)
  refine gF C eBK_13 (hW hw 131 rfl) f36 ?_
  have f41 := (((Ax.keep K8 nin0).keep K24 (ninS (Nat.ne_of_lt (lL Ax.lt (Nat.le_of_eq e3.symm))) nin0)).keep K32 nin0)
  refine g_invokespecial [(.ref arx)] [(.ref a25)] 1 C eBK_16 rfl (hW hw 144 rfl) (hW hw 145 rfl) (hW hw 43 rfl) (hW hw 146 rfl) (by decide) (m_mbA1 l Z a0 hw _ _ m0 _ f30 f35 f34 f33 f41 (Nat.ne_of_lt (lL (lL Ax.lt (lT K8.1 K24.1)) (Nat.le_of_eq e27.symm)))) (lenOf pd15 rfl) rfl rfl (bL rfl) (by decide) (by decide) (by decide) (by decide) (allS (mm 0 rfl) all0) (fun v42 h43 L44 q45 K46 => ?_)
  obtain ⟨rfl, f37, f38, f39, f40⟩ := q45
  refine gA (mkF m_ 19 #[.val (.ref x), .val (.ref y), .val (.ref a1), .unset, .unset] [(.ref a25)]) <| g_astoreN #[.val (.ref x), .val (.ref y), .val (.ref a1), .val (.ref a25), .unset] C eBK_19 rfl rfl ?_
  refine g_new_ C eBK_20 (hW hw 41 rfl) (hW hw 42 rfl) (hW hw 43 rfl) (by decide) (by decide) (fun a47 h48 e49 E50 l51 f52 D53 => ?_)
  have K54 := keep_ext E50
  have f55 : fO Z h48 a47 (.int 0) := D53 (Or.inl (hW hw 50 rfl)) (ty := .int) (by decide)
  have f56 : fI Z h48 a47 (.int 0) := D53 (Or.inl (hW hw 54 rfl)) (ty := .int) (by decide)
  have f57 : fV Z h48 a47 .null := D53 (Or.inl (hW hw 69 rfl)) (ty := (.array .int)) (by decide)
  refine g_dup C eBK_23 rfl <| g_aloadN C eBK_24 rfl rfl ?_
  have f58 := (((((Gy.keep K8 nin0).keep K24 (ninS (Nat.ne_of_lt (lL Ey.lt (Nat.le_of_eq e3.symm))) nin0)).keep K32 nin0).keep K46 (ninS (Nat.ne_of_lt (lL (lL Ey.lt (lT K8.1 K24.1)) (Nat.le_of_eq e27.symm))) nin0)).keep K54 nin0)
  refine gF C eBK_25 (hW hw 131 rfl) f58 ?_
  have f63 := (((((Ay.keep K8 nin0).keep K24 (ninS (Nat.ne_of_lt (lL Ay.lt (Nat.le_of_eq e3.symm))) nin0)).keep K32 nin0).keep K46 (ninS (Nat.ne_of_lt (lL (lL Ay.lt (lT K8.1 K24.1)) (Nat.le_of_eq e27.symm))) nin0)).keep K54 nin0)
  refine g_invokespecial [(.ref ary)] [(.ref a47)] 1 C eBK_28 rfl (hW hw 144 rfl) (hW hw 145 rfl) (hW hw 43 rfl) (hW hw 146 rfl) (by decide) (m_mbA1 l Z a0 hw _ _ (1 : Int32) _ f52 f57 f56 f55 f63 (Nat.ne_of_lt (lL (lL Ay.lt (lT (lT (lT K8.1 K24.1) K32.1) K46.1)) (Nat.le_of_eq e49.symm)))) (lenOf pd15 rfl) rfl rfl (bL rfl) (by decide) (by decide) (by decide) (by decide) (allS (mm 0 rfl) all0) (fun v64 h65 L66 q67 K68 => ?_)
  obtain ⟨rfl, f59, f60, f61, f62⟩ := q67
  refine gA (mkF m_ 31 #[.val (.ref x), .val (.ref y), .val (.ref a1), .val (.ref a25), .unset] [(.ref a47)]) <| g_astore #[.val (.ref x), .val (.ref y), .val (.ref a1), .val (.ref a25), .val (.ref a47)] C eBK_31 rfl rfl ?_
  have f69 := ((((f18.keep K32).keep K46).keep K54).keep K68)
  refine Go.take f69 (by decide) (by decide) (lT hX.1 (lT K8.1 g13)) (by rw [hs0]; exact (lT K8.1 g13)) ?_
  refine gA (mkF m_ 33 #[.val (.ref x), .val (.ref y), .val (.ref a1), .val (.ref a25), .val (.ref a47)] []) <| g_aloadN C eBK_33 rfl rfl <| g_aload C eBK_34 rfl rfl <| g_aloadN C eBK_36 rfl rfl <| g_iconst 0 C eBK_37 (by decide) ?_
  have f77 := ((f37.keep K54).keep K68)
  have f78 := ((f38.keep K54 nin0).keep K68 (ninS (Nat.ne_of_lt (lL (lL l29 K46.1) (Nat.le_of_eq e49.symm))) nin0))
  have f79 := ((f39.keep K54 nin0).keep K68 (ninS (Nat.ne_of_lt (lL (lL l29 K46.1) (Nat.le_of_eq e49.symm))) nin0))
  have f80 := ((f40.keep K54 nin0).keep K68 (ninS (Nat.ne_of_lt (lL (lL l29 K46.1) (Nat.le_of_eq e49.symm))) nin0))
  have f81 := (((f41.keep K46 (ninS (Nat.ne_of_lt (lL (lL Ax.lt (lT K8.1 K24.1)) (Nat.le_of_eq e27.symm))) nin0)).keep K54 nin0).keep K68 (ninS (Nat.ne_of_lt (lL (lL Ax.lt (lT (lT (lT K8.1 K24.1) K32.1) K46.1)) (Nat.le_of_eq e49.symm))) nin0))
  have f82 := ((((f14.keep K32).keep K46).keep K54).keep K68)
  have f83 := ((((f15.keep K32 nin0).keep K46 (ninS (Nat.ne_of_lt (lL (lL l5 K24.1) (Nat.le_of_eq e27.symm))) nin0)).keep K54 nin0).keep K68 (ninS (Nat.ne_of_lt (lL (lL l5 (lT (lT K24.1 K32.1) K46.1)) (Nat.le_of_eq e49.symm))) nin0))
  have f84 := ((((f16.keep K32 nin0).keep K46 (ninS (Nat.ne_of_lt (lL (lL l5 K24.1) (Nat.le_of_eq e27.symm))) nin0)).keep K54 nin0).keep K68 (ninS (Nat.ne_of_lt (lL (lL l5 (lT (lT K24.1 K32.1) K46.1)) (Nat.le_of_eq e49.symm))) nin0))
  have f85 := ((((f17.keep K32 nin0).keep K46 (ninS (Nat.ne_of_lt (lL (lL l5 K24.1) (Nat.le_of_eq e27.symm))) nin0)).keep K54 nin0).keep K68 (ninS (Nat.ne_of_lt (lL (lL l5 (lT (lT K24.1 K32.1) K46.1)) (Nat.le_of_eq e49.symm))) nin0))
  have f86 := ((((f19.keep K32 nin0).keep K46 (ninS (Nat.ne_of_lt (lL f18.lt (Nat.le_of_eq e27.symm))) nin0)).keep K54 nin0).keep K68 (ninS (Nat.ne_of_lt (lL (lL f18.lt (lT K32.1 K46.1)) (Nat.le_of_eq e49.symm))) nin0))
  have f87 := (f63.keep K68 (ninS (Nat.ne_of_lt (lL (lL Ay.lt (lT (lT (lT K8.1 K24.1) K32.1) K46.1)) (Nat.le_of_eq e49.symm))) nin0))
  refine g_invokevirtual [(.ref a47), (.ref a1), (.int 0)] [] 0 C eBK_38 (hW hw 147 rfl) (hW hw 148 rfl) (hW hw 150 rfl) (hW hw 149 rfl) (hW hw 43 rfl) (hW hw 151 rfl) (fun _ hZ => notFace_of_selects (args := #[]) (mvT hZ (hW hw 150 rfl))) (by decide) f77 (m_dk1b l Z a0 hw _ _ _ _ _ _ m0 _ f77 f78 f79 f80 f81 f82 f83 f84 f85 f86 f69 (Nat.ne_of_gt (lL (lL l5 K24.1) (Nat.le_of_eq e27.symm))) (Nat.ne_of_lt (lL Ax.lt (Nat.le_of_eq e3.symm))) (Nat.ne_of_gt (lL f18.lt (Nat.le_of_eq e27.symm))) (Nat.ne_of_lt (lL (lL Ax.lt K8.1) g13)) (Nat.ne_of_gt (lL l5 g13)) f59 f60 f61 f62 f87 (Nat.ne_of_gt (lL (lL l5 (lT (lT K24.1 K32.1) K46.1)) (Nat.le_of_eq e49.symm))) (Nat.ne_of_lt (lL Ay.lt (Nat.le_of_eq e3.symm))) (Nat.ne_of_gt (lL (lL f18.lt (lT K32.1 K46.1)) (Nat.le_of_eq e49.symm))) (Nat.ne_of_lt (lL (lL Ay.lt K8.1) g13)) k0 k1) (lenOf pd16 rfl) rfl rfl (bL rfl) (by decide) (by decide) (by decide) (by decide) (allS (mm 3 rfl) (allS (mm 0 rfl) all0)) (fun v88 h89 L90 q91 K92 => ?_)
  obtain ⟨rfl, d70, f71, f72, f73, f74, f75, f76⟩ := q91
  refine gA (mkF m_ 41 #[.val (.ref x), .val (.ref y), .val (.ref a1), .val (.ref a25), .val (.ref a47)] [.null]) <| g_pop C eBK_41 rfl <| g_aloadN C eBK_42 rfl rfl <| g_aloadN C eBK_43 rfl rfl ?_
  have f93 := (((((((Sx.keep K8 nin0).keep K24 (ninS (Nat.ne_of_lt (lL Ex.lt (Nat.le_of_eq e3.symm))) nin0)).keep K32 nin0).keep K46 (ninS (Nat.ne_of_lt (lL (lL Ex.lt (lT K8.1 K24.1)) (Nat.le_of_eq e27.symm))) nin0)).keep K54 nin0).keep K68 (ninS (Nat.ne_of_lt (lL (lL Ex.lt (lT (lT (lT K8.1 K24.1) K32.1) K46.1)) (Nat.le_of_eq e49.symm))) nin0)).keep K92 (ninS (Nat.ne_of_lt (lL Ex.lt (Nat.le_of_eq e3.symm))) (ninS (Nat.ne_of_lt (lL (lL Ex.lt K8.1) g13)) nin0)))
  refine gF C eBK_44 (hW hw 34 rfl) f93 <| g_aloadN C eBK_47 rfl rfl ?_
  have f94 := (((((((Sy.keep K8 nin0).keep K24 (ninS (Nat.ne_of_lt (lL Ey.lt (Nat.le_of_eq e3.symm))) nin0)).keep K32 nin0).keep K46 (ninS (Nat.ne_of_lt (lL (lL Ey.lt (lT K8.1 K24.1)) (Nat.le_of_eq e27.symm))) nin0)).keep K54 nin0).keep K68 (ninS (Nat.ne_of_lt (lL (lL Ey.lt (lT (lT (lT K8.1 K24.1) K32.1) K46.1)) (Nat.le_of_eq e49.symm))) nin0)).keep K92 (ninS (Nat.ne_of_lt (lL Ey.lt (Nat.le_of_eq e3.symm))) (ninS (Nat.ne_of_lt (lL (lL Ey.lt K8.1) g13)) nin0)))
  refine gF C eBK_48 (hW hw 34 rfl) f94 <| g_imul _ C eBK_51 rfl ?_
  rw [Int32.mul_one]
  refine gA (mkF m_ 52 #[.val (.ref x), .val (.ref y), .val (.ref a1), .val (.ref a25), .val (.ref a47)] [(.int s), (.ref a1)]) ?_
  refine g_invokevirtual [(.int s)] [] 0 C eBK_52 (hW hw 108 rfl) (hW hw 109 rfl) (hW hw 111 rfl) (hW hw 110 rfl) (hW hw 43 rfl) (hW hw 112 rfl) (fun _ hZ => notFace_of_selects (args := #[]) (mvT hZ (hW hw 111 rfl))) (by decide) f71 (m_tb1 l Z a0 hw _ _ s m0 _ f71 f72 f73 f74 f76 f75 hs) (lenOf pd13 rfl) rfl rfl (bL rfl) (by decide) (by decide) (by decide) (by decide) all0 (fun v102 h103 L104 q105 K106 => ?_)
  obtain ⟨z95, rfl, b96, f97, f98, f99, f100, f101⟩ := q105
  have f101 : Av Z h103 b96 .int [(.int m0)] := f101
  refine gA (mkF m_ 55 #[.val (.ref x), .val (.ref y), .val (.ref a1), .val (.ref a25), .val (.ref a47)] [(.ref z95)]) ?_
  exact g_retA C eBK_55 rfl rfl ⟨_, rfl, ⟨b96, f97, f98, f99, f100, f101⟩⟩ (by decide) (by decide)
theorem m_bk2 (l : Launch) (Z : State) (a0 : Array Value) (hw : ∀ d ∈ tables_1, d.before a0 Z = true) (x y : Addr) (s m0 m1 : Int32) (h : Heap) (Xx : Big Z h x s [m0, m1]) (Xy : Big Z h y (1 : Int32) [(1 : Int32)]) (hs : ¬ s = 0) (k0 : ¬ m0 = 0) :
    MetW false l Z [] (⟨"java/math/BigInteger", "divideKnuth", "(Ljava/math/BigInteger;)Ljava/math/BigInteger;"⟩ : MethodName) k12 5 (some (.object "java/math/BigInteger")) [] (rM 4 6 18 60) #[(.ref x), (.ref y)] [] h (fun v h' => ∃ z : Addr, v = some (.ref z) ∧ Big Z h' z s [m0, m1]) := by
  obtain ⟨arx, Ex, Sx, Gx, Bx, Ax⟩ := Xx
  have Ax : Av Z h arx .int [(.int m0), (.int m1)] := Ax
  obtain ⟨ary, Ey, Sy, Gy, By, Ay⟩ := Xy
  have Ay : Av Z h ary .int [(.int 1)] := Ay
  refine mO a0 #[.val (.ref x), .val (.ref y), .unset, .unset, .unset] (fun _ _ _ m_ _ _ _ hs0 C => ?_)
  refine Go.know (fun hX hK _ => ?_)
  refine g_new_ C eBK_0 (hW hw 41 rfl) (hW hw 42 rfl) (hW hw 43 rfl) (by decide) (by decide) (fun a1 h2 e3 E4 l5 f6 D7 => ?_)
  have K8 := keep_ext E4
  have f9 : fO Z h2 a1 (.int 0) := D7 (Or.inl (hW hw 50 rfl)) (ty := .int) (by decide)
  have f10 : fI Z h2 a1 (.int 0) := D7 (Or.inl (hW hw 54 rfl)) (ty := .int) (by decide)
  have f11 : fV Z h2 a1 .null := D7 (Or.inl (hW hw 69 rfl)) (ty := (.array .int)) (by decide)
  refine g_dup C eBK_3 rfl ?_
  refine g_invokespecial [] [(.ref a1)] 1 C eBK_4 rfl (hW hw 143 rfl) (hW hw 77 rfl) (hW hw 43 rfl) (hW hw 78 rfl) (by decide) (m_mb0 l Z a0 hw _ _ f6 f11 f10 f9) (lenOf pd2 rfl) rfl rfl (bL rfl) (by decide) (by decide) (by decide) (by decide) (allS (mm 0 rfl) all0) (fun v20 h21 L22 q23 K24 => ?_)
  obtain ⟨rfl, d12, g13, f14, f15, f16, f17, f18, f19⟩ := q23
  refine gA (mkF m_ 7 #[.val (.ref x), .val (.ref y), .unset, .unset, .unset] [(.ref a1)]) <| g_astoreN #[.val (.ref x), .val (.ref y), .val (.ref a1), .unset, .unset] C eBK_7 rfl rfl ?_
  refine g_new_ C eBK_8 (hW hw 41 rfl) (hW hw 42 rfl) (hW hw 43 rfl) (by decide) (by decide) (fun a25 h26 e27 E28 l29 f30 D31 => ?_)
  have K32 := keep_ext E28
  have f33 : fO Z h26 a25 (.int 0) := D31 (Or.inl (hW hw 50 rfl)) (ty := .int) (by decide)
  have f34 : fI Z h26 a25 (.int 0) := D31 (Or.inl (hW hw 54 rfl)) (ty := .int) (by decide)
  have f35 : fV Z h26 a25 .null := D31 (Or.inl (hW hw 69 rfl)) (ty := (.array .int)) (by decide)
  refine g_dup C eBK_11 rfl <| g_aloadN C eBK_12 rfl rfl ?_
  have f36 := (((Gx.keep K8 nin0).keep K24 (ninS (Nat.ne_of_lt (lL Ex.lt (Nat.le_of_eq e3.symm))) nin0)).keep K32 nin0)
  refine gF C eBK_13 (hW hw 131 rfl) f36 ?_
  have f41 := (((Ax.keep K8 nin0).keep K24 (ninS (Nat.ne_of_lt (lL Ax.lt (Nat.le_of_eq e3.symm))) nin0)).keep K32 nin0)
  refine g_invokespecial [(.ref arx)] [(.ref a25)] 1 C eBK_16 rfl (hW hw 144 rfl) (hW hw 145 rfl) (hW hw 43 rfl) (hW hw 146 rfl) (by decide) (m_mbA2 l Z a0 hw _ _ m0 m1 _ f30 f35 f34 f33 f41 (Nat.ne_of_lt (lL (lL Ax.lt (lT K8.1 K24.1)) (Nat.le_of_eq e27.symm)))) (lenOf pd15 rfl) rfl rfl (bL rfl) (by decide) (by decide) (by decide) (by decide) (allS (mm 0 rfl) all0) (fun v42 h43 L44 q45 K46 => ?_)
  obtain ⟨rfl, f37, f38, f39, f40⟩ := q45
  refine gA (mkF m_ 19 #[.val (.ref x), .val (.ref y), .val (.ref a1), .unset, .unset] [(.ref a25)]) <| g_astoreN #[.val (.ref x), .val (.ref y), .val (.ref a1), .val (.ref a25), .unset] C eBK_19 rfl rfl ?_
  refine g_new_ C eBK_20 (hW hw 41 rfl) (hW hw 42 rfl) (hW hw 43 rfl) (by decide) (by decide) (fun a47 h48 e49 E50 l51 f52 D53 => ?_)
  have K54 := keep_ext E50
  have f55 : fO Z h48 a47 (.int 0) := D53 (Or.inl (hW hw 50 rfl)) (ty := .int) (by decide)
  have f56 : fI Z h48 a47 (.int 0) := D53 (Or.inl (hW hw 54 rfl)) (ty := .int) (by decide)
  have f57 : fV Z h48 a47 .null := D53 (Or.inl (hW hw 69 rfl)) (ty := (.array .int)) (by decide)
  refine g_dup C eBK_23 rfl <| g_aloadN C eBK_24 rfl rfl ?_
  have f58 := (((((Gy.keep K8 nin0).keep K24 (ninS (Nat.ne_of_lt (lL Ey.lt (Nat.le_of_eq e3.symm))) nin0)).keep K32 nin0).keep K46 (ninS (Nat.ne_of_lt (lL (lL Ey.lt (lT K8.1 K24.1)) (Nat.le_of_eq e27.symm))) nin0)).keep K54 nin0)
  refine gF C eBK_25 (hW hw 131 rfl) f58 ?_
  have f63 := (((((Ay.keep K8 nin0).keep K24 (ninS (Nat.ne_of_lt (lL Ay.lt (Nat.le_of_eq e3.symm))) nin0)).keep K32 nin0).keep K46 (ninS (Nat.ne_of_lt (lL (lL Ay.lt (lT K8.1 K24.1)) (Nat.le_of_eq e27.symm))) nin0)).keep K54 nin0)
  refine g_invokespecial [(.ref ary)] [(.ref a47)] 1 C eBK_28 rfl (hW hw 144 rfl) (hW hw 145 rfl) (hW hw 43 rfl) (hW hw 146 rfl) (by decide) (m_mbA1 l Z a0 hw _ _ (1 : Int32) _ f52 f57 f56 f55 f63 (Nat.ne_of_lt (lL (lL Ay.lt (lT (lT (lT K8.1 K24.1) K32.1) K46.1)) (Nat.le_of_eq e49.symm)))) (lenOf pd15 rfl) rfl rfl (bL rfl) (by decide) (by decide) (by decide) (by decide) (allS (mm 0 rfl) all0) (fun v64 h65 L66 q67 K68 => ?_)
  obtain ⟨rfl, f59, f60, f61, f62⟩ := q67
  refine gA (mkF m_ 31 #[.val (.ref x), .val (.ref y), .val (.ref a1), .val (.ref a25), .unset] [(.ref a47)]) <| g_astore #[.val (.ref x), .val (.ref y), .val (.ref a1), .val (.ref a25), .val (.ref a47)] C eBK_31 rfl rfl ?_
  have f69 := ((((f18.keep K32).keep K46).keep K54).keep K68)
  refine Go.take f69 (by decide) (by decide) (lT hX.1 (lT K8.1 g13)) (by rw [hs0]; exact (lT K8.1 g13)) ?_
  refine gA (mkF m_ 33 #[.val (.ref x), .val (.ref y), .val (.ref a1), .val (.ref a25), .val (.ref a47)] []) <| g_aloadN C eBK_33 rfl rfl <| g_aload C eBK_34 rfl rfl <| g_aloadN C eBK_36 rfl rfl <| g_iconst 0 C eBK_37 (by decide) ?_
  have f77 := ((f37.keep K54).keep K68)
  have f78 := ((f38.keep K54 nin0).keep K68 (ninS (Nat.ne_of_lt (lL (lL l29 K46.1) (Nat.le_of_eq e49.symm))) nin0))
  have f79 := ((f39.keep K54 nin0).keep K68 (ninS (Nat.ne_of_lt (lL (lL l29 K46.1) (Nat.le_of_eq e49.symm))) nin0))
  have f80 := ((f40.keep K54 nin0).keep K68 (ninS (Nat.ne_of_lt (lL (lL l29 K46.1) (Nat.le_of_eq e49.symm))) nin0))
  have f81 := (((f41.keep K46 (ninS (Nat.ne_of_lt (lL (lL Ax.lt (lT K8.1 K24.1)) (Nat.le_of_eq e27.symm))) nin0)).keep K54 nin0).keep K68 (ninS (Nat.ne_of_lt (lL (lL Ax.lt (lT (lT (lT K8.1 K24.1) K32.1) K46.1)) (Nat.le_of_eq e49.symm))) nin0))
  have f82 := ((((f14.keep K32).keep K46).keep K54).keep K68)
  have f83 := ((((f15.keep K32 nin0).keep K46 (ninS (Nat.ne_of_lt (lL (lL l5 K24.1) (Nat.le_of_eq e27.symm))) nin0)).keep K54 nin0).keep K68 (ninS (Nat.ne_of_lt (lL (lL l5 (lT (lT K24.1 K32.1) K46.1)) (Nat.le_of_eq e49.symm))) nin0))
  have f84 := ((((f16.keep K32 nin0).keep K46 (ninS (Nat.ne_of_lt (lL (lL l5 K24.1) (Nat.le_of_eq e27.symm))) nin0)).keep K54 nin0).keep K68 (ninS (Nat.ne_of_lt (lL (lL l5 (lT (lT K24.1 K32.1) K46.1)) (Nat.le_of_eq e49.symm))) nin0))
  have f85 := ((((f17.keep K32 nin0).keep K46 (ninS (Nat.ne_of_lt (lL (lL l5 K24.1) (Nat.le_of_eq e27.symm))) nin0)).keep K54 nin0).keep K68 (ninS (Nat.ne_of_lt (lL (lL l5 (lT (lT K24.1 K32.1) K46.1)) (Nat.le_of_eq e49.symm))) nin0))
  have f86 := ((((f19.keep K32 nin0).keep K46 (ninS (Nat.ne_of_lt (lL f18.lt (Nat.le_of_eq e27.symm))) nin0)).keep K54 nin0).keep K68 (ninS (Nat.ne_of_lt (lL (lL f18.lt (lT K32.1 K46.1)) (Nat.le_of_eq e49.symm))) nin0))
  have f87 := (f63.keep K68 (ninS (Nat.ne_of_lt (lL (lL Ay.lt (lT (lT (lT K8.1 K24.1) K32.1) K46.1)) (Nat.le_of_eq e49.symm))) nin0))
  refine g_invokevirtual [(.ref a47), (.ref a1), (.int 0)] [] 0 C eBK_38 (hW hw 147 rfl) (hW hw 148 rfl) (hW hw 150 rfl) (hW hw 149 rfl) (hW hw 43 rfl) (hW hw 151 rfl) (fun _ hZ => notFace_of_selects (args := #[]) (mvT hZ (hW hw 150 rfl))) (by decide) f77 (m_dk2 l Z a0 hw _ _ _ _ _ _ m0 m1 _ f77 f78 f79 f80 f81 f82 f83 f84 f85 f86 f69 (Nat.ne_of_gt (lL (lL l5 K24.1) (Nat.le_of_eq e27.symm))) (Nat.ne_of_lt (lL Ax.lt (Nat.le_of_eq e3.symm))) (Nat.ne_of_gt (lL f18.lt (Nat.le_of_eq e27.symm))) (Nat.ne_of_lt (lL (lL Ax.lt K8.1) g13)) (Nat.ne_of_gt (lL l5 g13)) f59 f60 f61 f62 f87 (Nat.ne_of_gt (lL (lL l5 (lT (lT K24.1 K32.1) K46.1)) (Nat.le_of_eq e49.symm))) (Nat.ne_of_lt (lL Ay.lt (Nat.le_of_eq e3.symm))) (Nat.ne_of_gt (lL (lL f18.lt (lT K32.1 K46.1)) (Nat.le_of_eq e49.symm))) (Nat.ne_of_lt (lL (lL Ay.lt K8.1) g13)) k0) (lenOf pd16 rfl) rfl rfl (bL rfl) (by decide) (by decide) (by decide) (by decide) (allS (mm 3 rfl) (allS (mm 0 rfl) all0)) (fun v88 h89 L90 q91 K92 => ?_)
  obtain ⟨rfl, d70, f71, f72, f73, f74, f75, f76⟩ := q91
  refine gA (mkF m_ 41 #[.val (.ref x), .val (.ref y), .val (.ref a1), .val (.ref a25), .val (.ref a47)] [.null]) <| g_pop C eBK_41 rfl <| g_aloadN C eBK_42 rfl rfl <| g_aloadN C eBK_43 rfl rfl ?_
  have f93 := (((((((Sx.keep K8 nin0).keep K24 (ninS (Nat.ne_of_lt (lL Ex.lt (Nat.le_of_eq e3.symm))) nin0)).keep K32 nin0).keep K46 (ninS (Nat.ne_of_lt (lL (lL Ex.lt (lT K8.1 K24.1)) (Nat.le_of_eq e27.symm))) nin0)).keep K54 nin0).keep K68 (ninS (Nat.ne_of_lt (lL (lL Ex.lt (lT (lT (lT K8.1 K24.1) K32.1) K46.1)) (Nat.le_of_eq e49.symm))) nin0)).keep K92 (ninS (Nat.ne_of_lt (lL Ex.lt (Nat.le_of_eq e3.symm))) (ninS (Nat.ne_of_lt (lL (lL Ex.lt K8.1) g13)) nin0)))
  refine gF C eBK_44 (hW hw 34 rfl) f93 <| g_aloadN C eBK_47 rfl rfl ?_
  have f94 := (((((((Sy.keep K8 nin0).keep K24 (ninS (Nat.ne_of_lt (lL Ey.lt (Nat.le_of_eq e3.symm))) nin0)).keep K32 nin0).keep K46 (ninS (Nat.ne_of_lt (lL (lL Ey.lt (lT K8.1 K24.1)) (Nat.le_of_eq e27.symm))) nin0)).keep K54 nin0).keep K68 (ninS (Nat.ne_of_lt (lL (lL Ey.lt (lT (lT (lT K8.1 K24.1) K32.1) K46.1)) (Nat.le_of_eq e49.symm))) nin0)).keep K92 (ninS (Nat.ne_of_lt (lL Ey.lt (Nat.le_of_eq e3.symm))) (ninS (Nat.ne_of_lt (lL (lL Ey.lt K8.1) g13)) nin0)))
  refine gF C eBK_48 (hW hw 34 rfl) f94 <| g_imul _ C eBK_51 rfl ?_
  rw [Int32.mul_one]
  refine gA (mkF m_ 52 #[.val (.ref x), .val (.ref y), .val (.ref a1), .val (.ref a25), .val (.ref a47)] [(.int s), (.ref a1)]) ?_
  refine g_invokevirtual [(.int s)] [] 0 C eBK_52 (hW hw 108 rfl) (hW hw 109 rfl) (hW hw 111 rfl) (hW hw 110 rfl) (hW hw 43 rfl) (hW hw 112 rfl) (fun _ hZ => notFace_of_selects (args := #[]) (mvT hZ (hW hw 111 rfl))) (by decide) f71 (m_tb2 l Z a0 hw _ _ s m0 m1 _ f71 f72 f73 f74 f76 f75 hs) (lenOf pd13 rfl) rfl rfl (bL rfl) (by decide) (by decide) (by decide) (by decide) all0 (fun v102 h103 L104 q105 K106 => ?_)
  obtain ⟨z95, rfl, b96, f97, f98, f99, f100, f101⟩ := q105
  have f101 : Av Z h103 b96 .int [(.int m0), (.int m1)] := f101
  refine gA (mkF m_ 55 #[.val (.ref x), .val (.ref y), .val (.ref a1), .val (.ref a25), .val (.ref a47)] [(.ref z95)]) ?_
  exact g_retA C eBK_55 rfl rfl ⟨_, rfl, ⟨b96, f97, f98, f99, f100, f101⟩⟩ (by decide) (by decide)
theorem m_bk (l : Launch) (Z : State) (a0 : Array Value) (hw : ∀ d ∈ tables_1, d.before a0 Z = true) (x y : Addr) (s : Int32) (ms : List Int32) (h : Heap) (hc : Canon s ms) (Xx : Big Z h x s ms) (Xy : Big Z h y 1 [1]) {ps ns one zero : Addr} (ST : Start Z ps ns one zero) :
    MetW false l Z [] (⟨"java/math/BigInteger", "divideKnuth", "(Ljava/math/BigInteger;)Ljava/math/BigInteger;"⟩ : MethodName) k12 5 (some (.object "java/math/BigInteger")) [] (rM 4 6 18 60) #[(.ref x), (.ref y)] [] h (fun v h' => ∃ z : Addr, v = some (.ref z) ∧ Big Z h' z s ms) := by
  rcases hc with ⟨rfl, rfl⟩ | ⟨hs, ⟨m, hm, rfl⟩ | ⟨p, q, hp, rfl⟩⟩
  · exact m_bk0 l Z a0 hw x y h Xx Xy ST
  · by_cases k1 : m = 1
    · subst k1; exact m_bk1a l Z a0 hw x y s h Xx Xy (own_s hs)
    · exact m_bk1b l Z a0 hw x y s m h Xx Xy (own_s hs) hm k1
  · exact m_bk2 l Z a0 hw x y s p q h Xx Xy (own_s hs) hp
theorem eDV_0 : decode k11 0 = .ok (.aload_n 1, 1) := by decide +kernel
theorem eDV_1 : decode k11 1 = .ok (.getfield 28, 3) := by decide +kernel
theorem eDV_4 : decode k11 4 = .ok (.arraylength, 1) := by decide +kernel
theorem eDV_5 : decode k11 5 = .ok (.bipush 80, 2) := by decide +kernel
theorem eDV_7 : decode k11 7 = .ok (.if_icmp .lt 19, 3) := by decide +kernel
theorem eDV_26 : decode k11 26 = .ok (.aload_n 0, 1) := by decide +kernel
theorem eDV_27 : decode k11 27 = .ok (.aload_n 1, 1) := by decide +kernel
theorem eDV_28 : decode k11 28 = .ok (.invokevirtual 535, 3) := by decide +kernel
theorem eDV_31 : decode k11 31 = .ok (.areturn, 1) := by decide +kernel
theorem m_dv0 (l : Launch) (Z : State) (a0 : Array Value) (hw : ∀ d ∈ tables_1, d.before a0 Z = true) (x y : Addr) (s : Int32) (h : Heap) (hc : Canon s []) (Xx : Big Z h x s []) (Xy : Big Z h y (1 : Int32) [(1 : Int32)]) {ps ns one zero : Addr} (ST : Start Z ps ns one zero) :
    MetW false l Z [] (⟨"java/math/BigInteger", "divide", "(Ljava/math/BigInteger;)Ljava/math/BigInteger;"⟩ : MethodName) k11 2 (some (.object "java/math/BigInteger")) [] (rM 5 6 18 76) #[(.ref x), (.ref y)] [] h (fun v h' => ∃ z : Addr, v = some (.ref z) ∧ Big Z h' z s []) := by
  obtain ⟨arx, Ex, Sx, Gx, Bx, Ax⟩ := Xx
  have Ax : Av Z h arx .int [] := Ax
  obtain ⟨ary, Ey, Sy, Gy, By, Ay⟩ := Xy
  have Ay : Av Z h ary .int [(.int 1)] := Ay
  refine mO a0 #[.val (.ref x), .val (.ref y)] (fun _ _ _ m_ _ _ _ hs0 C => ?_)
  refine g_aloadN C eDV_0 rfl rfl <| gF C eDV_1 (hW hw 131 rfl) Gy <| g_alen C eDV_4 Ay (z := (1 : Int32)) rfl <| g_bipush 80 C eDV_5 (by decide) <| g_icmpT 26 C eDV_7 (show (1 : Int32) < (80 : Int32) by decide) (by decide) (by decide) <| g_aloadN C eDV_26 rfl rfl <| g_aloadN C eDV_27 rfl rfl ?_
  refine g_invokeprivate [(.ref y)] [] 0 C eDV_28 (hW hw 138 rfl) (hW hw 139 rfl) (hW hw 141 rfl) (hW hw 140 rfl) (hW hw 8 rfl) (hW hw 142 rfl) (by decide) Ex (m_bk l Z a0 hw _ _ s [] _ hc ⟨arx, Ex, Sx, Gx, Bx, Ax⟩ ⟨ary, Ey, Sy, Gy, By, Ay⟩ ST) (lenOf pd17 rfl) rfl rfl (bL rfl) (by decide) (by decide) (by decide) (by decide) all0 (fun v8 h9 L10 q11 K12 => ?_)
  obtain ⟨z1, rfl, b2, f3, f4, f5, f6, f7⟩ := q11
  refine gA (mkF m_ 31 #[.val (.ref x), .val (.ref y)] [(.ref z1)]) ?_
  exact g_retA C eDV_31 rfl rfl ⟨_, rfl, ⟨b2, f3, f4, f5, f6, f7⟩⟩ (by decide) (by decide)
theorem m_dv1 (l : Launch) (Z : State) (a0 : Array Value) (hw : ∀ d ∈ tables_1, d.before a0 Z = true) (x y : Addr) (s m0 : Int32) (h : Heap) (hc : Canon s [m0]) (Xx : Big Z h x s [m0]) (Xy : Big Z h y (1 : Int32) [(1 : Int32)]) {ps ns one zero : Addr} (ST : Start Z ps ns one zero) :
    MetW false l Z [] (⟨"java/math/BigInteger", "divide", "(Ljava/math/BigInteger;)Ljava/math/BigInteger;"⟩ : MethodName) k11 2 (some (.object "java/math/BigInteger")) [] (rM 5 6 18 76) #[(.ref x), (.ref y)] [] h (fun v h' => ∃ z : Addr, v = some (.ref z) ∧ Big Z h' z s [m0]) := by
  obtain ⟨arx, Ex, Sx, Gx, Bx, Ax⟩ := Xx
  have Ax : Av Z h arx .int [(.int m0)] := Ax
  obtain ⟨ary, Ey, Sy, Gy, By, Ay⟩ := Xy
  have Ay : Av Z h ary .int [(.int 1)] := Ay
  refine mO a0 #[.val (.ref x), .val (.ref y)] (fun _ _ _ m_ _ _ _ hs0 C => ?_)
  refine g_aloadN C eDV_0 rfl rfl <| gF C eDV_1 (hW hw 131 rfl) Gy <| g_alen C eDV_4 Ay (z := (1 : Int32)) rfl <| g_bipush 80 C eDV_5 (by decide) <| g_icmpT 26 C eDV_7 (show (1 : Int32) < (80 : Int32) by decide) (by decide) (by decide) <| g_aloadN C eDV_26 rfl rfl <| g_aloadN C eDV_27 rfl rfl ?_
  refine g_invokeprivate [(.ref y)] [] 0 C eDV_28 (hW hw 138 rfl) (hW hw 139 rfl) (hW hw 141 rfl) (hW hw 140 rfl) (hW hw 8 rfl) (hW hw 142 rfl) (by decide) Ex (m_bk l Z a0 hw _ _ s [m0] _ hc ⟨arx, Ex, Sx, Gx, Bx, Ax⟩ ⟨ary, Ey, Sy, Gy, By, Ay⟩ ST) (lenOf pd17 rfl) rfl rfl (bL rfl) (by decide) (by decide) (by decide) (by decide) all0 (fun v8 h9 L10 q11 K12 => ?_)
  obtain ⟨z1, rfl, b2, f3, f4, f5, f6, f7⟩ := q11
  refine gA (mkF m_ 31 #[.val (.ref x), .val (.ref y)] [(.ref z1)]) ?_
  exact g_retA C eDV_31 rfl rfl ⟨_, rfl, ⟨b2, f3, f4, f5, f6, f7⟩⟩ (by decide) (by decide)
theorem m_dv2 (l : Launch) (Z : State) (a0 : Array Value) (hw : ∀ d ∈ tables_1, d.before a0 Z = true) (x y : Addr) (s m0 m1 : Int32) (h : Heap) (hc : Canon s [m0, m1]) (Xx : Big Z h x s [m0, m1]) (Xy : Big Z h y (1 : Int32) [(1 : Int32)]) {ps ns one zero : Addr} (ST : Start Z ps ns one zero) :
    MetW false l Z [] (⟨"java/math/BigInteger", "divide", "(Ljava/math/BigInteger;)Ljava/math/BigInteger;"⟩ : MethodName) k11 2 (some (.object "java/math/BigInteger")) [] (rM 5 6 18 76) #[(.ref x), (.ref y)] [] h (fun v h' => ∃ z : Addr, v = some (.ref z) ∧ Big Z h' z s [m0, m1]) := by
  obtain ⟨arx, Ex, Sx, Gx, Bx, Ax⟩ := Xx
  have Ax : Av Z h arx .int [(.int m0), (.int m1)] := Ax
  obtain ⟨ary, Ey, Sy, Gy, By, Ay⟩ := Xy
  have Ay : Av Z h ary .int [(.int 1)] := Ay
  refine mO a0 #[.val (.ref x), .val (.ref y)] (fun _ _ _ m_ _ _ _ hs0 C => ?_)
  refine g_aloadN C eDV_0 rfl rfl <| gF C eDV_1 (hW hw 131 rfl) Gy <| g_alen C eDV_4 Ay (z := (1 : Int32)) rfl <| g_bipush 80 C eDV_5 (by decide) <| g_icmpT 26 C eDV_7 (show (1 : Int32) < (80 : Int32) by decide) (by decide) (by decide) <| g_aloadN C eDV_26 rfl rfl <| g_aloadN C eDV_27 rfl rfl ?_
  refine g_invokeprivate [(.ref y)] [] 0 C eDV_28 (hW hw 138 rfl) (hW hw 139 rfl) (hW hw 141 rfl) (hW hw 140 rfl) (hW hw 8 rfl) (hW hw 142 rfl) (by decide) Ex (m_bk l Z a0 hw _ _ s [m0, m1] _ hc ⟨arx, Ex, Sx, Gx, Bx, Ax⟩ ⟨ary, Ey, Sy, Gy, By, Ay⟩ ST) (lenOf pd17 rfl) rfl rfl (bL rfl) (by decide) (by decide) (by decide) (by decide) all0 (fun v8 h9 L10 q11 K12 => ?_)
  obtain ⟨z1, rfl, b2, f3, f4, f5, f6, f7⟩ := q11
  refine gA (mkF m_ 31 #[.val (.ref x), .val (.ref y)] [(.ref z1)]) ?_
  exact g_retA C eDV_31 rfl rfl ⟨_, rfl, ⟨b2, f3, f4, f5, f6, f7⟩⟩ (by decide) (by decide)
theorem m_dv (l : Launch) (Z : State) (a0 : Array Value) (hw : ∀ d ∈ tables_1, d.before a0 Z = true) (x y : Addr) (s : Int32) (ms : List Int32) (h : Heap) (hc : Canon s ms) (Xx : Big Z h x s ms) (Xy : Big Z h y 1 [1]) {ps ns one zero : Addr} (ST : Start Z ps ns one zero) :
    MetW false l Z [] (⟨"java/math/BigInteger", "divide", "(Ljava/math/BigInteger;)Ljava/math/BigInteger;"⟩ : MethodName) k11 2 (some (.object "java/math/BigInteger")) [] (rM 5 6 18 76) #[(.ref x), (.ref y)] [] h (fun v h' => ∃ z : Addr, v = some (.ref z) ∧ Big Z h' z s ms) := by
  have hc' := hc
  rcases hc with ⟨rfl, rfl⟩ | ⟨hs, ⟨m, hm, rfl⟩ | ⟨p, q, hp, rfl⟩⟩
  · exact m_dv0 l Z a0 hw x y 0 h hc' Xx Xy ST
  · exact m_dv1 l Z a0 hw x y s m h hc' Xx Xy ST
  · exact m_dv2 l Z a0 hw x y s p q h hc' Xx Xy ST
theorem own_c1 : Canon 1 [1] := Or.inr ⟨Or.inl rfl, Or.inl ⟨1, by decide, rfl⟩⟩
theorem eBC_0 : decode k38 0 = .ok (.iload_n 0, 1) := by decide +kernel
theorem eBC_1 : decode k38 1 = .ok (.iload_n 0, 1) := by decide +kernel
theorem eBC_2 : decode k38 2 = .ok (.iconst 1, 1) := by decide +kernel
theorem eBC_3 : decode k38 3 = .ok (.iushr, 1) := by decide +kernel
theorem eBC_4 : decode k38 4 = .ok (.ldc_w 265, 3) := by decide +kernel
theorem eBC_7 : decode k38 7 = .ok (.iand, 1) := by decide +kernel
theorem eBC_8 : decode k38 8 = .ok (.isub, 1) := by decide +kernel
theorem eBC_9 : decode k38 9 = .ok (.istore_n 0, 1) := by decide +kernel
theorem eBC_10 : decode k38 10 = .ok (.iload_n 0, 1) := by decide +kernel
theorem eBC_11 : decode k38 11 = .ok (.ldc_w 266, 3) := by decide +kernel
theorem eBC_14 : decode k38 14 = .ok (.iand, 1) := by decide +kernel
theorem eBC_15 : decode k38 15 = .ok (.iload_n 0, 1) := by decide +kernel
theorem eBC_16 : decode k38 16 = .ok (.iconst 2, 1) := by decide +kernel
theorem eBC_17 : decode k38 17 = .ok (.iushr, 1) := by decide +kernel
theorem eBC_18 : decode k38 18 = .ok (.ldc_w 266, 3) := by decide +kernel
theorem eBC_21 : decode k38 21 = .ok (.iand, 1) := by decide +kernel
theorem eBC_22 : decode k38 22 = .ok (.iadd, 1) := by decide +kernel
theorem eBC_23 : decode k38 23 = .ok (.istore_n 0, 1) := by decide +kernel
theorem eBC_24 : decode k38 24 = .ok (.iload_n 0, 1) := by decide +kernel
theorem eBC_25 : decode k38 25 = .ok (.iload_n 0, 1) := by decide +kernel
theorem eBC_26 : decode k38 26 = .ok (.iconst 4, 1) := by decide +kernel
theorem eBC_27 : decode k38 27 = .ok (.iushr, 1) := by decide +kernel
theorem eBC_28 : decode k38 28 = .ok (.iadd, 1) := by decide +kernel
theorem eBC_29 : decode k38 29 = .ok (.ldc_w 267, 3) := by decide +kernel
theorem eBC_32 : decode k38 32 = .ok (.iand, 1) := by decide +kernel
theorem eBC_33 : decode k38 33 = .ok (.istore_n 0, 1) := by decide +kernel
theorem eBC_34 : decode k38 34 = .ok (.iload_n 0, 1) := by decide +kernel
theorem eBC_35 : decode k38 35 = .ok (.iload_n 0, 1) := by decide +kernel
theorem eBC_36 : decode k38 36 = .ok (.bipush 8, 2) := by decide +kernel
theorem eBC_38 : decode k38 38 = .ok (.iushr, 1) := by decide +kernel
theorem eBC_39 : decode k38 39 = .ok (.iadd, 1) := by decide +kernel
theorem eBC_40 : decode k38 40 = .ok (.istore_n 0, 1) := by decide +kernel
theorem eBC_41 : decode k38 41 = .ok (.iload_n 0, 1) := by decide +kernel
theorem eBC_42 : decode k38 42 = .ok (.iload_n 0, 1) := by decide +kernel
theorem eBC_43 : decode k38 43 = .ok (.bipush 16, 2) := by decide +kernel
theorem eBC_45 : decode k38 45 = .ok (.iushr, 1) := by decide +kernel
theorem eBC_46 : decode k38 46 = .ok (.iadd, 1) := by decide +kernel
theorem eBC_47 : decode k38 47 = .ok (.istore_n 0, 1) := by decide +kernel
theorem eBC_48 : decode k38 48 = .ok (.iload_n 0, 1) := by decide +kernel
theorem eBC_49 : decode k38 49 = .ok (.bipush 63, 2) := by decide +kernel
theorem eBC_51 : decode k38 51 = .ok (.iand, 1) := by decide +kernel
theorem eBC_52 : decode k38 52 = .ok (.ireturn, 1) := by decide +kernel
theorem m_bc1 (l : Launch) (Z : State) (a0 : Array Value) (hw : ∀ d ∈ tables_1, d.before a0 Z = true) (h : Heap) :
    MetW false l Z [] (⟨"java/lang/Integer", "bitCount", "(I)I"⟩ : MethodName) k38 1 (some .int) [] (rM 0 0 0 0) #[(.int 1)] [] h (fun v h' => v = some (.int 1)) := by
  refine mO a0 #[.val (.int 1)] (fun _ _ _ m_ _ _ _ hs0 C => ?_)
  refine g_iloadN C eBC_0 rfl <| g_iloadN C eBC_1 rfl <| g_iconst 1 C eBC_2 (by decide) <| g_iushr 0 C eBC_3 (by decide) <| g_ldcwInt 1431655765 C eBC_4 (hW hw 198 rfl) <| g_iand 0 C eBC_7 (by decide) <| g_isub 1 C eBC_8 (by decide) <| g_istoreN #[.val (.int 1)] C eBC_9 rfl <| g_iloadN C eBC_10 rfl <| g_ldcwInt 858993459 C eBC_11 (hW hw 199 rfl) <| g_iand 1 C eBC_14 (by decide) ?_
  refine g_iloadN C eBC_15 rfl <| g_iconst 2 C eBC_16 (by decide) <| g_iushr 0 C eBC_17 (by decide) <| g_ldcwInt 858993459 C eBC_18 (hW hw 199 rfl) <| g_iand 0 C eBC_21 (by decide) <| g_iadd 1 C eBC_22 (by decide) <| g_istoreN #[.val (.int 1)] C eBC_23 rfl <| g_iloadN C eBC_24 rfl <| g_iloadN C eBC_25 rfl <| g_iconst 4 C eBC_26 (by decide) <| g_iushr 0 C eBC_27 (by decide) ?_
  refine g_iadd 1 C eBC_28 (by decide) <| g_ldcwInt 252645135 C eBC_29 (hW hw 200 rfl) <| g_iand 1 C eBC_32 (by decide) <| g_istoreN #[.val (.int 1)] C eBC_33 rfl <| g_iloadN C eBC_34 rfl <| g_iloadN C eBC_35 rfl <| g_bipush 8 C eBC_36 (by decide) <| g_iushr 0 C eBC_38 (by decide) <| g_iadd 1 C eBC_39 (by decide) <| g_istoreN #[.val (.int 1)] C eBC_40 rfl <| g_iloadN C eBC_41 rfl ?_
  refine g_iloadN C eBC_42 rfl <| g_bipush 16 C eBC_43 (by decide) <| g_iushr 0 C eBC_45 (by decide) <| g_iadd 1 C eBC_46 (by decide) <| g_istoreN #[.val (.int 1)] C eBC_47 rfl <| g_iloadN C eBC_48 rfl <| g_bipush 63 C eBC_49 (by decide) <| g_iand 1 C eBC_51 (by decide) ?_
  exact g_retI C eBC_52 rfl (by decide) (by decide)
theorem eSL_0 : decode k1 0 = .ok (.iload_n 1, 1) := by decide +kernel
theorem eSL_1 : decode k1 1 = .ok (.iconst 5, 1) := by decide +kernel
theorem eSL_2 : decode k1 2 = .ok (.iushr, 1) := by decide +kernel
theorem eSL_3 : decode k1 3 = .ok (.istore_n 2, 1) := by decide +kernel
theorem eSL_4 : decode k1 4 = .ok (.iload_n 1, 1) := by decide +kernel
theorem eSL_5 : decode k1 5 = .ok (.bipush 31, 2) := by decide +kernel
theorem eSL_7 : decode k1 7 = .ok (.iand, 1) := by decide +kernel
theorem eSL_8 : decode k1 8 = .ok (.istore_n 3, 1) := by decide +kernel
theorem eSL_9 : decode k1 9 = .ok (.aload_n 0, 1) := by decide +kernel
theorem eSL_10 : decode k1 10 = .ok (.arraylength, 1) := by decide +kernel
theorem eSL_11 : decode k1 11 = .ok (.istore 4, 2) := by decide +kernel
theorem eSL_13 : decode k1 13 = .ok (.aconst_null, 1) := by decide +kernel
theorem eSL_14 : decode k1 14 = .ok (.astore 5, 2) := by decide +kernel
theorem eSL_16 : decode k1 16 = .ok (.iload_n 3, 1) := by decide +kernel
theorem eSL_17 : decode k1 17 = .ok (.ifCond .ne 24, 3) := by decide +kernel
theorem eSL_20 : decode k1 20 = .ok (.iload 4, 2) := by decide +kernel
theorem eSL_22 : decode k1 22 = .ok (.iload_n 2, 1) := by decide +kernel
theorem eSL_23 : decode k1 23 = .ok (.iadd, 1) := by decide +kernel
theorem eSL_24 : decode k1 24 = .ok (.newarray .int, 2) := by decide +kernel
theorem eSL_26 : decode k1 26 = .ok (.astore 5, 2) := by decide +kernel
theorem eSL_28 : decode k1 28 = .ok (.aload_n 0, 1) := by decide +kernel
theorem eSL_29 : decode k1 29 = .ok (.iconst 0, 1) := by decide +kernel
theorem eSL_30 : decode k1 30 = .ok (.aload 5, 2) := by decide +kernel
theorem eSL_32 : decode k1 32 = .ok (.iconst 0, 1) := by decide +kernel
theorem eSL_33 : decode k1 33 = .ok (.iload 4, 2) := by decide +kernel
theorem eSL_35 : decode k1 35 = .ok (.invokestatic 388, 3) := by decide +kernel
theorem eSL_38 : decode k1 38 = .ok (.goto 114, 3) := by decide +kernel
theorem eSL_152 : decode k1 152 = .ok (.aload 5, 2) := by decide +kernel
theorem eSL_154 : decode k1 154 = .ok (.areturn, 1) := by decide +kernel
theorem m_sl1 (l : Launch) (Z : State) (a0 : Array Value) (hw : ∀ d ∈ tables_1, d.before a0 Z = true) (b : Addr) (m0 : Int32) (h : Heap) (A : Av Z h b .int [(.int m0)]) :
    MetW false l Z [] (⟨"java/math/BigInteger", "shiftLeft", "([II)[I"⟩ : MethodName) k1 10 (some (.array Jvm.ClassFile.FieldType.int)) [] (rM 1 1 2 24) #[(.ref b), (.int 0)] [] h (fun v h' => ∃ d : Addr, v = some (.ref d) ∧ h.size ≤ d ∧ Exa Z h' d "[I" ∧ Av Z h' d .int [(.int m0)]) := by
  refine mO a0 #[.val (.ref b), .val (.int 0), .unset, .unset, .unset, .unset, .unset, .unset, .unset, .unset] (fun _ _ _ m_ _ _ _ hs0 C => ?_)
  refine g_iloadN C eSL_0 rfl <| g_iconst 5 C eSL_1 (by decide) <| g_iushr 0 C eSL_2 (by decide) <| g_istoreN #[.val (.ref b), .val (.int 0), .val (.int 0), .unset, .unset, .unset, .unset, .unset, .unset, .unset] C eSL_3 rfl <| g_iloadN C eSL_4 rfl <| g_bipush 31 C eSL_5 (by decide) <| g_iand 0 C eSL_7 (by decide) <| g_istoreN #[.val (.ref b), .val (.int 0), .val (.int 0), .val (.int 0), .unset, .unset, .unset, .unset, .unset, .unset] C eSL_8 rfl <| g_aloadN C eSL_9 rfl rfl <| g_alen C eSL_10 A (z := (1 : Int32)) rfl <| g_istore #[.val (.ref b), .val (.int 0), .val (.int 0), .val (.int 0), .val (.int 1), .unset, .unset, .unset, .unset, .unset] C eSL_11 rfl ?_
  refine g_aconstNull C eSL_13 <| g_astore #[.val (.ref b), .val (.int 0), .val (.int 0), .val (.int 0), .val (.int 1), .val .null, .unset, .unset, .unset, .unset] C eSL_14 rfl rfl <| g_iloadN C eSL_16 rfl <| g_ifF C eSL_17 (show (0 : Int32) = (0 : Int32) by decide) <| g_iload C eSL_20 rfl <| g_iloadN C eSL_22 rfl <| g_iadd 1 C eSL_23 (by decide) ?_
  refine g_newarray_ (ad := "[I") 1 [(.int 0)] C eSL_24 (hW hw 79 rfl) (by decide) (by decide) (by decide) (by decide) (by decide) (by decide) (by decide) (fun a1 h2 e3 E4 l5 f6 f7 => ?_)
  have K8 := keep_ext E4
  refine g_astore #[.val (.ref b), .val (.int 0), .val (.int 0), .val (.int 0), .val (.int 1), .val (.ref a1), .unset, .unset, .unset, .unset] C eSL_26 rfl rfl <| g_aloadN C eSL_28 rfl rfl <| g_iconst 0 C eSL_29 (by decide) <| g_aload C eSL_30 rfl rfl <| g_iconst 0 C eSL_32 (by decide) <| g_iload C eSL_33 rfl ?_
  have f13 := (A.keep K8 nin0)
  refine g_arraycopy [(.int m0)] [(.int m0)] C eSL_35 (hW hw 206 rfl) (hW hw 209 rfl) (hW hw 207 rfl) (hW hw 208 rfl) f13 f7 (Or.inl ⟨rfl, rfl⟩) (by decide) (by decide) (by decide) (bL rfl) (bL rfl) rfl rfl (mm 0 rfl) rfl (by decide) (bL rfl) (fun h9 L10 K11 f12 => ?_)
  refine gA (mkF m_ 38 #[.val (.ref b), .val (.int 0), .val (.int 0), .val (.int 0), .val (.int 1), .val (.ref a1), .unset, .unset, .unset, .unset] []) <| g_goto 152 C eSL_38 (by decide) (by decide) <| g_aload C eSL_152 rfl rfl ?_
  have f14 := (f6.keep K11)
  exact g_retA C eSL_154 rfl rfl ⟨a1, rfl, lT (Nat.le_refl _) (Nat.le_of_eq e3.symm), f14, f12⟩ (by decide) (by decide)
theorem m_sl2 (l : Launch) (Z : State) (a0 : Array Value) (hw : ∀ d ∈ tables_1, d.before a0 Z = true) (b : Addr) (m0 m1 : Int32) (h : Heap) (A : Av Z h b .int [(.int m0), (.int m1)]) :
    MetW false l Z [] (⟨"java/math/BigInteger", "shiftLeft", "([II)[I"⟩ : MethodName) k1 10 (some (.array Jvm.ClassFile.FieldType.int)) [] (rM 1 1 2 24) #[(.ref b), (.int 0)] [] h (fun v h' => ∃ d : Addr, v = some (.ref d) ∧ h.size ≤ d ∧ Exa Z h' d "[I" ∧ Av Z h' d .int [(.int m0), (.int m1)]) := by
  refine mO a0 #[.val (.ref b), .val (.int 0), .unset, .unset, .unset, .unset, .unset, .unset, .unset, .unset] (fun _ _ _ m_ _ _ _ hs0 C => ?_)
  refine g_iloadN C eSL_0 rfl <| g_iconst 5 C eSL_1 (by decide) <| g_iushr 0 C eSL_2 (by decide) <| g_istoreN #[.val (.ref b), .val (.int 0), .val (.int 0), .unset, .unset, .unset, .unset, .unset, .unset, .unset] C eSL_3 rfl <| g_iloadN C eSL_4 rfl <| g_bipush 31 C eSL_5 (by decide) <| g_iand 0 C eSL_7 (by decide) <| g_istoreN #[.val (.ref b), .val (.int 0), .val (.int 0), .val (.int 0), .unset, .unset, .unset, .unset, .unset, .unset] C eSL_8 rfl <| g_aloadN C eSL_9 rfl rfl <| g_alen C eSL_10 A (z := (2 : Int32)) rfl <| g_istore #[.val (.ref b), .val (.int 0), .val (.int 0), .val (.int 0), .val (.int 2), .unset, .unset, .unset, .unset, .unset] C eSL_11 rfl ?_
  refine g_aconstNull C eSL_13 <| g_astore #[.val (.ref b), .val (.int 0), .val (.int 0), .val (.int 0), .val (.int 2), .val .null, .unset, .unset, .unset, .unset] C eSL_14 rfl rfl <| g_iloadN C eSL_16 rfl <| g_ifF C eSL_17 (show (0 : Int32) = (0 : Int32) by decide) <| g_iload C eSL_20 rfl <| g_iloadN C eSL_22 rfl <| g_iadd 2 C eSL_23 (by decide) ?_
  refine g_newarray_ (ad := "[I") 2 [(.int 0), (.int 0)] C eSL_24 (hW hw 79 rfl) (by decide) (by decide) (by decide) (by decide) (by decide) (by decide) (by decide) (fun a1 h2 e3 E4 l5 f6 f7 => ?_)
  have K8 := keep_ext E4
  refine g_astore #[.val (.ref b), .val (.int 0), .val (.int 0), .val (.int 0), .val (.int 2), .val (.ref a1), .unset, .unset, .unset, .unset] C eSL_26 rfl rfl <| g_aloadN C eSL_28 rfl rfl <| g_iconst 0 C eSL_29 (by decide) <| g_aload C eSL_30 rfl rfl <| g_iconst 0 C eSL_32 (by decide) <| g_iload C eSL_33 rfl ?_
  have f13 := (A.keep K8 nin0)
  refine g_arraycopy [(.int m0), (.int m1)] [(.int m0), (.int m1)] C eSL_35 (hW hw 206 rfl) (hW hw 209 rfl) (hW hw 207 rfl) (hW hw 208 rfl) f13 f7 (Or.inl ⟨rfl, rfl⟩) (by decide) (by decide) (by decide) (bL rfl) (bL rfl) rfl rfl (mm 0 rfl) rfl (by decide) (bL rfl) (fun h9 L10 K11 f12 => ?_)
  refine gA (mkF m_ 38 #[.val (.ref b), .val (.int 0), .val (.int 0), .val (.int 0), .val (.int 2), .val (.ref a1), .unset, .unset, .unset, .unset] []) <| g_goto 152 C eSL_38 (by decide) (by decide) <| g_aload C eSL_152 rfl rfl ?_
  have f14 := (f6.keep K11)
  exact g_retA C eSL_154 rfl rfl ⟨a1, rfl, lT (Nat.le_refl _) (Nat.le_of_eq e3.symm), f14, f12⟩ (by decide) (by decide)
theorem eMI_0 : decode k10 0 = .ok (.iload_n 1, 1) := by decide +kernel
theorem eMI_1 : decode k10 1 = .ok (.invokestatic 423, 3) := by decide +kernel
theorem eMI_4 : decode k10 4 = .ok (.iconst 1, 1) := by decide +kernel
theorem eMI_5 : decode k10 5 = .ok (.if_icmp .ne 20, 3) := by decide +kernel
theorem eMI_8 : decode k10 8 = .ok (.new 23, 3) := by decide +kernel
theorem eMI_11 : decode k10 11 = .ok (.dup, 1) := by decide +kernel
theorem eMI_12 : decode k10 12 = .ok (.aload_n 0, 1) := by decide +kernel
theorem eMI_13 : decode k10 13 = .ok (.iload_n 1, 1) := by decide +kernel
theorem eMI_14 : decode k10 14 = .ok (.invokestatic 426, 3) := by decide +kernel
theorem eMI_17 : decode k10 17 = .ok (.invokestatic 429, 3) := by decide +kernel
theorem eMI_20 : decode k10 20 = .ok (.iload_n 2, 1) := by decide +kernel
theorem eMI_21 : decode k10 21 = .ok (.invokespecial 175, 3) := by decide +kernel
theorem eMI_24 : decode k10 24 = .ok (.areturn, 1) := by decide +kernel
theorem m_mi1 (l : Launch) (Z : State) (a0 : Array Value) (hw : ∀ d ∈ tables_1, d.before a0 Z = true) (b : Addr) (s m0 : Int32) (h : Heap) (A : Av Z h b .int [(.int m0)]) :
    MetW false l Z [] (⟨"java/math/BigInteger", "multiplyByInt", "([III)Ljava/math/BigInteger;"⟩ : MethodName) k10 13 (some (.object "java/math/BigInteger")) [] (rM 3 2 8 47) #[(.ref b), (.int 1), (.int s)] [] h (fun v h' => ∃ z : Addr, v = some (.ref z) ∧ Big Z h' z s [m0]) := by
  refine mO a0 #[.val (.ref b), .val (.int 1), .val (.int s), .unset, .unset, .unset, .unset, .unset, .unset, .unset, .unset, .unset, .unset] (fun _ _ _ m_ _ _ _ hs0 C => ?_)
  refine g_iloadN C eMI_0 rfl ?_
  refine g_invokestatic [(.int 1)] [] 0 C eMI_1 (hW hw 195 rfl) (hW hw 196 rfl) (hW hw 96 rfl) (hW hw 197 rfl) (by decide) (m_bc1 l Z a0 hw _) (lenOf pd0 rfl) rfl rfl (bL rfl) (by decide) (by decide) (by decide) (by decide) all0 (fun v1 h2 L3 q4 K5 => ?_)
  obtain rfl := q4
  refine gA (mkF m_ 4 #[.val (.ref b), .val (.int 1), .val (.int s), .unset, .unset, .unset, .unset, .unset, .unset, .unset, .unset, .unset, .unset] [(.int 1)]) <| g_iconst 1 C eMI_4 (by decide) <| g_icmpF C eMI_5 (show (1 : Int32) = (1 : Int32) by decide) ?_
  refine g_new_ C eMI_8 (hW hw 201 rfl) (hW hw 114 rfl) (hW hw 8 rfl) (by decide) (by decide) (fun a6 h7 e8 E9 l10 f11 D12 => ?_)
  have K13 := keep_ext E9
  have f14 : Fld Z h7 a6 "java/math/BigInteger" "signum" "I" (.int 0) := D12 (Or.inr (hW hw 35 rfl)) (ty := .int) (by decide)
  have f15 : Fld Z h7 a6 "java/math/BigInteger" "mag" "[I" .null := D12 (Or.inr (hW hw 52 rfl)) (ty := (.array .int)) (by decide)
  refine g_dup C eMI_11 rfl <| g_aloadN C eMI_12 rfl rfl <| g_iloadN C eMI_13 rfl ?_
  refine g_invokestatic [(.int 1)] [(.ref b), (.ref a6), (.ref a6)] 3 C eMI_14 (hW hw 202 rfl) (hW hw 95 rfl) (hW hw 96 rfl) (hW hw 97 rfl) (by decide) (m_ntz l Z a0 hw _ _) (lenOf pd0 rfl) rfl rfl (bL rfl) (by decide) (by decide) (by decide) (by decide) all0 (fun v16 h17 L18 q19 K20 => ?_)
  obtain rfl := q19
  simp only [show JP.Integer_numberOfTrailingZeros_I.val (1 : Int32) = (0 : Int32) from by decide]
  refine gA (mkF m_ 17 #[.val (.ref b), .val (.int 1), .val (.int s), .unset, .unset, .unset, .unset, .unset, .unset, .unset, .unset, .unset, .unset] [(.int 0), (.ref b), (.ref a6), (.ref a6)]) ?_
  have f25 := (((A.keep K5 nin0).keep K13 nin0).keep K20 nin0)
  refine g_invokestatic [(.ref b), (.int 0)] [(.ref a6), (.ref a6)] 2 C eMI_17 (hW hw 203 rfl) (hW hw 204 rfl) (hW hw 8 rfl) (hW hw 205 rfl) (by decide) (m_sl1 l Z a0 hw _ m0 _ f25) (lenOf pd1 rfl) rfl rfl (bL rfl) (by decide) (by decide) (by decide) (by decide) all0 (fun v26 h27 L28 q29 K30 => ?_)
  obtain ⟨d21, rfl, g22, f23, f24⟩ := q29
  refine gA (mkF m_ 20 #[.val (.ref b), .val (.int 1), .val (.int s), .unset, .unset, .unset, .unset, .unset, .unset, .unset, .unset, .unset, .unset] [(.ref d21), (.ref a6), (.ref a6)]) <| g_iloadN C eMI_20 rfl ?_
  have f37 := ((f11.keep K20).keep K30)
  have f38 := ((f14.keep K20 nin0).keep K30 nin0)
  have f39 := ((f15.keep K20 nin0).keep K30 nin0)
  refine g_invokespecial [(.ref d21), (.int s)] [(.ref a6)] 1 C eMI_21 rfl (hW hw 210 rfl) (hW hw 121 rfl) (hW hw 8 rfl) (hW hw 123 rfl) (by decide) (m_biA1 l Z a0 hw _ _ s m0 _ f37 f38 f39 f23 f24 (Nat.ne_of_gt (lL (lL l10 K20.1) g22))) (lenOf pd10 rfl) rfl rfl (bL rfl) (by decide) (by decide) (by decide) (by decide) (allS (mm 0 rfl) all0) (fun v40 h41 L42 q43 K44 => ?_)
  obtain ⟨rfl, b31, f32, f33, f34, f35, f36⟩ := q43
  have f36 : Av Z h41 b31 .int [(.int m0)] := f36
  refine gA (mkF m_ 24 #[.val (.ref b), .val (.int 1), .val (.int s), .unset, .unset, .unset, .unset, .unset, .unset, .unset, .unset, .unset, .unset] [(.ref a6)]) ?_
  exact g_retA C eMI_24 rfl rfl ⟨_, rfl, ⟨b31, f32, f33, f34, f35, f36⟩⟩ (by decide) (by decide)
theorem m_mi2 (l : Launch) (Z : State) (a0 : Array Value) (hw : ∀ d ∈ tables_1, d.before a0 Z = true) (b : Addr) (s m0 m1 : Int32) (h : Heap) (A : Av Z h b .int [(.int m0), (.int m1)]) :
    MetW false l Z [] (⟨"java/math/BigInteger", "multiplyByInt", "([III)Ljava/math/BigInteger;"⟩ : MethodName) k10 13 (some (.object "java/math/BigInteger")) [] (rM 3 2 8 47) #[(.ref b), (.int 1), (.int s)] [] h (fun v h' => ∃ z : Addr, v = some (.ref z) ∧ Big Z h' z s [m0, m1]) := by
  refine mO a0 #[.val (.ref b), .val (.int 1), .val (.int s), .unset, .unset, .unset, .unset, .unset, .unset, .unset, .unset, .unset, .unset] (fun _ _ _ m_ _ _ _ hs0 C => ?_)
  refine g_iloadN C eMI_0 rfl ?_
  refine g_invokestatic [(.int 1)] [] 0 C eMI_1 (hW hw 195 rfl) (hW hw 196 rfl) (hW hw 96 rfl) (hW hw 197 rfl) (by decide) (m_bc1 l Z a0 hw _) (lenOf pd0 rfl) rfl rfl (bL rfl) (by decide) (by decide) (by decide) (by decide) all0 (fun v1 h2 L3 q4 K5 => ?_)
  obtain rfl := q4
  refine gA (mkF m_ 4 #[.val (.ref b), .val (.int 1), .val (.int s), .unset, .unset, .unset, .unset, .unset, .unset, .unset, .unset, .unset, .unset] [(.int 1)]) <| g_iconst 1 C eMI_4 (by decide) <| g_icmpF C eMI_5 (show (1 : Int32) = (1 : Int32) by decide) ?_
  refine g_new_ C eMI_8 (hW hw 201 rfl) (hW hw 114 rfl) (hW hw 8 rfl) (by decide) (by decide) (fun a6 h7 e8 E9 l10 f11 D12 => ?_)
  have K13 := keep_ext E9
  have f14 : Fld Z h7 a6 "java/math/BigInteger" "signum" "I" (.int 0) := D12 (Or.inr (hW hw 35 rfl)) (ty := .int) (by decide)
  have f15 : Fld Z h7 a6 "java/math/BigInteger" "mag" "[I" .null := D12 (Or.inr (hW hw 52 rfl)) (ty := (.array .int)) (by decide)
  refine g_dup C eMI_11 rfl <| g_aloadN C eMI_12 rfl rfl <| g_iloadN C eMI_13 rfl ?_
  refine g_invokestatic [(.int 1)] [(.ref b), (.ref a6), (.ref a6)] 3 C eMI_14 (hW hw 202 rfl) (hW hw 95 rfl) (hW hw 96 rfl) (hW hw 97 rfl) (by decide) (m_ntz l Z a0 hw _ _) (lenOf pd0 rfl) rfl rfl (bL rfl) (by decide) (by decide) (by decide) (by decide) all0 (fun v16 h17 L18 q19 K20 => ?_)
  obtain rfl := q19
  simp only [show JP.Integer_numberOfTrailingZeros_I.val (1 : Int32) = (0 : Int32) from by decide]
  refine gA (mkF m_ 17 #[.val (.ref b), .val (.int 1), .val (.int s), .unset, .unset, .unset, .unset, .unset, .unset, .unset, .unset, .unset, .unset] [(.int 0), (.ref b), (.ref a6), (.ref a6)]) ?_
  have f25 := (((A.keep K5 nin0).keep K13 nin0).keep K20 nin0)
  refine g_invokestatic [(.ref b), (.int 0)] [(.ref a6), (.ref a6)] 2 C eMI_17 (hW hw 203 rfl) (hW hw 204 rfl) (hW hw 8 rfl) (hW hw 205 rfl) (by decide) (m_sl2 l Z a0 hw _ m0 m1 _ f25) (lenOf pd1 rfl) rfl rfl (bL rfl) (by decide) (by decide) (by decide) (by decide) all0 (fun v26 h27 L28 q29 K30 => ?_)
  obtain ⟨d21, rfl, g22, f23, f24⟩ := q29
  refine gA (mkF m_ 20 #[.val (.ref b), .val (.int 1), .val (.int s), .unset, .unset, .unset, .unset, .unset, .unset, .unset, .unset, .unset, .unset] [(.ref d21), (.ref a6), (.ref a6)]) <| g_iloadN C eMI_20 rfl ?_
  have f37 := ((f11.keep K20).keep K30)
  have f38 := ((f14.keep K20 nin0).keep K30 nin0)
  have f39 := ((f15.keep K20 nin0).keep K30 nin0)
  refine g_invokespecial [(.ref d21), (.int s)] [(.ref a6)] 1 C eMI_21 rfl (hW hw 210 rfl) (hW hw 121 rfl) (hW hw 8 rfl) (hW hw 123 rfl) (by decide) (m_biA2 l Z a0 hw _ _ s m0 m1 _ f37 f38 f39 f23 f24 (Nat.ne_of_gt (lL (lL l10 K20.1) g22))) (lenOf pd10 rfl) rfl rfl (bL rfl) (by decide) (by decide) (by decide) (by decide) (allS (mm 0 rfl) all0) (fun v40 h41 L42 q43 K44 => ?_)
  obtain ⟨rfl, b31, f32, f33, f34, f35, f36⟩ := q43
  have f36 : Av Z h41 b31 .int [(.int m0), (.int m1)] := f36
  refine gA (mkF m_ 24 #[.val (.ref b), .val (.int 1), .val (.int s), .unset, .unset, .unset, .unset, .unset, .unset, .unset, .unset, .unset, .unset] [(.ref a6)]) ?_
  exact g_retA C eMI_24 rfl rfl ⟨_, rfl, ⟨b31, f32, f33, f34, f35, f36⟩⟩ (by decide) (by decide)
theorem eM4_0 : decode k9 0 = .ok (.aload_n 1, 1) := by decide +kernel
theorem eM4_1 : decode k9 1 = .ok (.getfield 32, 3) := by decide +kernel
theorem eM4_4 : decode k9 4 = .ok (.ifCond .eq 10, 3) := by decide +kernel
theorem eM4_7 : decode k9 7 = .ok (.aload_n 0, 1) := by decide +kernel
theorem eM4_8 : decode k9 8 = .ok (.getfield 32, 3) := by decide +kernel
theorem eM4_11 : decode k9 11 = .ok (.ifCond .ne 7, 3) := by decide +kernel
theorem eM4_14 : decode k9 14 = .ok (.getstatic 22, 3) := by decide +kernel
theorem eM4_17 : decode k9 17 = .ok (.areturn, 1) := by decide +kernel
theorem m_m4_0 (l : Launch) (Z : State) (a0 : Array Value) (hw : ∀ d ∈ tables_1, d.before a0 Z = true) (x y : Addr) (h : Heap) (Xx : Big Z h x (0 : Int32) []) (Xy : Big Z h y (1 : Int32) [(1 : Int32)]) {ps ns one zero : Addr} (ST : Start Z ps ns one zero) :
    MetW false l Z [] (⟨"java/math/BigInteger", "multiply", "(Ljava/math/BigInteger;ZZI)Ljava/math/BigInteger;"⟩ : MethodName) k9 9 (some (.object "java/math/BigInteger")) [] (rM 4 2 8 71) #[(.ref x), (.ref y), (.int 0), (.int 0), (.int 0)] [] h (fun v h' => ∃ z : Addr, v = some (.ref z) ∧ Big Z h' z (0 : Int32) []) := by
  obtain ⟨arx, Ex, Sx, Gx, Bx, Ax⟩ := Xx
  have Ax : Av Z h arx .int [] := Ax
  obtain ⟨ary, Ey, Sy, Gy, By, Ay⟩ := Xy
  have Ay : Av Z h ary .int [(.int 1)] := Ay
  refine mO a0 #[.val (.ref x), .val (.ref y), .val (.int 0), .val (.int 0), .val (.int 0), .unset, .unset, .unset, .unset] (fun _ _ _ m_ _ _ _ hs0 C => ?_)
  refine Go.know (fun hX hK _ => ?_)
  refine g_aloadN C eM4_0 rfl rfl <| gF C eM4_1 (hW hw 34 rfl) Sy <| g_ifF C eM4_4 (show ¬ (1 : Int32) = (0 : Int32) by decide) <| g_aloadN C eM4_7 rfl rfl <| gF C eM4_8 (hW hw 34 rfl) Sx <| g_ifF C eM4_11 (show (0 : Int32) = (0 : Int32) by decide) <| g_getstatic (host := "") C eM4_14 (Or.inl (hW hw 268 rfl)) Via.refl ST.2.2.2.2.2.2.1 ?_
  exact g_retA C eM4_17 rfl rfl ⟨_, rfl, ST.2.2.2.2.2.2.2.ext hX⟩ (by decide) (by decide)
theorem eM4_18 : decode k9 18 = .ok (.aload_n 0, 1) := by decide +kernel
theorem eM4_19 : decode k9 19 = .ok (.getfield 28, 3) := by decide +kernel
theorem eM4_22 : decode k9 22 = .ok (.arraylength, 1) := by decide +kernel
theorem eM4_23 : decode k9 23 = .ok (.istore 5, 2) := by decide +kernel
theorem eM4_25 : decode k9 25 = .ok (.aload_n 1, 1) := by decide +kernel
theorem eM4_26 : decode k9 26 = .ok (.aload_n 0, 1) := by decide +kernel
theorem eM4_27 : decode k9 27 = .ok (.if_acmp .ne 19, 3) := by decide +kernel
theorem eM4_30 : decode k9 30 = .ok (.iload 5, 2) := by decide +kernel
theorem eM4_32 : decode k9 32 = .ok (.bipush 20, 2) := by decide +kernel
theorem eM4_34 : decode k9 34 = .ok (.if_icmp .le 12, 3) := by decide +kernel
theorem eM4_46 : decode k9 46 = .ok (.aload_n 1, 1) := by decide +kernel
theorem eM4_47 : decode k9 47 = .ok (.getfield 28, 3) := by decide +kernel
theorem eM4_50 : decode k9 50 = .ok (.arraylength, 1) := by decide +kernel
theorem eM4_51 : decode k9 51 = .ok (.istore 6, 2) := by decide +kernel
theorem eM4_53 : decode k9 53 = .ok (.iload 5, 2) := by decide +kernel
theorem eM4_55 : decode k9 55 = .ok (.bipush 80, 2) := by decide +kernel
theorem eM4_57 : decode k9 57 = .ok (.if_icmp .lt 10, 3) := by decide +kernel
theorem eM4_67 : decode k9 67 = .ok (.aload_n 0, 1) := by decide +kernel
theorem eM4_68 : decode k9 68 = .ok (.getfield 32, 3) := by decide +kernel
theorem eM4_71 : decode k9 71 = .ok (.aload_n 1, 1) := by decide +kernel
theorem eM4_72 : decode k9 72 = .ok (.getfield 32, 3) := by decide +kernel
theorem eM4_75 : decode k9 75 = .ok (.if_icmp .ne 7, 3) := by decide +kernel
theorem eM4_78 : decode k9 78 = .ok (.iconst 1, 1) := by decide +kernel
theorem eM4_79 : decode k9 79 = .ok (.goto 4, 3) := by decide +kernel
theorem eM4_83 : decode k9 83 = .ok (.istore 7, 2) := by decide +kernel
theorem eM4_85 : decode k9 85 = .ok (.aload_n 1, 1) := by decide +kernel
theorem eM4_86 : decode k9 86 = .ok (.getfield 28, 3) := by decide +kernel
theorem eM4_89 : decode k9 89 = .ok (.arraylength, 1) := by decide +kernel
theorem eM4_90 : decode k9 90 = .ok (.iconst 1, 1) := by decide +kernel
theorem eM4_91 : decode k9 91 = .ok (.if_icmp .ne 19, 3) := by decide +kernel
theorem eM4_94 : decode k9 94 = .ok (.aload_n 0, 1) := by decide +kernel
theorem eM4_95 : decode k9 95 = .ok (.getfield 28, 3) := by decide +kernel
theorem eM4_98 : decode k9 98 = .ok (.aload_n 1, 1) := by decide +kernel
theorem eM4_99 : decode k9 99 = .ok (.getfield 28, 3) := by decide +kernel
theorem eM4_102 : decode k9 102 = .ok (.iconst 0, 1) := by decide +kernel
theorem eM4_103 : decode k9 103 = .ok (.iaload, 1) := by decide +kernel
theorem eM4_104 : decode k9 104 = .ok (.iload 7, 2) := by decide +kernel
theorem eM4_106 : decode k9 106 = .ok (.invokestatic 403, 3) := by decide +kernel
theorem eM4_109 : decode k9 109 = .ok (.areturn, 1) := by decide +kernel
theorem m_m4_1p (l : Launch) (Z : State) (a0 : Array Value) (hw : ∀ d ∈ tables_1, d.before a0 Z = true) (x y : Addr) (m0 : Int32) (h : Heap) (Xx : Big Z h x (1 : Int32) [m0]) (Xy : Big Z h y (1 : Int32) [(1 : Int32)]) {ps ns one zero : Addr} (ST : Start Z ps ns one zero) :
    MetW false l Z [] (⟨"java/math/BigInteger", "multiply", "(Ljava/math/BigInteger;ZZI)Ljava/math/BigInteger;"⟩ : MethodName) k9 9 (some (.object "java/math/BigInteger")) [] (rM 4 2 8 71) #[(.ref x), (.ref y), (.int 0), (.int 0), (.int 0)] [] h (fun v h' => ∃ z : Addr, v = some (.ref z) ∧ Big Z h' z (1 : Int32) [m0]) := by
  obtain ⟨arx, Ex, Sx, Gx, Bx, Ax⟩ := Xx
  have Ax : Av Z h arx .int [(.int m0)] := Ax
  obtain ⟨ary, Ey, Sy, Gy, By, Ay⟩ := Xy
  have Ay : Av Z h ary .int [(.int 1)] := Ay
  refine mO a0 #[.val (.ref x), .val (.ref y), .val (.int 0), .val (.int 0), .val (.int 0), .unset, .unset, .unset, .unset] (fun _ _ _ m_ _ _ _ hs0 C => ?_)
  refine Go.know (fun hX hK _ => ?_)
  refine g_aloadN C eM4_0 rfl rfl <| gF C eM4_1 (hW hw 34 rfl) Sy <| g_ifF C eM4_4 (show ¬ (1 : Int32) = (0 : Int32) by decide) <| g_aloadN C eM4_7 rfl rfl <| gF C eM4_8 (hW hw 34 rfl) Sx <| g_ifT 18 C eM4_11 (show ¬ (1 : Int32) = (0 : Int32) by decide) (by decide) (by decide) <| g_aloadN C eM4_18 rfl rfl <| gF C eM4_19 (hW hw 131 rfl) Gx <| g_alen C eM4_22 Ax (z := (1 : Int32)) rfl <| g_istore #[.val (.ref x), .val (.ref y), .val (.int 0), .val (.int 0), .val (.int 0), .val (.int 1), .unset, .unset, .unset] C eM4_23 rfl <| g_aloadN C eM4_25 rfl rfl ?_
  refine g_aloadN C eM4_26 rfl rfl ?_
  by_cases cc1 : y = x
  · refine g_acmpF C eM4_27 rfl rfl (congrArg Value.ref cc1) ?_
    refine g_iload C eM4_30 rfl <| g_bipush 20 C eM4_32 (by decide) <| g_icmpT 46 C eM4_34 (show ¬ (20 : Int32) < (1 : Int32) by decide) (by decide) (by decide) <| g_aloadN C eM4_46 rfl rfl <| gF C eM4_47 (hW hw 131 rfl) Gy <| g_alen C eM4_50 Ay (z := (1 : Int32)) rfl <| g_istore #[.val (.ref x), .val (.ref y), .val (.int 0), .val (.int 0), .val (.int 0), .val (.int 1), .val (.int 1), .unset, .unset] C eM4_51 rfl <| g_iload C eM4_53 rfl <| g_bipush 80 C eM4_55 (by decide) <| g_icmpT 67 C eM4_57 (show (1 : Int32) < (80 : Int32) by decide) (by decide) (by decide) <| g_aloadN C eM4_67 rfl rfl ?_
    refine gF C eM4_68 (hW hw 34 rfl) Sx <| g_aloadN C eM4_71 rfl rfl <| gF C eM4_72 (hW hw 34 rfl) Sy <| g_icmpF C eM4_75 (show (1 : Int32) = (1 : Int32) by decide) <| g_iconst 1 C eM4_78 (by decide) <| g_goto 83 C eM4_79 (by decide) (by decide) <| g_istore #[.val (.ref x), .val (.ref y), .val (.int 0), .val (.int 0), .val (.int 0), .val (.int 1), .val (.int 1), .val (.int 1), .unset] C eM4_83 rfl <| g_aloadN C eM4_85 rfl rfl <| gF C eM4_86 (hW hw 131 rfl) Gy <| g_alen C eM4_89 Ay (z := (1 : Int32)) rfl <| g_iconst 1 C eM4_90 (by decide) ?_
    refine g_icmpF C eM4_91 (show (1 : Int32) = (1 : Int32) by decide) <| g_aloadN C eM4_94 rfl rfl <| gF C eM4_95 (hW hw 131 rfl) Gx <| g_aloadN C eM4_98 rfl rfl <| gF C eM4_99 (hW hw 131 rfl) Gy <| g_iconst 0 C eM4_102 (by decide) <| g_iaload 0 C eM4_103 Ay (by decide) (by decide) rfl <| g_iload C eM4_104 rfl ?_
    refine g_invokestatic [(.ref arx), (.int 1), (.int 1)] [] 0 C eM4_106 (hW hw 192 rfl) (hW hw 193 rfl) (hW hw 8 rfl) (hW hw 194 rfl) (by decide) (m_mi1 l Z a0 hw _ (1 : Int32) m0 _ Ax) (lenOf pd18 rfl) rfl rfl (bL rfl) (by decide) (by decide) (by decide) (by decide) all0 (fun v9 h10 L11 q12 K13 => ?_)
    obtain ⟨z2, rfl, b3, f4, f5, f6, f7, f8⟩ := q12
    have f8 : Av Z h10 b3 .int [(.int m0)] := f8
    refine gA (mkF m_ 109 #[.val (.ref x), .val (.ref y), .val (.int 0), .val (.int 0), .val (.int 0), .val (.int 1), .val (.int 1), .val (.int 1), .unset] [(.ref z2)]) ?_
    exact g_retA C eM4_109 rfl rfl ⟨_, rfl, ⟨b3, f4, f5, f6, f7, f8⟩⟩ (by decide) (by decide)
  · refine g_acmpT 46 C eM4_27 rfl rfl (fun q => cc1 (by cases q; rfl)) (by decide) (by decide) ?_
    refine g_aloadN C eM4_46 rfl rfl <| gF C eM4_47 (hW hw 131 rfl) Gy <| g_alen C eM4_50 Ay (z := (1 : Int32)) rfl <| g_istore #[.val (.ref x), .val (.ref y), .val (.int 0), .val (.int 0), .val (.int 0), .val (.int 1), .val (.int 1), .unset, .unset] C eM4_51 rfl <| g_iload C eM4_53 rfl <| g_bipush 80 C eM4_55 (by decide) <| g_icmpT 67 C eM4_57 (show (1 : Int32) < (80 : Int32) by decide) (by decide) (by decide) <| g_aloadN C eM4_67 rfl rfl <| gF C eM4_68 (hW hw 34 rfl) Sx <| g_aloadN C eM4_71 rfl rfl <| gF C eM4_72 (hW hw 34 rfl) Sy ?_
    refine g_icmpF C eM4_75 (show (1 : Int32) = (1 : Int32) by decide) <| g_iconst 1 C eM4_78 (by decide) <| g_goto 83 C eM4_79 (by decide) (by decide) <| g_istore #[.val (.ref x), .val (.ref y), .val (.int 0), .val (.int 0), .val (.int 0), .val (.int 1), .val (.int 1), .val (.int 1), .unset] C eM4_83 rfl <| g_aloadN C eM4_85 rfl rfl <| gF C eM4_86 (hW hw 131 rfl) Gy <| g_alen C eM4_89 Ay (z := (1 : Int32)) rfl <| g_iconst 1 C eM4_90 (by decide) <| g_icmpF C eM4_91 (show (1 : Int32) = (1 : Int32) by decide) <| g_aloadN C eM4_94 rfl rfl <| gF C eM4_95 (hW hw 131 rfl) Gx ?_
    refine g_aloadN C eM4_98 rfl rfl <| gF C eM4_99 (hW hw 131 rfl) Gy <| g_iconst 0 C eM4_102 (by decide) <| g_iaload 0 C eM4_103 Ay (by decide) (by decide) rfl <| g_iload C eM4_104 rfl ?_
    refine g_invokestatic [(.ref arx), (.int 1), (.int 1)] [] 0 C eM4_106 (hW hw 192 rfl) (hW hw 193 rfl) (hW hw 8 rfl) (hW hw 194 rfl) (by decide) (m_mi1 l Z a0 hw _ (1 : Int32) m0 _ Ax) (lenOf pd18 rfl) rfl rfl (bL rfl) (by decide) (by decide) (by decide) (by decide) all0 (fun v21 h22 L23 q24 K25 => ?_)
    obtain ⟨z14, rfl, b15, f16, f17, f18, f19, f20⟩ := q24
    have f20 : Av Z h22 b15 .int [(.int m0)] := f20
    refine gA (mkF m_ 109 #[.val (.ref x), .val (.ref y), .val (.int 0), .val (.int 0), .val (.int 0), .val (.int 1), .val (.int 1), .val (.int 1), .unset] [(.ref z14)]) ?_
    exact g_retA C eM4_109 rfl rfl ⟨_, rfl, ⟨b15, f16, f17, f18, f19, f20⟩⟩ (by decide) (by decide)
theorem eM4_82 : decode k9 82 = .ok (.iconst (-1), 1) := by decide +kernel
theorem m_m4_1n (l : Launch) (Z : State) (a0 : Array Value) (hw : ∀ d ∈ tables_1, d.before a0 Z = true) (x y : Addr) (m0 : Int32) (h : Heap) (Xx : Big Z h x (-1 : Int32) [m0]) (Xy : Big Z h y (1 : Int32) [(1 : Int32)]) {ps ns one zero : Addr} (ST : Start Z ps ns one zero) :
    MetW false l Z [] (⟨"java/math/BigInteger", "multiply", "(Ljava/math/BigInteger;ZZI)Ljava/math/BigInteger;"⟩ : MethodName) k9 9 (some (.object "java/math/BigInteger")) [] (rM 4 2 8 71) #[(.ref x), (.ref y), (.int 0), (.int 0), (.int 0)] [] h (fun v h' => ∃ z : Addr, v = some (.ref z) ∧ Big Z h' z (-1 : Int32) [m0]) := by
  obtain ⟨arx, Ex, Sx, Gx, Bx, Ax⟩ := Xx
  have Ax : Av Z h arx .int [(.int m0)] := Ax
  obtain ⟨ary, Ey, Sy, Gy, By, Ay⟩ := Xy
  have Ay : Av Z h ary .int [(.int 1)] := Ay
  refine mO a0 #[.val (.ref x), .val (.ref y), .val (.int 0), .val (.int 0), .val (.int 0), .unset, .unset, .unset, .unset] (fun _ _ _ m_ _ _ _ hs0 C => ?_)
  refine Go.know (fun hX hK _ => ?_)
  refine g_aloadN C eM4_0 rfl rfl <| gF C eM4_1 (hW hw 34 rfl) Sy <| g_ifF C eM4_4 (show ¬ (1 : Int32) = (0 : Int32) by decide) <| g_aloadN C eM4_7 rfl rfl <| gF C eM4_8 (hW hw 34 rfl) Sx <| g_ifT 18 C eM4_11 (show ¬ (-1 : Int32) = (0 : Int32) by decide) (by decide) (by decide) <| g_aloadN C eM4_18 rfl rfl <| gF C eM4_19 (hW hw 131 rfl) Gx <| g_alen C eM4_22 Ax (z := (1 : Int32)) rfl <| g_istore #[.val (.ref x), .val (.ref y), .val (.int 0), .val (.int 0), .val (.int 0), .val (.int 1), .unset, .unset, .unset] C eM4_23 rfl <| g_aloadN C eM4_25 rfl rfl ?_
  refine g_aloadN C eM4_26 rfl rfl ?_
  by_cases cc1 : y = x
  · refine g_acmpF C eM4_27 rfl rfl (congrArg Value.ref cc1) ?_
    refine g_iload C eM4_30 rfl <| g_bipush 20 C eM4_32 (by decide) <| g_icmpT 46 C eM4_34 (show ¬ (20 : Int32) < (1 : Int32) by decide) (by decide) (by decide) <| g_aloadN C eM4_46 rfl rfl <| gF C eM4_47 (hW hw 131 rfl) Gy <| g_alen C eM4_50 Ay (z := (1 : Int32)) rfl <| g_istore #[.val (.ref x), .val (.ref y), .val (.int 0), .val (.int 0), .val (.int 0), .val (.int 1), .val (.int 1), .unset, .unset] C eM4_51 rfl <| g_iload C eM4_53 rfl <| g_bipush 80 C eM4_55 (by decide) <| g_icmpT 67 C eM4_57 (show (1 : Int32) < (80 : Int32) by decide) (by decide) (by decide) <| g_aloadN C eM4_67 rfl rfl ?_
    refine gF C eM4_68 (hW hw 34 rfl) Sx <| g_aloadN C eM4_71 rfl rfl <| gF C eM4_72 (hW hw 34 rfl) Sy <| g_icmpT 82 C eM4_75 (show ¬ (-1 : Int32) = (1 : Int32) by decide) (by decide) (by decide) <| g_iconst (-1) C eM4_82 (by decide) <| g_istore #[.val (.ref x), .val (.ref y), .val (.int 0), .val (.int 0), .val (.int 0), .val (.int 1), .val (.int 1), .val (.int (-1)), .unset] C eM4_83 rfl <| g_aloadN C eM4_85 rfl rfl <| gF C eM4_86 (hW hw 131 rfl) Gy <| g_alen C eM4_89 Ay (z := (1 : Int32)) rfl <| g_iconst 1 C eM4_90 (by decide) <| g_icmpF C eM4_91 (show (1 : Int32) = (1 : Int32) by decide) ?_
    refine g_aloadN C eM4_94 rfl rfl <| gF C eM4_95 (hW hw 131 rfl) Gx <| g_aloadN C eM4_98 rfl rfl <| gF C eM4_99 (hW hw 131 rfl) Gy <| g_iconst 0 C eM4_102 (by decide) <| g_iaload 0 C eM4_103 Ay (by decide) (by decide) rfl <| g_iload C eM4_104 rfl ?_
    refine g_invokestatic [(.ref arx), (.int 1), (.int (-1))] [] 0 C eM4_106 (hW hw 192 rfl) (hW hw 193 rfl) (hW hw 8 rfl) (hW hw 194 rfl) (by decide) (m_mi1 l Z a0 hw _ (-1 : Int32) m0 _ Ax) (lenOf pd18 rfl) rfl rfl (bL rfl) (by decide) (by decide) (by decide) (by decide) all0 (fun v9 h10 L11 q12 K13 => ?_)
    obtain ⟨z2, rfl, b3, f4, f5, f6, f7, f8⟩ := q12
    have f8 : Av Z h10 b3 .int [(.int m0)] := f8
    refine gA (mkF m_ 109 #[.val (.ref x), .val (.ref y), .val (.int 0), .val (.int 0), .val (.int 0), .val (.int 1), .val (.int 1), .val (.int (-1)), .unset] [(.ref z2)]) ?_
    exact g_retA C eM4_109 rfl rfl ⟨_, rfl, ⟨b3, f4, f5, f6, f7, f8⟩⟩ (by decide) (by decide)
  · refine g_acmpT 46 C eM4_27 rfl rfl (fun q => cc1 (by cases q; rfl)) (by decide) (by decide) ?_
    refine g_aloadN C eM4_46 rfl rfl <| gF C eM4_47 (hW hw 131 rfl) Gy <| g_alen C eM4_50 Ay (z := (1 : Int32)) rfl <| g_istore #[.val (.ref x), .val (.ref y), .val (.int 0), .val (.int 0), .val (.int 0), .val (.int 1), .val (.int 1), .unset, .unset] C eM4_51 rfl <| g_iload C eM4_53 rfl <| g_bipush 80 C eM4_55 (by decide) <| g_icmpT 67 C eM4_57 (show (1 : Int32) < (80 : Int32) by decide) (by decide) (by decide) <| g_aloadN C eM4_67 rfl rfl <| gF C eM4_68 (hW hw 34 rfl) Sx <| g_aloadN C eM4_71 rfl rfl <| gF C eM4_72 (hW hw 34 rfl) Sy ?_
    refine g_icmpT 82 C eM4_75 (show ¬ (-1 : Int32) = (1 : Int32) by decide) (by decide) (by decide) <| g_iconst (-1) C eM4_82 (by decide) <| g_istore #[.val (.ref x), .val (.ref y), .val (.int 0), .val (.int 0), .val (.int 0), .val (.int 1), .val (.int 1), .val (.int (-1)), .unset] C eM4_83 rfl <| g_aloadN C eM4_85 rfl rfl <| gF C eM4_86 (hW hw 131 rfl) Gy <| g_alen C eM4_89 Ay (z := (1 : Int32)) rfl <| g_iconst 1 C eM4_90 (by decide) <| g_icmpF C eM4_91 (show (1 : Int32) = (1 : Int32) by decide) <| g_aloadN C eM4_94 rfl rfl <| gF C eM4_95 (hW hw 131 rfl) Gx <| g_aloadN C eM4_98 rfl rfl ?_
    refine gF C eM4_99 (hW hw 131 rfl) Gy <| g_iconst 0 C eM4_102 (by decide) <| g_iaload 0 C eM4_103 Ay (by decide) (by decide) rfl <| g_iload C eM4_104 rfl ?_
    refine g_invokestatic [(.ref arx), (.int 1), (.int (-1))] [] 0 C eM4_106 (hW hw 192 rfl) (hW hw 193 rfl) (hW hw 8 rfl) (hW hw 194 rfl) (by decide) (m_mi1 l Z a0 hw _ (-1 : Int32) m0 _ Ax) (lenOf pd18 rfl) rfl rfl (bL rfl) (by decide) (by decide) (by decide) (by decide) all0 (fun v21 h22 L23 q24 K25 => ?_)
    obtain ⟨z14, rfl, b15, f16, f17, f18, f19, f20⟩ := q24
    have f20 : Av Z h22 b15 .int [(.int m0)] := f20
    refine gA (mkF m_ 109 #[.val (.ref x), .val (.ref y), .val (.int 0), .val (.int 0), .val (.int 0), .val (.int 1), .val (.int 1), .val (.int (-1)), .unset] [(.ref z14)]) ?_
    exact g_retA C eM4_109 rfl rfl ⟨_, rfl, ⟨b15, f16, f17, f18, f19, f20⟩⟩ (by decide) (by decide)
theorem m_m4_2p (l : Launch) (Z : State) (a0 : Array Value) (hw : ∀ d ∈ tables_1, d.before a0 Z = true) (x y : Addr) (m0 m1 : Int32) (h : Heap) (Xx : Big Z h x (1 : Int32) [m0, m1]) (Xy : Big Z h y (1 : Int32) [(1 : Int32)]) {ps ns one zero : Addr} (ST : Start Z ps ns one zero) :
    MetW false l Z [] (⟨"java/math/BigInteger", "multiply", "(Ljava/math/BigInteger;ZZI)Ljava/math/BigInteger;"⟩ : MethodName) k9 9 (some (.object "java/math/BigInteger")) [] (rM 4 2 8 71) #[(.ref x), (.ref y), (.int 0), (.int 0), (.int 0)] [] h (fun v h' => ∃ z : Addr, v = some (.ref z) ∧ Big Z h' z (1 : Int32) [m0, m1]) := by
  obtain ⟨arx, Ex, Sx, Gx, Bx, Ax⟩ := Xx
  have Ax : Av Z h arx .int [(.int m0), (.int m1)] := Ax
  obtain ⟨ary, Ey, Sy, Gy, By, Ay⟩ := Xy
  have Ay : Av Z h ary .int [(.int 1)] := Ay
  refine mO a0 #[.val (.ref x), .val (.ref y), .val (.int 0), .val (.int 0), .val (.int 0), .unset, .unset, .unset, .unset] (fun _ _ _ m_ _ _ _ hs0 C => ?_)
  refine Go.know (fun hX hK _ => ?_)
  refine g_aloadN C eM4_0 rfl rfl <| gF C eM4_1 (hW hw 34 rfl) Sy <| g_ifF C eM4_4 (show ¬ (1 : Int32) = (0 : Int32) by decide) <| g_aloadN C eM4_7 rfl rfl <| gF C eM4_8 (hW hw 34 rfl) Sx <| g_ifT 18 C eM4_11 (show ¬ (1 : Int32) = (0 : Int32) by decide) (by decide) (by decide) <| g_aloadN C eM4_18 rfl rfl <| gF C eM4_19 (hW hw 131 rfl) Gx <| g_alen C eM4_22 Ax (z := (2 : Int32)) rfl <| g_istore #[.val (.ref x), .val (.ref y), .val (.int 0), .val (.int 0), .val (.int 0), .val (.int 2), .unset, .unset, .unset] C eM4_23 rfl <| g_aloadN C eM4_25 rfl rfl ?_
  refine g_aloadN C eM4_26 rfl rfl ?_
  by_cases cc1 : y = x
  · refine g_acmpF C eM4_27 rfl rfl (congrArg Value.ref cc1) ?_
    refine g_iload C eM4_30 rfl <| g_bipush 20 C eM4_32 (by decide) <| g_icmpT 46 C eM4_34 (show ¬ (20 : Int32) < (2 : Int32) by decide) (by decide) (by decide) <| g_aloadN C eM4_46 rfl rfl <| gF C eM4_47 (hW hw 131 rfl) Gy <| g_alen C eM4_50 Ay (z := (1 : Int32)) rfl <| g_istore #[.val (.ref x), .val (.ref y), .val (.int 0), .val (.int 0), .val (.int 0), .val (.int 2), .val (.int 1), .unset, .unset] C eM4_51 rfl <| g_iload C eM4_53 rfl <| g_bipush 80 C eM4_55 (by decide) <| g_icmpT 67 C eM4_57 (show (2 : Int32) < (80 : Int32) by decide) (by decide) (by decide) <| g_aloadN C eM4_67 rfl rfl ?_
    refine gF C eM4_68 (hW hw 34 rfl) Sx <| g_aloadN C eM4_71 rfl rfl <| gF C eM4_72 (hW hw 34 rfl) Sy <| g_icmpF C eM4_75 (show (1 : Int32) = (1 : Int32) by decide) <| g_iconst 1 C eM4_78 (by decide) <| g_goto 83 C eM4_79 (by decide) (by decide) <| g_istore #[.val (.ref x), .val (.ref y), .val (.int 0), .val (.int 0), .val (.int 0), .val (.int 2), .val (.int 1), .val (.int 1), .unset] C eM4_83 rfl <| g_aloadN C eM4_85 rfl rfl <| gF C eM4_86 (hW hw 131 rfl) Gy <| g_alen C eM4_89 Ay (z := (1 : Int32)) rfl <| g_iconst 1 C eM4_90 (by decide) ?_
    refine g_icmpF C eM4_91 (show (1 : Int32) = (1 : Int32) by decide) <| g_aloadN C eM4_94 rfl rfl <| gF C eM4_95 (hW hw 131 rfl) Gx <| g_aloadN C eM4_98 rfl rfl <| gF C eM4_99 (hW hw 131 rfl) Gy <| g_iconst 0 C eM4_102 (by decide) <| g_iaload 0 C eM4_103 Ay (by decide) (by decide) rfl <| g_iload C eM4_104 rfl ?_
    refine g_invokestatic [(.ref arx), (.int 1), (.int 1)] [] 0 C eM4_106 (hW hw 192 rfl) (hW hw 193 rfl) (hW hw 8 rfl) (hW hw 194 rfl) (by decide) (m_mi2 l Z a0 hw _ (1 : Int32) m0 m1 _ Ax) (lenOf pd18 rfl) rfl rfl (bL rfl) (by decide) (by decide) (by decide) (by decide) all0 (fun v9 h10 L11 q12 K13 => ?_)
    obtain ⟨z2, rfl, b3, f4, f5, f6, f7, f8⟩ := q12
    have f8 : Av Z h10 b3 .int [(.int m0), (.int m1)] := f8
    refine gA (mkF m_ 109 #[.val (.ref x), .val (.ref y), .val (.int 0), .val (.int 0), .val (.int 0), .val (.int 2), .val (.int 1), .val (.int 1), .unset] [(.ref z2)]) ?_
    exact g_retA C eM4_109 rfl rfl ⟨_, rfl, ⟨b3, f4, f5, f6, f7, f8⟩⟩ (by decide) (by decide)
  · refine g_acmpT 46 C eM4_27 rfl rfl (fun q => cc1 (by cases q; rfl)) (by decide) (by decide) ?_
    refine g_aloadN C eM4_46 rfl rfl <| gF C eM4_47 (hW hw 131 rfl) Gy <| g_alen C eM4_50 Ay (z := (1 : Int32)) rfl <| g_istore #[.val (.ref x), .val (.ref y), .val (.int 0), .val (.int 0), .val (.int 0), .val (.int 2), .val (.int 1), .unset, .unset] C eM4_51 rfl <| g_iload C eM4_53 rfl <| g_bipush 80 C eM4_55 (by decide) <| g_icmpT 67 C eM4_57 (show (2 : Int32) < (80 : Int32) by decide) (by decide) (by decide) <| g_aloadN C eM4_67 rfl rfl <| gF C eM4_68 (hW hw 34 rfl) Sx <| g_aloadN C eM4_71 rfl rfl <| gF C eM4_72 (hW hw 34 rfl) Sy ?_
    refine g_icmpF C eM4_75 (show (1 : Int32) = (1 : Int32) by decide) <| g_iconst 1 C eM4_78 (by decide) <| g_goto 83 C eM4_79 (by decide) (by decide) <| g_istore #[.val (.ref x), .val (.ref y), .val (.int 0), .val (.int 0), .val (.int 0), .val (.int 2), .val (.int 1), .val (.int 1), .unset] C eM4_83 rfl <| g_aloadN C eM4_85 rfl rfl <| gF C eM4_86 (hW hw 131 rfl) Gy <| g_alen C eM4_89 Ay (z := (1 : Int32)) rfl <| g_iconst 1 C eM4_90 (by decide) <| g_icmpF C eM4_91 (show (1 : Int32) = (1 : Int32) by decide) <| g_aloadN C eM4_94 rfl rfl <| gF C eM4_95 (hW hw 131 rfl) Gx ?_
    refine g_aloadN C eM4_98 rfl rfl <| gF C eM4_99 (hW hw 131 rfl) Gy <| g_iconst 0 C eM4_102 (by decide) <| g_iaload 0 C eM4_103 Ay (by decide) (by decide) rfl <| g_iload C eM4_104 rfl ?_
    refine g_invokestatic [(.ref arx), (.int 1), (.int 1)] [] 0 C eM4_106 (hW hw 192 rfl) (hW hw 193 rfl) (hW hw 8 rfl) (hW hw 194 rfl) (by decide) (m_mi2 l Z a0 hw _ (1 : Int32) m0 m1 _ Ax) (lenOf pd18 rfl) rfl rfl (bL rfl) (by decide) (by decide) (by decide) (by decide) all0 (fun v21 h22 L23 q24 K25 => ?_)
    obtain ⟨z14, rfl, b15, f16, f17, f18, f19, f20⟩ := q24
    have f20 : Av Z h22 b15 .int [(.int m0), (.int m1)] := f20
    refine gA (mkF m_ 109 #[.val (.ref x), .val (.ref y), .val (.int 0), .val (.int 0), .val (.int 0), .val (.int 2), .val (.int 1), .val (.int 1), .unset] [(.ref z14)]) ?_
    exact g_retA C eM4_109 rfl rfl ⟨_, rfl, ⟨b15, f16, f17, f18, f19, f20⟩⟩ (by decide) (by decide)
theorem m_m4_2n (l : Launch) (Z : State) (a0 : Array Value) (hw : ∀ d ∈ tables_1, d.before a0 Z = true) (x y : Addr) (m0 m1 : Int32) (h : Heap) (Xx : Big Z h x (-1 : Int32) [m0, m1]) (Xy : Big Z h y (1 : Int32) [(1 : Int32)]) {ps ns one zero : Addr} (ST : Start Z ps ns one zero) :
    MetW false l Z [] (⟨"java/math/BigInteger", "multiply", "(Ljava/math/BigInteger;ZZI)Ljava/math/BigInteger;"⟩ : MethodName) k9 9 (some (.object "java/math/BigInteger")) [] (rM 4 2 8 71) #[(.ref x), (.ref y), (.int 0), (.int 0), (.int 0)] [] h (fun v h' => ∃ z : Addr, v = some (.ref z) ∧ Big Z h' z (-1 : Int32) [m0, m1]) := by
  obtain ⟨arx, Ex, Sx, Gx, Bx, Ax⟩ := Xx
  have Ax : Av Z h arx .int [(.int m0), (.int m1)] := Ax
  obtain ⟨ary, Ey, Sy, Gy, By, Ay⟩ := Xy
  have Ay : Av Z h ary .int [(.int 1)] := Ay
  refine mO a0 #[.val (.ref x), .val (.ref y), .val (.int 0), .val (.int 0), .val (.int 0), .unset, .unset, .unset, .unset] (fun _ _ _ m_ _ _ _ hs0 C => ?_)
  refine Go.know (fun hX hK _ => ?_)
  refine g_aloadN C eM4_0 rfl rfl <| gF C eM4_1 (hW hw 34 rfl) Sy <| g_ifF C eM4_4 (show ¬ (1 : Int32) = (0 : Int32) by decide) <| g_aloadN C eM4_7 rfl rfl <| gF C eM4_8 (hW hw 34 rfl) Sx <| g_ifT 18 C eM4_11 (show ¬ (-1 : Int32) = (0 : Int32) by decide) (by decide) (by decide) <| g_aloadN C eM4_18 rfl rfl <| gF C eM4_19 (hW hw 131 rfl) Gx <| g_alen C eM4_22 Ax (z := (2 : Int32)) rfl <| g_istore #[.val (.ref x), .val (.ref y), .val (.int 0), .val (.int 0), .val (.int 0), .val (.int 2), .unset, .unset, .unset] C eM4_23 rfl <| g_aloadN C eM4_25 rfl rfl ?_
  refine g_aloadN C eM4_26 rfl rfl ?_
  by_cases cc1 : y = x
  · refine g_acmpF C eM4_27 rfl rfl (congrArg Value.ref cc1) ?_
    refine g_iload C eM4_30 rfl <| g_bipush 20 C eM4_32 (by decide) <| g_icmpT 46 C eM4_34 (show ¬ (20 : Int32) < (2 : Int32) by decide) (by decide) (by decide) <| g_aloadN C eM4_46 rfl rfl <| gF C eM4_47 (hW hw 131 rfl) Gy <| g_alen C eM4_50 Ay (z := (1 : Int32)) rfl <| g_istore #[.val (.ref x), .val (.ref y), .val (.int 0), .val (.int 0), .val (.int 0), .val (.int 2), .val (.int 1), .unset, .unset] C eM4_51 rfl <| g_iload C eM4_53 rfl <| g_bipush 80 C eM4_55 (by decide) <| g_icmpT 67 C eM4_57 (show (2 : Int32) < (80 : Int32) by decide) (by decide) (by decide) <| g_aloadN C eM4_67 rfl rfl ?_
    refine gF C eM4_68 (hW hw 34 rfl) Sx <| g_aloadN C eM4_71 rfl rfl <| gF C eM4_72 (hW hw 34 rfl) Sy <| g_icmpT 82 C eM4_75 (show ¬ (-1 : Int32) = (1 : Int32) by decide) (by decide) (by decide) <| g_iconst (-1) C eM4_82 (by decide) <| g_istore #[.val (.ref x), .val (.ref y), .val (.int 0), .val (.int 0), .val (.int 0), .val (.int 2), .val (.int 1), .val (.int (-1)), .unset] C eM4_83 rfl <| g_aloadN C eM4_85 rfl rfl <| gF C eM4_86 (hW hw 131 rfl) Gy <| g_alen C eM4_89 Ay (z := (1 : Int32)) rfl <| g_iconst 1 C eM4_90 (by decide) <| g_icmpF C eM4_91 (show (1 : Int32) = (1 : Int32) by decide) ?_
    refine g_aloadN C eM4_94 rfl rfl <| gF C eM4_95 (hW hw 131 rfl) Gx <| g_aloadN C eM4_98 rfl rfl <| gF C eM4_99 (hW hw 131 rfl) Gy <| g_iconst 0 C eM4_102 (by decide) <| g_iaload 0 C eM4_103 Ay (by decide) (by decide) rfl <| g_iload C eM4_104 rfl ?_
    refine g_invokestatic [(.ref arx), (.int 1), (.int (-1))] [] 0 C eM4_106 (hW hw 192 rfl) (hW hw 193 rfl) (hW hw 8 rfl) (hW hw 194 rfl) (by decide) (m_mi2 l Z a0 hw _ (-1 : Int32) m0 m1 _ Ax) (lenOf pd18 rfl) rfl rfl (bL rfl) (by decide) (by decide) (by decide) (by decide) all0 (fun v9 h10 L11 q12 K13 => ?_)
    obtain ⟨z2, rfl, b3, f4, f5, f6, f7, f8⟩ := q12
    have f8 : Av Z h10 b3 .int [(.int m0), (.int m1)] := f8
    refine gA (mkF m_ 109 #[.val (.ref x), .val (.ref y), .val (.int 0), .val (.int 0), .val (.int 0), .val (.int 2), .val (.int 1), .val (.int (-1)), .unset] [(.ref z2)]) ?_
    exact g_retA C eM4_109 rfl rfl ⟨_, rfl, ⟨b3, f4, f5, f6, f7, f8⟩⟩ (by decide) (by decide)
  · refine g_acmpT 46 C eM4_27 rfl rfl (fun q => cc1 (by cases q; rfl)) (by decide) (by decide) ?_
    refine g_aloadN C eM4_46 rfl rfl <| gF C eM4_47 (hW hw 131 rfl) Gy <| g_alen C eM4_50 Ay (z := (1 : Int32)) rfl <| g_istore #[.val (.ref x), .val (.ref y), .val (.int 0), .val (.int 0), .val (.int 0), .val (.int 2), .val (.int 1), .unset, .unset] C eM4_51 rfl <| g_iload C eM4_53 rfl <| g_bipush 80 C eM4_55 (by decide) <| g_icmpT 67 C eM4_57 (show (2 : Int32) < (80 : Int32) by decide) (by decide) (by decide) <| g_aloadN C eM4_67 rfl rfl <| gF C eM4_68 (hW hw 34 rfl) Sx <| g_aloadN C eM4_71 rfl rfl <| gF C eM4_72 (hW hw 34 rfl) Sy ?_
    refine g_icmpT 82 C eM4_75 (show ¬ (-1 : Int32) = (1 : Int32) by decide) (by decide) (by decide) <| g_iconst (-1) C eM4_82 (by decide) <| g_istore #[.val (.ref x), .val (.ref y), .val (.int 0), .val (.int 0), .val (.int 0), .val (.int 2), .val (.int 1), .val (.int (-1)), .unset] C eM4_83 rfl <| g_aloadN C eM4_85 rfl rfl <| gF C eM4_86 (hW hw 131 rfl) Gy <| g_alen C eM4_89 Ay (z := (1 : Int32)) rfl <| g_iconst 1 C eM4_90 (by decide) <| g_icmpF C eM4_91 (show (1 : Int32) = (1 : Int32) by decide) <| g_aloadN C eM4_94 rfl rfl <| gF C eM4_95 (hW hw 131 rfl) Gx <| g_aloadN C eM4_98 rfl rfl ?_
    refine gF C eM4_99 (hW hw 131 rfl) Gy <| g_iconst 0 C eM4_102 (by decide) <| g_iaload 0 C eM4_103 Ay (by decide) (by decide) rfl <| g_iload C eM4_104 rfl ?_
    refine g_invokestatic [(.ref arx), (.int 1), (.int (-1))] [] 0 C eM4_106 (hW hw 192 rfl) (hW hw 193 rfl) (hW hw 8 rfl) (hW hw 194 rfl) (by decide) (m_mi2 l Z a0 hw _ (-1 : Int32) m0 m1 _ Ax) (lenOf pd18 rfl) rfl rfl (bL rfl) (by decide) (by decide) (by decide) (by decide) all0 (fun v21 h22 L23 q24 K25 => ?_)
    obtain ⟨z14, rfl, b15, f16, f17, f18, f19, f20⟩ := q24
    have f20 : Av Z h22 b15 .int [(.int m0), (.int m1)] := f20
    refine gA (mkF m_ 109 #[.val (.ref x), .val (.ref y), .val (.int 0), .val (.int 0), .val (.int 0), .val (.int 2), .val (.int 1), .val (.int (-1)), .unset] [(.ref z14)]) ?_
    exact g_retA C eM4_109 rfl rfl ⟨_, rfl, ⟨b15, f16, f17, f18, f19, f20⟩⟩ (by decide) (by decide)
theorem m_m4 (l : Launch) (Z : State) (a0 : Array Value) (hw : ∀ d ∈ tables_1, d.before a0 Z = true) (x y : Addr) (s : Int32) (ms : List Int32) (h : Heap) (hc : Canon s ms) (Xx : Big Z h x s ms) (Xy : Big Z h y 1 [1]) {ps ns one zero : Addr} (ST : Start Z ps ns one zero) :
    MetW false l Z [] (⟨"java/math/BigInteger", "multiply", "(Ljava/math/BigInteger;ZZI)Ljava/math/BigInteger;"⟩ : MethodName) k9 9 (some (.object "java/math/BigInteger")) [] (rM 4 2 8 71) #[(.ref x), (.ref y), (.int 0), (.int 0), (.int 0)] [] h (fun v h' => ∃ z : Addr, v = some (.ref z) ∧ Big Z h' z s ms) := by
  rcases hc with ⟨rfl, rfl⟩ | ⟨rfl | rfl, ⟨m, hm, rfl⟩ | ⟨p, q, hp, rfl⟩⟩
  · exact m_m4_0 l Z a0 hw x y h Xx Xy ST
  · exact m_m4_1p l Z a0 hw x y m h Xx Xy ST
  · exact m_m4_2p l Z a0 hw x y p q h Xx Xy ST
  · exact m_m4_1n l Z a0 hw x y m h Xx Xy ST
  · exact m_m4_2n l Z a0 hw x y p q h Xx Xy ST
theorem eMU_0 : decode k8 0 = .ok (.aload_n 0, 1) := by decide +kernel
theorem eMU_1 : decode k8 1 = .ok (.aload_n 1, 1) := by decide +kernel
theorem eMU_2 : decode k8 2 = .ok (.iconst 0, 1) := by decide +kernel
theorem eMU_3 : decode k8 3 = .ok (.iconst 0, 1) := by decide +kernel
theorem eMU_4 : decode k8 4 = .ok (.iconst 0, 1) := by decide +kernel
theorem eMU_5 : decode k8 5 = .ok (.invokevirtual 397, 3) := by decide +kernel
theorem eMU_8 : decode k8 8 = .ok (.areturn, 1) := by decide +kernel
theorem m_mul (l : Launch) (Z : State) (a0 : Array Value) (hw : ∀ d ∈ tables_1, d.before a0 Z = true) (x y : Addr) (s : Int32) (ms : List Int32) (h : Heap) (hc : Canon s ms) (Xx : Big Z h x s ms) (Xy : Big Z h y 1 [1]) {ps ns one zero : Addr} (ST : Start Z ps ns one zero) :
    MetW false l Z [] (⟨"java/math/BigInteger", "multiply", "(Ljava/math/BigInteger;)Ljava/math/BigInteger;"⟩ : MethodName) k8 2 (some (.object "java/math/BigInteger")) [] (rM 5 2 8 91) #[(.ref x), (.ref y)] [] h (fun v h' => ∃ z : Addr, v = some (.ref z) ∧ Big Z h' z s ms) := by
  obtain ⟨arx, Ex, Sx, Gx, Bx, Ax⟩ := Xx
  obtain ⟨ary, Ey, Sy, Gy, By, Ay⟩ := Xy
  refine mO a0 #[.val (.ref x), .val (.ref y)] (fun _ _ _ m_ _ _ _ hs0 C => ?_)
  refine g_aloadN C eMU_0 rfl rfl <| g_aloadN C eMU_1 rfl rfl <| g_iconst 0 C eMU_2 (by decide) <| g_iconst 0 C eMU_3 (by decide) <| g_iconst 0 C eMU_4 (by decide) ?_
  refine g_invokeprivate [(.ref y), (.int 0), (.int 0), (.int 0)] [] 0 C eMU_5 (hW hw 187 rfl) (hW hw 188 rfl) (hW hw 190 rfl) (hW hw 189 rfl) (hW hw 8 rfl) (hW hw 191 rfl) (by decide) Ex (m_m4 l Z a0 hw _ _ s ms _ hc ⟨arx, Ex, Sx, Gx, Bx, Ax⟩ ⟨ary, Ey, Sy, Gy, By, Ay⟩ ST) (lenOf pd19 rfl) rfl rfl (bL rfl) (by decide) (by decide) (by decide) (by decide) all0 (fun v8 h9 L10 q11 K12 => ?_)
  obtain ⟨z1, rfl, b2, f3, f4, f5, f6, f7⟩ := q11
  refine gA (mkF m_ 8 #[.val (.ref x), .val (.ref y)] [(.ref z1)]) ?_
  exact g_retA C eMU_8 rfl rfl ⟨_, rfl, ⟨b2, f3, f4, f5, f6, f7⟩⟩ (by decide) (by decide)
theorem eCG_0 : decode k3 0 = .ok (.aload_n 0, 1) := by decide +kernel
theorem eCG_1 : decode k3 1 = .ok (.getfield 28, 3) := by decide +kernel
theorem eCG_4 : decode k3 4 = .ok (.astore_n 2, 1) := by decide +kernel
theorem eCG_5 : decode k3 5 = .ok (.aload_n 2, 1) := by decide +kernel
theorem eCG_6 : decode k3 6 = .ok (.arraylength, 1) := by decide +kernel
theorem eCG_7 : decode k3 7 = .ok (.istore_n 3, 1) := by decide +kernel
theorem eCG_8 : decode k3 8 = .ok (.aload_n 1, 1) := by decide +kernel
theorem eCG_9 : decode k3 9 = .ok (.getfield 28, 3) := by decide +kernel
theorem eCG_12 : decode k3 12 = .ok (.astore 4, 2) := by decide +kernel
theorem eCG_14 : decode k3 14 = .ok (.aload 4, 2) := by decide +kernel
theorem eCG_16 : decode k3 16 = .ok (.arraylength, 1) := by decide +kernel
theorem eCG_17 : decode k3 17 = .ok (.istore 5, 2) := by decide +kernel
theorem eCG_19 : decode k3 19 = .ok (.iload_n 3, 1) := by decide +kernel
theorem eCG_20 : decode k3 20 = .ok (.iload 5, 2) := by decide +kernel
theorem eCG_22 : decode k3 22 = .ok (.if_icmp .ge 5, 3) := by decide +kernel
theorem eCG_27 : decode k3 27 = .ok (.iload_n 3, 1) := by decide +kernel
theorem eCG_28 : decode k3 28 = .ok (.iload 5, 2) := by decide +kernel
theorem eCG_30 : decode k3 30 = .ok (.if_icmp .le 5, 3) := by decide +kernel
theorem eCG_35 : decode k3 35 = .ok (.iconst 0, 1) := by decide +kernel
theorem eCG_36 : decode k3 36 = .ok (.istore 6, 2) := by decide +kernel
theorem eCG_38 : decode k3 38 = .ok (.iload 6, 2) := by decide +kernel
theorem eCG_40 : decode k3 40 = .ok (.iload_n 3, 1) := by decide +kernel
theorem eCG_41 : decode k3 41 = .ok (.if_icmp .ge 53, 3) := by decide +kernel
theorem eCG_44 : decode k3 44 = .ok (.aload_n 2, 1) := by decide +kernel
theorem eCG_45 : decode k3 45 = .ok (.iload 6, 2) := by decide +kernel
theorem eCG_47 : decode k3 47 = .ok (.iaload, 1) := by decide +kernel
theorem eCG_48 : decode k3 48 = .ok (.istore 7, 2) := by decide +kernel
theorem eCG_50 : decode k3 50 = .ok (.aload 4, 2) := by decide +kernel
theorem eCG_52 : decode k3 52 = .ok (.iload 6, 2) := by decide +kernel
theorem eCG_54 : decode k3 54 = .ok (.iaload, 1) := by decide +kernel
theorem eCG_55 : decode k3 55 = .ok (.istore 8, 2) := by decide +kernel
theorem eCG_57 : decode k3 57 = .ok (.iload 7, 2) := by decide +kernel
theorem eCG_59 : decode k3 59 = .ok (.iload 8, 2) := by decide +kernel
theorem eCG_61 : decode k3 61 = .ok (.if_icmp .eq 27, 3) := by decide +kernel
theorem eCG_64 : decode k3 64 = .ok (.iload 7, 2) := by decide +kernel
theorem eCG_66 : decode k3 66 = .ok (.i2l, 1) := by decide +kernel
theorem eCG_67 : decode k3 67 = .ok (.ldc2_w 130, 3) := by decide +kernel
theorem eCG_70 : decode k3 70 = .ok (.land, 1) := by decide +kernel
theorem eCG_71 : decode k3 71 = .ok (.iload 8, 2) := by decide +kernel
theorem eCG_73 : decode k3 73 = .ok (.i2l, 1) := by decide +kernel
theorem eCG_74 : decode k3 74 = .ok (.ldc2_w 130, 3) := by decide +kernel
theorem eCG_77 : decode k3 77 = .ok (.land, 1) := by decide +kernel
theorem eCG_78 : decode k3 78 = .ok (.lcmp, 1) := by decide +kernel
theorem eCG_79 : decode k3 79 = .ok (.ifCond .ge 7, 3) := by decide +kernel
theorem eCG_82 : decode k3 82 = .ok (.iconst (-1), 1) := by decide +kernel
theorem eCG_83 : decode k3 83 = .ok (.goto 4, 3) := by decide +kernel
theorem eCG_86 : decode k3 86 = .ok (.iconst 1, 1) := by decide +kernel
theorem eCG_87 : decode k3 87 = .ok (.ireturn, 1) := by decide +kernel
theorem eCG_88 : decode k3 88 = .ok (.iinc 6 1, 3) := by decide +kernel
theorem eCG_91 : decode k3 91 = .ok (.goto (-53), 3) := by decide +kernel
theorem eCG_94 : decode k3 94 = .ok (.iconst 0, 1) := by decide +kernel
theorem eCG_95 : decode k3 95 = .ok (.ireturn, 1) := by decide +kernel
theorem m_cg11 (l : Launch) (Z : State) (a0 : Array Value) (hw : ∀ d ∈ tables_1, d.before a0 Z = true) (x y : Addr) (s t m0 n0 : Int32) (h : Heap) (Xx : Big Z h x s [m0]) (Xy : Big Z h y t [n0]) :
    MetW false l Z [] (⟨"java/math/BigInteger", "compareMagnitude", "(Ljava/math/BigInteger;)I"⟩ : MethodName) k3 9 (some .int) [] (rM 0 0 0 0) #[(.ref x), (.ref y)] [] h (fun v h' => v = some (.int (cmpM [m0] [n0]))) := by
  obtain ⟨arx, Ex, Sx, Gx, Bx, Ax⟩ := Xx
  have Ax : Av Z h arx .int [(.int m0)] := Ax
  obtain ⟨ary, Ey, Sy, Gy, By, Ay⟩ := Xy
  have Ay : Av Z h ary .int [(.int n0)] := Ay
  refine mO a0 #[.val (.ref x), .val (.ref y), .unset, .unset, .unset, .unset, .unset, .unset, .unset] (fun _ _ _ m_ _ _ _ hs0 C => ?_)
  refine g_aloadN C eCG_0 rfl rfl <| gF C eCG_1 (hW hw 131 rfl) Gx <| g_astoreN #[.val (.ref x), .val (.ref y), .val (.ref arx), .unset, .unset, .unset, .unset, .unset, .unset] C eCG_4 rfl rfl <| g_aloadN C eCG_5 rfl rfl <| g_alen C eCG_6 Ax (z := (1 : Int32)) rfl <| g_istoreN #[.val (.ref x), .val (.ref y), .val (.ref arx), .val (.int 1), .unset, .unset, .unset, .unset, .unset] C eCG_7 rfl <| g_aloadN C eCG_8 rfl rfl <| gF C eCG_9 (hW hw 131 rfl) Gy <| g_astore #[.val (.ref x), .val (.ref y), .val (.ref arx), .val (.int 1), .val (.ref ary), .unset, .unset, .unset, .unset] C eCG_12 rfl rfl <| g_aload C eCG_14 rfl rfl <| g_alen C eCG_16 Ay (z := (1 : Int32)) rfl ?_
  refine g_istore #[.val (.ref x), .val (.ref y), .val (.ref arx), .val (.int 1), .val (.ref ary), .val (.int 1), .unset, .unset, .unset] C eCG_17 rfl <| g_iloadN C eCG_19 rfl <| g_iload C eCG_20 rfl <| g_icmpT 27 C eCG_22 (show ¬ (1 : Int32) < (1 : Int32) by decide) (by decide) (by decide) <| g_iloadN C eCG_27 rfl <| g_iload C eCG_28 rfl <| g_icmpT 35 C eCG_30 (show ¬ (1 : Int32) < (1 : Int32) by decide) (by decide) (by decide) <| g_iconst 0 C eCG_35 (by decide) <| g_istore #[.val (.ref x), .val (.ref y), .val (.ref arx), .val (.int 1), .val (.ref ary), .val (.int 1), .val (.int 0), .unset, .unset] C eCG_36 rfl <| g_iload C eCG_38 rfl <| g_iloadN C eCG_40 rfl ?_
  refine g_icmpF C eCG_41 (show (0 : Int32) < (1 : Int32) by decide) <| g_aloadN C eCG_44 rfl rfl <| g_iload C eCG_45 rfl <| g_iaload 0 C eCG_47 Ax (by decide) (by decide) rfl <| g_istore #[.val (.ref x), .val (.ref y), .val (.ref arx), .val (.int 1), .val (.ref ary), .val (.int 1), .val (.int 0), .val (.int m0), .unset] C eCG_48 rfl <| g_aload C eCG_50 rfl rfl <| g_iload C eCG_52 rfl <| g_iaload 0 C eCG_54 Ay (by decide) (by decide) rfl <| g_istore #[.val (.ref x), .val (.ref y), .val (.ref arx), .val (.int 1), .val (.ref ary), .val (.int 1), .val (.int 0), .val (.int m0), .val (.int n0)] C eCG_55 rfl <| g_iload C eCG_57 rfl <| g_iload C eCG_59 rfl ?_
  by_cases cc1 : m0 = n0
  · refine g_icmpT 88 C eCG_61 (show m0 = n0 from cc1) (by decide) (by decide) ?_
    refine g_iinc (1 : Int32) #[.val (.ref x), .val (.ref y), .val (.ref arx), .val (.int 1), .val (.ref ary), .val (.int 1), .val (.int 1), .val (.int m0), .val (.int n0)] C eCG_88 rfl (by decide) rfl <| g_goto 38 C eCG_91 (by decide) (by decide) <| g_iload C eCG_38 rfl <| g_iloadN C eCG_40 rfl <| g_icmpT 94 C eCG_41 (show ¬ (1 : Int32) < (1 : Int32) by decide) (by decide) (by decide) <| g_iconst 0 C eCG_94 (by decide) ?_
    have hq : cmpM [m0] [n0] = (0 : Int32) := by simp only [cmpM, eq_true cc1]; simp
    exact g_retI C eCG_95 (by rw [hq]) (by decide) (by decide)
  · refine g_icmpF C eCG_61 (show ¬ m0 = n0 from cc1) ?_
    refine g_iload C eCG_64 rfl <| g_i2l _ C eCG_66 rfl <| g_ldc2w (4294967295 : Int64) C eCG_67 (hW hw 221 rfl) <| g_land _ C eCG_70 rfl <| g_iload C eCG_71 rfl <| g_i2l _ C eCG_73 rfl <| g_ldc2w (4294967295 : Int64) C eCG_74 (hW hw 221 rfl) <| g_land _ C eCG_77 rfl <| g_lcmp C eCG_78 ?_
    by_cases cc2 : ((m0.toInt64) &&& (4294967295 : Int64)) < ((n0.toInt64) &&& (4294967295 : Int64))
    · refine g_ifF C eCG_79 (cl_ge_f cc2) ?_
      refine g_iconst (-1) C eCG_82 (by decide) <| g_goto 87 C eCG_83 (by decide) (by decide) ?_
      have hq : cmpM [m0] [n0] = (-1 : Int32) := by simp only [cmpM, eq_false cc1, eq_true cc2]; simp
      exact g_retI C eCG_87 (by rw [hq]) (by decide) (by decide)
    · refine g_ifT 86 C eCG_79 (cl_ge_t cc2) (by decide) (by decide) ?_
      refine g_iconst 1 C eCG_86 (by decide) ?_
      have hq : cmpM [m0] [n0] = (1 : Int32) := by simp only [cmpM, eq_false cc1, eq_false cc2]; simp
      exact g_retI C eCG_87 (by rw [hq]) (by decide) (by decide)
theorem eCG_25 : decode k3 25 = .ok (.iconst (-1), 1) := by decide +kernel
theorem eCG_26 : decode k3 26 = .ok (.ireturn, 1) := by decide +kernel
theorem m_cg12 (l : Launch) (Z : State) (a0 : Array Value) (hw : ∀ d ∈ tables_1, d.before a0 Z = true) (x y : Addr) (s t m0 n0 n1 : Int32) (h : Heap) (Xx : Big Z h x s [m0]) (Xy : Big Z h y t [n0, n1]) :
    MetW false l Z [] (⟨"java/math/BigInteger", "compareMagnitude", "(Ljava/math/BigInteger;)I"⟩ : MethodName) k3 9 (some .int) [] (rM 0 0 0 0) #[(.ref x), (.ref y)] [] h (fun v h' => v = some (.int (cmpM [m0] [n0, n1]))) := by
  obtain ⟨arx, Ex, Sx, Gx, Bx, Ax⟩ := Xx
  have Ax : Av Z h arx .int [(.int m0)] := Ax
  obtain ⟨ary, Ey, Sy, Gy, By, Ay⟩ := Xy
  have Ay : Av Z h ary .int [(.int n0), (.int n1)] := Ay
  refine mO a0 #[.val (.ref x), .val (.ref y), .unset, .unset, .unset, .unset, .unset, .unset, .unset] (fun _ _ _ m_ _ _ _ hs0 C => ?_)
  refine g_aloadN C eCG_0 rfl rfl <| gF C eCG_1 (hW hw 131 rfl) Gx <| g_astoreN #[.val (.ref x), .val (.ref y), .val (.ref arx), .unset, .unset, .unset, .unset, .unset, .unset] C eCG_4 rfl rfl <| g_aloadN C eCG_5 rfl rfl <| g_alen C eCG_6 Ax (z := (1 : Int32)) rfl <| g_istoreN #[.val (.ref x), .val (.ref y), .val (.ref arx), .val (.int 1), .unset, .unset, .unset, .unset, .unset] C eCG_7 rfl <| g_aloadN C eCG_8 rfl rfl <| gF C eCG_9 (hW hw 131 rfl) Gy <| g_astore #[.val (.ref x), .val (.ref y), .val (.ref arx), .val (.int 1), .val (.ref ary), .unset, .unset, .unset, .unset] C eCG_12 rfl rfl <| g_aload C eCG_14 rfl rfl <| g_alen C eCG_16 Ay (z := (2 : Int32)) rfl ?_
  refine g_istore #[.val (.ref x), .val (.ref y), .val (.ref arx), .val (.int 1), .val (.ref ary), .val (.int 2), .unset, .unset, .unset] C eCG_17 rfl <| g_iloadN C eCG_19 rfl <| g_iload C eCG_20 rfl <| g_icmpF C eCG_22 (show (1 : Int32) < (2 : Int32) by decide) <| g_iconst (-1) C eCG_25 (by decide) ?_
  have hq : cmpM [m0] [n0, n1] = (-1 : Int32) := by simp only [cmpM]
  exact g_retI C eCG_26 (by rw [hq]) (by decide) (by decide)
theorem eCG_33 : decode k3 33 = .ok (.iconst 1, 1) := by decide +kernel
theorem eCG_34 : decode k3 34 = .ok (.ireturn, 1) := by decide +kernel
theorem m_cg21 (l : Launch) (Z : State) (a0 : Array Value) (hw : ∀ d ∈ tables_1, d.before a0 Z = true) (x y : Addr) (s t m0 m1 n0 : Int32) (h : Heap) (Xx : Big Z h x s [m0, m1]) (Xy : Big Z h y t [n0]) :
    MetW false l Z [] (⟨"java/math/BigInteger", "compareMagnitude", "(Ljava/math/BigInteger;)I"⟩ : MethodName) k3 9 (some .int) [] (rM 0 0 0 0) #[(.ref x), (.ref y)] [] h (fun v h' => v = some (.int (cmpM [m0, m1] [n0]))) := by
  obtain ⟨arx, Ex, Sx, Gx, Bx, Ax⟩ := Xx
  have Ax : Av Z h arx .int [(.int m0), (.int m1)] := Ax
  obtain ⟨ary, Ey, Sy, Gy, By, Ay⟩ := Xy
  have Ay : Av Z h ary .int [(.int n0)] := Ay
  refine mO a0 #[.val (.ref x), .val (.ref y), .unset, .unset, .unset, .unset, .unset, .unset, .unset] (fun _ _ _ m_ _ _ _ hs0 C => ?_)
  refine g_aloadN C eCG_0 rfl rfl <| gF C eCG_1 (hW hw 131 rfl) Gx <| g_astoreN #[.val (.ref x), .val (.ref y), .val (.ref arx), .unset, .unset, .unset, .unset, .unset, .unset] C eCG_4 rfl rfl <| g_aloadN C eCG_5 rfl rfl <| g_alen C eCG_6 Ax (z := (2 : Int32)) rfl <| g_istoreN #[.val (.ref x), .val (.ref y), .val (.ref arx), .val (.int 2), .unset, .unset, .unset, .unset, .unset] C eCG_7 rfl <| g_aloadN C eCG_8 rfl rfl <| gF C eCG_9 (hW hw 131 rfl) Gy <| g_astore #[.val (.ref x), .val (.ref y), .val (.ref arx), .val (.int 2), .val (.ref ary), .unset, .unset, .unset, .unset] C eCG_12 rfl rfl <| g_aload C eCG_14 rfl rfl <| g_alen C eCG_16 Ay (z := (1 : Int32)) rfl ?_
  refine g_istore #[.val (.ref x), .val (.ref y), .val (.ref arx), .val (.int 2), .val (.ref ary), .val (.int 1), .unset, .unset, .unset] C eCG_17 rfl <| g_iloadN C eCG_19 rfl <| g_iload C eCG_20 rfl <| g_icmpT 27 C eCG_22 (show ¬ (2 : Int32) < (1 : Int32) by decide) (by decide) (by decide) <| g_iloadN C eCG_27 rfl <| g_iload C eCG_28 rfl <| g_icmpF C eCG_30 (show (1 : Int32) < (2 : Int32) by decide) <| g_iconst 1 C eCG_33 (by decide) ?_
  have hq : cmpM [m0, m1] [n0] = (1 : Int32) := by simp only [cmpM]
  exact g_retI C eCG_34 (by rw [hq]) (by decide) (by decide)
theorem m_cg22 (l : Launch) (Z : State) (a0 : Array Value) (hw : ∀ d ∈ tables_1, d.before a0 Z = true) (x y : Addr) (s t m0 m1 n0 n1 : Int32) (h : Heap) (Xx : Big Z h x s [m0, m1]) (Xy : Big Z h y t [n0, n1]) :
    MetW false l Z [] (⟨"java/math/BigInteger", "compareMagnitude", "(Ljava/math/BigInteger;)I"⟩ : MethodName) k3 9 (some .int) [] (rM 0 0 0 0) #[(.ref x), (.ref y)] [] h (fun v h' => v = some (.int (cmpM [m0, m1] [n0, n1]))) := by
  obtain ⟨arx, Ex, Sx, Gx, Bx, Ax⟩ := Xx
  have Ax : Av Z h arx .int [(.int m0), (.int m1)] := Ax
  obtain ⟨ary, Ey, Sy, Gy, By, Ay⟩ := Xy
  have Ay : Av Z h ary .int [(.int n0), (.int n1)] := Ay
  refine mO a0 #[.val (.ref x), .val (.ref y), .unset, .unset, .unset, .unset, .unset, .unset, .unset] (fun _ _ _ m_ _ _ _ hs0 C => ?_)
  refine g_aloadN C eCG_0 rfl rfl <| gF C eCG_1 (hW hw 131 rfl) Gx <| g_astoreN #[.val (.ref x), .val (.ref y), .val (.ref arx), .unset, .unset, .unset, .unset, .unset, .unset] C eCG_4 rfl rfl <| g_aloadN C eCG_5 rfl rfl <| g_alen C eCG_6 Ax (z := (2 : Int32)) rfl <| g_istoreN #[.val (.ref x), .val (.ref y), .val (.ref arx), .val (.int 2), .unset, .unset, .unset, .unset, .unset] C eCG_7 rfl <| g_aloadN C eCG_8 rfl rfl <| gF C eCG_9 (hW hw 131 rfl) Gy <| g_astore #[.val (.ref x), .val (.ref y), .val (.ref arx), .val (.int 2), .val (.ref ary), .unset, .unset, .unset, .unset] C eCG_12 rfl rfl <| g_aload C eCG_14 rfl rfl <| g_alen C eCG_16 Ay (z := (2 : Int32)) rfl ?_
  refine g_istore #[.val (.ref x), .val (.ref y), .val (.ref arx), .val (.int 2), .val (.ref ary), .val (.int 2), .unset, .unset, .unset] C eCG_17 rfl <| g_iloadN C eCG_19 rfl <| g_iload C eCG_20 rfl <| g_icmpT 27 C eCG_22 (show ¬ (2 : Int32) < (2 : Int32) by decide) (by decide) (by decide) <| g_iloadN C eCG_27 rfl <| g_iload C eCG_28 rfl <| g_icmpT 35 C eCG_30 (show ¬ (2 : Int32) < (2 : Int32) by decide) (by decide) (by decide) <| g_iconst 0 C eCG_35 (by decide) <| g_istore #[.val (.ref x), .val (.ref y), .val (.ref arx), .val (.int 2), .val (.ref ary), .val (.int 2), .val (.int 0), .unset, .unset] C eCG_36 rfl <| g_iload C eCG_38 rfl <| g_iloadN C eCG_40 rfl ?_
  refine g_icmpF C eCG_41 (show (0 : Int32) < (2 : Int32) by decide) <| g_aloadN C eCG_44 rfl rfl <| g_iload C eCG_45 rfl <| g_iaload 0 C eCG_47 Ax (by decide) (by decide) rfl <| g_istore #[.val (.ref x), .val (.ref y), .val (.ref arx), .val (.int 2), .val (.ref ary), .val (.int 2), .val (.int 0), .val (.int m0), .unset] C eCG_48 rfl <| g_aload C eCG_50 rfl rfl <| g_iload C eCG_52 rfl <| g_iaload 0 C eCG_54 Ay (by decide) (by decide) rfl <| g_istore #[.val (.ref x), .val (.ref y), .val (.ref arx), .val (.int 2), .val (.ref ary), .val (.int 2), .val (.int 0), .val (.int m0), .val (.int n0)] C eCG_55 rfl <| g_iload C eCG_57 rfl <| g_iload C eCG_59 rfl ?_
  by_cases cc1 : m0 = n0
  · refine g_icmpT 88 C eCG_61 (show m0 = n0 from cc1) (by decide) (by decide) ?_
    refine g_iinc (1 : Int32) #[.val (.ref x), .val (.ref y), .val (.ref arx), .val (.int 2), .val (.ref ary), .val (.int 2), .val (.int 1), .val (.int m0), .val (.int n0)] C eCG_88 rfl (by decide) rfl <| g_goto 38 C eCG_91 (by decide) (by decide) <| g_iload C eCG_38 rfl <| g_iloadN C eCG_40 rfl <| g_icmpF C eCG_41 (show (1 : Int32) < (2 : Int32) by decide) <| g_aloadN C eCG_44 rfl rfl <| g_iload C eCG_45 rfl <| g_iaload 1 C eCG_47 Ax (by decide) (by decide) rfl <| g_istore #[.val (.ref x), .val (.ref y), .val (.ref arx), .val (.int 2), .val (.ref ary), .val (.int 2), .val (.int 1), .val (.int m1), .val (.int n0)] C eCG_48 rfl <| g_aload C eCG_50 rfl rfl <| g_iload C eCG_52 rfl ?_
    refine g_iaload 1 C eCG_54 Ay (by decide) (by decide) rfl <| g_istore #[.val (.ref x), .val (.ref y), .val (.ref arx), .val (.int 2), .val (.ref ary), .val (.int 2), .val (.int 1), .val (.int m1), .val (.int n1)] C eCG_55 rfl <| g_iload C eCG_57 rfl <| g_iload C eCG_59 rfl ?_
    by_cases cc2 : m1 = n1
    · refine g_icmpT 88 C eCG_61 (show m1 = n1 from cc2) (by decide) (by decide) ?_
      refine g_iinc (2 : Int32) #[.val (.ref x), .val (.ref y), .val (.ref arx), .val (.int 2), .val (.ref ary), .val (.int 2), .val (.int 2), .val (.int m1), .val (.int n1)] C eCG_88 rfl (by decide) rfl <| g_goto 38 C eCG_91 (by decide) (by decide) <| g_iload C eCG_38 rfl <| g_iloadN C eCG_40 rfl <| g_icmpT 94 C eCG_41 (show ¬ (2 : Int32) < (2 : Int32) by decide) (by decide) (by decide) <| g_iconst 0 C eCG_94 (by decide) ?_
      have hq : cmpM [m0, m1] [n0, n1] = (0 : Int32) := by simp only [cmpM, eq_true cc1, eq_true cc2]; simp
      exact g_retI C eCG_95 (by rw [hq]) (by decide) (by decide)
    · refine g_icmpF C eCG_61 (show ¬ m1 = n1 from cc2) ?_
      refine g_iload C eCG_64 rfl <| g_i2l _ C eCG_66 rfl <| g_ldc2w (4294967295 : Int64) C eCG_67 (hW hw 221 rfl) <| g_land _ C eCG_70 rfl <| g_iload C eCG_71 rfl <| g_i2l _ C eCG_73 rfl <| g_ldc2w (4294967295 : Int64) C eCG_74 (hW hw 221 rfl) <| g_land _ C eCG_77 rfl <| g_lcmp C eCG_78 ?_
      by_cases cc3 : ((m1.toInt64) &&& (4294967295 : Int64)) < ((n1.toInt64) &&& (4294967295 : Int64))
      · refine g_ifF C eCG_79 (cl_ge_f cc3) ?_
        refine g_iconst (-1) C eCG_82 (by decide) <| g_goto 87 C eCG_83 (by decide) (by decide) ?_
        have hq : cmpM [m0, m1] [n0, n1] = (-1 : Int32) := by simp only [cmpM, eq_true cc1, eq_false cc2, eq_true cc3]; simp
        exact g_retI C eCG_87 (by rw [hq]) (by decide) (by decide)
      · refine g_ifT 86 C eCG_79 (cl_ge_t cc3) (by decide) (by decide) ?_
        refine g_iconst 1 C eCG_86 (by decide) ?_
        have hq : cmpM [m0, m1] [n0, n1] = (1 : Int32) := by simp only [cmpM, eq_true cc1, eq_false cc2, eq_false cc3]; simp
        exact g_retI C eCG_87 (by rw [hq]) (by decide) (by decide)
  · refine g_icmpF C eCG_61 (show ¬ m0 = n0 from cc1) ?_
    refine g_iload C eCG_64 rfl <| g_i2l _ C eCG_66 rfl <| g_ldc2w (4294967295 : Int64) C eCG_67 (hW hw 221 rfl) <| g_land _ C eCG_70 rfl <| g_iload C eCG_71 rfl <| g_i2l _ C eCG_73 rfl <| g_ldc2w (4294967295 : Int64) C eCG_74 (hW hw 221 rfl) <| g_land _ C eCG_77 rfl <| g_lcmp C eCG_78 ?_
    by_cases cc4 : ((m0.toInt64) &&& (4294967295 : Int64)) < ((n0.toInt64) &&& (4294967295 : Int64))
    · refine g_ifF C eCG_79 (cl_ge_f cc4) ?_
      refine g_iconst (-1) C eCG_82 (by decide) <| g_goto 87 C eCG_83 (by decide) (by decide) ?_
      have hq : cmpM [m0, m1] [n0, n1] = (-1 : Int32) := by simp only [cmpM, eq_false cc1, eq_true cc4]; simp
      exact g_retI C eCG_87 (by rw [hq]) (by decide) (by decide)
    · refine g_ifT 86 C eCG_79 (cl_ge_t cc4) (by decide) (by decide) ?_
      refine g_iconst 1 C eCG_86 (by decide) ?_
      have hq : cmpM [m0, m1] [n0, n1] = (1 : Int32) := by simp only [cmpM, eq_false cc1, eq_false cc4]; simp
      exact g_retI C eCG_87 (by rw [hq]) (by decide) (by decide)
theorem m_cg (l : Launch) (Z : State) (a0 : Array Value) (hw : ∀ d ∈ tables_1, d.before a0 Z = true) (x y : Addr) (s t : Int32) (ms ns : List Int32) (h : Heap) (hc : Canon s ms) (hd : Canon t ns) (Xx : Big Z h x s ms) (Xy : Big Z h y t ns) (h0 : ¬ s = 0) (h1 : ¬ t = 0) :
    MetW false l Z [] (⟨"java/math/BigInteger", "compareMagnitude", "(Ljava/math/BigInteger;)I"⟩ : MethodName) k3 9 (some .int) [] (rM 0 0 0 0) #[(.ref x), (.ref y)] [] h (fun v h' => v = some (.int (cmpM ms ns))) := by
  rcases hc with ⟨h2, -⟩ | ⟨-, ⟨m, hm, rfl⟩ | ⟨p, q, hp, rfl⟩⟩
  · exact absurd h2 h0
  · rcases hd with ⟨h2, -⟩ | ⟨-, ⟨m', hm', rfl⟩ | ⟨p', q', hp', rfl⟩⟩
    · exact absurd h2 h1
    · exact m_cg11 l Z a0 hw x y s t m m' h Xx Xy
    · exact m_cg12 l Z a0 hw x y s t m p' q' h Xx Xy
  · rcases hd with ⟨h2, -⟩ | ⟨-, ⟨m', hm', rfl⟩ | ⟨p', q', hp', rfl⟩⟩
    · exact absurd h2 h1
    · exact m_cg21 l Z a0 hw x y s t p q m' h Xx Xy
    · exact m_cg22 l Z a0 hw x y s t p q p' q' h Xx Xy
theorem eCT_0 : decode k2 0 = .ok (.aload_n 0, 1) := by decide +kernel
theorem eCT_1 : decode k2 1 = .ok (.getfield 32, 3) := by decide +kernel
theorem eCT_4 : decode k2 4 = .ok (.aload_n 1, 1) := by decide +kernel
theorem eCT_5 : decode k2 5 = .ok (.getfield 32, 3) := by decide +kernel
theorem eCT_8 : decode k2 8 = .ok (.if_icmp .ne 50, 3) := by decide +kernel
theorem eCT_58 : decode k2 58 = .ok (.aload_n 0, 1) := by decide +kernel
theorem eCT_59 : decode k2 59 = .ok (.getfield 32, 3) := by decide +kernel
theorem eCT_62 : decode k2 62 = .ok (.aload_n 1, 1) := by decide +kernel
theorem eCT_63 : decode k2 63 = .ok (.getfield 32, 3) := by decide +kernel
theorem eCT_66 : decode k2 66 = .ok (.if_icmp .le 7, 3) := by decide +kernel
theorem eCT_69 : decode k2 69 = .ok (.iconst 1, 1) := by decide +kernel
theorem eCT_70 : decode k2 70 = .ok (.goto 4, 3) := by decide +kernel
theorem eCT_73 : decode k2 73 = .ok (.iconst (-1), 1) := by decide +kernel
theorem eCT_74 : decode k2 74 = .ok (.ireturn, 1) := by decide +kernel
theorem m_ctA (l : Launch) (Z : State) (a0 : Array Value) (hw : ∀ d ∈ tables_1, d.before a0 Z = true) (x y : Addr) (s t : Int32) (ms ns : List Int32) (h : Heap) (hc : Canon s ms) (hd : Canon t ns) (Xx : Big Z h x s ms) (Xy : Big Z h y t ns) (hne : ¬ s = t) :
    MetW false l Z [] (⟨"java/math/BigInteger", "compareTo", "(Ljava/math/BigInteger;)I"⟩ : MethodName) k2 2 (some .int) [] (rM 1 0 0 20) #[(.ref x), (.ref y)] [] h (fun v h' => v = some (.int (cmpB s ms t ns))) := by
  obtain ⟨arx, Ex, Sx, Gx, Bx, Ax⟩ := Xx
  obtain ⟨ary, Ey, Sy, Gy, By, Ay⟩ := Xy
  refine mO a0 #[.val (.ref x), .val (.ref y)] (fun _ _ _ m_ _ _ _ hs0 C => ?_)
  refine g_aloadN C eCT_0 rfl rfl <| gF C eCT_1 (hW hw 34 rfl) Sx <| g_aloadN C eCT_4 rfl rfl <| gF C eCT_5 (hW hw 34 rfl) Sy <| g_icmpT 58 C eCT_8 (show ¬ s = t from hne) (by decide) (by decide) <| g_aloadN C eCT_58 rfl rfl <| gF C eCT_59 (hW hw 34 rfl) Sx <| g_aloadN C eCT_62 rfl rfl <| gF C eCT_63 (hW hw 34 rfl) Sy ?_
  by_cases cc1 : t < s
  · refine g_icmpF C eCT_66 (show t < s from cc1) ?_
    refine g_iconst 1 C eCT_69 (by decide) <| g_goto 74 C eCT_70 (by decide) (by decide) ?_
    have hq : cmpB s ms t ns = (1 : Int32) := by simp only [cmpB, eq_false hne, eq_true cc1]; simp
    exact g_retI C eCT_74 (by rw [hq]) (by decide) (by decide)
  · refine g_icmpT 73 C eCT_66 (show ¬ t < s from cc1) (by decide) (by decide) ?_
    refine g_iconst (-1) C eCT_73 (by decide) ?_
    have hq : cmpB s ms t ns = (-1 : Int32) := by simp only [cmpB, eq_false hne, eq_false cc1]; simp
    exact g_retI C eCT_74 (by rw [hq]) (by decide) (by decide)
theorem eCT_11 : decode k2 11 = .ok (.aload_n 0, 1) := by decide +kernel
theorem eCT_12 : decode k2 12 = .ok (.getfield 32, 3) := by decide +kernel
theorem eCT_15 : decode k2 15 = .ok (.lookupswitch 41 #[((-1), 33), (1, 25)], 25) := by decide +kernel
theorem eCT_56 : decode k2 56 = .ok (.iconst 0, 1) := by decide +kernel
theorem eCT_57 : decode k2 57 = .ok (.ireturn, 1) := by decide +kernel
theorem m_ctZ (l : Launch) (Z : State) (a0 : Array Value) (hw : ∀ d ∈ tables_1, d.before a0 Z = true) (x y : Addr) (ms ns : List Int32) (h : Heap) (hc : Canon (0 : Int32) ms) (hd : Canon (0 : Int32) ns) (Xx : Big Z h x (0 : Int32) ms) (Xy : Big Z h y (0 : Int32) ns) :
    MetW false l Z [] (⟨"java/math/BigInteger", "compareTo", "(Ljava/math/BigInteger;)I"⟩ : MethodName) k2 2 (some .int) [] (rM 1 0 0 20) #[(.ref x), (.ref y)] [] h (fun v h' => v = some (.int (cmpB (0 : Int32) ms (0 : Int32) ns))) := by
  obtain ⟨arx, Ex, Sx, Gx, Bx, Ax⟩ := Xx
  obtain ⟨ary, Ey, Sy, Gy, By, Ay⟩ := Xy
  refine mO a0 #[.val (.ref x), .val (.ref y)] (fun _ _ _ m_ _ _ _ hs0 C => ?_)
  refine g_aloadN C eCT_0 rfl rfl <| gF C eCT_1 (hW hw 34 rfl) Sx <| g_aloadN C eCT_4 rfl rfl <| gF C eCT_5 (hW hw 34 rfl) Sy <| g_icmpF C eCT_8 (show (0 : Int32) = (0 : Int32) by decide) <| g_aloadN C eCT_11 rfl rfl <| gF C eCT_12 (hW hw 34 rfl) Sx <| g_lswMiss 56 C eCT_15 (by decide) (by decide) (by decide) (by decide) <| g_iconst 0 C eCT_56 (by decide) ?_
  exact g_retI C eCT_57 rfl (by decide) (by decide)
theorem eCT_40 : decode k2 40 = .ok (.aload_n 0, 1) := by decide +kernel
theorem eCT_41 : decode k2 41 = .ok (.aload_n 1, 1) := by decide +kernel
theorem eCT_42 : decode k2 42 = .ok (.invokevirtual 365, 3) := by decide +kernel
theorem eCT_45 : decode k2 45 = .ok (.goto 12, 3) := by decide +kernel
theorem m_ctP (l : Launch) (Z : State) (a0 : Array Value) (hw : ∀ d ∈ tables_1, d.before a0 Z = true) (x y : Addr) (ms ns : List Int32) (h : Heap) (hc : Canon (1 : Int32) ms) (hd : Canon (1 : Int32) ns) (Xx : Big Z h x (1 : Int32) ms) (Xy : Big Z h y (1 : Int32) ns) :
    MetW false l Z [] (⟨"java/math/BigInteger", "compareTo", "(Ljava/math/BigInteger;)I"⟩ : MethodName) k2 2 (some .int) [] (rM 1 0 0 20) #[(.ref x), (.ref y)] [] h (fun v h' => v = some (.int (cmpB (1 : Int32) ms (1 : Int32) ns))) := by
  obtain ⟨arx, Ex, Sx, Gx, Bx, Ax⟩ := Xx
  obtain ⟨ary, Ey, Sy, Gy, By, Ay⟩ := Xy
  refine mO a0 #[.val (.ref x), .val (.ref y)] (fun _ _ _ m_ _ _ _ hs0 C => ?_)
  refine g_aloadN C eCT_0 rfl rfl <| gF C eCT_1 (hW hw 34 rfl) Sx <| g_aloadN C eCT_4 rfl rfl <| gF C eCT_5 (hW hw 34 rfl) Sy <| g_icmpF C eCT_8 (show (1 : Int32) = (1 : Int32) by decide) <| g_aloadN C eCT_11 rfl rfl <| gF C eCT_12 (hW hw 34 rfl) Sx <| g_lswHit (q := 1) (o := 25) 40 C eCT_15 (by decide) (by decide) (by decide) (by decide) <| g_aloadN C eCT_40 rfl rfl <| g_aloadN C eCT_41 rfl rfl ?_
  refine g_invokevirtual [(.ref y)] [] 0 C eCT_42 (hW hw 216 rfl) (hW hw 217 rfl) (hW hw 219 rfl) (hW hw 218 rfl) (hW hw 8 rfl) (hW hw 220 rfl) (fun _ hZ => notFace_of_selects (args := #[]) (mvT hZ (hW hw 219 rfl))) (by decide) Ex (m_cg l Z a0 hw _ _ (1 : Int32) (1 : Int32) ms ns _ hc hd ⟨arx, Ex, Sx, Gx, Bx, Ax⟩ ⟨ary, Ey, Sy, Gy, By, Ay⟩ (by decide) (by decide)) (lenOf pd20 rfl) rfl rfl (bL rfl) (by decide) (by decide) (by decide) (by decide) all0 (fun v1 h2 L3 q4 K5 => ?_)
  obtain rfl := q4
  refine gA (mkF m_ 45 #[.val (.ref x), .val (.ref y)] [(.int (cmpM ms ns))]) <| g_goto 57 C eCT_45 (by decide) (by decide) ?_
  exact g_retI C eCT_57 rfl (by decide) (by decide)
theorem eCT_48 : decode k2 48 = .ok (.aload_n 1, 1) := by decide +kernel
theorem eCT_49 : decode k2 49 = .ok (.aload_n 0, 1) := by decide +kernel
theorem eCT_50 : decode k2 50 = .ok (.invokevirtual 365, 3) := by decide +kernel
theorem eCT_53 : decode k2 53 = .ok (.goto 4, 3) := by decide +kernel
theorem m_ctN (l : Launch) (Z : State) (a0 : Array Value) (hw : ∀ d ∈ tables_1, d.before a0 Z = true) (x y : Addr) (ms ns : List Int32) (h : Heap) (hc : Canon (-1 : Int32) ms) (hd : Canon (-1 : Int32) ns) (Xx : Big Z h x (-1 : Int32) ms) (Xy : Big Z h y (-1 : Int32) ns) :
    MetW false l Z [] (⟨"java/math/BigInteger", "compareTo", "(Ljava/math/BigInteger;)I"⟩ : MethodName) k2 2 (some .int) [] (rM 1 0 0 20) #[(.ref x), (.ref y)] [] h (fun v h' => v = some (.int (cmpB (-1 : Int32) ms (-1 : Int32) ns))) := by
  obtain ⟨arx, Ex, Sx, Gx, Bx, Ax⟩ := Xx
  obtain ⟨ary, Ey, Sy, Gy, By, Ay⟩ := Xy
  refine mO a0 #[.val (.ref x), .val (.ref y)] (fun _ _ _ m_ _ _ _ hs0 C => ?_)
  refine g_aloadN C eCT_0 rfl rfl <| gF C eCT_1 (hW hw 34 rfl) Sx <| g_aloadN C eCT_4 rfl rfl <| gF C eCT_5 (hW hw 34 rfl) Sy <| g_icmpF C eCT_8 (show (-1 : Int32) = (-1 : Int32) by decide) <| g_aloadN C eCT_11 rfl rfl <| gF C eCT_12 (hW hw 34 rfl) Sx <| g_lswHit (q := -1) (o := 33) 48 C eCT_15 (by decide) (by decide) (by decide) (by decide) <| g_aloadN C eCT_48 rfl rfl <| g_aloadN C eCT_49 rfl rfl ?_
  refine g_invokevirtual [(.ref x)] [] 0 C eCT_50 (hW hw 216 rfl) (hW hw 217 rfl) (hW hw 219 rfl) (hW hw 218 rfl) (hW hw 8 rfl) (hW hw 220 rfl) (fun _ hZ => notFace_of_selects (args := #[]) (mvT hZ (hW hw 219 rfl))) (by decide) Ey (m_cg l Z a0 hw _ _ (-1 : Int32) (-1 : Int32) ns ms _ hd hc ⟨ary, Ey, Sy, Gy, By, Ay⟩ ⟨arx, Ex, Sx, Gx, Bx, Ax⟩ (by decide) (by decide)) (lenOf pd20 rfl) rfl rfl (bL rfl) (by decide) (by decide) (by decide) (by decide) all0 (fun v1 h2 L3 q4 K5 => ?_)
  obtain rfl := q4
  refine gA (mkF m_ 53 #[.val (.ref x), .val (.ref y)] [(.int (cmpM ns ms))]) <| g_goto 57 C eCT_53 (by decide) (by decide) ?_
  exact g_retI C eCT_57 rfl (by decide) (by decide)
theorem m_ct (l : Launch) (Z : State) (a0 : Array Value) (hw : ∀ d ∈ tables_1, d.before a0 Z = true) (x y : Addr) (s t : Int32) (ms ns : List Int32) (h : Heap) (hc : Canon s ms) (hd : Canon t ns) (Xx : Big Z h x s ms) (Xy : Big Z h y t ns) :
    MetW false l Z [] (⟨"java/math/BigInteger", "compareTo", "(Ljava/math/BigInteger;)I"⟩ : MethodName) k2 2 (some .int) [] (rM 1 0 0 20) #[(.ref x), (.ref y)] [] h (fun v h' => v = some (.int (cmpB s ms t ns))) := by
  by_cases e : s = t
  · subst e
    have hc' := hc
    rcases hc with ⟨rfl, -⟩ | ⟨rfl | rfl, -⟩
    · exact m_ctZ l Z a0 hw x y ms ns h hc' hd Xx Xy
    · exact m_ctP l Z a0 hw x y ms ns h hc' hd Xx Xy
    · exact m_ctN l Z a0 hw x y ms ns h hc' hd Xx Xy
  · exact m_ctA l Z a0 hw x y s t ms ns h hc hd Xx Xy e
theorem own_sym {a b : Int32} (h : a = b) : b = a := h.symm
theorem own_nsym {a b : Int32} (h : ¬ a = b) : ¬ b = a := fun q => h q.symm
theorem eEQ_0 : decode k4 0 = .ok (.aload_n 1, 1) := by decide +kernel
theorem eEQ_1 : decode k4 1 = .ok (.aload_n 0, 1) := by decide +kernel
theorem eEQ_2 : decode k4 2 = .ok (.if_acmp .ne 5, 3) := by decide +kernel
theorem eEQ_5 : decode k4 5 = .ok (.iconst 1, 1) := by decide +kernel
theorem eEQ_6 : decode k4 6 = .ok (.ireturn, 1) := by decide +kernel
theorem eEQ_7 : decode k4 7 = .ok (.aload_n 1, 1) := by decide +kernel
theorem eEQ_8 : decode k4 8 = .ok (.instanceof 23, 3) := by decide +kernel
theorem eEQ_11 : decode k4 11 = .ok (.ifCond .eq 11, 3) := by decide +kernel
theorem eEQ_14 : decode k4 14 = .ok (.aload_n 1, 1) := by decide +kernel
theorem eEQ_15 : decode k4 15 = .ok (.checkcast 23, 3) := by decide +kernel
theorem eEQ_18 : decode k4 18 = .ok (.astore_n 2, 1) := by decide +kernel
theorem eEQ_19 : decode k4 19 = .ok (.goto 5, 3) := by decide +kernel
theorem eEQ_24 : decode k4 24 = .ok (.aload_n 2, 1) := by decide +kernel
theorem eEQ_25 : decode k4 25 = .ok (.getfield 32, 3) := by decide +kernel
theorem eEQ_28 : decode k4 28 = .ok (.aload_n 0, 1) := by decide +kernel
theorem eEQ_29 : decode k4 29 = .ok (.getfield 32, 3) := by decide +kernel
theorem eEQ_32 : decode k4 32 = .ok (.if_icmp .eq 5, 3) := by decide +kernel
theorem eEQ_35 : decode k4 35 = .ok (.iconst 0, 1) := by decide +kernel
theorem eEQ_36 : decode k4 36 = .ok (.ireturn, 1) := by decide +kernel
theorem eEQ_37 : decode k4 37 = .ok (.aload_n 0, 1) := by decide +kernel
theorem eEQ_38 : decode k4 38 = .ok (.getfield 28, 3) := by decide +kernel
theorem eEQ_41 : decode k4 41 = .ok (.astore_n 3, 1) := by decide +kernel
theorem eEQ_42 : decode k4 42 = .ok (.aload_n 3, 1) := by decide +kernel
theorem eEQ_43 : decode k4 43 = .ok (.arraylength, 1) := by decide +kernel
theorem eEQ_44 : decode k4 44 = .ok (.istore 4, 2) := by decide +kernel
theorem eEQ_46 : decode k4 46 = .ok (.aload_n 2, 1) := by decide +kernel
theorem eEQ_47 : decode k4 47 = .ok (.getfield 28, 3) := by decide +kernel
theorem eEQ_50 : decode k4 50 = .ok (.astore 5, 2) := by decide +kernel
theorem eEQ_52 : decode k4 52 = .ok (.iload 4, 2) := by decide +kernel
theorem eEQ_54 : decode k4 54 = .ok (.aload 5, 2) := by decide +kernel
theorem eEQ_56 : decode k4 56 = .ok (.arraylength, 1) := by decide +kernel
theorem eEQ_57 : decode k4 57 = .ok (.if_icmp .eq 5, 3) := by decide +kernel
theorem eEQ_62 : decode k4 62 = .ok (.iconst 0, 1) := by decide +kernel
theorem eEQ_63 : decode k4 63 = .ok (.istore 6, 2) := by decide +kernel
theorem eEQ_65 : decode k4 65 = .ok (.iload 6, 2) := by decide +kernel
theorem eEQ_67 : decode k4 67 = .ok (.iload 4, 2) := by decide +kernel
theorem eEQ_69 : decode k4 69 = .ok (.if_icmp .ge 23, 3) := by decide +kernel
theorem eEQ_92 : decode k4 92 = .ok (.iconst 1, 1) := by decide +kernel
theorem eEQ_93 : decode k4 93 = .ok (.ireturn, 1) := by decide +kernel
theorem m_eq00 (l : Launch) (Z : State) (a0 : Array Value) (hw : ∀ d ∈ tables_1, d.before a0 Z = true) (x y : Addr) (s t : Int32) (h : Heap) (Xx : Big Z h x s []) (Xy : Big Z h y t []) :
    MetW false l Z [] (⟨"java/math/BigInteger", "equals", "(Ljava/lang/Object;)Z"⟩ : MethodName) k4 7 (some .boolean) [] (rM 0 0 0 0) #[(.ref x), (.ref y)] [] h (fun v h' => v = some (.int (eqB s [] t []))) := by
  have Xx0 := Xx
  have Xy0 := Xy
  obtain ⟨arx, Ex, Sx, Gx, Bx, Ax⟩ := Xx
  have Ax : Av Z h arx .int [] := Ax
  obtain ⟨ary, Ey, Sy, Gy, By, Ay⟩ := Xy
  have Ay : Av Z h ary .int [] := Ay
  refine mO a0 #[.val (.ref x), .val (.ref y), .unset, .unset, .unset, .unset, .unset] (fun _ _ _ m_ _ _ _ hs0 C => ?_)
  refine g_aloadN C eEQ_0 rfl rfl <| g_aloadN C eEQ_1 rfl rfl ?_
  by_cases cc1 : y = x
  · refine g_acmpF C eEQ_2 rfl rfl (congrArg Value.ref cc1) ?_
    refine g_iconst 1 C eEQ_5 (by decide) ?_
    subst cc1
    obtain ⟨e1, e2⟩ := Big.one Xx0 Xy0
    have hq : eqB s [] t [] = 1 := by unfold eqB; rw [if_pos ⟨e1, e2⟩]
    exact g_retN C eEQ_6 (by simp) (by rw [hq]; rfl) (by decide) (by decide)
  · refine g_acmpT 7 C eEQ_2 rfl rfl (fun q => cc1 (by cases q; rfl)) (by decide) (by decide) ?_
    refine g_aloadN C eEQ_7 rfl rfl <| g_instY C eEQ_8 (hW hw 201 rfl) (Ins.self Ey) <| g_ifF C eEQ_11 (show ¬ (1 : Int32) = (0 : Int32) by decide) <| g_aloadN C eEQ_14 rfl rfl <| g_castY C eEQ_15 (hW hw 201 rfl) (Ins.self Ey) <| g_astoreN #[.val (.ref x), .val (.ref y), .val (.ref y), .unset, .unset, .unset, .unset] C eEQ_18 rfl rfl <| g_goto 24 C eEQ_19 (by decide) (by decide) <| g_aloadN C eEQ_24 rfl rfl <| gF C eEQ_25 (hW hw 34 rfl) Sy <| g_aloadN C eEQ_28 rfl rfl <| gF C eEQ_29 (hW hw 34 rfl) Sx ?_
    by_cases cc2 : t = s
    · refine g_icmpT 37 C eEQ_32 (show t = s from cc2) (by decide) (by decide) ?_
      refine g_aloadN C eEQ_37 rfl rfl <| gF C eEQ_38 (hW hw 131 rfl) Gx <| g_astoreN #[.val (.ref x), .val (.ref y), .val (.ref y), .val (.ref arx), .unset, .unset, .unset] C eEQ_41 rfl rfl <| g_aloadN C eEQ_42 rfl rfl <| g_alen C eEQ_43 Ax (z := (0 : Int32)) rfl <| g_istore #[.val (.ref x), .val (.ref y), .val (.ref y), .val (.ref arx), .val (.int 0), .unset, .unset] C eEQ_44 rfl <| g_aloadN C eEQ_46 rfl rfl <| gF C eEQ_47 (hW hw 131 rfl) Gy <| g_astore #[.val (.ref x), .val (.ref y), .val (.ref y), .val (.ref arx), .val (.int 0), .val (.ref ary), .unset] C eEQ_50 rfl rfl <| g_iload C eEQ_52 rfl <| g_aload C eEQ_54 rfl rfl ?_
      refine g_alen C eEQ_56 Ay (z := (0 : Int32)) rfl <| g_icmpT 62 C eEQ_57 (show (0 : Int32) = (0 : Int32) by decide) (by decide) (by decide) <| g_iconst 0 C eEQ_62 (by decide) <| g_istore #[.val (.ref x), .val (.ref y), .val (.ref y), .val (.ref arx), .val (.int 0), .val (.ref ary), .val (.int 0)] C eEQ_63 rfl <| g_iload C eEQ_65 rfl <| g_iload C eEQ_67 rfl <| g_icmpT 92 C eEQ_69 (show ¬ (0 : Int32) < (0 : Int32) by decide) (by decide) (by decide) <| g_iconst 1 C eEQ_92 (by decide) ?_
      have hq : eqB s [] t [] = (1 : Int32) := by simp [eqB, own_sym cc2]
      exact g_retN C eEQ_93 (by simp) (by rw [hq]; rfl) (by decide) (by decide)
    · refine g_icmpF C eEQ_32 (show ¬ t = s from cc2) ?_
      refine g_iconst 0 C eEQ_35 (by decide) ?_
      have hq : eqB s [] t [] = (0 : Int32) := by simp [eqB, own_nsym cc2]
      exact g_retN C eEQ_36 (by simp) (by rw [hq]; rfl) (by decide) (by decide)
theorem eEQ_60 : decode k4 60 = .ok (.iconst 0, 1) := by decide +kernel
theorem eEQ_61 : decode k4 61 = .ok (.ireturn, 1) := by decide +kernel
theorem m_eq01 (l : Launch) (Z : State) (a0 : Array Value) (hw : ∀ d ∈ tables_1, d.before a0 Z = true) (x y : Addr) (s t n0 : Int32) (h : Heap) (Xx : Big Z h x s []) (Xy : Big Z h y t [n0]) :
    MetW false l Z [] (⟨"java/math/BigInteger", "equals", "(Ljava/lang/Object;)Z"⟩ : MethodName) k4 7 (some .boolean) [] (rM 0 0 0 0) #[(.ref x), (.ref y)] [] h (fun v h' => v = some (.int (eqB s [] t [n0]))) := by
  have Xx0 := Xx
  have Xy0 := Xy
  obtain ⟨arx, Ex, Sx, Gx, Bx, Ax⟩ := Xx
  have Ax : Av Z h arx .int [] := Ax
  obtain ⟨ary, Ey, Sy, Gy, By, Ay⟩ := Xy
  have Ay : Av Z h ary .int [(.int n0)] := Ay
  refine mO a0 #[.val (.ref x), .val (.ref y), .unset, .unset, .unset, .unset, .unset] (fun _ _ _ m_ _ _ _ hs0 C => ?_)
  refine g_aloadN C eEQ_0 rfl rfl <| g_aloadN C eEQ_1 rfl rfl ?_
  by_cases cc1 : y = x
  · refine g_acmpF C eEQ_2 rfl rfl (congrArg Value.ref cc1) ?_
    refine g_iconst 1 C eEQ_5 (by decide) ?_
    subst cc1
    obtain ⟨e1, e2⟩ := Big.one Xx0 Xy0
    have hq : eqB s [] t [n0] = 1 := by unfold eqB; rw [if_pos ⟨e1, e2⟩]
    exact g_retN C eEQ_6 (by simp) (by rw [hq]; rfl) (by decide) (by decide)
  · refine g_acmpT 7 C eEQ_2 rfl rfl (fun q => cc1 (by cases q; rfl)) (by decide) (by decide) ?_
    refine g_aloadN C eEQ_7 rfl rfl <| g_instY C eEQ_8 (hW hw 201 rfl) (Ins.self Ey) <| g_ifF C eEQ_11 (show ¬ (1 : Int32) = (0 : Int32) by decide) <| g_aloadN C eEQ_14 rfl rfl <| g_castY C eEQ_15 (hW hw 201 rfl) (Ins.self Ey) <| g_astoreN #[.val (.ref x), .val (.ref y), .val (.ref y), .unset, .unset, .unset, .unset] C eEQ_18 rfl rfl <| g_goto 24 C eEQ_19 (by decide) (by decide) <| g_aloadN C eEQ_24 rfl rfl <| gF C eEQ_25 (hW hw 34 rfl) Sy <| g_aloadN C eEQ_28 rfl rfl <| gF C eEQ_29 (hW hw 34 rfl) Sx ?_
    by_cases cc2 : t = s
    · refine g_icmpT 37 C eEQ_32 (show t = s from cc2) (by decide) (by decide) ?_
      refine g_aloadN C eEQ_37 rfl rfl <| gF C eEQ_38 (hW hw 131 rfl) Gx <| g_astoreN #[.val (.ref x), .val (.ref y), .val (.ref y), .val (.ref arx), .unset, .unset, .unset] C eEQ_41 rfl rfl <| g_aloadN C eEQ_42 rfl rfl <| g_alen C eEQ_43 Ax (z := (0 : Int32)) rfl <| g_istore #[.val (.ref x), .val (.ref y), .val (.ref y), .val (.ref arx), .val (.int 0), .unset, .unset] C eEQ_44 rfl <| g_aloadN C eEQ_46 rfl rfl <| gF C eEQ_47 (hW hw 131 rfl) Gy <| g_astore #[.val (.ref x), .val (.ref y), .val (.ref y), .val (.ref arx), .val (.int 0), .val (.ref ary), .unset] C eEQ_50 rfl rfl <| g_iload C eEQ_52 rfl <| g_aload C eEQ_54 rfl rfl ?_
      refine g_alen C eEQ_56 Ay (z := (1 : Int32)) rfl <| g_icmpF C eEQ_57 (show ¬ (0 : Int32) = (1 : Int32) by decide) <| g_iconst 0 C eEQ_60 (by decide) ?_
      have hq : eqB s [] t [n0] = (0 : Int32) := by simp [eqB, own_sym cc2]
      exact g_retN C eEQ_61 (by simp) (by rw [hq]; rfl) (by decide) (by decide)
    · refine g_icmpF C eEQ_32 (show ¬ t = s from cc2) ?_
      refine g_iconst 0 C eEQ_35 (by decide) ?_
      have hq : eqB s [] t [n0] = (0 : Int32) := by simp [eqB, own_nsym cc2]
      exact g_retN C eEQ_36 (by simp) (by rw [hq]; rfl) (by decide) (by decide)
theorem m_eq02 (l : Launch) (Z : State) (a0 : Array Value) (hw : ∀ d ∈ tables_1, d.before a0 Z = true) (x y : Addr) (s t n0 n1 : Int32) (h : Heap) (Xx : Big Z h x s []) (Xy : Big Z h y t [n0, n1]) :
    MetW false l Z [] (⟨"java/math/BigInteger", "equals", "(Ljava/lang/Object;)Z"⟩ : MethodName) k4 7 (some .boolean) [] (rM 0 0 0 0) #[(.ref x), (.ref y)] [] h (fun v h' => v = some (.int (eqB s [] t [n0, n1]))) := by
  have Xx0 := Xx
  have Xy0 := Xy
  obtain ⟨arx, Ex, Sx, Gx, Bx, Ax⟩ := Xx
  have Ax : Av Z h arx .int [] := Ax
  obtain ⟨ary, Ey, Sy, Gy, By, Ay⟩ := Xy
  have Ay : Av Z h ary .int [(.int n0), (.int n1)] := Ay
  refine mO a0 #[.val (.ref x), .val (.ref y), .unset, .unset, .unset, .unset, .unset] (fun _ _ _ m_ _ _ _ hs0 C => ?_)
  refine g_aloadN C eEQ_0 rfl rfl <| g_aloadN C eEQ_1 rfl rfl ?_
  by_cases cc1 : y = x
  · refine g_acmpF C eEQ_2 rfl rfl (congrArg Value.ref cc1) ?_
    refine g_iconst 1 C eEQ_5 (by decide) ?_
    subst cc1
    obtain ⟨e1, e2⟩ := Big.one Xx0 Xy0
    have hq : eqB s [] t [n0, n1] = 1 := by unfold eqB; rw [if_pos ⟨e1, e2⟩]
    exact g_retN C eEQ_6 (by simp) (by rw [hq]; rfl) (by decide) (by decide)
  · refine g_acmpT 7 C eEQ_2 rfl rfl (fun q => cc1 (by cases q; rfl)) (by decide) (by decide) ?_
    refine g_aloadN C eEQ_7 rfl rfl <| g_instY C eEQ_8 (hW hw 201 rfl) (Ins.self Ey) <| g_ifF C eEQ_11 (show ¬ (1 : Int32) = (0 : Int32) by decide) <| g_aloadN C eEQ_14 rfl rfl <| g_castY C eEQ_15 (hW hw 201 rfl) (Ins.self Ey) <| g_astoreN #[.val (.ref x), .val (.ref y), .val (.ref y), .unset, .unset, .unset, .unset] C eEQ_18 rfl rfl <| g_goto 24 C eEQ_19 (by decide) (by decide) <| g_aloadN C eEQ_24 rfl rfl <| gF C eEQ_25 (hW hw 34 rfl) Sy <| g_aloadN C eEQ_28 rfl rfl <| gF C eEQ_29 (hW hw 34 rfl) Sx ?_
    by_cases cc2 : t = s
    · refine g_icmpT 37 C eEQ_32 (show t = s from cc2) (by decide) (by decide) ?_
      refine g_aloadN C eEQ_37 rfl rfl <| gF C eEQ_38 (hW hw 131 rfl) Gx <| g_astoreN #[.val (.ref x), .val (.ref y), .val (.ref y), .val (.ref arx), .unset, .unset, .unset] C eEQ_41 rfl rfl <| g_aloadN C eEQ_42 rfl rfl <| g_alen C eEQ_43 Ax (z := (0 : Int32)) rfl <| g_istore #[.val (.ref x), .val (.ref y), .val (.ref y), .val (.ref arx), .val (.int 0), .unset, .unset] C eEQ_44 rfl <| g_aloadN C eEQ_46 rfl rfl <| gF C eEQ_47 (hW hw 131 rfl) Gy <| g_astore #[.val (.ref x), .val (.ref y), .val (.ref y), .val (.ref arx), .val (.int 0), .val (.ref ary), .unset] C eEQ_50 rfl rfl <| g_iload C eEQ_52 rfl <| g_aload C eEQ_54 rfl rfl ?_
      refine g_alen C eEQ_56 Ay (z := (2 : Int32)) rfl <| g_icmpF C eEQ_57 (show ¬ (0 : Int32) = (2 : Int32) by decide) <| g_iconst 0 C eEQ_60 (by decide) ?_
      have hq : eqB s [] t [n0, n1] = (0 : Int32) := by simp [eqB, own_sym cc2]
      exact g_retN C eEQ_61 (by simp) (by rw [hq]; rfl) (by decide) (by decide)
    · refine g_icmpF C eEQ_32 (show ¬ t = s from cc2) ?_
      refine g_iconst 0 C eEQ_35 (by decide) ?_
      have hq : eqB s [] t [n0, n1] = (0 : Int32) := by simp [eqB, own_nsym cc2]
      exact g_retN C eEQ_36 (by simp) (by rw [hq]; rfl) (by decide) (by decide)
theorem m_eq10 (l : Launch) (Z : State) (a0 : Array Value) (hw : ∀ d ∈ tables_1, d.before a0 Z = true) (x y : Addr) (s t m0 : Int32) (h : Heap) (Xx : Big Z h x s [m0]) (Xy : Big Z h y t []) :
    MetW false l Z [] (⟨"java/math/BigInteger", "equals", "(Ljava/lang/Object;)Z"⟩ : MethodName) k4 7 (some .boolean) [] (rM 0 0 0 0) #[(.ref x), (.ref y)] [] h (fun v h' => v = some (.int (eqB s [m0] t []))) := by
  have Xx0 := Xx
  have Xy0 := Xy
  obtain ⟨arx, Ex, Sx, Gx, Bx, Ax⟩ := Xx
  have Ax : Av Z h arx .int [(.int m0)] := Ax
  obtain ⟨ary, Ey, Sy, Gy, By, Ay⟩ := Xy
  have Ay : Av Z h ary .int [] := Ay
  refine mO a0 #[.val (.ref x), .val (.ref y), .unset, .unset, .unset, .unset, .unset] (fun _ _ _ m_ _ _ _ hs0 C => ?_)
  refine g_aloadN C eEQ_0 rfl rfl <| g_aloadN C eEQ_1 rfl rfl ?_
  by_cases cc1 : y = x
  · refine g_acmpF C eEQ_2 rfl rfl (congrArg Value.ref cc1) ?_
    refine g_iconst 1 C eEQ_5 (by decide) ?_
    subst cc1
    obtain ⟨e1, e2⟩ := Big.one Xx0 Xy0
    have hq : eqB s [m0] t [] = 1 := by unfold eqB; rw [if_pos ⟨e1, e2⟩]
    exact g_retN C eEQ_6 (by simp) (by rw [hq]; rfl) (by decide) (by decide)
  · refine g_acmpT 7 C eEQ_2 rfl rfl (fun q => cc1 (by cases q; rfl)) (by decide) (by decide) ?_
    refine g_aloadN C eEQ_7 rfl rfl <| g_instY C eEQ_8 (hW hw 201 rfl) (Ins.self Ey) <| g_ifF C eEQ_11 (show ¬ (1 : Int32) = (0 : Int32) by decide) <| g_aloadN C eEQ_14 rfl rfl <| g_castY C eEQ_15 (hW hw 201 rfl) (Ins.self Ey) <| g_astoreN #[.val (.ref x), .val (.ref y), .val (.ref y), .unset, .unset, .unset, .unset] C eEQ_18 rfl rfl <| g_goto 24 C eEQ_19 (by decide) (by decide) <| g_aloadN C eEQ_24 rfl rfl <| gF C eEQ_25 (hW hw 34 rfl) Sy <| g_aloadN C eEQ_28 rfl rfl <| gF C eEQ_29 (hW hw 34 rfl) Sx ?_
    by_cases cc2 : t = s
    · refine g_icmpT 37 C eEQ_32 (show t = s from cc2) (by decide) (by decide) ?_
      refine g_aloadN C eEQ_37 rfl rfl <| gF C eEQ_38 (hW hw 131 rfl) Gx <| g_astoreN #[.val (.ref x), .val (.ref y), .val (.ref y), .val (.ref arx), .unset, .unset, .unset] C eEQ_41 rfl rfl <| g_aloadN C eEQ_42 rfl rfl <| g_alen C eEQ_43 Ax (z := (1 : Int32)) rfl <| g_istore #[.val (.ref x), .val (.ref y), .val (.ref y), .val (.ref arx), .val (.int 1), .unset, .unset] C eEQ_44 rfl <| g_aloadN C eEQ_46 rfl rfl <| gF C eEQ_47 (hW hw 131 rfl) Gy <| g_astore #[.val (.ref x), .val (.ref y), .val (.ref y), .val (.ref arx), .val (.int 1), .val (.ref ary), .unset] C eEQ_50 rfl rfl <| g_iload C eEQ_52 rfl <| g_aload C eEQ_54 rfl rfl ?_
      refine g_alen C eEQ_56 Ay (z := (0 : Int32)) rfl <| g_icmpF C eEQ_57 (show ¬ (1 : Int32) = (0 : Int32) by decide) <| g_iconst 0 C eEQ_60 (by decide) ?_
      have hq : eqB s [m0] t [] = (0 : Int32) := by simp [eqB, own_sym cc2]
      exact g_retN C eEQ_61 (by simp) (by rw [hq]; rfl) (by decide) (by decide)
    · refine g_icmpF C eEQ_32 (show ¬ t = s from cc2) ?_
      refine g_iconst 0 C eEQ_35 (by decide) ?_
      have hq : eqB s [m0] t [] = (0 : Int32) := by simp [eqB, own_nsym cc2]
      exact g_retN C eEQ_36 (by simp) (by rw [hq]; rfl) (by decide) (by decide)
theorem eEQ_72 : decode k4 72 = .ok (.aload 5, 2) := by decide +kernel
theorem eEQ_74 : decode k4 74 = .ok (.iload 6, 2) := by decide +kernel
theorem eEQ_76 : decode k4 76 = .ok (.iaload, 1) := by decide +kernel
theorem eEQ_77 : decode k4 77 = .ok (.aload_n 3, 1) := by decide +kernel
theorem eEQ_78 : decode k4 78 = .ok (.iload 6, 2) := by decide +kernel
theorem eEQ_80 : decode k4 80 = .ok (.iaload, 1) := by decide +kernel
theorem eEQ_81 : decode k4 81 = .ok (.if_icmp .eq 5, 3) := by decide +kernel
theorem eEQ_84 : decode k4 84 = .ok (.iconst 0, 1) := by decide +kernel
theorem eEQ_85 : decode k4 85 = .ok (.ireturn, 1) := by decide +kernel
theorem eEQ_86 : decode k4 86 = .ok (.iinc 6 1, 3) := by decide +kernel
theorem eEQ_89 : decode k4 89 = .ok (.goto (-24), 3) := by decide +kernel
theorem m_eq11 (l : Launch) (Z : State) (a0 : Array Value) (hw : ∀ d ∈ tables_1, d.before a0 Z = true) (x y : Addr) (s t m0 n0 : Int32) (h : Heap) (Xx : Big Z h x s [m0]) (Xy : Big Z h y t [n0]) :
    MetW false l Z [] (⟨"java/math/BigInteger", "equals", "(Ljava/lang/Object;)Z"⟩ : MethodName) k4 7 (some .boolean) [] (rM 0 0 0 0) #[(.ref x), (.ref y)] [] h (fun v h' => v = some (.int (eqB s [m0] t [n0]))) := by
  have Xx0 := Xx
  have Xy0 := Xy
  obtain ⟨arx, Ex, Sx, Gx, Bx, Ax⟩ := Xx
  have Ax : Av Z h arx .int [(.int m0)] := Ax
  obtain ⟨ary, Ey, Sy, Gy, By, Ay⟩ := Xy
  have Ay : Av Z h ary .int [(.int n0)] := Ay
  refine mO a0 #[.val (.ref x), .val (.ref y), .unset, .unset, .unset, .unset, .unset] (fun _ _ _ m_ _ _ _ hs0 C => ?_)
  refine g_aloadN C eEQ_0 rfl rfl <| g_aloadN C eEQ_1 rfl rfl ?_
  by_cases cc1 : y = x
  · refine g_acmpF C eEQ_2 rfl rfl (congrArg Value.ref cc1) ?_
    refine g_iconst 1 C eEQ_5 (by decide) ?_
    subst cc1
    obtain ⟨e1, e2⟩ := Big.one Xx0 Xy0
    have hq : eqB s [m0] t [n0] = 1 := by unfold eqB; rw [if_pos ⟨e1, e2⟩]
    exact g_retN C eEQ_6 (by simp) (by rw [hq]; rfl) (by decide) (by decide)
  · refine g_acmpT 7 C eEQ_2 rfl rfl (fun q => cc1 (by cases q; rfl)) (by decide) (by decide) ?_
    refine g_aloadN C eEQ_7 rfl rfl <| g_instY C eEQ_8 (hW hw 201 rfl) (Ins.self Ey) <| g_ifF C eEQ_11 (show ¬ (1 : Int32) = (0 : Int32) by decide) <| g_aloadN C eEQ_14 rfl rfl <| g_castY C eEQ_15 (hW hw 201 rfl) (Ins.self Ey) <| g_astoreN #[.val (.ref x), .val (.ref y), .val (.ref y), .unset, .unset, .unset, .unset] C eEQ_18 rfl rfl <| g_goto 24 C eEQ_19 (by decide) (by decide) <| g_aloadN C eEQ_24 rfl rfl <| gF C eEQ_25 (hW hw 34 rfl) Sy <| g_aloadN C eEQ_28 rfl rfl <| gF C eEQ_29 (hW hw 34 rfl) Sx ?_
    by_cases cc2 : t = s
    · refine g_icmpT 37 C eEQ_32 (show t = s from cc2) (by decide) (by decide) ?_
      refine g_aloadN C eEQ_37 rfl rfl <| gF C eEQ_38 (hW hw 131 rfl) Gx <| g_astoreN #[.val (.ref x), .val (.ref y), .val (.ref y), .val (.ref arx), .unset, .unset, .unset] C eEQ_41 rfl rfl <| g_aloadN C eEQ_42 rfl rfl <| g_alen C eEQ_43 Ax (z := (1 : Int32)) rfl <| g_istore #[.val (.ref x), .val (.ref y), .val (.ref y), .val (.ref arx), .val (.int 1), .unset, .unset] C eEQ_44 rfl <| g_aloadN C eEQ_46 rfl rfl <| gF C eEQ_47 (hW hw 131 rfl) Gy <| g_astore #[.val (.ref x), .val (.ref y), .val (.ref y), .val (.ref arx), .val (.int 1), .val (.ref ary), .unset] C eEQ_50 rfl rfl <| g_iload C eEQ_52 rfl <| g_aload C eEQ_54 rfl rfl ?_
      refine g_alen C eEQ_56 Ay (z := (1 : Int32)) rfl <| g_icmpT 62 C eEQ_57 (show (1 : Int32) = (1 : Int32) by decide) (by decide) (by decide) <| g_iconst 0 C eEQ_62 (by decide) <| g_istore #[.val (.ref x), .val (.ref y), .val (.ref y), .val (.ref arx), .val (.int 1), .val (.ref ary), .val (.int 0)] C eEQ_63 rfl <| g_iload C eEQ_65 rfl <| g_iload C eEQ_67 rfl <| g_icmpF C eEQ_69 (show (0 : Int32) < (1 : Int32) by decide) <| g_aload C eEQ_72 rfl rfl <| g_iload C eEQ_74 rfl <| g_iaload 0 C eEQ_76 Ay (by decide) (by decide) rfl <| g_aloadN C eEQ_77 rfl rfl ?_
      refine g_iload C eEQ_78 rfl <| g_iaload 0 C eEQ_80 Ax (by decide) (by decide) rfl ?_
      by_cases cc3 : n0 = m0
      · refine g_icmpT 86 C eEQ_81 (show n0 = m0 from cc3) (by decide) (by decide) ?_
        refine g_iinc (1 : Int32) #[.val (.ref x), .val (.ref y), .val (.ref y), .val (.ref arx), .val (.int 1), .val (.ref ary), .val (.int 1)] C eEQ_86 rfl (by decide) rfl <| g_goto 65 C eEQ_89 (by decide) (by decide) <| g_iload C eEQ_65 rfl <| g_iload C eEQ_67 rfl <| g_icmpT 92 C eEQ_69 (show ¬ (1 : Int32) < (1 : Int32) by decide) (by decide) (by decide) <| g_iconst 1 C eEQ_92 (by decide) ?_
        have hq : eqB s [m0] t [n0] = (1 : Int32) := by simp [eqB, own_sym cc2, own_sym cc3]
        exact g_retN C eEQ_93 (by simp) (by rw [hq]; rfl) (by decide) (by decide)
      · refine g_icmpF C eEQ_81 (show ¬ n0 = m0 from cc3) ?_
        refine g_iconst 0 C eEQ_84 (by decide) ?_
        have hq : eqB s [m0] t [n0] = (0 : Int32) := by simp [eqB, own_sym cc2, own_nsym cc3]
        exact g_retN C eEQ_85 (by simp) (by rw [hq]; rfl) (by decide) (by decide)
    · refine g_icmpF C eEQ_32 (show ¬ t = s from cc2) ?_
      refine g_iconst 0 C eEQ_35 (by decide) ?_
      have hq : eqB s [m0] t [n0] = (0 : Int32) := by simp [eqB, own_nsym cc2]
      exact g_retN C eEQ_36 (by simp) (by rw [hq]; rfl) (by decide) (by decide)
theorem m_eq12 (l : Launch) (Z : State) (a0 : Array Value) (hw : ∀ d ∈ tables_1, d.before a0 Z = true) (x y : Addr) (s t m0 n0 n1 : Int32) (h : Heap) (Xx : Big Z h x s [m0]) (Xy : Big Z h y t [n0, n1]) :
    MetW false l Z [] (⟨"java/math/BigInteger", "equals", "(Ljava/lang/Object;)Z"⟩ : MethodName) k4 7 (some .boolean) [] (rM 0 0 0 0) #[(.ref x), (.ref y)] [] h (fun v h' => v = some (.int (eqB s [m0] t [n0, n1]))) := by
  have Xx0 := Xx
  have Xy0 := Xy
  obtain ⟨arx, Ex, Sx, Gx, Bx, Ax⟩ := Xx
  have Ax : Av Z h arx .int [(.int m0)] := Ax
  obtain ⟨ary, Ey, Sy, Gy, By, Ay⟩ := Xy
  have Ay : Av Z h ary .int [(.int n0), (.int n1)] := Ay
  refine mO a0 #[.val (.ref x), .val (.ref y), .unset, .unset, .unset, .unset, .unset] (fun _ _ _ m_ _ _ _ hs0 C => ?_)
  refine g_aloadN C eEQ_0 rfl rfl <| g_aloadN C eEQ_1 rfl rfl ?_
  by_cases cc1 : y = x
  · refine g_acmpF C eEQ_2 rfl rfl (congrArg Value.ref cc1) ?_
    refine g_iconst 1 C eEQ_5 (by decide) ?_
    subst cc1
    obtain ⟨e1, e2⟩ := Big.one Xx0 Xy0
    have hq : eqB s [m0] t [n0, n1] = 1 := by unfold eqB; rw [if_pos ⟨e1, e2⟩]
    exact g_retN C eEQ_6 (by simp) (by rw [hq]; rfl) (by decide) (by decide)
  · refine g_acmpT 7 C eEQ_2 rfl rfl (fun q => cc1 (by cases q; rfl)) (by decide) (by decide) ?_
    refine g_aloadN C eEQ_7 rfl rfl <| g_instY C eEQ_8 (hW hw 201 rfl) (Ins.self Ey) <| g_ifF C eEQ_11 (show ¬ (1 : Int32) = (0 : Int32) by decide) <| g_aloadN C eEQ_14 rfl rfl <| g_castY C eEQ_15 (hW hw 201 rfl) (Ins.self Ey) <| g_astoreN #[.val (.ref x), .val (.ref y), .val (.ref y), .unset, .unset, .unset, .unset] C eEQ_18 rfl rfl <| g_goto 24 C eEQ_19 (by decide) (by decide) <| g_aloadN C eEQ_24 rfl rfl <| gF C eEQ_25 (hW hw 34 rfl) Sy <| g_aloadN C eEQ_28 rfl rfl <| gF C eEQ_29 (hW hw 34 rfl) Sx ?_
    by_cases cc2 : t = s
    · refine g_icmpT 37 C eEQ_32 (show t = s from cc2) (by decide) (by decide) ?_
      refine g_aloadN C eEQ_37 rfl rfl <| gF C eEQ_38 (hW hw 131 rfl) Gx <| g_astoreN #[.val (.ref x), .val (.ref y), .val (.ref y), .val (.ref arx), .unset, .unset, .unset] C eEQ_41 rfl rfl <| g_aloadN C eEQ_42 rfl rfl <| g_alen C eEQ_43 Ax (z := (1 : Int32)) rfl <| g_istore #[.val (.ref x), .val (.ref y), .val (.ref y), .val (.ref arx), .val (.int 1), .unset, .unset] C eEQ_44 rfl <| g_aloadN C eEQ_46 rfl rfl <| gF C eEQ_47 (hW hw 131 rfl) Gy <| g_astore #[.val (.ref x), .val (.ref y), .val (.ref y), .val (.ref arx), .val (.int 1), .val (.ref ary), .unset] C eEQ_50 rfl rfl <| g_iload C eEQ_52 rfl <| g_aload C eEQ_54 rfl rfl ?_
      refine g_alen C eEQ_56 Ay (z := (2 : Int32)) rfl <| g_icmpF C eEQ_57 (show ¬ (1 : Int32) = (2 : Int32) by decide) <| g_iconst 0 C eEQ_60 (by decide) ?_
      have hq : eqB s [m0] t [n0, n1] = (0 : Int32) := by simp [eqB, own_sym cc2]
      exact g_retN C eEQ_61 (by simp) (by rw [hq]; rfl) (by decide) (by decide)
    · refine g_icmpF C eEQ_32 (show ¬ t = s from cc2) ?_
      refine g_iconst 0 C eEQ_35 (by decide) ?_
      have hq : eqB s [m0] t [n0, n1] = (0 : Int32) := by simp [eqB, own_nsym cc2]
      exact g_retN C eEQ_36 (by simp) (by rw [hq]; rfl) (by decide) (by decide)
theorem m_eq20 (l : Launch) (Z : State) (a0 : Array Value) (hw : ∀ d ∈ tables_1, d.before a0 Z = true) (x y : Addr) (s t m0 m1 : Int32) (h : Heap) (Xx : Big Z h x s [m0, m1]) (Xy : Big Z h y t []) :
    MetW false l Z [] (⟨"java/math/BigInteger", "equals", "(Ljava/lang/Object;)Z"⟩ : MethodName) k4 7 (some .boolean) [] (rM 0 0 0 0) #[(.ref x), (.ref y)] [] h (fun v h' => v = some (.int (eqB s [m0, m1] t []))) := by
  have Xx0 := Xx
  have Xy0 := Xy
  obtain ⟨arx, Ex, Sx, Gx, Bx, Ax⟩ := Xx
  have Ax : Av Z h arx .int [(.int m0), (.int m1)] := Ax
  obtain ⟨ary, Ey, Sy, Gy, By, Ay⟩ := Xy
  have Ay : Av Z h ary .int [] := Ay
  refine mO a0 #[.val (.ref x), .val (.ref y), .unset, .unset, .unset, .unset, .unset] (fun _ _ _ m_ _ _ _ hs0 C => ?_)
  refine g_aloadN C eEQ_0 rfl rfl <| g_aloadN C eEQ_1 rfl rfl ?_
  by_cases cc1 : y = x
  · refine g_acmpF C eEQ_2 rfl rfl (congrArg Value.ref cc1) ?_
    refine g_iconst 1 C eEQ_5 (by decide) ?_
    subst cc1
    obtain ⟨e1, e2⟩ := Big.one Xx0 Xy0
    have hq : eqB s [m0, m1] t [] = 1 := by unfold eqB; rw [if_pos ⟨e1, e2⟩]
    exact g_retN C eEQ_6 (by simp) (by rw [hq]; rfl) (by decide) (by decide)
  · refine g_acmpT 7 C eEQ_2 rfl rfl (fun q => cc1 (by cases q; rfl)) (by decide) (by decide) ?_
    refine g_aloadN C eEQ_7 rfl rfl <| g_instY C eEQ_8 (hW hw 201 rfl) (Ins.self Ey) <| g_ifF C eEQ_11 (show ¬ (1 : Int32) = (0 : Int32) by decide) <| g_aloadN C eEQ_14 rfl rfl <| g_castY C eEQ_15 (hW hw 201 rfl) (Ins.self Ey) <| g_astoreN #[.val (.ref x), .val (.ref y), .val (.ref y), .unset, .unset, .unset, .unset] C eEQ_18 rfl rfl <| g_goto 24 C eEQ_19 (by decide) (by decide) <| g_aloadN C eEQ_24 rfl rfl <| gF C eEQ_25 (hW hw 34 rfl) Sy <| g_aloadN C eEQ_28 rfl rfl <| gF C eEQ_29 (hW hw 34 rfl) Sx ?_
    by_cases cc2 : t = s
    · refine g_icmpT 37 C eEQ_32 (show t = s from cc2) (by decide) (by decide) ?_
      refine g_aloadN C eEQ_37 rfl rfl <| gF C eEQ_38 (hW hw 131 rfl) Gx <| g_astoreN #[.val (.ref x), .val (.ref y), .val (.ref y), .val (.ref arx), .unset, .unset, .unset] C eEQ_41 rfl rfl <| g_aloadN C eEQ_42 rfl rfl <| g_alen C eEQ_43 Ax (z := (2 : Int32)) rfl <| g_istore #[.val (.ref x), .val (.ref y), .val (.ref y), .val (.ref arx), .val (.int 2), .unset, .unset] C eEQ_44 rfl <| g_aloadN C eEQ_46 rfl rfl <| gF C eEQ_47 (hW hw 131 rfl) Gy <| g_astore #[.val (.ref x), .val (.ref y), .val (.ref y), .val (.ref arx), .val (.int 2), .val (.ref ary), .unset] C eEQ_50 rfl rfl <| g_iload C eEQ_52 rfl <| g_aload C eEQ_54 rfl rfl ?_
      refine g_alen C eEQ_56 Ay (z := (0 : Int32)) rfl <| g_icmpF C eEQ_57 (show ¬ (2 : Int32) = (0 : Int32) by decide) <| g_iconst 0 C eEQ_60 (by decide) ?_
      have hq : eqB s [m0, m1] t [] = (0 : Int32) := by simp [eqB, own_sym cc2]
      exact g_retN C eEQ_61 (by simp) (by rw [hq]; rfl) (by decide) (by decide)
    · refine g_icmpF C eEQ_32 (show ¬ t = s from cc2) ?_
      refine g_iconst 0 C eEQ_35 (by decide) ?_
      have hq : eqB s [m0, m1] t [] = (0 : Int32) := by simp [eqB, own_nsym cc2]
      exact g_retN C eEQ_36 (by simp) (by rw [hq]; rfl) (by decide) (by decide)
theorem m_eq21 (l : Launch) (Z : State) (a0 : Array Value) (hw : ∀ d ∈ tables_1, d.before a0 Z = true) (x y : Addr) (s t m0 m1 n0 : Int32) (h : Heap) (Xx : Big Z h x s [m0, m1]) (Xy : Big Z h y t [n0]) :
    MetW false l Z [] (⟨"java/math/BigInteger", "equals", "(Ljava/lang/Object;)Z"⟩ : MethodName) k4 7 (some .boolean) [] (rM 0 0 0 0) #[(.ref x), (.ref y)] [] h (fun v h' => v = some (.int (eqB s [m0, m1] t [n0]))) := by
  have Xx0 := Xx
  have Xy0 := Xy
  obtain ⟨arx, Ex, Sx, Gx, Bx, Ax⟩ := Xx
  have Ax : Av Z h arx .int [(.int m0), (.int m1)] := Ax
  obtain ⟨ary, Ey, Sy, Gy, By, Ay⟩ := Xy
  have Ay : Av Z h ary .int [(.int n0)] := Ay
  refine mO a0 #[.val (.ref x), .val (.ref y), .unset, .unset, .unset, .unset, .unset] (fun _ _ _ m_ _ _ _ hs0 C => ?_)
  refine g_aloadN C eEQ_0 rfl rfl <| g_aloadN C eEQ_1 rfl rfl ?_
  by_cases cc1 : y = x
  · refine g_acmpF C eEQ_2 rfl rfl (congrArg Value.ref cc1) ?_
    refine g_iconst 1 C eEQ_5 (by decide) ?_
    subst cc1
    obtain ⟨e1, e2⟩ := Big.one Xx0 Xy0
    have hq : eqB s [m0, m1] t [n0] = 1 := by unfold eqB; rw [if_pos ⟨e1, e2⟩]
    exact g_retN C eEQ_6 (by simp) (by rw [hq]; rfl) (by decide) (by decide)
  · refine g_acmpT 7 C eEQ_2 rfl rfl (fun q => cc1 (by cases q; rfl)) (by decide) (by decide) ?_
    refine g_aloadN C eEQ_7 rfl rfl <| g_instY C eEQ_8 (hW hw 201 rfl) (Ins.self Ey) <| g_ifF C eEQ_11 (show ¬ (1 : Int32) = (0 : Int32) by decide) <| g_aloadN C eEQ_14 rfl rfl <| g_castY C eEQ_15 (hW hw 201 rfl) (Ins.self Ey) <| g_astoreN #[.val (.ref x), .val (.ref y), .val (.ref y), .unset, .unset, .unset, .unset] C eEQ_18 rfl rfl <| g_goto 24 C eEQ_19 (by decide) (by decide) <| g_aloadN C eEQ_24 rfl rfl <| gF C eEQ_25 (hW hw 34 rfl) Sy <| g_aloadN C eEQ_28 rfl rfl <| gF C eEQ_29 (hW hw 34 rfl) Sx ?_
    by_cases cc2 : t = s
    · refine g_icmpT 37 C eEQ_32 (show t = s from cc2) (by decide) (by decide) ?_
      refine g_aloadN C eEQ_37 rfl rfl <| gF C eEQ_38 (hW hw 131 rfl) Gx <| g_astoreN #[.val (.ref x), .val (.ref y), .val (.ref y), .val (.ref arx), .unset, .unset, .unset] C eEQ_41 rfl rfl <| g_aloadN C eEQ_42 rfl rfl <| g_alen C eEQ_43 Ax (z := (2 : Int32)) rfl <| g_istore #[.val (.ref x), .val (.ref y), .val (.ref y), .val (.ref arx), .val (.int 2), .unset, .unset] C eEQ_44 rfl <| g_aloadN C eEQ_46 rfl rfl <| gF C eEQ_47 (hW hw 131 rfl) Gy <| g_astore #[.val (.ref x), .val (.ref y), .val (.ref y), .val (.ref arx), .val (.int 2), .val (.ref ary), .unset] C eEQ_50 rfl rfl <| g_iload C eEQ_52 rfl <| g_aload C eEQ_54 rfl rfl ?_
      refine g_alen C eEQ_56 Ay (z := (1 : Int32)) rfl <| g_icmpF C eEQ_57 (show ¬ (2 : Int32) = (1 : Int32) by decide) <| g_iconst 0 C eEQ_60 (by decide) ?_
      have hq : eqB s [m0, m1] t [n0] = (0 : Int32) := by simp [eqB, own_sym cc2]
      exact g_retN C eEQ_61 (by simp) (by rw [hq]; rfl) (by decide) (by decide)
    · refine g_icmpF C eEQ_32 (show ¬ t = s from cc2) ?_
      refine g_iconst 0 C eEQ_35 (by decide) ?_
      have hq : eqB s [m0, m1] t [n0] = (0 : Int32) := by simp [eqB, own_nsym cc2]
      exact g_retN C eEQ_36 (by simp) (by rw [hq]; rfl) (by decide) (by decide)
theorem m_eq22 (l : Launch) (Z : State) (a0 : Array Value) (hw : ∀ d ∈ tables_1, d.before a0 Z = true) (x y : Addr) (s t m0 m1 n0 n1 : Int32) (h : Heap) (Xx : Big Z h x s [m0, m1]) (Xy : Big Z h y t [n0, n1]) :
    MetW false l Z [] (⟨"java/math/BigInteger", "equals", "(Ljava/lang/Object;)Z"⟩ : MethodName) k4 7 (some .boolean) [] (rM 0 0 0 0) #[(.ref x), (.ref y)] [] h (fun v h' => v = some (.int (eqB s [m0, m1] t [n0, n1]))) := by
  have Xx0 := Xx
  have Xy0 := Xy
  obtain ⟨arx, Ex, Sx, Gx, Bx, Ax⟩ := Xx
  have Ax : Av Z h arx .int [(.int m0), (.int m1)] := Ax
  obtain ⟨ary, Ey, Sy, Gy, By, Ay⟩ := Xy
  have Ay : Av Z h ary .int [(.int n0), (.int n1)] := Ay
  refine mO a0 #[.val (.ref x), .val (.ref y), .unset, .unset, .unset, .unset, .unset] (fun _ _ _ m_ _ _ _ hs0 C => ?_)
  refine g_aloadN C eEQ_0 rfl rfl <| g_aloadN C eEQ_1 rfl rfl ?_
  by_cases cc1 : y = x
  · refine g_acmpF C eEQ_2 rfl rfl (congrArg Value.ref cc1) ?_
    refine g_iconst 1 C eEQ_5 (by decide) ?_
    subst cc1
    obtain ⟨e1, e2⟩ := Big.one Xx0 Xy0
    have hq : eqB s [m0, m1] t [n0, n1] = 1 := by unfold eqB; rw [if_pos ⟨e1, e2⟩]
    exact g_retN C eEQ_6 (by simp) (by rw [hq]; rfl) (by decide) (by decide)
  · refine g_acmpT 7 C eEQ_2 rfl rfl (fun q => cc1 (by cases q; rfl)) (by decide) (by decide) ?_
    refine g_aloadN C eEQ_7 rfl rfl <| g_instY C eEQ_8 (hW hw 201 rfl) (Ins.self Ey) <| g_ifF C eEQ_11 (show ¬ (1 : Int32) = (0 : Int32) by decide) <| g_aloadN C eEQ_14 rfl rfl <| g_castY C eEQ_15 (hW hw 201 rfl) (Ins.self Ey) <| g_astoreN #[.val (.ref x), .val (.ref y), .val (.ref y), .unset, .unset, .unset, .unset] C eEQ_18 rfl rfl <| g_goto 24 C eEQ_19 (by decide) (by decide) <| g_aloadN C eEQ_24 rfl rfl <| gF C eEQ_25 (hW hw 34 rfl) Sy <| g_aloadN C eEQ_28 rfl rfl <| gF C eEQ_29 (hW hw 34 rfl) Sx ?_
    by_cases cc2 : t = s
    · refine g_icmpT 37 C eEQ_32 (show t = s from cc2) (by decide) (by decide) ?_
      refine g_aloadN C eEQ_37 rfl rfl <| gF C eEQ_38 (hW hw 131 rfl) Gx <| g_astoreN #[.val (.ref x), .val (.ref y), .val (.ref y), .val (.ref arx), .unset, .unset, .unset] C eEQ_41 rfl rfl <| g_aloadN C eEQ_42 rfl rfl <| g_alen C eEQ_43 Ax (z := (2 : Int32)) rfl <| g_istore #[.val (.ref x), .val (.ref y), .val (.ref y), .val (.ref arx), .val (.int 2), .unset, .unset] C eEQ_44 rfl <| g_aloadN C eEQ_46 rfl rfl <| gF C eEQ_47 (hW hw 131 rfl) Gy <| g_astore #[.val (.ref x), .val (.ref y), .val (.ref y), .val (.ref arx), .val (.int 2), .val (.ref ary), .unset] C eEQ_50 rfl rfl <| g_iload C eEQ_52 rfl <| g_aload C eEQ_54 rfl rfl ?_
      refine g_alen C eEQ_56 Ay (z := (2 : Int32)) rfl <| g_icmpT 62 C eEQ_57 (show (2 : Int32) = (2 : Int32) by decide) (by decide) (by decide) <| g_iconst 0 C eEQ_62 (by decide) <| g_istore #[.val (.ref x), .val (.ref y), .val (.ref y), .val (.ref arx), .val (.int 2), .val (.ref ary), .val (.int 0)] C eEQ_63 rfl <| g_iload C eEQ_65 rfl <| g_iload C eEQ_67 rfl <| g_icmpF C eEQ_69 (show (0 : Int32) < (2 : Int32) by decide) <| g_aload C eEQ_72 rfl rfl <| g_iload C eEQ_74 rfl <| g_iaload 0 C eEQ_76 Ay (by decide) (by decide) rfl <| g_aloadN C eEQ_77 rfl rfl ?_
      refine g_iload C eEQ_78 rfl <| g_iaload 0 C eEQ_80 Ax (by decide) (by decide) rfl ?_
      by_cases cc3 : n0 = m0
      · refine g_icmpT 86 C eEQ_81 (show n0 = m0 from cc3) (by decide) (by decide) ?_
        refine g_iinc (1 : Int32) #[.val (.ref x), .val (.ref y), .val (.ref y), .val (.ref arx), .val (.int 2), .val (.ref ary), .val (.int 1)] C eEQ_86 rfl (by decide) rfl <| g_goto 65 C eEQ_89 (by decide) (by decide) <| g_iload C eEQ_65 rfl <| g_iload C eEQ_67 rfl <| g_icmpF C eEQ_69 (show (1 : Int32) < (2 : Int32) by decide) <| g_aload C eEQ_72 rfl rfl <| g_iload C eEQ_74 rfl <| g_iaload 1 C eEQ_76 Ay (by decide) (by decide) rfl <| g_aloadN C eEQ_77 rfl rfl <| g_iload C eEQ_78 rfl <| g_iaload 1 C eEQ_80 Ax (by decide) (by decide) rfl ?_
        by_cases cc4 : n1 = m1
        · refine g_icmpT 86 C eEQ_81 (show n1 = m1 from cc4) (by decide) (by decide) ?_
          refine g_iinc (2 : Int32) #[.val (.ref x), .val (.ref y), .val (.ref y), .val (.ref arx), .val (.int 2), .val (.ref ary), .val (.int 2)] C eEQ_86 rfl (by decide) rfl <| g_goto 65 C eEQ_89 (by decide) (by decide) <| g_iload C eEQ_65 rfl <| g_iload C eEQ_67 rfl <| g_icmpT 92 C eEQ_69 (show ¬ (2 : Int32) < (2 : Int32) by decide) (by decide) (by decide) <| g_iconst 1 C eEQ_92 (by decide) ?_
          have hq : eqB s [m0, m1] t [n0, n1] = (1 : Int32) := by simp [eqB, own_sym cc2, own_sym cc3, own_sym cc4]
          exact g_retN C eEQ_93 (by simp) (by rw [hq]; rfl) (by decide) (by decide)
        · refine g_icmpF C eEQ_81 (show ¬ n1 = m1 from cc4) ?_
          refine g_iconst 0 C eEQ_84 (by decide) ?_
          have hq : eqB s [m0, m1] t [n0, n1] = (0 : Int32) := by simp [eqB, own_sym cc2, own_sym cc3, own_nsym cc4]
          exact g_retN C eEQ_85 (by simp) (by rw [hq]; rfl) (by decide) (by decide)
      · refine g_icmpF C eEQ_81 (show ¬ n0 = m0 from cc3) ?_
        refine g_iconst 0 C eEQ_84 (by decide) ?_
        have hq : eqB s [m0, m1] t [n0, n1] = (0 : Int32) := by simp [eqB, own_sym cc2, own_nsym cc3]
        exact g_retN C eEQ_85 (by simp) (by rw [hq]; rfl) (by decide) (by decide)
    · refine g_icmpF C eEQ_32 (show ¬ t = s from cc2) ?_
      refine g_iconst 0 C eEQ_35 (by decide) ?_
      have hq : eqB s [m0, m1] t [n0, n1] = (0 : Int32) := by simp [eqB, own_nsym cc2]
      exact g_retN C eEQ_36 (by simp) (by rw [hq]; rfl) (by decide) (by decide)
theorem m_eq (l : Launch) (Z : State) (a0 : Array Value) (hw : ∀ d ∈ tables_1, d.before a0 Z = true) (x y : Addr) (s t : Int32) (ms ns : List Int32) (h : Heap) (hc : Canon s ms) (hd : Canon t ns) (Xx : Big Z h x s ms) (Xy : Big Z h y t ns) :
    MetW false l Z [] (⟨"java/math/BigInteger", "equals", "(Ljava/lang/Object;)Z"⟩ : MethodName) k4 7 (some .boolean) [] (rM 0 0 0 0) #[(.ref x), (.ref y)] [] h (fun v h' => v = some (.int (eqB s ms t ns))) := by
  rcases hc with ⟨-, rfl⟩ | ⟨-, ⟨m, hm, rfl⟩ | ⟨p, q, hp, rfl⟩⟩
  · rcases hd with ⟨-, rfl⟩ | ⟨-, ⟨m', hm', rfl⟩ | ⟨p', q', hp', rfl⟩⟩
    · exact m_eq00 l Z a0 hw x y s t   h Xx Xy
    · exact m_eq01 l Z a0 hw x y s t  m' h Xx Xy
    · exact m_eq02 l Z a0 hw x y s t  p' q' h Xx Xy
  · rcases hd with ⟨-, rfl⟩ | ⟨-, ⟨m', hm', rfl⟩ | ⟨p', q', hp', rfl⟩⟩
    · exact m_eq10 l Z a0 hw x y s t m  h Xx Xy
    · exact m_eq11 l Z a0 hw x y s t m m' h Xx Xy
    · exact m_eq12 l Z a0 hw x y s t m p' q' h Xx Xy
  · rcases hd with ⟨-, rfl⟩ | ⟨-, ⟨m', hm', rfl⟩ | ⟨p', q', hp', rfl⟩⟩
    · exact m_eq20 l Z a0 hw x y s t p q  h Xx Xy
    · exact m_eq21 l Z a0 hw x y s t p q m' h Xx Xy
    · exact m_eq22 l Z a0 hw x y s t p q p' q' h Xx Xy
theorem eRI_0 : decode k45 0 = .ok (.aload_n 0, 1) := by decide +kernel
theorem eRI_1 : decode k45 1 = .ok (.invokespecial 1, 3) := by decide +kernel
theorem eRI_4 : decode k45 4 = .ok (.aload_n 0, 1) := by decide +kernel
theorem eRI_5 : decode k45 5 = .ok (.aload_n 1, 1) := by decide +kernel
theorem eRI_6 : decode k45 6 = .ok (.putfield 7, 3) := by decide +kernel
theorem eRI_9 : decode k45 9 = .ok (.aload_n 0, 1) := by decide +kernel
theorem eRI_10 : decode k45 10 = .ok (.aload_n 2, 1) := by decide +kernel
theorem eRI_11 : decode k45 11 = .ok (.putfield 13, 3) := by decide +kernel
theorem eRI_14 : decode k45 14 = .ok (.return_, 1) := by decide +kernel
theorem m_ri (l : Launch) (Z : State) (a0 : Array Value) (hw : ∀ d ∈ tables_1, d.before a0 Z = true) (a n d : Addr) (h : Heap) (E : Exa Z h a "com/example/envelope/envelope/curves/Rational") (F0 : Fld Z h a "com/example/envelope/envelope/curves/Rational" "numerator" "Ljava/math/BigInteger;" .null) (F1 : Fld Z h a "com/example/envelope/envelope/curves/Rational" "denominator" "Ljava/math/BigInteger;" .null) :
    MetW false l Z [] (⟨"com/example/envelope/envelope/curves/Rational", "<init>", "(Ljava/math/BigInteger;Ljava/math/BigInteger;)V"⟩ : MethodName) k45 3 none [] (rM 1 0 0 12) #[(.ref a), (.ref n), (.ref d)] [a] h (fun v h' => v = none ∧ Exa Z h' a "com/example/envelope/envelope/curves/Rational" ∧ Fld Z h' a "com/example/envelope/envelope/curves/Rational" "numerator" "Ljava/math/BigInteger;" (.ref n) ∧ Fld Z h' a "com/example/envelope/envelope/curves/Rational" "denominator" "Ljava/math/BigInteger;" (.ref d)) := by
  refine mO a0 #[.val (.ref a), .val (.ref n), .val (.ref d)] (fun _ _ _ m_ _ _ _ hs0 C => ?_)
  refine g_aloadN C eRI_0 rfl rfl <| g_objInit C eRI_1 (hW hw 16 rfl) (hW hw 17 rfl) (hW hw 18 rfl) rfl (by decide) (bL rfl) <| g_aloadN C eRI_4 rfl rfl <| g_aloadN C eRI_5 rfl rfl ?_
  refine g_putfield (host := "") C eRI_6 (Or.inl (hW hw 19 rfl)) Via.refl F0 E (Or.inr ⟨(hW hw 20 rfl), rfl, rfl⟩) (hW hw 5 rfl) (ty := (.object "java/math/BigInteger")) (by decide) rfl rfl (mm 0 rfl) (fun h1 W2 K3 => ?_)
  have f4 := Fld.same W2 F0
  have f5 := Fld.other W2 F1 (Or.inr (s22_20 hw))
  refine g_aloadN C eRI_9 rfl rfl <| g_aloadN C eRI_10 rfl rfl ?_
  have f6 := (E.keep K3)
  refine g_putfield (host := "") C eRI_11 (Or.inl (hW hw 21 rfl)) Via.refl f5 f6 (Or.inr ⟨(hW hw 22 rfl), rfl, rfl⟩) (hW hw 5 rfl) (ty := (.object "java/math/BigInteger")) (by decide) rfl rfl (mm 0 rfl) (fun h7 W8 K9 => ?_)
  have f10 := Fld.same W8 f5
  have f11 := Fld.other W8 f4 (Or.inr (s20_22 hw))
  have f12 := (f6.keep K9)
  exact g_retU C eRI_14 ⟨rfl, f12, f11, f10⟩ (by decide) (by decide)
theorem eO1_0 : decode k46 0 = .ok (.new 8, 3) := by decide +kernel
theorem eO1_3 : decode k46 3 = .ok (.dup, 1) := by decide +kernel
theorem eO1_4 : decode k46 4 = .ok (.lload_n 0, 1) := by decide +kernel
theorem eO1_5 : decode k46 5 = .ok (.invokestatic 16, 3) := by decide +kernel
theorem eO1_8 : decode k46 8 = .ok (.getstatic 22, 3) := by decide +kernel
theorem eO1_11 : decode k46 11 = .ok (.invokespecial 25, 3) := by decide +kernel
theorem eO1_14 : decode k46 14 = .ok (.areturn, 1) := by decide +kernel
theorem m_of1 (l : Launch) (Z : State) (a0 : Array Value) (hw : ∀ d ∈ tables_1, d.before a0 Z = true) (v : Int64) (h : Heap) {ps ns one zero : Addr} (ST : Start Z ps ns one zero) :
    MetW false l Z [] (⟨"com/example/envelope/envelope/curves/Rational", "of", "(J)Lcom/example/envelope/envelope/curves/Rational;"⟩ : MethodName) k46 2 (some (.object "com/example/envelope/envelope/curves/Rational")) [] (rM 4 3 10 55) #[(.long v)] [] h (fun v_ h' => ∃ r n : Addr, v_ = some (.ref r) ∧ Exa Z h' r "com/example/envelope/envelope/curves/Rational" ∧ Fld Z h' r "com/example/envelope/envelope/curves/Rational" "numerator" "Ljava/math/BigInteger;" (.ref n) ∧ Fld Z h' r "com/example/envelope/envelope/curves/Rational" "denominator" "Ljava/math/BigInteger;" (.ref one) ∧ Big Z h' n (sg v) (mg v)) := by
  refine mO a0 #[.val (.long v), .second] (fun _ _ _ m_ _ _ _ hs0 C => ?_)
  refine Go.know (fun hX hK _ => ?_)
  refine g_new_ C eO1_0 (hW hw 4 rfl) (hW hw 5 rfl) (hW hw 2 rfl) (by decide) (by decide) (fun a1 h2 e3 E4 l5 f6 D7 => ?_)
  have K8 := keep_ext E4
  have f9 : Fld Z h2 a1 "com/example/envelope/envelope/curves/Rational" "numerator" "Ljava/math/BigInteger;" .null := D7 (Or.inr (hW hw 20 rfl)) (ty := (.object "java/math/BigInteger")) (by decide)
  have f10 : Fld Z h2 a1 "com/example/envelope/envelope/curves/Rational" "denominator" "Ljava/math/BigInteger;" .null := D7 (Or.inr (hW hw 22 rfl)) (ty := (.object "java/math/BigInteger")) (by decide)
  refine g_dup C eO1_3 rfl <| g_lloadN C eO1_4 rfl ?_
  refine g_invokestatic [(.long v)] [(.ref a1), (.ref a1)] 2 C eO1_5 (hW hw 6 rfl) (hW hw 7 rfl) (hW hw 8 rfl) (hW hw 9 rfl) (by decide) (m_valueOf l Z a0 hw v _ ST) (lenOf pd21 rfl) rfl rfl (bL rfl) (by decide) (by decide) (by decide) (by decide) all0 (fun v18 h19 L20 q21 K22 => ?_)
  obtain ⟨z11, rfl, b12, f13, f14, f15, f16, f17⟩ := q21
  refine gA (mkF m_ 8 #[.val (.long v), .second] [(.ref z11), (.ref a1), (.ref a1)]) <| g_getstatic (host := "") C eO1_8 (Or.inl (hW hw 12 rfl)) Via.refl ST.2.2.2.2.1 ?_
  have f26 := (f6.keep K22)
  have f27 := (f9.keep K22 nin0)
  have f28 := (f10.keep K22 nin0)
  refine g_invokespecial [(.ref z11), (.ref one)] [(.ref a1)] 1 C eO1_11 rfl (hW hw 13 rfl) (hW hw 14 rfl) (hW hw 2 rfl) (hW hw 15 rfl) (by decide) (m_ri l Z a0 hw _ _ _ _ f26 f27 f28) (lenOf pd22 rfl) rfl rfl (bL rfl) (by decide) (by decide) (by decide) (by decide) (allS (mm 0 rfl) all0) (fun v29 h30 L31 q32 K33 => ?_)
  obtain ⟨rfl, f23, f24, f25⟩ := q32
  refine gA (mkF m_ 14 #[.val (.long v), .second] [(.ref a1)]) ?_
  have f34 := (f13.keep K33)
  have f35 := (f14.keep K33 (ninS (ne_exa f34 f23 (by decide)) nin0))
  have f36 := (f15.keep K33 (ninS (ne_exa f34 f23 (by decide)) nin0))
  have f37 := (f16.keep K33)
  have f38 := (f17.keep K33 (ninS (ne_exa f37 f23 (by decide)) nin0))
  exact g_retA C eO1_14 rfl rfl ⟨a1, z11, rfl, f23, f24, f25, ⟨b12, f34, f35, f36, f37, f38⟩⟩ (by decide) (by decide)
theorem eO3_0 : decode k48 0 = .ok (.aload_n 1, 1) := by decide +kernel
theorem eO3_1 : decode k48 1 = .ok (.invokevirtual 32, 3) := by decide +kernel
theorem eO3_4 : decode k48 4 = .ok (.ifCond .ne 20, 3) := by decide +kernel
theorem eO3_24 : decode k48 24 = .ok (.aload_n 0, 1) := by decide +kernel
theorem eO3_25 : decode k48 25 = .ok (.aload_n 1, 1) := by decide +kernel
theorem eO3_26 : decode k48 26 = .ok (.invokevirtual 50, 3) := by decide +kernel
theorem eO3_29 : decode k48 29 = .ok (.astore_n 2, 1) := by decide +kernel
theorem eO3_30 : decode k48 30 = .ok (.aload_n 1, 1) := by decide +kernel
theorem eO3_31 : decode k48 31 = .ok (.invokevirtual 32, 3) := by decide +kernel
theorem eO3_34 : decode k48 34 = .ok (.ifCond .ge 8, 3) := by decide +kernel
theorem eO3_42 : decode k48 42 = .ok (.new 8, 3) := by decide +kernel
theorem eO3_45 : decode k48 45 = .ok (.dup, 1) := by decide +kernel
theorem eO3_46 : decode k48 46 = .ok (.aload_n 0, 1) := by decide +kernel
theorem eO3_47 : decode k48 47 = .ok (.aload_n 2, 1) := by decide +kernel
theorem eO3_48 : decode k48 48 = .ok (.invokevirtual 58, 3) := by decide +kernel
theorem eO3_51 : decode k48 51 = .ok (.aload_n 1, 1) := by decide +kernel
theorem eO3_52 : decode k48 52 = .ok (.aload_n 2, 1) := by decide +kernel
theorem eO3_53 : decode k48 53 = .ok (.invokevirtual 58, 3) := by decide +kernel
theorem eO3_56 : decode k48 56 = .ok (.invokespecial 25, 3) := by decide +kernel
theorem eO3_59 : decode k48 59 = .ok (.areturn, 1) := by decide +kernel
theorem m_of3 (l : Launch) (Z : State) (a0 : Array Value) (hw : ∀ d ∈ tables_1, d.before a0 Z = true) (x y : Addr) (s : Int32) (ms : List Int32) (h : Heap) (hc : Canon s ms) (Xx : Big Z h x s ms) (Xy : Big Z h y 1 [1]) {ps ns one zero : Addr} (ST : Start Z ps ns one zero) :
    MetW false l Z [] (⟨"com/example/envelope/envelope/curves/Rational", "of", "(Ljava/math/BigInteger;Ljava/math/BigInteger;)Lcom/example/envelope/envelope/curves/Rational;"⟩ : MethodName) k48 3 (some (.object "com/example/envelope/envelope/curves/Rational")) [] (rM 6 22 61 98) #[(.ref x), (.ref y)] [] h (fun v_ h' => ∃ r n d : Addr, v_ = some (.ref r) ∧ Exa Z h' r "com/example/envelope/envelope/curves/Rational" ∧ Fld Z h' r "com/example/envelope/envelope/curves/Rational" "numerator" "Ljava/math/BigInteger;" (.ref n) ∧ Fld Z h' r "com/example/envelope/envelope/curves/Rational" "denominator" "Ljava/math/BigInteger;" (.ref d) ∧ Big Z h' n s ms ∧ Big Z h' d 1 [1]) := by
  obtain ⟨arx, Ex, Sx, Gx, Bx, Ax⟩ := Xx
  obtain ⟨ary, Ey, Sy, Gy, By, Ay⟩ := Xy
  refine mO a0 #[.val (.ref x), .val (.ref y), .unset] (fun _ _ _ m_ _ _ _ hs0 C => ?_)
  refine Go.know (fun hX hK _ => ?_)
  refine g_aloadN C eO3_0 rfl rfl ?_
  refine g_invokevirtual [] [] 0 C eO3_1 (hW hw 29 rfl) (hW hw 30 rfl) (hW hw 32 rfl) (hW hw 31 rfl) (hW hw 8 rfl) (hW hw 33 rfl) (fun _ hZ => notFace_of_selects (args := #[]) (mvT hZ (hW hw 32 rfl))) (by decide) Ey (m_signum l Z a0 hw _ (1 : Int32) _ Sy) (lenOf pd6 rfl) rfl rfl (bL rfl) (by decide) (by decide) (by decide) (by decide) all0 (fun v1 h2 L3 q4 K5 => ?_)
  obtain rfl := q4
  refine gA (mkF m_ 4 #[.val (.ref x), .val (.ref y), .unset] [(.int 1)]) <| g_ifT 24 C eO3_4 (show ¬ (1 : Int32) = (0 : Int32) by decide) (by decide) (by decide) <| g_aloadN C eO3_24 rfl rfl <| g_aloadN C eO3_25 rfl rfl ?_
  have f6 := (Ex.keep K5)
  have f7 := (Sx.keep K5 nin0)
  have f8 := (Gx.keep K5 nin0)
  have f9 := (Bx.keep K5)
  have f10 := (Ax.keep K5 nin0)
  have f11 := (Ey.keep K5)
  have f12 := (Sy.keep K5 nin0)
  have f13 := (Gy.keep K5 nin0)
  have f14 := (By.keep K5)
  have f15 := (Ay.keep K5 nin0)
  refine g_invokevirtual [(.ref y)] [] 0 C eO3_26 (hW hw 36 rfl) (hW hw 37 rfl) (hW hw 39 rfl) (hW hw 38 rfl) (hW hw 8 rfl) (hW hw 40 rfl) (fun _ hZ => notFace_of_selects (args := #[]) (mvT hZ (hW hw 39 rfl))) (by decide) f6 (m_gcd l Z a0 hw _ _ s ms _ hc ⟨arx, f6, f7, f8, f9, f10⟩ ⟨ary, f11, f12, f13, f14, f15⟩) (lenOf pd17 rfl) rfl rfl (bL rfl) (by decide) (by decide) (by decide) (by decide) all0 (fun v23 h24 L25 q26 K27 => ?_)
  obtain ⟨z16, rfl, b17, f18, f19, f20, f21, f22⟩ := q26
  refine gA (mkF m_ 29 #[.val (.ref x), .val (.ref y), .unset] [(.ref z16)]) <| g_astoreN #[.val (.ref x), .val (.ref y), .val (.ref z16)] C eO3_29 rfl rfl <| g_aloadN C eO3_30 rfl rfl ?_
  have f28 := (f12.keep K27 nin0)
  have f34 := (f11.keep K27)
  refine g_invokevirtual [] [] 0 C eO3_31 (hW hw 29 rfl) (hW hw 30 rfl) (hW hw 32 rfl) (hW hw 31 rfl) (hW hw 8 rfl) (hW hw 33 rfl) (fun _ hZ => notFace_of_selects (args := #[]) (mvT hZ (hW hw 32 rfl))) (by decide) f34 (m_signum l Z a0 hw _ (1 : Int32) _ f28) (lenOf pd6 rfl) rfl rfl (bL rfl) (by decide) (by decide) (by decide) (by decide) all0 (fun v29 h30 L31 q32 K33 => ?_)
  obtain rfl := q32
  refine gA (mkF m_ 34 #[.val (.ref x), .val (.ref y), .val (.ref z16)] [(.int 1)]) <| g_ifT 42 C eO3_34 (show ¬ (1 : Int32) < (0 : Int32) by decide) (by decide) (by decide) ?_
  refine g_new_ C eO3_42 (hW hw 4 rfl) (hW hw 5 rfl) (hW hw 2 rfl) (by decide) (by decide) (fun a35 h36 e37 E38 l39 f40 D41 => ?_)
  have K42 := keep_ext E38
  have f43 : Fld Z h36 a35 "com/example/envelope/envelope/curves/Rational" "numerator" "Ljava/math/BigInteger;" .null := D41 (Or.inr (hW hw 20 rfl)) (ty := (.object "java/math/BigInteger")) (by decide)
  have f44 : Fld Z h36 a35 "com/example/envelope/envelope/curves/Rational" "denominator" "Ljava/math/BigInteger;" .null := D41 (Or.inr (hW hw 22 rfl)) (ty := (.object "java/math/BigInteger")) (by decide)
  refine g_dup C eO3_45 rfl <| g_aloadN C eO3_46 rfl rfl <| g_aloadN C eO3_47 rfl rfl ?_
  have f45 := (((f6.keep K27).keep K33).keep K42)
  have f46 := (((f7.keep K27 nin0).keep K33 nin0).keep K42 nin0)
  have f47 := (((f8.keep K27 nin0).keep K33 nin0).keep K42 nin0)
  have f48 := (((f9.keep K27).keep K33).keep K42)
  have f49 := (((f10.keep K27 nin0).keep K33 nin0).keep K42 nin0)
  have f50 := ((f18.keep K33).keep K42)
  have f51 := ((f19.keep K33 nin0).keep K42 nin0)
  have f52 := ((f20.keep K33 nin0).keep K42 nin0)
  have f53 := ((f21.keep K33).keep K42)
  have f54 := ((f22.keep K33 nin0).keep K42 nin0)
  refine g_invokevirtual [(.ref z16)] [(.ref a35), (.ref a35)] 2 C eO3_48 (hW hw 133 rfl) (hW hw 134 rfl) (hW hw 136 rfl) (hW hw 135 rfl) (hW hw 8 rfl) (hW hw 137 rfl) (fun _ hZ => notFace_of_selects (args := #[]) (mvT hZ (hW hw 136 rfl))) (by decide) f45 (m_dv l Z a0 hw _ _ s ms _ hc ⟨arx, f45, f46, f47, f48, f49⟩ ⟨b17, f50, f51, f52, f53, f54⟩ ST) (lenOf pd17 rfl) rfl rfl (bL rfl) (by decide) (by decide) (by decide) (by decide) all0 (fun v62 h63 L64 q65 K66 => ?_)
  obtain ⟨z55, rfl, b56, f57, f58, f59, f60, f61⟩ := q65
  refine gA (mkF m_ 51 #[.val (.ref x), .val (.ref y), .val (.ref z16)] [(.ref z55), (.ref a35), (.ref a35)]) <| g_aloadN C eO3_51 rfl rfl <| g_aloadN C eO3_52 rfl rfl ?_
  have f67 := (((f34.keep K33).keep K42).keep K66)
  have f68 := (((f28.keep K33 nin0).keep K42 nin0).keep K66 nin0)
  have f69 := ((((f13.keep K27 nin0).keep K33 nin0).keep K42 nin0).keep K66 nin0)
  have f70 := ((((f14.keep K27).keep K33).keep K42).keep K66)
  have f71 := ((((f15.keep K27 nin0).keep K33 nin0).keep K42 nin0).keep K66 nin0)
  have f72 := (f50.keep K66)
  have f73 := (f51.keep K66 nin0)
  have f74 := (f52.keep K66 nin0)
  have f75 := (f53.keep K66)
  have f76 := (f54.keep K66 nin0)
  refine g_invokevirtual [(.ref z16)] [(.ref z55), (.ref a35), (.ref a35)] 3 C eO3_53 (hW hw 133 rfl) (hW hw 134 rfl) (hW hw 136 rfl) (hW hw 135 rfl) (hW hw 8 rfl) (hW hw 137 rfl) (fun _ hZ => notFace_of_selects (args := #[]) (mvT hZ (hW hw 136 rfl))) (by decide) f67 (m_dv l Z a0 hw _ _ (1 : Int32) [1] _ own_c1 ⟨ary, f67, f68, f69, f70, f71⟩ ⟨b17, f72, f73, f74, f75, f76⟩ ST) (lenOf pd17 rfl) rfl rfl (bL rfl) (by decide) (by decide) (by decide) (by decide) all0 (fun v84 h85 L86 q87 K88 => ?_)
  obtain ⟨z77, rfl, b78, f79, f80, f81, f82, f83⟩ := q87
  refine gA (mkF m_ 56 #[.val (.ref x), .val (.ref y), .val (.ref z16)] [(.ref z77), (.ref z55), (.ref a35), (.ref a35)]) ?_
  have f92 := ((f40.keep K66).keep K88)
  have f93 := ((f43.keep K66 nin0).keep K88 nin0)
  have f94 := ((f44.keep K66 nin0).keep K88 nin0)
  refine g_invokespecial [(.ref z55), (.ref z77)] [(.ref a35)] 1 C eO3_56 rfl (hW hw 13 rfl) (hW hw 14 rfl) (hW hw 2 rfl) (hW hw 15 rfl) (by decide) (m_ri l Z a0 hw _ _ _ _ f92 f93 f94) (lenOf pd22 rfl) rfl rfl (bL rfl) (by decide) (by decide) (by decide) (by decide) (allS (mm 0 rfl) all0) (fun v95 h96 L97 q98 K99 => ?_)
  obtain ⟨rfl, f89, f90, f91⟩ := q98
  refine gA (mkF m_ 59 #[.val (.ref x), .val (.ref y), .val (.ref z16)] [(.ref a35)]) ?_
  have f100 := ((f57.keep K88).keep K99)
  have f101 := ((f58.keep K88 nin0).keep K99 (ninS (ne_exa f100 f89 (by decide)) nin0))
  have f102 := ((f59.keep K88 nin0).keep K99 (ninS (ne_exa f100 f89 (by decide)) nin0))
  have f103 := ((f60.keep K88).keep K99)
  have f104 := ((f61.keep K88 nin0).keep K99 (ninS (ne_exa f103 f89 (by decide)) nin0))
  have f105 := (f79.keep K99)
  have f106 := (f80.keep K99 (ninS (ne_exa f105 f89 (by decide)) nin0))
  have f107 := (f81.keep K99 (ninS (ne_exa f105 f89 (by decide)) nin0))
  have f108 := (f82.keep K99)
  have f109 := (f83.keep K99 (ninS (ne_exa f108 f89 (by decide)) nin0))
  exact g_retA C eO3_59 rfl rfl ⟨a35, z55, z77, rfl, f89, f90, f91, ⟨b56, f100, f101, f102, f103, f104⟩, ⟨b78, f105, f106, f107, f108, f109⟩⟩ (by decide) (by decide)
theorem own_e1 : sg 1 = 1 := by decide
theorem own_e2 : mg 1 = [1] := by decide
theorem eO2_0 : decode k47 0 = .ok (.lload_n 0, 1) := by decide +kernel
theorem eO2_1 : decode k47 1 = .ok (.invokestatic 16, 3) := by decide +kernel
theorem eO2_4 : decode k47 4 = .ok (.lload_n 2, 1) := by decide +kernel
theorem eO2_5 : decode k47 5 = .ok (.invokestatic 16, 3) := by decide +kernel
theorem eO2_8 : decode k47 8 = .ok (.invokestatic 28, 3) := by decide +kernel
theorem eO2_11 : decode k47 11 = .ok (.areturn, 1) := by decide +kernel
theorem m_of2 (l : Launch) (Z : State) (a0 : Array Value) (hw : ∀ d ∈ tables_1, d.before a0 Z = true) (v : Int64) (h : Heap) {ps ns one zero : Addr} (ST : Start Z ps ns one zero) :
    MetW false l Z [] (⟨"com/example/envelope/envelope/curves/Rational", "of", "(JJ)Lcom/example/envelope/envelope/curves/Rational;"⟩ : MethodName) k47 4 (some (.object "com/example/envelope/envelope/curves/Rational")) [] (rM 7 26 77 112) #[(.long v), (.long 1)] [] h (fun v_ h' => ∃ r n d : Addr, v_ = some (.ref r) ∧ Exa Z h' r "com/example/envelope/envelope/curves/Rational" ∧ Fld Z h' r "com/example/envelope/envelope/curves/Rational" "numerator" "Ljava/math/BigInteger;" (.ref n) ∧ Fld Z h' r "com/example/envelope/envelope/curves/Rational" "denominator" "Ljava/math/BigInteger;" (.ref d) ∧ Big Z h' n (sg v) (mg v) ∧ Big Z h' d 1 [1]) := by
  refine mO a0 #[.val (.long v), .second, .val (.long (1 : Int64)), .second] (fun _ _ _ m_ _ _ _ hs0 C => ?_)
  refine g_lloadN C eO2_0 rfl ?_
  refine g_invokestatic [(.long v)] [] 0 C eO2_1 (hW hw 6 rfl) (hW hw 7 rfl) (hW hw 8 rfl) (hW hw 9 rfl) (by decide) (m_valueOf l Z a0 hw v _ ST) (lenOf pd21 rfl) rfl rfl (bL rfl) (by decide) (by decide) (by decide) (by decide) all0 (fun v8 h9 L10 q11 K12 => ?_)
  obtain ⟨z1, rfl, b2, f3, f4, f5, f6, f7⟩ := q11
  refine gA (mkF m_ 4 #[.val (.long v), .second, .val (.long (1 : Int64)), .second] [(.ref z1)]) <| g_lloadN C eO2_4 rfl ?_
  refine g_invokestatic [(.long (1 : Int64))] [(.ref z1)] 1 C eO2_5 (hW hw 6 rfl) (hW hw 7 rfl) (hW hw 8 rfl) (hW hw 9 rfl) (by decide) (m_valueOf l Z a0 hw (1 : Int64) _ ST) (lenOf pd21 rfl) rfl rfl (bL rfl) (by decide) (by decide) (by decide) (by decide) all0 (fun v20 h21 L22 q23 K24 => ?_)
  obtain ⟨z13, rfl, b14, f15, f16, f17, f18, f19⟩ := q23
  refine gA (mkF m_ 8 #[.val (.long v), .second, .val (.long (1 : Int64)), .second] [(.ref z13), (.ref z1)]) ?_
  have f43 := (f3.keep K24)
  have f44 := (f4.keep K24 nin0)
  have f45 := (f5.keep K24 nin0)
  have f46 := (f6.keep K24)
  have f47 := (f7.keep K24 nin0)
  refine g_invokestatic [(.ref z1), (.ref z13)] [] 0 C eO2_8 (hW hw 26 rfl) (hW hw 27 rfl) (hW hw 2 rfl) (hW hw 28 rfl) (by decide) (m_of3 l Z a0 hw _ _ (sg v) (mg v) _ (own_canon v).1 ⟨b2, f43, f44, f45, f46, f47⟩ (show Big Z _ _ 1 [1] from own_e1 ▸ own_e2 ▸ (show Big Z _ _ (sg 1) (mg 1) from ⟨b14, f15, f16, f17, f18, f19⟩)) ST) (lenOf pd23 rfl) rfl rfl (bL rfl) (by decide) (by decide) (by decide) (by decide) all0 (fun v48 h49 L50 q51 K52 => ?_)
  obtain ⟨r25, n26, d27, rfl, f30, f31, f32, hN, hD⟩ := q51
  refine gA (mkF m_ 11 #[.val (.long v), .second, .val (.long (1 : Int64)), .second] [(.ref r25)]) ?_
  exact g_retA C eO2_11 rfl rfl ⟨r25, n26, d27, rfl, f30, f31, f32, hN, hD⟩ (by decide) (by decide)
theorem eRG_0 : decode k42 0 = .ok (.aload_n 0, 1) := by decide +kernel
theorem eRG_1 : decode k42 1 = .ok (.getfield 7, 3) := by decide +kernel
theorem eRG_4 : decode k42 4 = .ok (.invokevirtual 32, 3) := by decide +kernel
theorem eRG_7 : decode k42 7 = .ok (.ireturn, 1) := by decide +kernel
theorem m_rsig (l : Launch) (Z : State) (a0 : Array Value) (hw : ∀ d ∈ tables_1, d.before a0 Z = true) (r x d : Addr) (s : Int32) (ms : List Int32) (h : Heap) (E : Exa Z h r "com/example/envelope/envelope/curves/Rational") (F0 : Fld Z h r "com/example/envelope/envelope/curves/Rational" "numerator" "Ljava/math/BigInteger;" (.ref x)) (F1 : Fld Z h r "com/example/envelope/envelope/curves/Rational" "denominator" "Ljava/math/BigInteger;" (.ref d)) (Xx : Big Z h x s ms) :
    MetW false l Z [] (⟨"com/example/envelope/envelope/curves/Rational", "signum", "()I"⟩ : MethodName) k42 1 (some .int) [] (rM 1 0 0 12) #[(.ref r)] [] h (fun v h' => v = some (.int s)) := by
  obtain ⟨arx, Ex, Sx, Gx, Bx, Ax⟩ := Xx
  refine mO a0 #[.val (.ref r)] (fun _ _ _ m_ _ _ _ hs0 C => ?_)
  refine g_aloadN C eRG_0 rfl rfl <| gF C eRG_1 (hW hw 19 rfl) F0 ?_
  refine g_invokevirtual [] [] 0 C eRG_4 (hW hw 29 rfl) (hW hw 30 rfl) (hW hw 32 rfl) (hW hw 31 rfl) (hW hw 8 rfl) (hW hw 33 rfl) (fun _ hZ => notFace_of_selects (args := #[]) (mvT hZ (hW hw 32 rfl))) (by decide) Ex (m_signum l Z a0 hw _ s _ Sx) (lenOf pd6 rfl) rfl rfl (bL rfl) (by decide) (by decide) (by decide) (by decide) all0 (fun v1 h2 L3 q4 K5 => ?_)
  obtain rfl := q4
  refine gA (mkF m_ 7 #[.val (.ref r)] [(.int s)]) ?_
  exact g_retI C eRG_7 rfl (by decide) (by decide)
theorem eRC_0 : decode k43 0 = .ok (.aload_n 0, 1) := by decide +kernel
theorem eRC_1 : decode k43 1 = .ok (.getfield 7, 3) := by decide +kernel
theorem eRC_4 : decode k43 4 = .ok (.aload_n 1, 1) := by decide +kernel
theorem eRC_5 : decode k43 5 = .ok (.getfield 13, 3) := by decide +kernel
theorem eRC_8 : decode k43 8 = .ok (.invokevirtual 79, 3) := by decide +kernel
theorem eRC_11 : decode k43 11 = .ok (.aload_n 1, 1) := by decide +kernel
theorem eRC_12 : decode k43 12 = .ok (.getfield 7, 3) := by decide +kernel
theorem eRC_15 : decode k43 15 = .ok (.aload_n 0, 1) := by decide +kernel
theorem eRC_16 : decode k43 16 = .ok (.getfield 13, 3) := by decide +kernel
theorem eRC_19 : decode k43 19 = .ok (.invokevirtual 79, 3) := by decide +kernel
theorem eRC_22 : decode k43 22 = .ok (.invokevirtual 101, 3) := by decide +kernel
theorem eRC_25 : decode k43 25 = .ok (.ireturn, 1) := by decide +kernel
theorem m_rcmp (l : Launch) (Z : State) (a0 : Array Value) (hw : ∀ d ∈ tables_1, d.before a0 Z = true) (r q x d y e : Addr) (s t : Int32) (ms ns : List Int32) (h : Heap) (hc : Canon s ms) (hd : Canon t ns) (E : Exa Z h r "com/example/envelope/envelope/curves/Rational") (F0 : Fld Z h r "com/example/envelope/envelope/curves/Rational" "numerator" "Ljava/math/BigInteger;" (.ref x)) (F1 : Fld Z h r "com/example/envelope/envelope/curves/Rational" "denominator" "Ljava/math/BigInteger;" (.ref d)) (E' : Exa Z h q "com/example/envelope/envelope/curves/Rational") (G0 : Fld Z h q "com/example/envelope/envelope/curves/Rational" "numerator" "Ljava/math/BigInteger;" (.ref y)) (G1 : Fld Z h q "com/example/envelope/envelope/curves/Rational" "denominator" "Ljava/math/BigInteger;" (.ref e)) (Xx : Big Z h x s ms) (Xd : Big Z h d 1 [1]) (Xy : Big Z h y t ns) (Xe : Big Z h e 1 [1]) {pg ng one zero : Addr} (ST : Start Z pg ng one zero) :
    MetW false l Z [] (⟨"com/example/envelope/envelope/curves/Rational", "compareTo", "(Lcom/example/envelope/envelope/curves/Rational;)I"⟩ : MethodName) k43 2 (some .int) [] (rM 6 4 16 105) #[(.ref r), (.ref q)] [] h (fun v h' => v = some (.int (cmpB s ms t ns))) := by
  obtain ⟨arx, Ex, Sx, Gx, Bx, Ax⟩ := Xx
  obtain ⟨ard, Ed, Sd, Gd, Bd, Ad⟩ := Xd
  obtain ⟨ary, Ey, Sy, Gy, By, Ay⟩ := Xy
  obtain ⟨are, Ee, Se, Ge, Be, Ae⟩ := Xe
  refine mO a0 #[.val (.ref r), .val (.ref q)] (fun _ _ _ m_ _ _ _ hs0 C => ?_)
  refine g_aloadN C eRC_0 rfl rfl <| gF C eRC_1 (hW hw 19 rfl) F0 <| g_aloadN C eRC_4 rfl rfl <| gF C eRC_5 (hW hw 21 rfl) G1 ?_
  refine g_invokevirtual [(.ref e)] [] 0 C eRC_8 (hW hw 182 rfl) (hW hw 183 rfl) (hW hw 185 rfl) (hW hw 184 rfl) (hW hw 8 rfl) (hW hw 186 rfl) (fun _ hZ => notFace_of_selects (args := #[]) (mvT hZ (hW hw 185 rfl))) (by decide) Ex (m_mul l Z a0 hw _ _ s ms _ hc ⟨arx, Ex, Sx, Gx, Bx, Ax⟩ ⟨are, Ee, Se, Ge, Be, Ae⟩ ST) (lenOf pd17 rfl) rfl rfl (bL rfl) (by decide) (by decide) (by decide) (by decide) all0 (fun v8 h9 L10 q11 K12 => ?_)
  obtain ⟨z1, rfl, b2, f3, f4, f5, f6, f7⟩ := q11
  refine gA (mkF m_ 11 #[.val (.ref r), .val (.ref q)] [(.ref z1)]) <| g_aloadN C eRC_11 rfl rfl ?_
  have f13 := (G0.keep K12 nin0)
  refine gF C eRC_12 (hW hw 19 rfl) f13 <| g_aloadN C eRC_15 rfl rfl ?_
  have f14 := (F1.keep K12 nin0)
  refine gF C eRC_16 (hW hw 21 rfl) f14 ?_
  have f15 := (Ey.keep K12)
  have f16 := (Sy.keep K12 nin0)
  have f17 := (Gy.keep K12 nin0)
  have f18 := (By.keep K12)
  have f19 := (Ay.keep K12 nin0)
  have f20 := (Ed.keep K12)
  have f21 := (Sd.keep K12 nin0)
  have f22 := (Gd.keep K12 nin0)
  have f23 := (Bd.keep K12)
  have f24 := (Ad.keep K12 nin0)
  refine g_invokevirtual [(.ref d)] [(.ref z1)] 1 C eRC_19 (hW hw 182 rfl) (hW hw 183 rfl) (hW hw 185 rfl) (hW hw 184 rfl) (hW hw 8 rfl) (hW hw 186 rfl) (fun _ hZ => notFace_of_selects (args := #[]) (mvT hZ (hW hw 185 rfl))) (by decide) f15 (m_mul l Z a0 hw _ _ t ns _ hd ⟨ary, f15, f16, f17, f18, f19⟩ ⟨ard, f20, f21, f22, f23, f24⟩ ST) (lenOf pd17 rfl) rfl rfl (bL rfl) (by decide) (by decide) (by decide) (by decide) all0 (fun v32 h33 L34 q35 K36 => ?_)
  obtain ⟨z25, rfl, b26, f27, f28, f29, f30, f31⟩ := q35
  refine gA (mkF m_ 22 #[.val (.ref r), .val (.ref q)] [(.ref z25), (.ref z1)]) ?_
  have f37 := (f3.keep K36)
  have f38 := (f4.keep K36 nin0)
  have f39 := (f5.keep K36 nin0)
  have f40 := (f6.keep K36)
  have f41 := (f7.keep K36 nin0)
  refine g_invokevirtual [(.ref z25)] [] 0 C eRC_22 (hW hw 211 rfl) (hW hw 212 rfl) (hW hw 214 rfl) (hW hw 213 rfl) (hW hw 8 rfl) (hW hw 215 rfl) (fun _ hZ => notFace_of_selects (args := #[]) (mvT hZ (hW hw 214 rfl))) (by decide) f37 (m_ct l Z a0 hw _ _ s t ms ns _ hc hd ⟨b2, f37, f38, f39, f40, f41⟩ ⟨b26, f27, f28, f29, f30, f31⟩) (lenOf pd20 rfl) rfl rfl (bL rfl) (by decide) (by decide) (by decide) (by decide) all0 (fun v42 h43 L44 q45 K46 => ?_)
  obtain rfl := q45
  refine gA (mkF m_ 25 #[.val (.ref r), .val (.ref q)] [(.int (cmpB s ms t ns))]) ?_
  exact g_retI C eRC_25 rfl (by decide) (by decide)
theorem own_eqB (s : Int32) (ms : List Int32) (t : Int32) (ns : List Int32) : eqB s ms t ns = 0 ∨ eqB s ms t ns = 1 := by
  unfold eqB; split
  · exact Or.inr rfl
  · exact Or.inl rfl
theorem eRE_0 : decode k44 0 = .ok (.aload_n 1, 1) := by decide +kernel
theorem eRE_1 : decode k44 1 = .ok (.instanceof 8, 3) := by decide +kernel
theorem eRE_4 : decode k44 4 = .ok (.ifCond .eq 40, 3) := by decide +kernel
theorem eRE_7 : decode k44 7 = .ok (.aload_n 1, 1) := by decide +kernel
theorem eRE_8 : decode k44 8 = .ok (.checkcast 8, 3) := by decide +kernel
theorem eRE_11 : decode k44 11 = .ok (.astore_n 2, 1) := by decide +kernel
theorem eRE_12 : decode k44 12 = .ok (.aload_n 0, 1) := by decide +kernel
theorem eRE_13 : decode k44 13 = .ok (.getfield 7, 3) := by decide +kernel
theorem eRE_16 : decode k44 16 = .ok (.aload_n 2, 1) := by decide +kernel
theorem eRE_17 : decode k44 17 = .ok (.getfield 7, 3) := by decide +kernel
theorem eRE_20 : decode k44 20 = .ok (.invokevirtual 104, 3) := by decide +kernel
theorem eRE_23 : decode k44 23 = .ok (.ifCond .eq 21, 3) := by decide +kernel
theorem eRE_26 : decode k44 26 = .ok (.aload_n 0, 1) := by decide +kernel
theorem eRE_27 : decode k44 27 = .ok (.getfield 13, 3) := by decide +kernel
theorem eRE_30 : decode k44 30 = .ok (.aload_n 2, 1) := by decide +kernel
theorem eRE_31 : decode k44 31 = .ok (.getfield 13, 3) := by decide +kernel
theorem eRE_34 : decode k44 34 = .ok (.invokevirtual 104, 3) := by decide +kernel
theorem eRE_37 : decode k44 37 = .ok (.ifCond .eq 7, 3) := by decide +kernel
theorem eRE_40 : decode k44 40 = .ok (.iconst 1, 1) := by decide +kernel
theorem eRE_41 : decode k44 41 = .ok (.goto 4, 3) := by decide +kernel
theorem eRE_44 : decode k44 44 = .ok (.iconst 0, 1) := by decide +kernel
theorem eRE_45 : decode k44 45 = .ok (.ireturn, 1) := by decide +kernel
theorem m_req (l : Launch) (Z : State) (a0 : Array Value) (hw : ∀ d ∈ tables_1, d.before a0 Z = true) (r q x d y e : Addr) (s t : Int32) (ms ns : List Int32) (h : Heap) (hc : Canon s ms) (hd : Canon t ns) (E : Exa Z h r "com/example/envelope/envelope/curves/Rational") (F0 : Fld Z h r "com/example/envelope/envelope/curves/Rational" "numerator" "Ljava/math/BigInteger;" (.ref x)) (F1 : Fld Z h r "com/example/envelope/envelope/curves/Rational" "denominator" "Ljava/math/BigInteger;" (.ref d)) (E' : Exa Z h q "com/example/envelope/envelope/curves/Rational") (G0 : Fld Z h q "com/example/envelope/envelope/curves/Rational" "numerator" "Ljava/math/BigInteger;" (.ref y)) (G1 : Fld Z h q "com/example/envelope/envelope/curves/Rational" "denominator" "Ljava/math/BigInteger;" (.ref e)) (Xx : Big Z h x s ms) (Xd : Big Z h d 1 [1]) (Xy : Big Z h y t ns) (Xe : Big Z h e 1 [1]) :
    MetW false l Z [] (⟨"com/example/envelope/envelope/curves/Rational", "equals", "(Ljava/lang/Object;)Z"⟩ : MethodName) k44 3 (some .boolean) [] (rM 1 0 0 18) #[(.ref r), (.ref q)] [] h (fun v h' => v = some (.int (eqB s ms t ns))) := by
  obtain ⟨arx, Ex, Sx, Gx, Bx, Ax⟩ := Xx
  obtain ⟨ard, Ed, Sd, Gd, Bd, Ad⟩ := Xd
  obtain ⟨ary, Ey, Sy, Gy, By, Ay⟩ := Xy
  obtain ⟨are, Ee, Se, Ge, Be, Ae⟩ := Xe
  refine mO a0 #[.val (.ref r), .val (.ref q), .unset] (fun _ _ _ m_ _ _ _ hs0 C => ?_)
  refine g_aloadN C eRE_0 rfl rfl <| g_instY C eRE_1 (hW hw 4 rfl) (Ins.self E') <| g_ifF C eRE_4 (show ¬ (1 : Int32) = (0 : Int32) by decide) <| g_aloadN C eRE_7 rfl rfl <| g_castY C eRE_8 (hW hw 4 rfl) (Ins.self E') <| g_astoreN #[.val (.ref r), .val (.ref q), .val (.ref q)] C eRE_11 rfl rfl <| g_aloadN C eRE_12 rfl rfl <| gF C eRE_13 (hW hw 19 rfl) F0 <| g_aloadN C eRE_16 rfl rfl <| gF C eRE_17 (hW hw 19 rfl) G0 ?_
  refine g_invokevirtual [(.ref y)] [] 0 C eRE_20 (hW hw 231 rfl) (hW hw 232 rfl) (hW hw 234 rfl) (hW hw 233 rfl) (hW hw 8 rfl) (hW hw 235 rfl) (fun _ hZ => notFace_of_selects (args := #[]) (mvT hZ (hW hw 234 rfl))) (by decide) Ex (m_eq l Z a0 hw _ _ s t ms ns _ hc hd ⟨arx, Ex, Sx, Gx, Bx, Ax⟩ ⟨ary, Ey, Sy, Gy, By, Ay⟩) (lenOf pd24 rfl) rfl rfl (bL rfl) (by decide) (by decide) (by decide) (by decide) all0 (fun v1 h2 L3 q4 K5 => ?_)
  obtain rfl := q4
  refine gA (mkF m_ 23 #[.val (.ref r), .val (.ref q), .val (.ref q)] [(.int (eqB s ms t ns))]) ?_
  by_cases cc6 : (eqB s ms t ns) = (0 : Int32)
  · refine g_ifT 44 C eRE_23 (show (eqB s ms t ns) = (0 : Int32) from cc6) (by decide) (by decide) ?_
    refine g_iconst 0 C eRE_44 (by decide) ?_
    exact g_retN C eRE_45 (by simp) (by rw [cc6]; rfl) (by decide) (by decide)
  · refine g_ifF C eRE_23 (show ¬ (eqB s ms t ns) = (0 : Int32) from cc6) ?_
    refine g_aloadN C eRE_26 rfl rfl ?_
    have f7 := (F1.keep K5 nin0)
    refine gF C eRE_27 (hW hw 21 rfl) f7 <| g_aloadN C eRE_30 rfl rfl ?_
    have f8 := (G1.keep K5 nin0)
    refine gF C eRE_31 (hW hw 21 rfl) f8 ?_
    have f9 := (Ed.keep K5)
    have f10 := (Sd.keep K5 nin0)
    have f11 := (Gd.keep K5 nin0)
    have f12 := (Bd.keep K5)
    have f13 := (Ad.keep K5 nin0)
    have f14 := (Ee.keep K5)
    have f15 := (Se.keep K5 nin0)
    have f16 := (Ge.keep K5 nin0)
    have f17 := (Be.keep K5)
    have f18 := (Ae.keep K5 nin0)
    refine g_invokevirtual [(.ref e)] [] 0 C eRE_34 (hW hw 231 rfl) (hW hw 232 rfl) (hW hw 234 rfl) (hW hw 233 rfl) (hW hw 8 rfl) (hW hw 235 rfl) (fun _ hZ => notFace_of_selects (args := #[]) (mvT hZ (hW hw 234 rfl))) (by decide) f9 (m_eq l Z a0 hw _ _ (1 : Int32) (1 : Int32) [1] [1] _ own_c1 own_c1 ⟨ard, f9, f10, f11, f12, f13⟩ ⟨are, f14, f15, f16, f17, f18⟩) (lenOf pd24 rfl) rfl rfl (bL rfl) (by decide) (by decide) (by decide) (by decide) all0 (fun v19 h20 L21 q22 K23 => ?_)
    obtain rfl := q22
    simp only [show eqB 1 [1] 1 [1] = (1 : Int32) from by decide]
    refine gA (mkF m_ 37 #[.val (.ref r), .val (.ref q), .val (.ref q)] [(.int 1)]) <| g_ifF C eRE_37 (show ¬ (1 : Int32) = (0 : Int32) by decide) <| g_iconst 1 C eRE_40 (by decide) <| g_goto 45 C eRE_41 (by decide) (by decide) ?_
    exact g_retN C eRE_45 (by simp) (by rw [(own_eqB s ms t ns).resolve_left cc6]; rfl) (by decide) (by decide)
theorem eSI_0 : decode k40 0 = .ok (.lload_n 0, 1) := by decide +kernel
theorem eSI_1 : decode k40 1 = .ok (.lconst 0, 1) := by decide +kernel
theorem eSI_2 : decode k40 2 = .ok (.lcmp, 1) := by decide +kernel
theorem eSI_3 : decode k40 3 = .ok (.ifCond .ge 5, 3) := by decide +kernel
theorem eSI_6 : decode k40 6 = .ok (.iconst (-1), 1) := by decide +kernel
theorem eSI_7 : decode k40 7 = .ok (.ireturn, 1) := by decide +kernel
theorem eSI_8 : decode k40 8 = .ok (.lload_n 0, 1) := by decide +kernel
theorem eSI_9 : decode k40 9 = .ok (.lconst 0, 1) := by decide +kernel
theorem eSI_10 : decode k40 10 = .ok (.lcmp, 1) := by decide +kernel
theorem eSI_11 : decode k40 11 = .ok (.ifCond .ne 5, 3) := by decide +kernel
theorem eSI_14 : decode k40 14 = .ok (.iconst 0, 1) := by decide +kernel
theorem eSI_15 : decode k40 15 = .ok (.ireturn, 1) := by decide +kernel
theorem eSI_16 : decode k40 16 = .ok (.iconst 1, 1) := by decide +kernel
theorem eSI_17 : decode k40 17 = .ok (.ireturn, 1) := by decide +kernel
theorem m_sign (l : Launch) (Z : State) (a0 : Array Value) (hw : ∀ d ∈ tables_1, d.before a0 Z = true) (v : Int64) (h : Heap) :
    MetW false l Z [] (⟨"com/example/envelope/envelope/curves/RationalOfPinLaw", "sign", "(J)I"⟩ : MethodName) k40 2 (some .int) [] (rM 0 0 0 0) #[(.long v)] [] h (fun v_ h' => v_ = some (.int (sg v))) := by
  refine mO a0 #[.val (.long v), .second] (fun _ _ _ m_ _ _ _ hs0 C => ?_)
  refine g_lloadN C eSI_0 rfl <| g_lconst (0 : Int64) C eSI_1 (by decide) <| g_lcmp C eSI_2 ?_
  by_cases cc1 : v < (0 : Int64)
  · refine g_ifF C eSI_3 (cl_ge_f cc1) ?_
    refine g_iconst (-1) C eSI_6 (by decide) ?_
    have hq : sg v = (-1 : Int32) := by simp [sg, cc1]
    exact g_retI C eSI_7 (by rw [hq]) (by decide) (by decide)
  · refine g_ifT 8 C eSI_3 (cl_ge_t cc1) (by decide) (by decide) ?_
    refine g_lloadN C eSI_8 rfl <| g_lconst (0 : Int64) C eSI_9 (by decide) <| g_lcmp C eSI_10 ?_
    by_cases cc2 : v = (0 : Int64)
    · refine g_ifF C eSI_11 (cl_ne_f cc2) ?_
      refine g_iconst 0 C eSI_14 (by decide) ?_
      have hq : sg v = (0 : Int32) := by simp [sg, cc1, cc2]
      exact g_retI C eSI_15 (by rw [hq]) (by decide) (by decide)
    · refine g_ifT 16 C eSI_11 (cl_ne_t cc2) (by decide) (by decide) ?_
      refine g_iconst 1 C eSI_16 (by decide) ?_
      have hq : sg v = (1 : Int32) := by simp [sg, cc1, cc2]
      exact g_retI C eSI_17 (by rw [hq]) (by decide) (by decide)
theorem eNM_0 : decode k41 0 = .ok (.iload_n 0, 1) := by decide +kernel
theorem eNM_1 : decode k41 1 = .ok (.ifCond .ge 5, 3) := by decide +kernel
theorem eNM_4 : decode k41 4 = .ok (.iconst (-1), 1) := by decide +kernel
theorem eNM_5 : decode k41 5 = .ok (.ireturn, 1) := by decide +kernel
theorem m_normn (l : Launch) (Z : State) (a0 : Array Value) (hw : ∀ d ∈ tables_1, d.before a0 Z = true) (h : Heap) :
    MetW false l Z [] (⟨"com/example/envelope/envelope/curves/RationalOfPinLaw", "norm", "(I)I"⟩ : MethodName) k41 1 (some .int) [] (rM 0 0 0 0) #[(.int (-1))] [] h (fun v h' => v = some (.int (-1))) := by
  refine mO a0 #[.val (.int (-1))] (fun _ _ _ m_ _ _ _ hs0 C => ?_)
  refine g_iloadN C eNM_0 rfl <| g_ifF C eNM_1 (show (-1 : Int32) < (0 : Int32) by decide) <| g_iconst (-1) C eNM_4 (by decide) ?_
  exact g_retI C eNM_5 rfl (by decide) (by decide)
theorem eNM_6 : decode k41 6 = .ok (.iload_n 0, 1) := by decide +kernel
theorem eNM_7 : decode k41 7 = .ok (.ifCond .ne 5, 3) := by decide +kernel
theorem eNM_10 : decode k41 10 = .ok (.iconst 0, 1) := by decide +kernel
theorem eNM_11 : decode k41 11 = .ok (.ireturn, 1) := by decide +kernel
theorem m_normz (l : Launch) (Z : State) (a0 : Array Value) (hw : ∀ d ∈ tables_1, d.before a0 Z = true) (h : Heap) :
    MetW false l Z [] (⟨"com/example/envelope/envelope/curves/RationalOfPinLaw", "norm", "(I)I"⟩ : MethodName) k41 1 (some .int) [] (rM 0 0 0 0) #[(.int 0)] [] h (fun v h' => v = some (.int 0)) := by
  refine mO a0 #[.val (.int 0)] (fun _ _ _ m_ _ _ _ hs0 C => ?_)
  refine g_iloadN C eNM_0 rfl <| g_ifT 6 C eNM_1 (show ¬ (0 : Int32) < (0 : Int32) by decide) (by decide) (by decide) <| g_iloadN C eNM_6 rfl <| g_ifF C eNM_7 (show (0 : Int32) = (0 : Int32) by decide) <| g_iconst 0 C eNM_10 (by decide) ?_
  exact g_retI C eNM_11 rfl (by decide) (by decide)
theorem eNM_12 : decode k41 12 = .ok (.iconst 1, 1) := by decide +kernel
theorem eNM_13 : decode k41 13 = .ok (.ireturn, 1) := by decide +kernel
theorem m_normp (l : Launch) (Z : State) (a0 : Array Value) (hw : ∀ d ∈ tables_1, d.before a0 Z = true) (h : Heap) :
    MetW false l Z [] (⟨"com/example/envelope/envelope/curves/RationalOfPinLaw", "norm", "(I)I"⟩ : MethodName) k41 1 (some .int) [] (rM 0 0 0 0) #[(.int 1)] [] h (fun v h' => v = some (.int 1)) := by
  refine mO a0 #[.val (.int 1)] (fun _ _ _ m_ _ _ _ hs0 C => ?_)
  refine g_iloadN C eNM_0 rfl <| g_ifT 6 C eNM_1 (show ¬ (1 : Int32) < (0 : Int32) by decide) (by decide) (by decide) <| g_iloadN C eNM_6 rfl <| g_ifT 12 C eNM_7 (show ¬ (1 : Int32) = (0 : Int32) by decide) (by decide) (by decide) <| g_iconst 1 C eNM_12 (by decide) ?_
  exact g_retI C eNM_13 rfl (by decide) (by decide)
theorem own_lne {a b : Int64} (h : a < b) : ¬ a = b := fun e => by subst e; exact absurd h (by simp)
theorem own_eself (s : Int32) (ms : List Int32) : eqB s ms s ms = 1 := by unfold eqB; rw [if_pos ⟨rfl, rfl⟩]
theorem m_law (l : Launch) (Z : State) (a0 : Array Value) (hw : ∀ d ∈ tables_1, d.before a0 Z = true) {ps ns one zero : Addr} (ST : Start Z ps ns one zero) (a : Int64) (b : Int64) (h : Heap) :
    MetW false l Z [] x code maxLocals ret tables_1 room_1 #[.long a, .long b] [] h (fun v _ => v = some (.int 1)) := by
  refine MetW.of (y := x) (Ls := #[.val (.long a), .second, .val (.long b), .second, .unset, .unset, .unset, .unset, .unset, .unset, .unset, .unset]) (a0 := a0) (by first | (simp [x, plainName, overriddenIn]; done) | decide +kernel) (fun m => by first | (simp [entryFrame, mkF, argsToLocals, Value.category, maxLocals]; done) | rfl) EW.nil (fun _ => rfl) (fun p_ e_ s_ m_ below_ meth_ c_ hs0 C => ?_)
  refine Go.know (fun hX hK _ => ?_)
  obtain ⟨b1, f2, f3, f4, f5, f6⟩ := (ST.2.2.2.2.2.1.ext hX)
  refine g_lloadN C at_0 rfl ?_
  refine g_invokestatic [(.long a)] [] 0 C at_1 (hW hw 0 rfl) (hW hw 1 rfl) (hW hw 2 rfl) (hW hw 3 rfl) (by decide) (m_of1 l Z a0 hw a _ ST) (lenOf pd25 rfl) rfl rfl (bL rfl) (by decide) (by decide) (by decide) (by decide) all0 (fun v13 h14 L15 q16 K17 => ?_)
  obtain ⟨r7, n8, rfl, f10, f11, f12, B9⟩ := q16
  obtain ⟨b18, f19, f20, f21, f22, f23⟩ := B9
  refine gA (mkF m_ 4 #[.val (.long a), .second, .val (.long b), .second, .unset, .unset, .unset, .unset, .unset, .unset, .unset, .unset] [(.ref r7)]) <| g_astore #[.val (.long a), .second, .val (.long b), .second, .val (.ref r7), .unset, .unset, .unset, .unset, .unset, .unset, .unset] C at_4 rfl rfl <| g_lloadN C at_6 rfl ?_
  refine g_invokestatic [(.long b)] [] 0 C at_7 (hW hw 0 rfl) (hW hw 1 rfl) (hW hw 2 rfl) (hW hw 3 rfl) (by decide) (m_of1 l Z a0 hw b _ ST) (lenOf pd25 rfl) rfl rfl (bL rfl) (by decide) (by decide) (by decide) (by decide) all0 (fun v30 h31 L32 q33 K34 => ?_)
  obtain ⟨r24, n25, rfl, f27, f28, f29, B26⟩ := q33
  obtain ⟨b35, f36, f37, f38, f39, f40⟩ := B26
  refine gA (mkF m_ 10 #[.val (.long a), .second, .val (.long b), .second, .val (.ref r7), .unset, .unset, .unset, .unset, .unset, .unset, .unset] [(.ref r24)]) <| g_astore #[.val (.long a), .second, .val (.long b), .second, .val (.ref r7), .val (.ref r24), .unset, .unset, .unset, .unset, .unset, .unset] C at_10 rfl rfl <| g_lloadN C at_12 rfl <| g_lconst (1 : Int64) C at_13 (by decide) ?_
  refine g_invokestatic [(.long a), (.long (1 : Int64))] [] 0 C at_14 (hW hw 23 rfl) (hW hw 24 rfl) (hW hw 2 rfl) (hW hw 25 rfl) (by decide) (m_of2 l Z a0 hw a _ ST) (lenOf pd26 rfl) rfl rfl (bL rfl) (by decide) (by decide) (by decide) (by decide) all0 (fun v49 h50 L51 q52 K53 => ?_)
  obtain ⟨r41, n42, d43, rfl, f46, f47, f48, B44, B45⟩ := q52
  obtain ⟨b54, f55, f56, f57, f58, f59⟩ := B44
  obtain ⟨b60, f61, f62, f63, f64, f65⟩ := B45
  refine gA (mkF m_ 17 #[.val (.long a), .second, .val (.long b), .second, .val (.ref r7), .val (.ref r24), .unset, .unset, .unset, .unset, .unset, .unset] [(.ref r41)]) <| g_astore #[.val (.long a), .second, .val (.long b), .second, .val (.ref r7), .val (.ref r24), .val (.ref r41), .unset, .unset, .unset, .unset, .unset] C at_17 rfl rfl <| g_lloadN C at_19 rfl <| g_lloadN C at_20 rfl <| g_lcmp C at_21 ?_
  by_cases cc66 : a < b
  · refine g_ifF C at_22 (cl_ge_f cc66) ?_
    refine g_iconst (-1) C at_25 (by decide) <| g_istore #[.val (.long a), .second, .val (.long b), .second, .val (.ref r7), .val (.ref r24), .val (.ref r41), .val (.int (-1)), .unset, .unset, .unset, .unset] C at_26 rfl <| g_goto 46 C at_28 (by decide) (by decide) <| g_aload C at_46 rfl rfl ?_
    have f67 := ((f10.keep K34).keep K53)
    have f68 := ((f11.keep K34 nin0).keep K53 nin0)
    have f69 := ((f12.keep K34 nin0).keep K53 nin0)
    have f70 := ((f19.keep K34).keep K53)
    have f71 := ((f20.keep K34 nin0).keep K53 nin0)
    have f72 := ((f21.keep K34 nin0).keep K53 nin0)
    have f73 := ((f22.keep K34).keep K53)
    have f74 := ((f23.keep K34 nin0).keep K53 nin0)
    refine g_invokevirtual [] [] 0 C at_48 (hW hw 168 rfl) (hW hw 169 rfl) (hW hw 171 rfl) (hW hw 170 rfl) (hW hw 2 rfl) (hW hw 172 rfl) (fun _ hZ => notFace_of_selects (args := #[]) (mvT hZ (hW hw 171 rfl))) (by decide) f67 (m_rsig l Z a0 hw _ _ _ (sg a) (mg a) _ f67 f68 f69 ⟨b18, f70, f71, f72, f73, f74⟩) (lenOf pd6 rfl) rfl rfl (bL rfl) (by decide) (by decide) (by decide) (by decide) all0 (fun v75 h76 L77 q78 K79 => ?_)
    obtain rfl := q78
    refine gA (mkF m_ 51 #[.val (.long a), .second, .val (.long b), .second, .val (.ref r7), .val (.ref r24), .val (.ref r41), .val (.int (-1)), .unset, .unset, .unset, .unset] [(.int (sg a))]) <| g_lloadN C at_51 rfl ?_
    refine g_invokestatic [(.long a)] [(.int (sg a))] 1 C at_52 (hW hw 173 rfl) (hW hw 174 rfl) (hW hw 175 rfl) (hW hw 176 rfl) (by decide) (m_sign l Z a0 hw a _) (lenOf pd27 rfl) rfl rfl (bL rfl) (by decide) (by decide) (by decide) (by decide) all0 (fun v80 h81 L82 q83 K84 => ?_)
    obtain rfl := q83
    refine gA (mkF m_ 55 #[.val (.long a), .second, .val (.long b), .second, .val (.ref r7), .val (.ref r24), .val (.ref r41), .val (.int (-1)), .unset, .unset, .unset, .unset] [(.int (sg a)), (.int (sg a))]) <| g_icmpF C at_55 (show (sg a) = (sg a) from rfl) <| g_iconst 1 C at_58 (by decide) <| g_goto 63 C at_59 (by decide) (by decide) <| g_istore #[.val (.long a), .second, .val (.long b), .second, .val (.ref r7), .val (.ref r24), .val (.ref r41), .val (.int (-1)), .val (.int 1), .unset, .unset, .unset] C at_63 rfl <| g_aload C at_65 rfl rfl <| g_aload C at_67 rfl rfl ?_
    have f85 := ((f67.keep K79).keep K84)
    have f86 := ((f68.keep K79 nin0).keep K84 nin0)
    have f87 := ((f69.keep K79 nin0).keep K84 nin0)
    have f88 := (((f27.keep K53).keep K79).keep K84)
    have f89 := (((f28.keep K53 nin0).keep K79 nin0).keep K84 nin0)
    have f90 := (((f29.keep K53 nin0).keep K79 nin0).keep K84 nin0)
    have f91 := ((f70.keep K79).keep K84)
    have f92 := ((f71.keep K79 nin0).keep K84 nin0)
    have f93 := ((f72.keep K79 nin0).keep K84 nin0)
    have f94 := ((f73.keep K79).keep K84)
    have f95 := ((f74.keep K79 nin0).keep K84 nin0)
    have f96 := (((((f2.keep K17).keep K34).keep K53).keep K79).keep K84)
    have f97 := (((((f3.keep K17 nin0).keep K34 nin0).keep K53 nin0).keep K79 nin0).keep K84 nin0)
    have f98 := (((((f4.keep K17 nin0).keep K34 nin0).keep K53 nin0).keep K79 nin0).keep K84 nin0)
    have f99 := (((((f5.keep K17).keep K34).keep K53).keep K79).keep K84)
    have f100 := (((((f6.keep K17 nin0).keep K34 nin0).keep K53 nin0).keep K79 nin0).keep K84 nin0)
    have f101 := (((f36.keep K53).keep K79).keep K84)
    have f102 := (((f37.keep K53 nin0).keep K79 nin0).keep K84 nin0)
    have f103 := (((f38.keep K53 nin0).keep K79 nin0).keep K84 nin0)
    have f104 := (((f39.keep K53).keep K79).keep K84)
    have f105 := (((f40.keep K53 nin0).keep K79 nin0).keep K84 nin0)
    refine g_invokevirtual [(.ref r24)] [] 0 C at_69 (hW hw 177 rfl) (hW hw 178 rfl) (hW hw 180 rfl) (hW hw 179 rfl) (hW hw 2 rfl) (hW hw 181 rfl) (fun _ hZ => notFace_of_selects (args := #[]) (mvT hZ (hW hw 180 rfl))) (by decide) f85 (m_rcmp l Z a0 hw _ _ _ _ _ _ (sg a) (sg b) (mg a) (mg b) _ (own_canon a).1 (own_canon b).1 f85 f86 f87 f88 f89 f90 ⟨b18, f91, f92, f93, f94, f95⟩ ⟨b1, f96, f97, f98, f99, f100⟩ ⟨b35, f101, f102, f103, f104, f105⟩ ⟨b1, f96, f97, f98, f99, f100⟩ ST) (lenOf pd28 rfl) rfl rfl (bL rfl) (by decide) (by decide) (by decide) (by decide) all0 (fun v106 h107 L108 q109 K110 => ?_)
    obtain rfl := q109
    rw [own_cmp, if_pos cc66]
    refine gA (mkF m_ 72 #[.val (.long a), .second, .val (.long b), .second, .val (.ref r7), .val (.ref r24), .val (.ref r41), .val (.int (-1)), .val (.int 1), .unset, .unset, .unset] [(.int (-1))]) ?_
    refine g_invokestatic [(.int (-1))] [] 0 C at_72 (hW hw 222 rfl) (hW hw 223 rfl) (hW hw 175 rfl) (hW hw 224 rfl) (by decide) (m_normn l Z a0 hw _) (lenOf pd0 rfl) rfl rfl (bL rfl) (by decide) (by decide) (by decide) (by decide) all0 (fun v111 h112 L113 q114 K115 => ?_)
    obtain rfl := q114
    refine gA (mkF m_ 75 #[.val (.long a), .second, .val (.long b), .second, .val (.ref r7), .val (.ref r24), .val (.ref r41), .val (.int (-1)), .val (.int 1), .unset, .unset, .unset] [(.int (-1))]) <| g_iload C at_75 rfl <| g_icmpF C at_77 (show (-1 : Int32) = (-1 : Int32) by decide) <| g_iconst 1 C at_80 (by decide) <| g_goto 85 C at_81 (by decide) (by decide) <| g_istore #[.val (.long a), .second, .val (.long b), .second, .val (.ref r7), .val (.ref r24), .val (.ref r41), .val (.int (-1)), .val (.int 1), .val (.int 1), .unset, .unset] C at_85 rfl <| g_aload C at_87 rfl rfl <| g_aload C at_89 rfl rfl ?_
    have f116 := ((f85.keep K110).keep K115)
    have f117 := ((f86.keep K110 nin0).keep K115 nin0)
    have f118 := ((f87.keep K110 nin0).keep K115 nin0)
    have f119 := ((f88.keep K110).keep K115)
    have f120 := ((f89.keep K110 nin0).keep K115 nin0)
    have f121 := ((f90.keep K110 nin0).keep K115 nin0)
    have f122 := ((f91.keep K110).keep K115)
    have f123 := ((f92.keep K110 nin0).keep K115 nin0)
    have f124 := ((f93.keep K110 nin0).keep K115 nin0)
    have f125 := ((f94.keep K110).keep K115)
    have f126 := ((f95.keep K110 nin0).keep K115 nin0)
    have f127 := ((f96.keep K110).keep K115)
    have f128 := ((f97.keep K110 nin0).keep K115 nin0)
    have f129 := ((f98.keep K110 nin0).keep K115 nin0)
    have f130 := ((f99.keep K110).keep K115)
    have f131 := ((f100.keep K110 nin0).keep K115 nin0)
    have f132 := ((f101.keep K110).keep K115)
    have f133 := ((f102.keep K110 nin0).keep K115 nin0)
    have f134 := ((f103.keep K110 nin0).keep K115 nin0)
    have f135 := ((f104.keep K110).keep K115)
    have f136 := ((f105.keep K110 nin0).keep K115 nin0)
    refine g_invokevirtual [(.ref r24)] [] 0 C at_91 (hW hw 225 rfl) (hW hw 226 rfl) (hW hw 228 rfl) (hW hw 227 rfl) (hW hw 2 rfl) (hW hw 229 rfl) (fun _ hZ => notFace_of_selects (args := #[]) (mvT hZ (hW hw 228 rfl))) (by decide) f116 (m_req l Z a0 hw _ _ _ _ _ _ (sg a) (sg b) (mg a) (mg b) _ (own_canon a).1 (own_canon b).1 f116 f117 f118 f119 f120 f121 ⟨b18, f122, f123, f124, f125, f126⟩ ⟨b1, f127, f128, f129, f130, f131⟩ ⟨b35, f132, f133, f134, f135, f136⟩ ⟨b1, f127, f128, f129, f130, f131⟩) (lenOf pd24 rfl) rfl rfl (bL rfl) (by decide) (by decide) (by decide) (by decide) all0 (fun v137 h138 L139 q140 K141 => ?_)
    obtain rfl := q140
    rw [own_eq, if_neg (own_lne cc66)]
    refine gA (mkF m_ 94 #[.val (.long a), .second, .val (.long b), .second, .val (.ref r7), .val (.ref r24), .val (.ref r41), .val (.int (-1)), .val (.int 1), .val (.int 1), .unset, .unset] [(.int 0)]) <| g_lloadN C at_94 rfl <| g_lloadN C at_95 rfl <| g_lcmp C at_96 <| g_ifT 104 C at_97 (cl_ne_t (own_lne cc66)) (by decide) (by decide) <| g_iconst 0 C at_104 (by decide) <| g_icmpF C at_105 (show (0 : Int32) = (0 : Int32) by decide) <| g_iconst 1 C at_108 (by decide) <| g_goto 113 C at_109 (by decide) (by decide) <| g_istore #[.val (.long a), .second, .val (.long b), .second, .val (.ref r7), .val (.ref r24), .val (.ref r41), .val (.int (-1)), .val (.int 1), .val (.int 1), .val (.int 1), .unset] C at_113 rfl <| g_aload C at_115 rfl rfl ?_
    refine g_aload C at_117 rfl rfl ?_
    have f142 := (f116.keep K141)
    have f143 := (f117.keep K141 nin0)
    have f144 := (f118.keep K141 nin0)
    have f145 := (((((f46.keep K79).keep K84).keep K110).keep K115).keep K141)
    have f146 := (((((f47.keep K79 nin0).keep K84 nin0).keep K110 nin0).keep K115 nin0).keep K141 nin0)
    have f147 := (((((f48.keep K79 nin0).keep K84 nin0).keep K110 nin0).keep K115 nin0).keep K141 nin0)
    have f148 := (f122.keep K141)
    have f149 := (f123.keep K141 nin0)
    have f150 := (f124.keep K141 nin0)
    have f151 := (f125.keep K141)
    have f152 := (f126.keep K141 nin0)
    have f153 := (f127.keep K141)
    have f154 := (f128.keep K141 nin0)
    have f155 := (f129.keep K141 nin0)
    have f156 := (f130.keep K141)
    have f157 := (f131.keep K141 nin0)
    have f158 := (((((f55.keep K79).keep K84).keep K110).keep K115).keep K141)
    have f159 := (((((f56.keep K79 nin0).keep K84 nin0).keep K110 nin0).keep K115 nin0).keep K141 nin0)
    have f160 := (((((f57.keep K79 nin0).keep K84 nin0).keep K110 nin0).keep K115 nin0).keep K141 nin0)
    have f161 := (((((f58.keep K79).keep K84).keep K110).keep K115).keep K141)
    have f162 := (((((f59.keep K79 nin0).keep K84 nin0).keep K110 nin0).keep K115 nin0).keep K141 nin0)
    have f163 := (((((f61.keep K79).keep K84).keep K110).keep K115).keep K141)
    have f164 := (((((f62.keep K79 nin0).keep K84 nin0).keep K110 nin0).keep K115 nin0).keep K141 nin0)
    have f165 := (((((f63.keep K79 nin0).keep K84 nin0).keep K110 nin0).keep K115 nin0).keep K141 nin0)
    have f166 := (((((f64.keep K79).keep K84).keep K110).keep K115).keep K141)
    have f167 := (((((f65.keep K79 nin0).keep K84 nin0).keep K110 nin0).keep K115 nin0).keep K141 nin0)
    refine g_invokevirtual [(.ref r41)] [] 0 C at_119 (hW hw 225 rfl) (hW hw 226 rfl) (hW hw 228 rfl) (hW hw 227 rfl) (hW hw 2 rfl) (hW hw 229 rfl) (fun _ hZ => notFace_of_selects (args := #[]) (mvT hZ (hW hw 228 rfl))) (by decide) f142 (m_req l Z a0 hw _ _ _ _ _ _ (sg a) (sg a) (mg a) (mg a) _ (own_canon a).1 (own_canon a).1 f142 f143 f144 f145 f146 f147 ⟨b18, f148, f149, f150, f151, f152⟩ ⟨b1, f153, f154, f155, f156, f157⟩ ⟨b54, f158, f159, f160, f161, f162⟩ ⟨b60, f163, f164, f165, f166, f167⟩) (lenOf pd24 rfl) rfl rfl (bL rfl) (by decide) (by decide) (by decide) (by decide) all0 (fun v168 h169 L170 q171 K172 => ?_)
    obtain rfl := q171
    rw [own_eself]
    refine gA (mkF m_ 122 #[.val (.long a), .second, .val (.long b), .second, .val (.ref r7), .val (.ref r24), .val (.ref r41), .val (.int (-1)), .val (.int 1), .val (.int 1), .val (.int 1), .unset] [(.int 1)]) <| g_istore #[.val (.long a), .second, .val (.long b), .second, .val (.ref r7), .val (.ref r24), .val (.ref r41), .val (.int (-1)), .val (.int 1), .val (.int 1), .val (.int 1), .val (.int 1)] C at_122 rfl <| g_iload C at_124 rfl <| g_ifF C at_126 (show ¬ (1 : Int32) = (0 : Int32) by decide) <| g_iload C at_129 rfl <| g_ifF C at_131 (show ¬ (1 : Int32) = (0 : Int32) by decide) <| g_iload C at_134 rfl <| g_ifF C at_136 (show ¬ (1 : Int32) = (0 : Int32) by decide) <| g_iload C at_139 rfl <| g_ifF C at_141 (show ¬ (1 : Int32) = (0 : Int32) by decide) <| g_iconst 1 C at_144 (by decide) ?_
    refine g_goto 149 C at_145 (by decide) (by decide) ?_
    exact g_retN C at_149 (by simp) rfl (by decide) (by decide)
  · refine g_ifT 31 C at_22 (cl_ge_t cc66) (by decide) (by decide) ?_
    refine g_lloadN C at_31 rfl <| g_lloadN C at_32 rfl <| g_lcmp C at_33 ?_
    by_cases cc173 : a = b
    · refine g_ifF C at_34 (cl_ne_f cc173) ?_
      refine g_iconst 0 C at_37 (by decide) <| g_istore #[.val (.long a), .second, .val (.long b), .second, .val (.ref r7), .val (.ref r24), .val (.ref r41), .val (.int 0), .unset, .unset, .unset, .unset] C at_38 rfl <| g_goto 46 C at_40 (by decide) (by decide) <| g_aload C at_46 rfl rfl ?_
      have f174 := ((f10.keep K34).keep K53)
      have f175 := ((f11.keep K34 nin0).keep K53 nin0)
      have f176 := ((f12.keep K34 nin0).keep K53 nin0)
      have f177 := ((f19.keep K34).keep K53)
      have f178 := ((f20.keep K34 nin0).keep K53 nin0)
      have f179 := ((f21.keep K34 nin0).keep K53 nin0)
      have f180 := ((f22.keep K34).keep K53)
      have f181 := ((f23.keep K34 nin0).keep K53 nin0)
      refine g_invokevirtual [] [] 0 C at_48 (hW hw 168 rfl) (hW hw 169 rfl) (hW hw 171 rfl) (hW hw 170 rfl) (hW hw 2 rfl) (hW hw 172 rfl) (fun _ hZ => notFace_of_selects (args := #[]) (mvT hZ (hW hw 171 rfl))) (by decide) f174 (m_rsig l Z a0 hw _ _ _ (sg a) (mg a) _ f174 f175 f176 ⟨b18, f177, f178, f179, f180, f181⟩) (lenOf pd6 rfl) rfl rfl (bL rfl) (by decide) (by decide) (by decide) (by decide) all0 (fun v182 h183 L184 q185 K186 => ?_)
      obtain rfl := q185
      refine gA (mkF m_ 51 #[.val (.long a), .second, .val (.long b), .second, .val (.ref r7), .val (.ref r24), .val (.ref r41), .val (.int 0), .unset, .unset, .unset, .unset] [(.int (sg a))]) <| g_lloadN C at_51 rfl ?_
      refine g_invokestatic [(.long a)] [(.int (sg a))] 1 C at_52 (hW hw 173 rfl) (hW hw 174 rfl) (hW hw 175 rfl) (hW hw 176 rfl) (by decide) (m_sign l Z a0 hw a _) (lenOf pd27 rfl) rfl rfl (bL rfl) (by decide) (by decide) (by decide) (by decide) all0 (fun v187 h188 L189 q190 K191 => ?_)
      obtain rfl := q190
      refine gA (mkF m_ 55 #[.val (.long a), .second, .val (.long b), .second, .val (.ref r7), .val (.ref r24), .val (.ref r41), .val (.int 0), .unset, .unset, .unset, .unset] [(.int (sg a)), (.int (sg a))]) <| g_icmpF C at_55 (show (sg a) = (sg a) from rfl) <| g_iconst 1 C at_58 (by decide) <| g_goto 63 C at_59 (by decide) (by decide) <| g_istore #[.val (.long a), .second, .val (.long b), .second, .val (.ref r7), .val (.ref r24), .val (.ref r41), .val (.int 0), .val (.int 1), .unset, .unset, .unset] C at_63 rfl <| g_aload C at_65 rfl rfl <| g_aload C at_67 rfl rfl ?_
      have f192 := ((f174.keep K186).keep K191)
      have f193 := ((f175.keep K186 nin0).keep K191 nin0)
      have f194 := ((f176.keep K186 nin0).keep K191 nin0)
      have f195 := (((f27.keep K53).keep K186).keep K191)
      have f196 := (((f28.keep K53 nin0).keep K186 nin0).keep K191 nin0)
      have f197 := (((f29.keep K53 nin0).keep K186 nin0).keep K191 nin0)
      have f198 := ((f177.keep K186).keep K191)
      have f199 := ((f178.keep K186 nin0).keep K191 nin0)
      have f200 := ((f179.keep K186 nin0).keep K191 nin0)
      have f201 := ((f180.keep K186).keep K191)
      have f202 := ((f181.keep K186 nin0).keep K191 nin0)
      have f203 := (((((f2.keep K17).keep K34).keep K53).keep K186).keep K191)
      have f204 := (((((f3.keep K17 nin0).keep K34 nin0).keep K53 nin0).keep K186 nin0).keep K191 nin0)
      have f205 := (((((f4.keep K17 nin0).keep K34 nin0).keep K53 nin0).keep K186 nin0).keep K191 nin0)
      have f206 := (((((f5.keep K17).keep K34).keep K53).keep K186).keep K191)
      have f207 := (((((f6.keep K17 nin0).keep K34 nin0).keep K53 nin0).keep K186 nin0).keep K191 nin0)
      have f208 := (((f36.keep K53).keep K186).keep K191)
      have f209 := (((f37.keep K53 nin0).keep K186 nin0).keep K191 nin0)
      have f210 := (((f38.keep K53 nin0).keep K186 nin0).keep K191 nin0)
      have f211 := (((f39.keep K53).keep K186).keep K191)
      have f212 := (((f40.keep K53 nin0).keep K186 nin0).keep K191 nin0)
      refine g_invokevirtual [(.ref r24)] [] 0 C at_69 (hW hw 177 rfl) (hW hw 178 rfl) (hW hw 180 rfl) (hW hw 179 rfl) (hW hw 2 rfl) (hW hw 181 rfl) (fun _ hZ => notFace_of_selects (args := #[]) (mvT hZ (hW hw 180 rfl))) (by decide) f192 (m_rcmp l Z a0 hw _ _ _ _ _ _ (sg a) (sg b) (mg a) (mg b) _ (own_canon a).1 (own_canon b).1 f192 f193 f194 f195 f196 f197 ⟨b18, f198, f199, f200, f201, f202⟩ ⟨b1, f203, f204, f205, f206, f207⟩ ⟨b35, f208, f209, f210, f211, f212⟩ ⟨b1, f203, f204, f205, f206, f207⟩ ST) (lenOf pd28 rfl) rfl rfl (bL rfl) (by decide) (by decide) (by decide) (by decide) all0 (fun v213 h214 L215 q216 K217 => ?_)
      obtain rfl := q216
      rw [own_cmp, if_neg cc66, if_pos cc173]
      refine gA (mkF m_ 72 #[.val (.long a), .second, .val (.long b), .second, .val (.ref r7), .val (.ref r24), .val (.ref r41), .val (.int 0), .val (.int 1), .unset, .unset, .unset] [(.int 0)]) ?_
      refine g_invokestatic [(.int 0)] [] 0 C at_72 (hW hw 222 rfl) (hW hw 223 rfl) (hW hw 175 rfl) (hW hw 224 rfl) (by decide) (m_normz l Z a0 hw _) (lenOf pd0 rfl) rfl rfl (bL rfl) (by decide) (by decide) (by decide) (by decide) all0 (fun v218 h219 L220 q221 K222 => ?_)
      obtain rfl := q221
      refine gA (mkF m_ 75 #[.val (.long a), .second, .val (.long b), .second, .val (.ref r7), .val (.ref r24), .val (.ref r41), .val (.int 0), .val (.int 1), .unset, .unset, .unset] [(.int 0)]) <| g_iload C at_75 rfl <| g_icmpF C at_77 (show (0 : Int32) = (0 : Int32) by decide) <| g_iconst 1 C at_80 (by decide) <| g_goto 85 C at_81 (by decide) (by decide) <| g_istore #[.val (.long a), .second, .val (.long b), .second, .val (.ref r7), .val (.ref r24), .val (.ref r41), .val (.int 0), .val (.int 1), .val (.int 1), .unset, .unset] C at_85 rfl <| g_aload C at_87 rfl rfl <| g_aload C at_89 rfl rfl ?_
      have f223 := ((f192.keep K217).keep K222)
      have f224 := ((f193.keep K217 nin0).keep K222 nin0)
      have f225 := ((f194.keep K217 nin0).keep K222 nin0)
      have f226 := ((f195.keep K217).keep K222)
      have f227 := ((f196.keep K217 nin0).keep K222 nin0)
      have f228 := ((f197.keep K217 nin0).keep K222 nin0)
      have f229 := ((f198.keep K217).keep K222)
      have f230 := ((f199.keep K217 nin0).keep K222 nin0)
      have f231 := ((f200.keep K217 nin0).keep K222 nin0)
      have f232 := ((f201.keep K217).keep K222)
      have f233 := ((f202.keep K217 nin0).keep K222 nin0)
      have f234 := ((f203.keep K217).keep K222)
      have f235 := ((f204.keep K217 nin0).keep K222 nin0)
      have f236 := ((f205.keep K217 nin0).keep K222 nin0)
      have f237 := ((f206.keep K217).keep K222)
      have f238 := ((f207.keep K217 nin0).keep K222 nin0)
      have f239 := ((f208.keep K217).keep K222)
      have f240 := ((f209.keep K217 nin0).keep K222 nin0)
      have f241 := ((f210.keep K217 nin0).keep K222 nin0)
      have f242 := ((f211.keep K217).keep K222)
      have f243 := ((f212.keep K217 nin0).keep K222 nin0)
      refine g_invokevirtual [(.ref r24)] [] 0 C at_91 (hW hw 225 rfl) (hW hw 226 rfl) (hW hw 228 rfl) (hW hw 227 rfl) (hW hw 2 rfl) (hW hw 229 rfl) (fun _ hZ => notFace_of_selects (args := #[]) (mvT hZ (hW hw 228 rfl))) (by decide) f223 (m_req l Z a0 hw _ _ _ _ _ _ (sg a) (sg b) (mg a) (mg b) _ (own_canon a).1 (own_canon b).1 f223 f224 f225 f226 f227 f228 ⟨b18, f229, f230, f231, f232, f233⟩ ⟨b1, f234, f235, f236, f237, f238⟩ ⟨b35, f239, f240, f241, f242, f243⟩ ⟨b1, f234, f235, f236, f237, f238⟩) (lenOf pd24 rfl) rfl rfl (bL rfl) (by decide) (by decide) (by decide) (by decide) all0 (fun v244 h245 L246 q247 K248 => ?_)
      obtain rfl := q247
      rw [own_eq, if_pos cc173]
      refine gA (mkF m_ 94 #[.val (.long a), .second, .val (.long b), .second, .val (.ref r7), .val (.ref r24), .val (.ref r41), .val (.int 0), .val (.int 1), .val (.int 1), .unset, .unset] [(.int 1)]) <| g_lloadN C at_94 rfl <| g_lloadN C at_95 rfl <| g_lcmp C at_96 <| g_ifF C at_97 (cl_ne_f cc173) <| g_iconst 1 C at_100 (by decide) <| g_goto 105 C at_101 (by decide) (by decide) <| g_icmpF C at_105 (show (1 : Int32) = (1 : Int32) by decide) <| g_iconst 1 C at_108 (by decide) <| g_goto 113 C at_109 (by decide) (by decide) <| g_istore #[.val (.long a), .second, .val (.long b), .second, .val (.ref r7), .val (.ref r24), .val (.ref r41), .val (.int 0), .val (.int 1), .val (.int 1), .val (.int 1), .unset] C at_113 rfl ?_
      refine g_aload C at_115 rfl rfl <| g_aload C at_117 rfl rfl ?_
      have f249 := (f223.keep K248)
      have f250 := (f224.keep K248 nin0)
      have f251 := (f225.keep K248 nin0)
      have f252 := (((((f46.keep K186).keep K191).keep K217).keep K222).keep K248)
      have f253 := (((((f47.keep K186 nin0).keep K191 nin0).keep K217 nin0).keep K222 nin0).keep K248 nin0)
      have f254 := (((((f48.keep K186 nin0).keep K191 nin0).keep K217 nin0).keep K222 nin0).keep K248 nin0)
      have f255 := (f229.keep K248)
      have f256 := (f230.keep K248 nin0)
      have f257 := (f231.keep K248 nin0)
      have f258 := (f232.keep K248)
      have f259 := (f233.keep K248 nin0)
      have f260 := (f234.keep K248)
      have f261 := (f235.keep K248 nin0)
      have f262 := (f236.keep K248 nin0)
      have f263 := (f237.keep K248)
      have f264 := (f238.keep K248 nin0)
      have f265 := (((((f55.keep K186).keep K191).keep K217).keep K222).keep K248)
      have f266 := (((((f56.keep K186 nin0).keep K191 nin0).keep K217 nin0).keep K222 nin0).keep K248 nin0)
      have f267 := (((((f57.keep K186 nin0).keep K191 nin0).keep K217 nin0).keep K222 nin0).keep K248 nin0)
      have f268 := (((((f58.keep K186).keep K191).keep K217).keep K222).keep K248)
      have f269 := (((((f59.keep K186 nin0).keep K191 nin0).keep K217 nin0).keep K222 nin0).keep K248 nin0)
      have f270 := (((((f61.keep K186).keep K191).keep K217).keep K222).keep K248)
      have f271 := (((((f62.keep K186 nin0).keep K191 nin0).keep K217 nin0).keep K222 nin0).keep K248 nin0)
      have f272 := (((((f63.keep K186 nin0).keep K191 nin0).keep K217 nin0).keep K222 nin0).keep K248 nin0)
      have f273 := (((((f64.keep K186).keep K191).keep K217).keep K222).keep K248)
      have f274 := (((((f65.keep K186 nin0).keep K191 nin0).keep K217 nin0).keep K222 nin0).keep K248 nin0)
      refine g_invokevirtual [(.ref r41)] [] 0 C at_119 (hW hw 225 rfl) (hW hw 226 rfl) (hW hw 228 rfl) (hW hw 227 rfl) (hW hw 2 rfl) (hW hw 229 rfl) (fun _ hZ => notFace_of_selects (args := #[]) (mvT hZ (hW hw 228 rfl))) (by decide) f249 (m_req l Z a0 hw _ _ _ _ _ _ (sg a) (sg a) (mg a) (mg a) _ (own_canon a).1 (own_canon a).1 f249 f250 f251 f252 f253 f254 ⟨b18, f255, f256, f257, f258, f259⟩ ⟨b1, f260, f261, f262, f263, f264⟩ ⟨b54, f265, f266, f267, f268, f269⟩ ⟨b60, f270, f271, f272, f273, f274⟩) (lenOf pd24 rfl) rfl rfl (bL rfl) (by decide) (by decide) (by decide) (by decide) all0 (fun v275 h276 L277 q278 K279 => ?_)
      obtain rfl := q278
      rw [own_eself]
      refine gA (mkF m_ 122 #[.val (.long a), .second, .val (.long b), .second, .val (.ref r7), .val (.ref r24), .val (.ref r41), .val (.int 0), .val (.int 1), .val (.int 1), .val (.int 1), .unset] [(.int 1)]) <| g_istore #[.val (.long a), .second, .val (.long b), .second, .val (.ref r7), .val (.ref r24), .val (.ref r41), .val (.int 0), .val (.int 1), .val (.int 1), .val (.int 1), .val (.int 1)] C at_122 rfl <| g_iload C at_124 rfl <| g_ifF C at_126 (show ¬ (1 : Int32) = (0 : Int32) by decide) <| g_iload C at_129 rfl <| g_ifF C at_131 (show ¬ (1 : Int32) = (0 : Int32) by decide) <| g_iload C at_134 rfl <| g_ifF C at_136 (show ¬ (1 : Int32) = (0 : Int32) by decide) <| g_iload C at_139 rfl <| g_ifF C at_141 (show ¬ (1 : Int32) = (0 : Int32) by decide) <| g_iconst 1 C at_144 (by decide) ?_
      refine g_goto 149 C at_145 (by decide) (by decide) ?_
      exact g_retN C at_149 (by simp) rfl (by decide) (by decide)
    · refine g_ifT 43 C at_34 (cl_ne_t cc173) (by decide) (by decide) ?_
      refine g_iconst 1 C at_43 (by decide) <| g_istore #[.val (.long a), .second, .val (.long b), .second, .val (.ref r7), .val (.ref r24), .val (.ref r41), .val (.int 1), .unset, .unset, .unset, .unset] C at_44 rfl <| g_aload C at_46 rfl rfl ?_
      have f280 := ((f10.keep K34).keep K53)
      have f281 := ((f11.keep K34 nin0).keep K53 nin0)
      have f282 := ((f12.keep K34 nin0).keep K53 nin0)
      have f283 := ((f19.keep K34).keep K53)
      have f284 := ((f20.keep K34 nin0).keep K53 nin0)
      have f285 := ((f21.keep K34 nin0).keep K53 nin0)
      have f286 := ((f22.keep K34).keep K53)
      have f287 := ((f23.keep K34 nin0).keep K53 nin0)
      refine g_invokevirtual [] [] 0 C at_48 (hW hw 168 rfl) (hW hw 169 rfl) (hW hw 171 rfl) (hW hw 170 rfl) (hW hw 2 rfl) (hW hw 172 rfl) (fun _ hZ => notFace_of_selects (args := #[]) (mvT hZ (hW hw 171 rfl))) (by decide) f280 (m_rsig l Z a0 hw _ _ _ (sg a) (mg a) _ f280 f281 f282 ⟨b18, f283, f284, f285, f286, f287⟩) (lenOf pd6 rfl) rfl rfl (bL rfl) (by decide) (by decide) (by decide) (by decide) all0 (fun v288 h289 L290 q291 K292 => ?_)
      obtain rfl := q291
      refine gA (mkF m_ 51 #[.val (.long a), .second, .val (.long b), .second, .val (.ref r7), .val (.ref r24), .val (.ref r41), .val (.int 1), .unset, .unset, .unset, .unset] [(.int (sg a))]) <| g_lloadN C at_51 rfl ?_
      refine g_invokestatic [(.long a)] [(.int (sg a))] 1 C at_52 (hW hw 173 rfl) (hW hw 174 rfl) (hW hw 175 rfl) (hW hw 176 rfl) (by decide) (m_sign l Z a0 hw a _) (lenOf pd27 rfl) rfl rfl (bL rfl) (by decide) (by decide) (by decide) (by decide) all0 (fun v293 h294 L295 q296 K297 => ?_)
      obtain rfl := q296
      refine gA (mkF m_ 55 #[.val (.long a), .second, .val (.long b), .second, .val (.ref r7), .val (.ref r24), .val (.ref r41), .val (.int 1), .unset, .unset, .unset, .unset] [(.int (sg a)), (.int (sg a))]) <| g_icmpF C at_55 (show (sg a) = (sg a) from rfl) <| g_iconst 1 C at_58 (by decide) <| g_goto 63 C at_59 (by decide) (by decide) <| g_istore #[.val (.long a), .second, .val (.long b), .second, .val (.ref r7), .val (.ref r24), .val (.ref r41), .val (.int 1), .val (.int 1), .unset, .unset, .unset] C at_63 rfl <| g_aload C at_65 rfl rfl <| g_aload C at_67 rfl rfl ?_
      have f298 := ((f280.keep K292).keep K297)
      have f299 := ((f281.keep K292 nin0).keep K297 nin0)
      have f300 := ((f282.keep K292 nin0).keep K297 nin0)
      have f301 := (((f27.keep K53).keep K292).keep K297)
      have f302 := (((f28.keep K53 nin0).keep K292 nin0).keep K297 nin0)
      have f303 := (((f29.keep K53 nin0).keep K292 nin0).keep K297 nin0)
      have f304 := ((f283.keep K292).keep K297)
      have f305 := ((f284.keep K292 nin0).keep K297 nin0)
      have f306 := ((f285.keep K292 nin0).keep K297 nin0)
      have f307 := ((f286.keep K292).keep K297)
      have f308 := ((f287.keep K292 nin0).keep K297 nin0)
      have f309 := (((((f2.keep K17).keep K34).keep K53).keep K292).keep K297)
      have f310 := (((((f3.keep K17 nin0).keep K34 nin0).keep K53 nin0).keep K292 nin0).keep K297 nin0)
      have f311 := (((((f4.keep K17 nin0).keep K34 nin0).keep K53 nin0).keep K292 nin0).keep K297 nin0)
      have f312 := (((((f5.keep K17).keep K34).keep K53).keep K292).keep K297)
      have f313 := (((((f6.keep K17 nin0).keep K34 nin0).keep K53 nin0).keep K292 nin0).keep K297 nin0)
      have f314 := (((f36.keep K53).keep K292).keep K297)
      have f315 := (((f37.keep K53 nin0).keep K292 nin0).keep K297 nin0)
      have f316 := (((f38.keep K53 nin0).keep K292 nin0).keep K297 nin0)
      have f317 := (((f39.keep K53).keep K292).keep K297)
      have f318 := (((f40.keep K53 nin0).keep K292 nin0).keep K297 nin0)
      refine g_invokevirtual [(.ref r24)] [] 0 C at_69 (hW hw 177 rfl) (hW hw 178 rfl) (hW hw 180 rfl) (hW hw 179 rfl) (hW hw 2 rfl) (hW hw 181 rfl) (fun _ hZ => notFace_of_selects (args := #[]) (mvT hZ (hW hw 180 rfl))) (by decide) f298 (m_rcmp l Z a0 hw _ _ _ _ _ _ (sg a) (sg b) (mg a) (mg b) _ (own_canon a).1 (own_canon b).1 f298 f299 f300 f301 f302 f303 ⟨b18, f304, f305, f306, f307, f308⟩ ⟨b1, f309, f310, f311, f312, f313⟩ ⟨b35, f314, f315, f316, f317, f318⟩ ⟨b1, f309, f310, f311, f312, f313⟩ ST) (lenOf pd28 rfl) rfl rfl (bL rfl) (by decide) (by decide) (by decide) (by decide) all0 (fun v319 h320 L321 q322 K323 => ?_)
      obtain rfl := q322
      rw [own_cmp, if_neg cc66, if_neg cc173]
      refine gA (mkF m_ 72 #[.val (.long a), .second, .val (.long b), .second, .val (.ref r7), .val (.ref r24), .val (.ref r41), .val (.int 1), .val (.int 1), .unset, .unset, .unset] [(.int 1)]) ?_
      refine g_invokestatic [(.int 1)] [] 0 C at_72 (hW hw 222 rfl) (hW hw 223 rfl) (hW hw 175 rfl) (hW hw 224 rfl) (by decide) (m_normp l Z a0 hw _) (lenOf pd0 rfl) rfl rfl (bL rfl) (by decide) (by decide) (by decide) (by decide) all0 (fun v324 h325 L326 q327 K328 => ?_)
      obtain rfl := q327
      refine gA (mkF m_ 75 #[.val (.long a), .second, .val (.long b), .second, .val (.ref r7), .val (.ref r24), .val (.ref r41), .val (.int 1), .val (.int 1), .unset, .unset, .unset] [(.int 1)]) <| g_iload C at_75 rfl <| g_icmpF C at_77 (show (1 : Int32) = (1 : Int32) by decide) <| g_iconst 1 C at_80 (by decide) <| g_goto 85 C at_81 (by decide) (by decide) <| g_istore #[.val (.long a), .second, .val (.long b), .second, .val (.ref r7), .val (.ref r24), .val (.ref r41), .val (.int 1), .val (.int 1), .val (.int 1), .unset, .unset] C at_85 rfl <| g_aload C at_87 rfl rfl <| g_aload C at_89 rfl rfl ?_
      have f329 := ((f298.keep K323).keep K328)
      have f330 := ((f299.keep K323 nin0).keep K328 nin0)
      have f331 := ((f300.keep K323 nin0).keep K328 nin0)
      have f332 := ((f301.keep K323).keep K328)
      have f333 := ((f302.keep K323 nin0).keep K328 nin0)
      have f334 := ((f303.keep K323 nin0).keep K328 nin0)
      have f335 := ((f304.keep K323).keep K328)
      have f336 := ((f305.keep K323 nin0).keep K328 nin0)
      have f337 := ((f306.keep K323 nin0).keep K328 nin0)
      have f338 := ((f307.keep K323).keep K328)
      have f339 := ((f308.keep K323 nin0).keep K328 nin0)
      have f340 := ((f309.keep K323).keep K328)
      have f341 := ((f310.keep K323 nin0).keep K328 nin0)
      have f342 := ((f311.keep K323 nin0).keep K328 nin0)
      have f343 := ((f312.keep K323).keep K328)
      have f344 := ((f313.keep K323 nin0).keep K328 nin0)
      have f345 := ((f314.keep K323).keep K328)
      have f346 := ((f315.keep K323 nin0).keep K328 nin0)
      have f347 := ((f316.keep K323 nin0).keep K328 nin0)
      have f348 := ((f317.keep K323).keep K328)
      have f349 := ((f318.keep K323 nin0).keep K328 nin0)
      refine g_invokevirtual [(.ref r24)] [] 0 C at_91 (hW hw 225 rfl) (hW hw 226 rfl) (hW hw 228 rfl) (hW hw 227 rfl) (hW hw 2 rfl) (hW hw 229 rfl) (fun _ hZ => notFace_of_selects (args := #[]) (mvT hZ (hW hw 228 rfl))) (by decide) f329 (m_req l Z a0 hw _ _ _ _ _ _ (sg a) (sg b) (mg a) (mg b) _ (own_canon a).1 (own_canon b).1 f329 f330 f331 f332 f333 f334 ⟨b18, f335, f336, f337, f338, f339⟩ ⟨b1, f340, f341, f342, f343, f344⟩ ⟨b35, f345, f346, f347, f348, f349⟩ ⟨b1, f340, f341, f342, f343, f344⟩) (lenOf pd24 rfl) rfl rfl (bL rfl) (by decide) (by decide) (by decide) (by decide) all0 (fun v350 h351 L352 q353 K354 => ?_)
      obtain rfl := q353
      rw [own_eq, if_neg cc173]
      refine gA (mkF m_ 94 #[.val (.long a), .second, .val (.long b), .second, .val (.ref r7), .val (.ref r24), .val (.ref r41), .val (.int 1), .val (.int 1), .val (.int 1), .unset, .unset] [(.int 0)]) <| g_lloadN C at_94 rfl <| g_lloadN C at_95 rfl <| g_lcmp C at_96 <| g_ifT 104 C at_97 (cl_ne_t cc173) (by decide) (by decide) <| g_iconst 0 C at_104 (by decide) <| g_icmpF C at_105 (show (0 : Int32) = (0 : Int32) by decide) <| g_iconst 1 C at_108 (by decide) <| g_goto 113 C at_109 (by decide) (by decide) <| g_istore #[.val (.long a), .second, .val (.long b), .second, .val (.ref r7), .val (.ref r24), .val (.ref r41), .val (.int 1), .val (.int 1), .val (.int 1), .val (.int 1), .unset] C at_113 rfl <| g_aload C at_115 rfl rfl ?_
      refine g_aload C at_117 rfl rfl ?_
      have f355 := (f329.keep K354)
      have f356 := (f330.keep K354 nin0)
      have f357 := (f331.keep K354 nin0)
      have f358 := (((((f46.keep K292).keep K297).keep K323).keep K328).keep K354)
      have f359 := (((((f47.keep K292 nin0).keep K297 nin0).keep K323 nin0).keep K328 nin0).keep K354 nin0)
      have f360 := (((((f48.keep K292 nin0).keep K297 nin0).keep K323 nin0).keep K328 nin0).keep K354 nin0)
      have f361 := (f335.keep K354)
      have f362 := (f336.keep K354 nin0)
      have f363 := (f337.keep K354 nin0)
      have f364 := (f338.keep K354)
      have f365 := (f339.keep K354 nin0)
      have f366 := (f340.keep K354)
      have f367 := (f341.keep K354 nin0)
      have f368 := (f342.keep K354 nin0)
      have f369 := (f343.keep K354)
      have f370 := (f344.keep K354 nin0)
      have f371 := (((((f55.keep K292).keep K297).keep K323).keep K328).keep K354)
      have f372 := (((((f56.keep K292 nin0).keep K297 nin0).keep K323 nin0).keep K328 nin0).keep K354 nin0)
      have f373 := (((((f57.keep K292 nin0).keep K297 nin0).keep K323 nin0).keep K328 nin0).keep K354 nin0)
      have f374 := (((((f58.keep K292).keep K297).keep K323).keep K328).keep K354)
      have f375 := (((((f59.keep K292 nin0).keep K297 nin0).keep K323 nin0).keep K328 nin0).keep K354 nin0)
      have f376 := (((((f61.keep K292).keep K297).keep K323).keep K328).keep K354)
      have f377 := (((((f62.keep K292 nin0).keep K297 nin0).keep K323 nin0).keep K328 nin0).keep K354 nin0)
      have f378 := (((((f63.keep K292 nin0).keep K297 nin0).keep K323 nin0).keep K328 nin0).keep K354 nin0)
      have f379 := (((((f64.keep K292).keep K297).keep K323).keep K328).keep K354)
      have f380 := (((((f65.keep K292 nin0).keep K297 nin0).keep K323 nin0).keep K328 nin0).keep K354 nin0)
      refine g_invokevirtual [(.ref r41)] [] 0 C at_119 (hW hw 225 rfl) (hW hw 226 rfl) (hW hw 228 rfl) (hW hw 227 rfl) (hW hw 2 rfl) (hW hw 229 rfl) (fun _ hZ => notFace_of_selects (args := #[]) (mvT hZ (hW hw 228 rfl))) (by decide) f355 (m_req l Z a0 hw _ _ _ _ _ _ (sg a) (sg a) (mg a) (mg a) _ (own_canon a).1 (own_canon a).1 f355 f356 f357 f358 f359 f360 ⟨b18, f361, f362, f363, f364, f365⟩ ⟨b1, f366, f367, f368, f369, f370⟩ ⟨b54, f371, f372, f373, f374, f375⟩ ⟨b60, f376, f377, f378, f379, f380⟩) (lenOf pd24 rfl) rfl rfl (bL rfl) (by decide) (by decide) (by decide) (by decide) all0 (fun v381 h382 L383 q384 K385 => ?_)
      obtain rfl := q384
      rw [own_eself]
      refine gA (mkF m_ 122 #[.val (.long a), .second, .val (.long b), .second, .val (.ref r7), .val (.ref r24), .val (.ref r41), .val (.int 1), .val (.int 1), .val (.int 1), .val (.int 1), .unset] [(.int 1)]) <| g_istore #[.val (.long a), .second, .val (.long b), .second, .val (.ref r7), .val (.ref r24), .val (.ref r41), .val (.int 1), .val (.int 1), .val (.int 1), .val (.int 1), .val (.int 1)] C at_122 rfl <| g_iload C at_124 rfl <| g_ifF C at_126 (show ¬ (1 : Int32) = (0 : Int32) by decide) <| g_iload C at_129 rfl <| g_ifF C at_131 (show ¬ (1 : Int32) = (0 : Int32) by decide) <| g_iload C at_134 rfl <| g_ifF C at_136 (show ¬ (1 : Int32) = (0 : Int32) by decide) <| g_iload C at_139 rfl <| g_ifF C at_141 (show ¬ (1 : Int32) = (0 : Int32) by decide) <| g_iconst 1 C at_144 (by decide) ?_
      refine g_goto 149 C at_145 (by decide) (by decide) ?_
      exact g_retN C at_149 (by simp) rfl (by decide) (by decide)
set_option maxRecDepth 65536 in
set_option maxHeartbeats 40000000 in
theorem comes_1 {Post : Tables → Env → Array Value → State → Outcome → State → Prop} (hpost : ∀ tb e args s v u, (limb_1_1.after args s (.returned v) u = true ∧ limb_1_2.after args s (.returned v) u = true ∧ True) → FrameEnd s (.returned v) u (Jvm.fieldLocs frame_1_writes args s ++ Jvm.arrayLocs frame_1_arrays args s ++ Jvm.staticLocs frame_1_statics s) 80 320 → Post tb e args s (.returned v) u) :
    ArmFor flags0 classFile x code maxLocals ret World_1 tables_1 room_1 Calls_1 rest_1 Pre_1 Post := by
  intro l hfl _ _ p e ha hc hk s m args below hf hA hF happ hP
  obtain ⟨hcalls, hrest, hpre⟩ := hP
  obtain ⟨-, -, -, hnamed, -, -, -, hat⟩ := (Spec.applies_iff hf).mp happ
  obtain ⟨hg, hn⟩ := and_e (Cond.before_iff.mp (show (Jvm.Cond.and given_1 narrow_1).before args s = true from hpre))
  obtain ⟨h1, h2⟩ := and_e hg
  obtain ⟨g0, g1⟩ := and_e h2
  obtain ⟨w0, w1, rfl⟩ : ∃ w0 w1 : Value, args = #[w0, w1] := by
    have hs : args.size = 2 := by simpa [Cond.value, given_1] using h1
    obtain ⟨L⟩ := args
    match L, hs with
    | [w0, w1], _ => exact ⟨w0, w1, rfl⟩
  have hw := fun d (hd : d ∈ tables_1) => atoms_spec (ws := Jvm.Cond.code x code maxLocals ret :: tables_1) hat d (List.mem_cons_of_mem _ hd)
  obtain ⟨i0, e0⟩ := isL_v g0
  obtain rfl : w0 = (.long i0) := Option.some.inj e0
  obtain ⟨i1, e1⟩ := isL_v g1
  obtain rfl : w1 = (.long i1) := Option.some.inj e1
  obtain ⟨hsets, hown0⟩ := atoms_of _ (rest_1_c_eq ▸ (show rest_1_c.before _ s = true from hrest))
  obtain ⟨qP, evP⟩ := exa_v (Cond.before_iff.mp (hsets _ (mm 9 rfl)))
  have SP : Sta s s.heap "java/math/BigInteger" "posConst" "[Ljava/math/BigInteger;" (.ref qP) := Sta.start evP (Or.inl (hsets _ (mm 1 rfl)))
  obtain ⟨xP1, eP1, lP1, BP1⟩ := own_tabE (j := 1) evP (hsets _ (mm 8 rfl)) (by decide) (hsets _ (mm 12 rfl)) (hsets _ (mm 13 rfl)) (hsets _ (mm 14 rfl)) (hsets _ (mm 15 rfl)) (hsets _ (mm 16 rfl)) (hsets _ (mm 17 rfl))
  obtain ⟨xP2, eP2, lP2, BP2⟩ := own_tabE (j := 2) evP (hsets _ (mm 8 rfl)) (by decide) (hsets _ (mm 19 rfl)) (hsets _ (mm 20 rfl)) (hsets _ (mm 21 rfl)) (hsets _ (mm 22 rfl)) (hsets _ (mm 23 rfl)) (hsets _ (mm 24 rfl))
  obtain ⟨xP3, eP3, lP3, BP3⟩ := own_tabE (j := 3) evP (hsets _ (mm 8 rfl)) (by decide) (hsets _ (mm 25 rfl)) (hsets _ (mm 26 rfl)) (hsets _ (mm 27 rfl)) (hsets _ (mm 28 rfl)) (hsets _ (mm 29 rfl)) (hsets _ (mm 30 rfl))
  obtain ⟨xP4, eP4, lP4, BP4⟩ := own_tabE (j := 4) evP (hsets _ (mm 8 rfl)) (by decide) (hsets _ (mm 31 rfl)) (hsets _ (mm 32 rfl)) (hsets _ (mm 33 rfl)) (hsets _ (mm 34 rfl)) (hsets _ (mm 35 rfl)) (hsets _ (mm 36 rfl))
  obtain ⟨xP5, eP5, lP5, BP5⟩ := own_tabE (j := 5) evP (hsets _ (mm 8 rfl)) (by decide) (hsets _ (mm 37 rfl)) (hsets _ (mm 38 rfl)) (hsets _ (mm 39 rfl)) (hsets _ (mm 40 rfl)) (hsets _ (mm 41 rfl)) (hsets _ (mm 42 rfl))
  obtain ⟨xP6, eP6, lP6, BP6⟩ := own_tabE (j := 6) evP (hsets _ (mm 8 rfl)) (by decide) (hsets _ (mm 43 rfl)) (hsets _ (mm 44 rfl)) (hsets _ (mm 45 rfl)) (hsets _ (mm 46 rfl)) (hsets _ (mm 47 rfl)) (hsets _ (mm 48 rfl))
  obtain ⟨xP7, eP7, lP7, BP7⟩ := own_tabE (j := 7) evP (hsets _ (mm 8 rfl)) (by decide) (hsets _ (mm 49 rfl)) (hsets _ (mm 50 rfl)) (hsets _ (mm 51 rfl)) (hsets _ (mm 52 rfl)) (hsets _ (mm 53 rfl)) (hsets _ (mm 54 rfl))
  obtain ⟨xP8, eP8, lP8, BP8⟩ := own_tabE (j := 8) evP (hsets _ (mm 8 rfl)) (by decide) (hsets _ (mm 55 rfl)) (hsets _ (mm 56 rfl)) (hsets _ (mm 57 rfl)) (hsets _ (mm 58 rfl)) (hsets _ (mm 59 rfl)) (hsets _ (mm 60 rfl))
  obtain ⟨xP9, eP9, lP9, BP9⟩ := own_tabE (j := 9) evP (hsets _ (mm 8 rfl)) (by decide) (hsets _ (mm 61 rfl)) (hsets _ (mm 62 rfl)) (hsets _ (mm 63 rfl)) (hsets _ (mm 64 rfl)) (hsets _ (mm 65 rfl)) (hsets _ (mm 66 rfl))
  obtain ⟨xP10, eP10, lP10, BP10⟩ := own_tabE (j := 10) evP (hsets _ (mm 8 rfl)) (by decide) (hsets _ (mm 68 rfl)) (hsets _ (mm 69 rfl)) (hsets _ (mm 70 rfl)) (hsets _ (mm 71 rfl)) (hsets _ (mm 72 rfl)) (hsets _ (mm 73 rfl))
  obtain ⟨xP11, eP11, lP11, BP11⟩ := own_tabE (j := 11) evP (hsets _ (mm 8 rfl)) (by decide) (hsets _ (mm 74 rfl)) (hsets _ (mm 75 rfl)) (hsets _ (mm 76 rfl)) (hsets _ (mm 77 rfl)) (hsets _ (mm 78 rfl)) (hsets _ (mm 79 rfl))
  obtain ⟨xP12, eP12, lP12, BP12⟩ := own_tabE (j := 12) evP (hsets _ (mm 8 rfl)) (by decide) (hsets _ (mm 80 rfl)) (hsets _ (mm 81 rfl)) (hsets _ (mm 82 rfl)) (hsets _ (mm 83 rfl)) (hsets _ (mm 84 rfl)) (hsets _ (mm 85 rfl))
  obtain ⟨xP13, eP13, lP13, BP13⟩ := own_tabE (j := 13) evP (hsets _ (mm 8 rfl)) (by decide) (hsets _ (mm 86 rfl)) (hsets _ (mm 87 rfl)) (hsets _ (mm 88 rfl)) (hsets _ (mm 89 rfl)) (hsets _ (mm 90 rfl)) (hsets _ (mm 91 rfl))
  obtain ⟨xP14, eP14, lP14, BP14⟩ := own_tabE (j := 14) evP (hsets _ (mm 8 rfl)) (by decide) (hsets _ (mm 92 rfl)) (hsets _ (mm 93 rfl)) (hsets _ (mm 94 rfl)) (hsets _ (mm 95 rfl)) (hsets _ (mm 96 rfl)) (hsets _ (mm 97 rfl))
  obtain ⟨xP15, eP15, lP15, BP15⟩ := own_tabE (j := 15) evP (hsets _ (mm 8 rfl)) (by decide) (hsets _ (mm 98 rfl)) (hsets _ (mm 99 rfl)) (hsets _ (mm 100 rfl)) (hsets _ (mm 101 rfl)) (hsets _ (mm 102 rfl)) (hsets _ (mm 103 rfl))
  obtain ⟨xP16, eP16, lP16, BP16⟩ := own_tabE (j := 16) evP (hsets _ (mm 8 rfl)) (by decide) (hsets _ (mm 104 rfl)) (hsets _ (mm 105 rfl)) (hsets _ (mm 106 rfl)) (hsets _ (mm 107 rfl)) (hsets _ (mm 108 rfl)) (hsets _ (mm 109 rfl))
  have TP : Tab s qP (1) := fun j j1 j2 => by
    have hj : j = 1 ∨ j = 2 ∨ j = 3 ∨ j = 4 ∨ j = 5 ∨ j = 6 ∨ j = 7 ∨ j = 8 ∨ j = 9 ∨ j = 10 ∨ j = 11 ∨ j = 12 ∨ j = 13 ∨ j = 14 ∨ j = 15 ∨ j = 16 := by omega
    rcases hj with rfl | rfl | rfl | rfl | rfl | rfl | rfl | rfl | rfl | rfl | rfl | rfl | rfl | rfl | rfl | rfl
    · exact ⟨xP1, lP1, BP1⟩
    · exact ⟨xP2, lP2, BP2⟩
    · exact ⟨xP3, lP3, BP3⟩
    · exact ⟨xP4, lP4, BP4⟩
    · exact ⟨xP5, lP5, BP5⟩
    · exact ⟨xP6, lP6, BP6⟩
    · exact ⟨xP7, lP7, BP7⟩
    · exact ⟨xP8, lP8, BP8⟩
    · exact ⟨xP9, lP9, BP9⟩
    · exact ⟨xP10, lP10, BP10⟩
    · exact ⟨xP11, lP11, BP11⟩
    · exact ⟨xP12, lP12, BP12⟩
    · exact ⟨xP13, lP13, BP13⟩
    · exact ⟨xP14, lP14, BP14⟩
    · exact ⟨xP15, lP15, BP15⟩
    · exact ⟨xP16, lP16, BP16⟩
  obtain ⟨qN, evN⟩ := exa_v (Cond.before_iff.mp (hsets _ (mm 123 rfl)))
  have SN : Sta s s.heap "java/math/BigInteger" "negConst" "[Ljava/math/BigInteger;" (.ref qN) := Sta.start evN (Or.inl (hsets _ (mm 119 rfl)))
  obtain ⟨xN1, eN1, lN1, BN1⟩ := own_tabE (j := 1) evN (hsets _ (mm 122 rfl)) (by decide) (hsets _ (mm 126 rfl)) (hsets _ (mm 127 rfl)) (hsets _ (mm 128 rfl)) (hsets _ (mm 129 rfl)) (hsets _ (mm 130 rfl)) (hsets _ (mm 131 rfl))
  obtain ⟨xN2, eN2, lN2, BN2⟩ := own_tabE (j := 2) evN (hsets _ (mm 122 rfl)) (by decide) (hsets _ (mm 132 rfl)) (hsets _ (mm 133 rfl)) (hsets _ (mm 134 rfl)) (hsets _ (mm 135 rfl)) (hsets _ (mm 136 rfl)) (hsets _ (mm 137 rfl))
  obtain ⟨xN3, eN3, lN3, BN3⟩ := own_tabE (j := 3) evN (hsets _ (mm 122 rfl)) (by decide) (hsets _ (mm 138 rfl)) (hsets _ (mm 139 rfl)) (hsets _ (mm 140 rfl)) (hsets _ (mm 141 rfl)) (hsets _ (mm 142 rfl)) (hsets _ (mm 143 rfl))
  obtain ⟨xN4, eN4, lN4, BN4⟩ := own_tabE (j := 4) evN (hsets _ (mm 122 rfl)) (by decide) (hsets _ (mm 144 rfl)) (hsets _ (mm 145 rfl)) (hsets _ (mm 146 rfl)) (hsets _ (mm 147 rfl)) (hsets _ (mm 148 rfl)) (hsets _ (mm 149 rfl))
  obtain ⟨xN5, eN5, lN5, BN5⟩ := own_tabE (j := 5) evN (hsets _ (mm 122 rfl)) (by decide) (hsets _ (mm 150 rfl)) (hsets _ (mm 151 rfl)) (hsets _ (mm 152 rfl)) (hsets _ (mm 153 rfl)) (hsets _ (mm 154 rfl)) (hsets _ (mm 155 rfl))
  obtain ⟨xN6, eN6, lN6, BN6⟩ := own_tabE (j := 6) evN (hsets _ (mm 122 rfl)) (by decide) (hsets _ (mm 156 rfl)) (hsets _ (mm 157 rfl)) (hsets _ (mm 158 rfl)) (hsets _ (mm 159 rfl)) (hsets _ (mm 160 rfl)) (hsets _ (mm 161 rfl))
  obtain ⟨xN7, eN7, lN7, BN7⟩ := own_tabE (j := 7) evN (hsets _ (mm 122 rfl)) (by decide) (hsets _ (mm 162 rfl)) (hsets _ (mm 163 rfl)) (hsets _ (mm 164 rfl)) (hsets _ (mm 165 rfl)) (hsets _ (mm 166 rfl)) (hsets _ (mm 167 rfl))
  obtain ⟨xN8, eN8, lN8, BN8⟩ := own_tabE (j := 8) evN (hsets _ (mm 122 rfl)) (by decide) (hsets _ (mm 168 rfl)) (hsets _ (mm 169 rfl)) (hsets _ (mm 170 rfl)) (hsets _ (mm 171 rfl)) (hsets _ (mm 172 rfl)) (hsets _ (mm 173 rfl))
  obtain ⟨xN9, eN9, lN9, BN9⟩ := own_tabE (j := 9) evN (hsets _ (mm 122 rfl)) (by decide) (hsets _ (mm 174 rfl)) (hsets _ (mm 175 rfl)) (hsets _ (mm 176 rfl)) (hsets _ (mm 177 rfl)) (hsets _ (mm 178 rfl)) (hsets _ (mm 179 rfl))
  obtain ⟨xN10, eN10, lN10, BN10⟩ := own_tabE (j := 10) evN (hsets _ (mm 122 rfl)) (by decide) (hsets _ (mm 180 rfl)) (hsets _ (mm 181 rfl)) (hsets _ (mm 182 rfl)) (hsets _ (mm 183 rfl)) (hsets _ (mm 184 rfl)) (hsets _ (mm 185 rfl))
  obtain ⟨xN11, eN11, lN11, BN11⟩ := own_tabE (j := 11) evN (hsets _ (mm 122 rfl)) (by decide) (hsets _ (mm 186 rfl)) (hsets _ (mm 187 rfl)) (hsets _ (mm 188 rfl)) (hsets _ (mm 189 rfl)) (hsets _ (mm 190 rfl)) (hsets _ (mm 191 rfl))
  obtain ⟨xN12, eN12, lN12, BN12⟩ := own_tabE (j := 12) evN (hsets _ (mm 122 rfl)) (by decide) (hsets _ (mm 192 rfl)) (hsets _ (mm 193 rfl)) (hsets _ (mm 194 rfl)) (hsets _ (mm 195 rfl)) (hsets _ (mm 196 rfl)) (hsets _ (mm 197 rfl))
  obtain ⟨xN13, eN13, lN13, BN13⟩ := own_tabE (j := 13) evN (hsets _ (mm 122 rfl)) (by decide) (hsets _ (mm 198 rfl)) (hsets _ (mm 199 rfl)) (hsets _ (mm 200 rfl)) (hsets _ (mm 201 rfl)) (hsets _ (mm 202 rfl)) (hsets _ (mm 203 rfl))
  obtain ⟨xN14, eN14, lN14, BN14⟩ := own_tabE (j := 14) evN (hsets _ (mm 122 rfl)) (by decide) (hsets _ (mm 204 rfl)) (hsets _ (mm 205 rfl)) (hsets _ (mm 206 rfl)) (hsets _ (mm 207 rfl)) (hsets _ (mm 208 rfl)) (hsets _ (mm 209 rfl))
  obtain ⟨xN15, eN15, lN15, BN15⟩ := own_tabE (j := 15) evN (hsets _ (mm 122 rfl)) (by decide) (hsets _ (mm 210 rfl)) (hsets _ (mm 211 rfl)) (hsets _ (mm 212 rfl)) (hsets _ (mm 213 rfl)) (hsets _ (mm 214 rfl)) (hsets _ (mm 215 rfl))
  obtain ⟨xN16, eN16, lN16, BN16⟩ := own_tabE (j := 16) evN (hsets _ (mm 122 rfl)) (by decide) (hsets _ (mm 216 rfl)) (hsets _ (mm 217 rfl)) (hsets _ (mm 218 rfl)) (hsets _ (mm 219 rfl)) (hsets _ (mm 220 rfl)) (hsets _ (mm 221 rfl))
  have TN : Tab s qN (-1) := fun j j1 j2 => by
    have hj : j = 1 ∨ j = 2 ∨ j = 3 ∨ j = 4 ∨ j = 5 ∨ j = 6 ∨ j = 7 ∨ j = 8 ∨ j = 9 ∨ j = 10 ∨ j = 11 ∨ j = 12 ∨ j = 13 ∨ j = 14 ∨ j = 15 ∨ j = 16 := by omega
    rcases hj with rfl | rfl | rfl | rfl | rfl | rfl | rfl | rfl | rfl | rfl | rfl | rfl | rfl | rfl | rfl | rfl
    · exact ⟨xN1, lN1, BN1⟩
    · exact ⟨xN2, lN2, BN2⟩
    · exact ⟨xN3, lN3, BN3⟩
    · exact ⟨xN4, lN4, BN4⟩
    · exact ⟨xN5, lN5, BN5⟩
    · exact ⟨xN6, lN6, BN6⟩
    · exact ⟨xN7, lN7, BN7⟩
    · exact ⟨xN8, lN8, BN8⟩
    · exact ⟨xN9, lN9, BN9⟩
    · exact ⟨xN10, lN10, BN10⟩
    · exact ⟨xN11, lN11, BN11⟩
    · exact ⟨xN12, lN12, BN12⟩
    · exact ⟨xN13, lN13, BN13⟩
    · exact ⟨xN14, lN14, BN14⟩
    · exact ⟨xN15, lN15, BN15⟩
    · exact ⟨xN16, lN16, BN16⟩
  have SO : Sta s s.heap "java/math/BigInteger" "ONE" "Ljava/math/BigInteger;" (.ref xP1) := Sta.start (own_eqR eP1 (hsets _ (mm 11 rfl))) (Or.inl (hsets _ (mm 3 rfl)))
  obtain ⟨xZ, eZ, BZ⟩ := own_zeroS (hsets _ (mm 224 rfl)) (hsets _ (mm 225 rfl)) (hsets _ (mm 226 rfl)) (hsets _ (mm 227 rfl)) (hsets _ (mm 228 rfl))
  have SZ : Sta s s.heap "java/math/BigInteger" "ZERO" "Ljava/math/BigInteger;" (.ref xZ) := Sta.start eZ (Or.inl (hsets _ (mm 223 rfl)))
  have ST : Start s qP qN xP1 xZ := ⟨SP, TP, SN, TN, SO, BP1, SZ, BZ⟩
  have hheld : CHv s [] s.vm s.heap := chv0
  obtain ⟨n, o, h1, h2, h3, _, L, rfl, rfl, -, hfin, -, -, N⟩ := m_law l s _ hw  ST i0 i1 s.heap p e ha hc hk s m _ below hf ((Spec.applies_iff_loose hf).mp happ).1 ⟨rfl, State.Warmed39.refl s, rfl, hheld, all0, ⟨Nat.le_refl _, fun _ _ q => q⟩⟩ trivial
  have hq := hfin.1 rfl
  refine ⟨n, _, h1, h2, h3, hpost _ _ _ _ _ _ ⟨Cond.after_iff.mpr rfl, Cond.after_iff.mpr (eq_i res_at (Term.int_eval (1)) rfl), trivial⟩ ⟨hq.1, hq.2.1, (hq.2.2.sift fun y hy => Or.inr (N y hy)).mono (by decide) (by decide)⟩⟩
theorem main_1_1 : Claimed_1_1 := comes_1 fun _ _ _ _ _ _ h hF => ⟨h.1, hF⟩
theorem main_1_2 : Claimed_1_2 := comes_1 fun _ _ _ _ _ _ h hF => ⟨h.2.1, hF⟩
end Jvm.Pilot.@@N@@
namespace Jvm.Pilot.@@N@@
open Jvm Jvm.ClassFile Sem Op Lib Jvm.Free Jvm.Stand Jvm.Pilot.@@N@@.Jvm.D
/-! MADE BY PROGRAM (witnessworld.py) out of the Statement's table words and the real class files: 20 classes; the members and pool entries that the words name. The judged class is class 1, her method 3. -/
namespace start1
open Jvm.ClassFile
def u (s : String) : CpInfo := .utf8 (stringToUtf16 s)
/-- a pool by its gaps: so many unusable entries, then the entry; so many at the end -/
def gap : Nat → List CpInfo → List CpInfo
  | 0, r => r
  | n + 1, r => .unusable :: gap n r
def poolList (es : List (Nat × CpInfo)) (last : Nat) : List CpInfo := es.foldr (fun e r => gap e.1 (e.2 :: r)) (gap last [])
def pool (es : List (Nat × CpInfo)) (last : Nat) : Array CpInfo := ⟨poolList es last⟩
def fileOf (pool : Array CpInfo) (this : Nat) (attrs : Array Attribute := #[]) (ms : Array MethodInfo := #[]) (fl : Nat := 33) (sup : Nat := 0) (ifs : Array Nat := #[]) (fds : Array FieldInfo := #[]) : ClassFile where
  minorVersion := 0
  majorVersion := 65
  constantPool := pool
  accessFlags := fl
  thisClass := this
  superClass := sup
  interfaces := ifs
  fields := fds
  methods := ms
  attributes := attrs
def plain (name : String) (sup : Option ClassId) : Class where
  name := name
  kind := .ordinary
  loader := none
  accessFlags := 33
  super := sup
  interfaces := #[]
  cf := none
  fields := #[]
  methods := #[]
  instanceTypes := #[]
  staticTypes := #[]
  resolved := #[]
  callSites := []
  init := .initialized
  statics := none
  mirror := none

def pool0 : Array CpInfo := pool [(5, u "<init>"), (0, u "()V"), (1, .class_ 10), (1, u "java/lang/Object"), (85, u "clone"), (0, u "()Ljava/lang/Object;")] 26

def k0c0 : Code := { maxStack := 0, maxLocals := 1, code := object_method_1_code, exceptionTable := #[], attributes := #[] }
def k0m0 : Method := { name := "<init>", desc := "()V", sig := { parameters := [], returnType := none }, accessFlags := 1, code := some k0c0 }
def k0m1 : Method := { name := "clone", desc := "()Ljava/lang/Object;", sig := { parameters := [], returnType := some (.object "java/lang/Object") }, accessFlags := 260, code := none }
/-- java/lang/Object -/
def k0 : Class := { plain "java/lang/Object" none with
  accessFlags := 33
  interfaces := #[]
  cf := some (fileOf pool0 8 #[] #[{ accessFlags := 1, nameIndex := 5, descriptorIndex := 6, attributes := #[] }, { accessFlags := 260, nameIndex := 96, descriptorIndex := 97, attributes := #[] }] 33 0 #[] #[])
  fields := #[]
  methods := #[k0m0, k0m1]
  instanceTypes := #[]
  staticTypes := #[]
  resolved := Array.replicate 124 none
  statics := none }

def pool1 : Array CpInfo := pool [(2, .class_ 4), (1, u "java/lang/Object"), (0, u "<init>"), (0, u "()V"), (0, .methodref 8 9), (0, .class_ 10), (0, .nameAndType 11 12), (0, u "com/example/envelope/envelope/curves/Rational"), (0, u "of"), (0, u "(J)Lcom/example/envelope/envelope/curves/Rational;"), (0, .methodref 8 14), (0, .nameAndType 11 15), (0, u "(JJ)Lcom/example/envelope/envelope/curves/Rational;"), (0, .methodref 8 17), (0, .nameAndType 18 19), (0, u "signum"), (0, u "()I"), (0, .methodref 21 22), (0, .class_ 23), (0, .nameAndType 24 25), (0, u "com/example/envelope/envelope/curves/RationalOfPinLaw"), (0, u "sign"), (0, u "(J)I"), (0, .methodref 8 27), (0, .nameAndType 28 29), (0, u "compareTo"), (0, u "(Lcom/example/envelope/envelope/curves/Rational;)I"), (0, .methodref 21 31), (0, .nameAndType 32 33), (0, u "norm"), (0, u "(I)I"), (0, .methodref 8 35), (0, .nameAndType 36 37), (0, u "equals"), (0, u "(Ljava/lang/Object;)Z"), (3, u "law"), (0, u "(JJ)Z")] 2

def k1m0 : Method := { name := "<init>", desc := "()V", sig := { parameters := [], returnType := none }, accessFlags := 1, code := none }
def k1c1 : Code := { maxStack := 4, maxLocals := 2, code := method_2_code, exceptionTable := #[], attributes := #[] }
def k1m1 : Method := { name := "sign", desc := "(J)I", sig := { parameters := [.long], returnType := some .int }, accessFlags := 10, code := some k1c1 }
def k1c2 : Code := { maxStack := 1, maxLocals := 1, code := method_3_code, exceptionTable := #[], attributes := #[] }
def k1m2 : Method := { name := "norm", desc := "(I)I", sig := { parameters := [.int], returnType := some .int }, accessFlags := 10, code := some k1c2 }
def k1c3 : Code := { maxStack := 5, maxLocals := 12, code := code, exceptionTable := #[], attributes := #[] }
def k1m3 : Method := { name := "law", desc := "(JJ)Z", sig := { parameters := [.long, .long], returnType := some .boolean }, accessFlags := 9, code := some k1c3 }
/-- com/example/envelope/envelope/curves/RationalOfPinLaw -/
def k1 : Class := { plain "com/example/envelope/envelope/curves/RationalOfPinLaw" (some 0) with
  accessFlags := 49
  interfaces := #[]
  cf := some (fileOf pool1 21 #[] #[{ accessFlags := 1, nameIndex := 5, descriptorIndex := 6, attributes := #[] }, { accessFlags := 10, nameIndex := 24, descriptorIndex := 25, attributes := #[] }, { accessFlags := 10, nameIndex := 32, descriptorIndex := 33, attributes := #[] }, { accessFlags := 9, nameIndex := 41, descriptorIndex := 42, attributes := #[] }] 49 2 #[] #[])
  fields := #[]
  methods := #[k1m0, k1m1, k1m2, k1m3]
  instanceTypes := #[]
  staticTypes := #[]
  resolved := Array.replicate 45 none
  statics := none }

def pool2 : Array CpInfo := pool [(1, .class_ 2), (0, u "java/lang/Comparable"), (0, .class_ 4), (0, u "java/lang/Object")] 7

/-- java/lang/Comparable -/
def k2 : Class := { plain "java/lang/Comparable" (some 0) with
  accessFlags := 1537
  interfaces := #[]
  cf := some (fileOf pool2 1 #[] #[] 1537 3 #[] #[])
  fields := #[]
  methods := #[]
  instanceTypes := #[]
  staticTypes := #[]
  resolved := Array.replicate 12 none
  statics := none }

def pool3 : Array CpInfo := pool [(1, .methodref 2 3), (0, .class_ 4), (0, .nameAndType 5 6), (0, u "java/lang/Object"), (0, u "<init>"), (0, u "()V"), (0, .fieldref 8 9), (0, .class_ 10), (0, .nameAndType 11 12), (0, u "com/example/envelope/envelope/curves/Rational"), (0, u "numerator"), (0, u "Ljava/math/BigInteger;"), (0, .fieldref 8 14), (0, .nameAndType 15 12), (0, u "denominator"), (0, .methodref 17 18), (0, .class_ 19), (0, .nameAndType 20 21), (0, u "java/math/BigInteger"), (0, u "valueOf"), (0, u "(J)Ljava/math/BigInteger;"), (0, .fieldref 17 23), (0, .nameAndType 24 12), (0, u "ONE"), (0, .methodref 8 26), (0, .nameAndType 5 27), (0, u "(Ljava/math/BigInteger;Ljava/math/BigInteger;)V"), (0, .methodref 8 29), (0, .nameAndType 30 31), (0, u "of"), (0, u "(Ljava/math/BigInteger;Ljava/math/BigInteger;)Lcom/example/envelope/envelope/curves/Rational;"), (0, .methodref 17 33), (0, .nameAndType 34 35), (0, u "signum"), (0, u "()I"), (14, .methodref 17 51), (0, .nameAndType 52 53), (0, u "gcd"), (0, u "(Ljava/math/BigInteger;)Ljava/math/BigInteger;"), (4, .methodref 17 59), (0, .nameAndType 60 53), (0, u "divide"), (18, .methodref 17 80), (0, .nameAndType 81 53), (0, u "multiply"), (17, u "compareTo"), (0, u "(Lcom/example/envelope/envelope/curves/Rational;)I"), (0, .methodref 17 102), (0, .nameAndType 99 103), (0, u "(Ljava/math/BigInteger;)I"), (0, .methodref 17 105), (0, .nameAndType 106 107), (0, u "equals"), (0, u "(Ljava/lang/Object;)Z"), (10, u "ZERO"), (2, u "Lcom/example/envelope/envelope/curves/Rational;"), (2, .class_ 125), (0, u "java/lang/Comparable"), (2, u "(J)Lcom/example/envelope/envelope/curves/Rational;"), (0, u "(JJ)Lcom/example/envelope/envelope/curves/Rational;")] 35

def k3c0 : Code := { maxStack := 2, maxLocals := 3, code := prog_15_method_1_code, exceptionTable := #[], attributes := #[] }
def k3m0 : Method := { name := "<init>", desc := "(Ljava/math/BigInteger;Ljava/math/BigInteger;)V", sig := { parameters := [(.object "java/math/BigInteger"), (.object "java/math/BigInteger")], returnType := none }, accessFlags := 2, code := some k3c0 }
def k3c1 : Code := { maxStack := 4, maxLocals := 2, code := prog_15_method_2_code, exceptionTable := #[], attributes := #[] }
def k3m1 : Method := { name := "of", desc := "(J)Lcom/example/envelope/envelope/curves/Rational;", sig := { parameters := [.long], returnType := some (.object "com/example/envelope/envelope/curves/Rational") }, accessFlags := 9, code := some k3c1 }
def k3c2 : Code := { maxStack := 3, maxLocals := 4, code := prog_15_method_3_code, exceptionTable := #[], attributes := #[] }
def k3m2 : Method := { name := "of", desc := "(JJ)Lcom/example/envelope/envelope/curves/Rational;", sig := { parameters := [.long, .long], returnType := some (.object "com/example/envelope/envelope/curves/Rational") }, accessFlags := 9, code := some k3c2 }
def k3c3 : Code := { maxStack := 5, maxLocals := 3, code := prog_15_method_4_code, exceptionTable := #[], attributes := #[] }
def k3m3 : Method := { name := "of", desc := "(Ljava/math/BigInteger;Ljava/math/BigInteger;)Lcom/example/envelope/envelope/curves/Rational;", sig := { parameters := [(.object "java/math/BigInteger"), (.object "java/math/BigInteger")], returnType := some (.object "com/example/envelope/envelope/curves/Rational") }, accessFlags := 9, code := some k3c3 }
def k3c4 : Code := { maxStack := 1, maxLocals := 1, code := prog_15_method_13_code, exceptionTable := #[], attributes := #[] }
def k3m4 : Method := { name := "signum", desc := "()I", sig := { parameters := [], returnType := some .int }, accessFlags := 1, code := some k3c4 }
def k3c5 : Code := { maxStack := 3, maxLocals := 2, code := prog_15_method_16_code, exceptionTable := #[], attributes := #[] }
def k3m5 : Method := { name := "compareTo", desc := "(Lcom/example/envelope/envelope/curves/Rational;)I", sig := { parameters := [(.object "com/example/envelope/envelope/curves/Rational")], returnType := some .int }, accessFlags := 1, code := some k3c5 }
def k3c6 : Code := { maxStack := 2, maxLocals := 3, code := prog_15_method_17_code, exceptionTable := #[], attributes := #[] }
def k3m6 : Method := { name := "equals", desc := "(Ljava/lang/Object;)Z", sig := { parameters := [(.object "java/lang/Object")], returnType := some .boolean }, accessFlags := 1, code := some k3c6 }
/-- com/example/envelope/envelope/curves/Rational -/
def k3 : Class := { plain "com/example/envelope/envelope/curves/Rational" (some 0) with
  accessFlags := 33
  interfaces := #[2]
  cf := some (fileOf pool3 8 #[] #[{ accessFlags := 2, nameIndex := 5, descriptorIndex := 27, attributes := #[] }, { accessFlags := 9, nameIndex := 30, descriptorIndex := 128, attributes := #[] }, { accessFlags := 9, nameIndex := 30, descriptorIndex := 129, attributes := #[] }, { accessFlags := 9, nameIndex := 30, descriptorIndex := 31, attributes := #[] }, { accessFlags := 1, nameIndex := 34, descriptorIndex := 35, attributes := #[] }, { accessFlags := 1, nameIndex := 99, descriptorIndex := 100, attributes := #[] }, { accessFlags := 1, nameIndex := 106, descriptorIndex := 107, attributes := #[] }] 33 2 #[124] #[{ accessFlags := 25, nameIndex := 118, descriptorIndex := 121, attributes := #[] }, { accessFlags := 25, nameIndex := 24, descriptorIndex := 121, attributes := #[] }, { accessFlags := 18, nameIndex := 11, descriptorIndex := 12, attributes := #[] }, { accessFlags := 18, nameIndex := 15, descriptorIndex := 12, attributes := #[] }])
  fields := #[{ name := "ZERO", type := (.object "com/example/envelope/envelope/curves/Rational"), accessFlags := 25, slot := 0, constantValue := 0 }, { name := "ONE", type := (.object "com/example/envelope/envelope/curves/Rational"), accessFlags := 25, slot := 1, constantValue := 0 }, { name := "numerator", type := (.object "java/math/BigInteger"), accessFlags := 18, slot := 0, constantValue := 0 }, { name := "denominator", type := (.object "java/math/BigInteger"), accessFlags := 18, slot := 1, constantValue := 0 }]
  methods := #[k3m0, k3m1, k3m2, k3m3, k3m4, k3m5, k3m6]
  instanceTypes := #[(.object "java/math/BigInteger"), (.object "java/math/BigInteger")]
  staticTypes := #[(.object "com/example/envelope/envelope/curves/Rational"), (.object "com/example/envelope/envelope/curves/Rational")]
  resolved := Array.replicate 165 none
  statics := none }

def pool4 : Array CpInfo := pool [(1, .class_ 2), (0, u "java/io/Serializable"), (0, .class_ 4), (0, u "java/lang/Object")] 2

/-- java/io/Serializable -/
def k4 : Class := { plain "java/io/Serializable" (some 0) with
  accessFlags := 1537
  interfaces := #[]
  cf := some (fileOf pool4 1 #[] #[] 1537 3 #[] #[])
  fields := #[]
  methods := #[]
  instanceTypes := #[]
  staticTypes := #[]
  resolved := Array.replicate 7 none
  statics := none }

def pool5 : Array CpInfo := pool [(1, .methodref 2 3), (0, .class_ 4), (0, .nameAndType 5 6), (0, u "java/lang/Object"), (0, u "<init>"), (0, u "()V"), (1, .class_ 10), (1, u "java/lang/Number"), (2, .class_ 14), (0, u "java/io/Serializable"), (0, u "serialVersionUID"), (0, u "J")] 20

def k5c0 : Code := { maxStack := 1, maxLocals := 1, code := jdk_18_method_1_code, exceptionTable := #[], attributes := #[] }
def k5m0 : Method := { name := "<init>", desc := "()V", sig := { parameters := [], returnType := none }, accessFlags := 1, code := some k5c0 }
/-- java/lang/Number -/
def k5 : Class := { plain "java/lang/Number" (some 0) with
  accessFlags := 1057
  interfaces := #[4]
  cf := some (fileOf pool5 8 #[] #[{ accessFlags := 1, nameIndex := 5, descriptorIndex := 6, attributes := #[] }] 1057 2 #[13] #[{ accessFlags := 26, nameIndex := 15, descriptorIndex := 16, attributes := #[] }])
  fields := #[{ name := "serialVersionUID", type := .long, accessFlags := 26, slot := 0, constantValue := 0 }]
  methods := #[k5m0]
  instanceTypes := #[]
  staticTypes := #[.long]
  resolved := Array.replicate 37 none
  statics := none }

def pool6 : Array CpInfo := pool [(1, .class_ 2), (0, u "java/lang/Integer"), (0, .methodref 4 5), (0, .class_ 6), (0, .nameAndType 7 8), (0, u "java/lang/Number"), (0, u "<init>"), (0, u "()V"), (13, .fieldref 23 24), (0, .class_ 25), (0, .nameAndType 26 27), (0, u "java/math/BigInteger"), (0, u "ZERO"), (0, u "Ljava/math/BigInteger;"), (0, .fieldref 23 29), (0, .nameAndType 30 31), (0, u "mag"), (0, u "[I"), (0, .fieldref 23 33), (0, .nameAndType 34 35), (0, u "signum"), (0, u "I"), (7, .integer 67108864), (30, u "()I"), (7, u "(I)I"), (12, u "bitsPerDigit"), (0, u "[J"), (9, u "digitsPerInt"), (12, u "intRadix"), (10, .long 4294967295), (44, .methodref 23 176), (0, .nameAndType 7 177), (0, u "([II)V"), (2, u "SMALL_PRIME_PRODUCT"), (3, u "(Ljava/math/BigInteger;)Ljava/math/BigInteger;"), (34, u "(I)Ljava/math/BigInteger;"), (17, u "valueOf"), (0, u "(J)Ljava/math/BigInteger;"), (21, u "ONE"), (2, u "equals"), (0, u "(Ljava/lang/Object;)Z"), (2, u "TWO"), (30, u "abs"), (12, u "$assertionsDisabled"), (0, u "Z"), (5, u "multiply"), (3, u "()Ljava/math/BigInteger;"), (14, u "compareTo"), (0, u "(Ljava/math/BigInteger;)I"), (6, .long 16), (1, .fieldref 23 348), (0, .nameAndType 349 350), (0, u "posConst"), (0, u "[Ljava/math/BigInteger;"), (0, .long 18446744073709551600), (1, .fieldref 23 354), (0, .nameAndType 355 350), (0, u "negConst"), (0, .methodref 23 357), (0, .nameAndType 7 358), (0, u "(J)V"), (1, .nameAndType 7 361), (0, u "([I)V"), (3, .methodref 23 366), (0, .nameAndType 367 338), (0, u "compareMagnitude"), (20, .methodref 389 390), (0, .class_ 391), (0, .nameAndType 392 393), (0, u "java/lang/System"), (0, u "arraycopy"), (0, u "(Ljava/lang/Object;ILjava/lang/Object;II)V"), (3, .methodref 23 398), (0, .nameAndType 318 399), (0, u "(Ljava/math/BigInteger;ZZI)Ljava/math/BigInteger;"), (3, .methodref 23 404), (0, .nameAndType 405 406), (0, u "multiplyByInt"), (0, u "([III)Ljava/math/BigInteger;"), (16, .methodref 1 424), (0, .nameAndType 425 82), (0, u "bitCount"), (0, .methodref 1 427), (0, .nameAndType 428 82), (0, u "numberOfTrailingZeros"), (0, .methodref 23 430), (0, .nameAndType 431 432), (0, u "shiftLeft"), (0, u "([II)[I"), (39, .class_ 474), (1, u "java/math/BigInteger$RecursiveOp"), (10, .methodref 23 486), (0, .nameAndType 298 322), (48, .methodref 23 536), (0, .nameAndType 537 184), (0, u "divideKnuth"), (3, .class_ 542), (0, u "java/math/MutableBigInteger"), (0, .methodref 541 5), (0, .methodref 541 360), (0, .methodref 541 546), (0, .nameAndType 537 547), (0, u "(Ljava/math/MutableBigInteger;Ljava/math/MutableBigInteger;Z)Ljava/math/MutableBigInteger;"), (0, .methodref 541 549), (0, .nameAndType 550 219), (0, u "toBigInteger"), (16, .methodref 541 568), (0, .nameAndType 7 569), (0, u "(Ljava/math/BigInteger;)V"), (11, u "NEGATIVE_ONE"), (16, .methodref 541 599), (0, .nameAndType 600 601), (0, u "hybridGCD"), (0, u "(Ljava/math/MutableBigInteger;)Ljava/math/MutableBigInteger;"), (0, .methodref 1 603), (0, .nameAndType 604 82), (0, u "numberOfLeadingZeros"), (2, u "bitLengthForInt"), (34, u "divide"), (30, u "bnExpModThreshTable"), (72, u "lowestSetBitPlusTwo"), (2, u "bitLengthPlusOne"), (2, u "bitCountPlusOne"), (6, u "LOG_TWO"), (0, u "D"), (2, u "logCache"), (0, u "[D"), (13, u "NUM_ZEROS"), (2, u "ZEROS"), (0, u "Ljava/lang/String;"), (9, u "longRadix"), (5, u "digitsPerLong"), (22, u "powerCache"), (0, u "[[Ljava/math/BigInteger;"), (45, u "firstNonzeroIntNumPlusTwo"), (38, .class_ 909), (1, u "java/math/BigInteger$UnsafeHolder"), (141, u "TEN"), (106, u "serialPersistentFields"), (0, u "[Ljava/io/ObjectStreamField;"), (0, .class_ 1161), (0, u "java/lang/Comparable"), (0, u "LONG_MASK"), (0, u "J"), (1, u "MAX_MAG_LENGTH"), (0, u "PRIME_SEARCH_BIT_LENGTH_LIMIT"), (1, u "KARATSUBA_THRESHOLD"), (1, u "TOOM_COOK_THRESHOLD"), (1, u "KARATSUBA_SQUARE_THRESHOLD"), (1, u "TOOM_COOK_SQUARE_THRESHOLD"), (1, u "BURNIKEL_ZIEGLER_THRESHOLD"), (0, u "BURNIKEL_ZIEGLER_OFFSET"), (1, u "SCHOENHAGE_BASE_CONVERSION_THRESHOLD"), (1, u "MULTIPLY_SQUARE_THRESHOLD"), (0, u "MONTGOMERY_INTRINSIC_THRESHOLD"), (1, u "SMALL_PRIME_THRESHOLD"), (1, u "DEFAULT_PRIME_CERTAINTY"), (1, u "MAX_CONSTANT"), (3, u "serialVersionUID"), (186, u "gcd"), (151, .class_ 1532), (0, u "java/math/BigInteger$RecursiveOp$RecursiveSquare"), (0, .class_ 1534), (0, u "java/math/BigInteger$RecursiveOp$RecursiveMultiply")] 7

def k6c0 : Code := { maxStack := 2, maxLocals := 3, code := jdk_2097_method_25_code, exceptionTable := #[], attributes := #[] }
def k6m0 : Method := { name := "<init>", desc := "([II)V", sig := { parameters := [(.array .int), .int], returnType := none }, accessFlags := 0, code := some k6c0 }
def k6c1 : Code := { maxStack := 4, maxLocals := 2, code := jdk_2097_method_29_code, exceptionTable := #[], attributes := #[] }
def k6m1 : Method := { name := "valueOf", desc := "(J)Ljava/math/BigInteger;", sig := { parameters := [.long], returnType := some (.object "java/math/BigInteger") }, accessFlags := 9, code := some k6c1 }
def k6c2 : Code := { maxStack := 4, maxLocals := 4, code := jdk_2097_method_30_code, exceptionTable := #[], attributes := #[] }
def k6m2 : Method := { name := "<init>", desc := "(J)V", sig := { parameters := [.long], returnType := none }, accessFlags := 2, code := some k6c2 }
def k6c3 : Code := { maxStack := 5, maxLocals := 2, code := jdk_2097_method_40_code, exceptionTable := #[], attributes := #[] }
def k6m3 : Method := { name := "multiply", desc := "(Ljava/math/BigInteger;)Ljava/math/BigInteger;", sig := { parameters := [(.object "java/math/BigInteger")], returnType := some (.object "java/math/BigInteger") }, accessFlags := 1, code := some k6c3 }
def k6c4 : Code := { maxStack := 5, maxLocals := 9, code := jdk_2097_method_42_code, exceptionTable := #[], attributes := #[] }
def k6m4 : Method := { name := "multiply", desc := "(Ljava/math/BigInteger;ZZI)Ljava/math/BigInteger;", sig := { parameters := [(.object "java/math/BigInteger"), .boolean, .boolean, .int], returnType := some (.object "java/math/BigInteger") }, accessFlags := 2, code := some k6c4 }
def k6c5 : Code := { maxStack := 4, maxLocals := 13, code := jdk_2097_method_43_code, exceptionTable := #[], attributes := #[] }
def k6m5 : Method := { name := "multiplyByInt", desc := "([III)Ljava/math/BigInteger;", sig := { parameters := [(.array .int), .int, .int], returnType := some (.object "java/math/BigInteger") }, accessFlags := 10, code := some k6c5 }
def k6c6 : Code := { maxStack := 2, maxLocals := 2, code := jdk_2097_method_61_code, exceptionTable := #[], attributes := #[] }
def k6m6 : Method := { name := "divide", desc := "(Ljava/math/BigInteger;)Ljava/math/BigInteger;", sig := { parameters := [(.object "java/math/BigInteger")], returnType := some (.object "java/math/BigInteger") }, accessFlags := 1, code := some k6c6 }
def k6c7 : Code := { maxStack := 4, maxLocals := 5, code := jdk_2097_method_62_code, exceptionTable := #[], attributes := #[] }
def k6m7 : Method := { name := "divideKnuth", desc := "(Ljava/math/BigInteger;)Ljava/math/BigInteger;", sig := { parameters := [(.object "java/math/BigInteger")], returnType := some (.object "java/math/BigInteger") }, accessFlags := 2, code := some k6c7 }
def k6c8 : Code := { maxStack := 3, maxLocals := 5, code := jdk_2097_method_73_code, exceptionTable := #[], attributes := #[] }
def k6m8 : Method := { name := "gcd", desc := "(Ljava/math/BigInteger;)Ljava/math/BigInteger;", sig := { parameters := [(.object "java/math/BigInteger")], returnType := some (.object "java/math/BigInteger") }, accessFlags := 1, code := some k6c8 }
def k6c9 : Code := { maxStack := 2, maxLocals := 1, code := jdk_2097_method_74_code, exceptionTable := #[], attributes := #[] }
def k6m9 : Method := { name := "bitLengthForInt", desc := "(I)I", sig := { parameters := [.int], returnType := some .int }, accessFlags := 8, code := some k6c9 }
def k6c10 : Code := { maxStack := 1, maxLocals := 1, code := jdk_2097_method_79_code, exceptionTable := #[], attributes := #[] }
def k6m10 : Method := { name := "abs", desc := "()Ljava/math/BigInteger;", sig := { parameters := [], returnType := some (.object "java/math/BigInteger") }, accessFlags := 1, code := some k6c10 }
def k6c11 : Code := { maxStack := 1, maxLocals := 1, code := jdk_2097_method_81_code, exceptionTable := #[], attributes := #[] }
def k6m11 : Method := { name := "signum", desc := "()I", sig := { parameters := [], returnType := some .int }, accessFlags := 1, code := some k6c11 }
def k6c12 : Code := { maxStack := 5, maxLocals := 10, code := jdk_2097_method_102_code, exceptionTable := #[], attributes := #[] }
def k6m12 : Method := { name := "shiftLeft", desc := "([II)[I", sig := { parameters := [(.array .int), .int], returnType := some (.array .int) }, accessFlags := 10, code := some k6c12 }
def k6c13 : Code := { maxStack := 2, maxLocals := 2, code := jdk_2097_method_121_code, exceptionTable := #[], attributes := #[] }
def k6m13 : Method := { name := "compareTo", desc := "(Ljava/math/BigInteger;)I", sig := { parameters := [(.object "java/math/BigInteger")], returnType := some .int }, accessFlags := 1, code := some k6c13 }
def k6c14 : Code := { maxStack := 6, maxLocals := 9, code := jdk_2097_method_122_code, exceptionTable := #[], attributes := #[] }
def k6m14 : Method := { name := "compareMagnitude", desc := "(Ljava/math/BigInteger;)I", sig := { parameters := [(.object "java/math/BigInteger")], returnType := some .int }, accessFlags := 16, code := some k6c14 }
def k6c15 : Code := { maxStack := 3, maxLocals := 7, code := jdk_2097_method_124_code, exceptionTable := #[], attributes := #[] }
def k6m15 : Method := { name := "equals", desc := "(Ljava/lang/Object;)Z", sig := { parameters := [(.object "java/lang/Object")], returnType := some .boolean }, accessFlags := 1, code := some k6c15 }
/-- java/math/BigInteger -/
def k6 : Class := { plain "java/math/BigInteger" (some 5) with
  accessFlags := 33
  interfaces := #[2]
  cf := some (fileOf pool6 23 #[.nestMembers #[907, 472, 1531, 1533]] #[{ accessFlags := 0, nameIndex := 7, descriptorIndex := 177, attributes := #[] }, { accessFlags := 9, nameIndex := 237, descriptorIndex := 238, attributes := #[] }, { accessFlags := 2, nameIndex := 7, descriptorIndex := 358, attributes := #[] }, { accessFlags := 1, nameIndex := 318, descriptorIndex := 184, attributes := #[] }, { accessFlags := 2, nameIndex := 318, descriptorIndex := 399, attributes := #[] }, { accessFlags := 10, nameIndex := 405, descriptorIndex := 406, attributes := #[] }, { accessFlags := 1, nameIndex := 642, descriptorIndex := 184, attributes := #[] }, { accessFlags := 2, nameIndex := 537, descriptorIndex := 184, attributes := #[] }, { accessFlags := 1, nameIndex := 1379, descriptorIndex := 184, attributes := #[] }, { accessFlags := 8, nameIndex := 607, descriptorIndex := 82, attributes := #[] }, { accessFlags := 1, nameIndex := 298, descriptorIndex := 322, attributes := #[] }, { accessFlags := 1, nameIndex := 34, descriptorIndex := 74, attributes := #[] }, { accessFlags := 10, nameIndex := 431, descriptorIndex := 432, attributes := #[] }, { accessFlags := 1, nameIndex := 337, descriptorIndex := 338, attributes := #[] }, { accessFlags := 16, nameIndex := 367, descriptorIndex := 338, attributes := #[] }, { accessFlags := 1, nameIndex := 263, descriptorIndex := 264, attributes := #[] }] 33 4 #[1160] #[{ accessFlags := 16, nameIndex := 34, descriptorIndex := 35, attributes := #[] }, { accessFlags := 16, nameIndex := 30, descriptorIndex := 31, attributes := #[] }, { accessFlags := 2, nameIndex := 752, descriptorIndex := 35, attributes := #[] }, { accessFlags := 2, nameIndex := 749, descriptorIndex := 35, attributes := #[] }, { accessFlags := 2, nameIndex := 746, descriptorIndex := 35, attributes := #[] }, { accessFlags := 2, nameIndex := 868, descriptorIndex := 35, attributes := #[] }, { accessFlags := 24, nameIndex := 1162, descriptorIndex := 1163, attributes := #[] }, { accessFlags := 26, nameIndex := 1165, descriptorIndex := 35, attributes := #[] }, { accessFlags := 26, nameIndex := 1166, descriptorIndex := 35, attributes := #[] }, { accessFlags := 26, nameIndex := 1168, descriptorIndex := 35, attributes := #[] }, { accessFlags := 26, nameIndex := 1170, descriptorIndex := 35, attributes := #[] }, { accessFlags := 26, nameIndex := 1172, descriptorIndex := 35, attributes := #[] }, { accessFlags := 26, nameIndex := 1174, descriptorIndex := 35, attributes := #[] }, { accessFlags := 24, nameIndex := 1176, descriptorIndex := 35, attributes := #[] }, { accessFlags := 24, nameIndex := 1177, descriptorIndex := 35, attributes := #[] }, { accessFlags := 26, nameIndex := 1179, descriptorIndex := 35, attributes := #[] }, { accessFlags := 26, nameIndex := 1181, descriptorIndex := 35, attributes := #[] }, { accessFlags := 26, nameIndex := 1182, descriptorIndex := 35, attributes := #[] }, { accessFlags := 10, nameIndex := 95, descriptorIndex := 96, attributes := #[] }, { accessFlags := 26, nameIndex := 1184, descriptorIndex := 35, attributes := #[] }, { accessFlags := 26, nameIndex := 1186, descriptorIndex := 35, attributes := #[] }, { accessFlags := 26, nameIndex := 180, descriptorIndex := 27, attributes := #[] }, { accessFlags := 26, nameIndex := 1188, descriptorIndex := 35, attributes := #[] }, { accessFlags := 26, nameIndex := 349, descriptorIndex := 350, attributes := #[] }, { accessFlags := 26, nameIndex := 355, descriptorIndex := 350, attributes := #[] }, { accessFlags := 74, nameIndex := 821, descriptorIndex := 822, attributes := #[] }, { accessFlags := 26, nameIndex := 763, descriptorIndex := 764, attributes := #[] }, { accessFlags := 26, nameIndex := 759, descriptorIndex := 760, attributes := #[] }, { accessFlags := 25, nameIndex := 26, descriptorIndex := 27, attributes := #[] }, { accessFlags := 25, nameIndex := 260, descriptorIndex := 27, attributes := #[] }, { accessFlags := 25, nameIndex := 267, descriptorIndex := 27, attributes := #[] }, { accessFlags := 26, nameIndex := 581, descriptorIndex := 27, attributes := #[] }, { accessFlags := 25, nameIndex := 1051, descriptorIndex := 27, attributes := #[] }, { accessFlags := 8, nameIndex := 673, descriptorIndex := 31, attributes := #[] }, { accessFlags := 10, nameIndex := 778, descriptorIndex := 35, attributes := #[] }, { accessFlags := 26, nameIndex := 781, descriptorIndex := 782, attributes := #[] }, { accessFlags := 10, nameIndex := 798, descriptorIndex := 31, attributes := #[] }, { accessFlags := 10, nameIndex := 792, descriptorIndex := 350, attributes := #[] }, { accessFlags := 10, nameIndex := 106, descriptorIndex := 31, attributes := #[] }, { accessFlags := 10, nameIndex := 119, descriptorIndex := 31, attributes := #[] }, { accessFlags := 26, nameIndex := 1192, descriptorIndex := 1163, attributes := #[] }, { accessFlags := 26, nameIndex := 1158, descriptorIndex := 1159, attributes := #[] }, { accessFlags := 4120, nameIndex := 311, descriptorIndex := 312, attributes := #[] }])
  fields := #[{ name := "signum", type := .int, accessFlags := 16, slot := 0, constantValue := 0 }, { name := "mag", type := (.array .int), accessFlags := 16, slot := 1, constantValue := 0 }, { name := "bitCountPlusOne", type := .int, accessFlags := 2, slot := 2, constantValue := 0 }, { name := "bitLengthPlusOne", type := .int, accessFlags := 2, slot := 3, constantValue := 0 }, { name := "lowestSetBitPlusTwo", type := .int, accessFlags := 2, slot := 4, constantValue := 0 }, { name := "firstNonzeroIntNumPlusTwo", type := .int, accessFlags := 2, slot := 5, constantValue := 0 }, { name := "LONG_MASK", type := .long, accessFlags := 24, slot := 0, constantValue := 0 }, { name := "MAX_MAG_LENGTH", type := .int, accessFlags := 26, slot := 1, constantValue := 0 }, { name := "PRIME_SEARCH_BIT_LENGTH_LIMIT", type := .int, accessFlags := 26, slot := 2, constantValue := 0 }, { name := "KARATSUBA_THRESHOLD", type := .int, accessFlags := 26, slot := 3, constantValue := 0 }, { name := "TOOM_COOK_THRESHOLD", type := .int, accessFlags := 26, slot := 4, constantValue := 0 }, { name := "KARATSUBA_SQUARE_THRESHOLD", type := .int, accessFlags := 26, slot := 5, constantValue := 0 }, { name := "TOOM_COOK_SQUARE_THRESHOLD", type := .int, accessFlags := 26, slot := 6, constantValue := 0 }, { name := "BURNIKEL_ZIEGLER_THRESHOLD", type := .int, accessFlags := 24, slot := 7, constantValue := 0 }, { name := "BURNIKEL_ZIEGLER_OFFSET", type := .int, accessFlags := 24, slot := 8, constantValue := 0 }, { name := "SCHOENHAGE_BASE_CONVERSION_THRESHOLD", type := .int, accessFlags := 26, slot := 9, constantValue := 0 }, { name := "MULTIPLY_SQUARE_THRESHOLD", type := .int, accessFlags := 26, slot := 10, constantValue := 0 }, { name := "MONTGOMERY_INTRINSIC_THRESHOLD", type := .int, accessFlags := 26, slot := 11, constantValue := 0 }, { name := "bitsPerDigit", type := (.array .long), accessFlags := 10, slot := 12, constantValue := 0 }, { name := "SMALL_PRIME_THRESHOLD", type := .int, accessFlags := 26, slot := 13, constantValue := 0 }, { name := "DEFAULT_PRIME_CERTAINTY", type := .int, accessFlags := 26, slot := 14, constantValue := 0 }, { name := "SMALL_PRIME_PRODUCT", type := (.object "java/math/BigInteger"), accessFlags := 26, slot := 15, constantValue := 0 }, { name := "MAX_CONSTANT", type := .int, accessFlags := 26, slot := 16, constantValue := 0 }, { name := "posConst", type := (.array (.object "java/math/BigInteger")), accessFlags := 26, slot := 17, constantValue := 0 }, { name := "negConst", type := (.array (.object "java/math/BigInteger")), accessFlags := 26, slot := 18, constantValue := 0 }, { name := "powerCache", type := (.array (.array (.object "java/math/BigInteger"))), accessFlags := 74, slot := 19, constantValue := 0 }, { name := "logCache", type := (.array .double), accessFlags := 26, slot := 20, constantValue := 0 }, { name := "LOG_TWO", type := .double, accessFlags := 26, slot := 21, constantValue := 0 }, { name := "ZERO", type := (.object "java/math/BigInteger"), accessFlags := 25, slot := 22, constantValue := 0 }, { name := "ONE", type := (.object "java/math/BigInteger"), accessFlags := 25, slot := 23, constantValue := 0 }, { name := "TWO", type := (.object "java/math/BigInteger"), accessFlags := 25, slot := 24, constantValue := 0 }, { name := "NEGATIVE_ONE", type := (.object "java/math/BigInteger"), accessFlags := 26, slot := 25, constantValue := 0 }, { name := "TEN", type := (.object "java/math/BigInteger"), accessFlags := 25, slot := 26, constantValue := 0 }, { name := "bnExpModThreshTable", type := (.array .int), accessFlags := 8, slot := 27, constantValue := 0 }, { name := "NUM_ZEROS", type := .int, accessFlags := 10, slot := 28, constantValue := 0 }, { name := "ZEROS", type := (.object "java/lang/String"), accessFlags := 26, slot := 29, constantValue := 0 }, { name := "digitsPerLong", type := (.array .int), accessFlags := 10, slot := 30, constantValue := 0 }, { name := "longRadix", type := (.array (.object "java/math/BigInteger")), accessFlags := 10, slot := 31, constantValue := 0 }, { name := "digitsPerInt", type := (.array .int), accessFlags := 10, slot := 32, constantValue := 0 }, { name := "intRadix", type := (.array .int), accessFlags := 10, slot := 33, constantValue := 0 }, { name := "serialVersionUID", type := .long, accessFlags := 26, slot := 34, constantValue := 0 }, { name := "serialPersistentFields", type := (.array (.object "java/io/ObjectStreamField")), accessFlags := 26, slot := 35, constantValue := 0 }, { name := "$assertionsDisabled", type := .boolean, accessFlags := 4120, slot := 36, constantValue := 0 }]
  methods := #[k6m0, k6m1, k6m2, k6m3, k6m4, k6m5, k6m6, k6m7, k6m8, k6m9, k6m10, k6m11, k6m12, k6m13, k6m14, k6m15]
  instanceTypes := #[.int, (.array .int), .int, .int, .int, .int]
  staticTypes := #[.long, .int, .int, .int, .int, .int, .int, .int, .int, .int, .int, .int, (.array .long), .int, .int, (.object "java/math/BigInteger"), .int, (.array (.object "java/math/BigInteger")), (.array (.object "java/math/BigInteger")), (.array (.array (.object "java/math/BigInteger"))), (.array .double), .double, (.object "java/math/BigInteger"), (.object "java/math/BigInteger"), (.object "java/math/BigInteger"), (.object "java/math/BigInteger"), (.object "java/math/BigInteger"), (.array .int), .int, (.object "java/lang/String"), (.array .int), (.array (.object "java/math/BigInteger")), (.array .int), (.array .int), .long, (.array (.object "java/io/ObjectStreamField")), .boolean]
  resolved := Array.replicate 1542 none
  statics := some 0 }

def pool7 : Array CpInfo := pool [(1, .class_ 2), (0, u "java/math/BigInteger"), (2, .methodref 6 7), (0, .class_ 8), (0, .nameAndType 9 10), (0, u "java/lang/Object"), (0, u "<init>"), (0, u "()V"), (0, .fieldref 12 13), (0, .class_ 14), (0, .nameAndType 15 16), (0, u "java/math/MutableBigInteger"), (0, u "offset"), (0, u "I"), (0, .fieldref 12 18), (0, .nameAndType 19 20), (0, u "value"), (0, u "[I"), (0, .fieldref 12 22), (0, .nameAndType 23 16), (0, u "intLen"), (0, .fieldref 1 25), (0, .nameAndType 26 20), (0, u "mag"), (0, .methodref 28 29), (0, .class_ 30), (0, .nameAndType 31 32), (0, u "java/util/Arrays"), (0, u "copyOf"), (0, u "([II)[I"), (7, u "([II)V"), (2, u "$assertionsDisabled"), (0, u "Z"), (7, .long 4294967295), (1, .fieldref 1 55), (0, .nameAndType 56 57), (0, u "ZERO"), (0, u "Ljava/math/BigInteger;"), (0, .methodref 12 59), (0, .nameAndType 60 61), (0, u "getMagnitudeArray"), (0, u "()[I"), (0, .methodref 1 63), (0, .nameAndType 9 40), (0, .methodref 12 65), (0, .nameAndType 66 10), (0, u "normalize"), (6, u "toBigInteger"), (0, u "(I)Ljava/math/BigInteger;"), (13, .integer 2147483648), (0, .methodref 90 91), (0, .class_ 92), (0, .nameAndType 93 94), (0, u "java/lang/Integer"), (0, u "numberOfTrailingZeros"), (0, u "(I)I"), (13, .methodref 12 109), (0, .nameAndType 110 111), (0, u "rightShift"), (0, u "(I)V"), (0, .methodref 1 113), (0, .nameAndType 114 94), (0, u "bitLengthForInt"), (0, .methodref 12 116), (0, .nameAndType 117 111), (0, u "primitiveLeftShift"), (0, .methodref 12 119), (0, .nameAndType 120 111), (0, u "primitiveRightShift"), (10, .class_ 133), (1, u "java/lang/Math"), (1, u "(II)I"), (6, .methodref 12 143), (0, .nameAndType 144 145), (0, u "compare"), (0, u "(Ljava/math/MutableBigInteger;)I"), (3, .methodref 12 150), (0, .nameAndType 151 10), (0, u "clear"), (0, .methodref 90 153), (0, .nameAndType 154 94), (0, u "numberOfLeadingZeros"), (7, u "(Ljava/math/MutableBigInteger;Ljava/math/MutableBigInteger;Z)Ljava/math/MutableBigInteger;"), (2, u "divideKnuth"), (11, .methodref 12 7), (0, .methodref 12 179), (0, .nameAndType 180 181), (0, u "divideOneWord"), (0, u "(ILjava/math/MutableBigInteger;)I"), (2, .methodref 12 185), (0, .nameAndType 186 187), (0, u "getLowestSetBit"), (0, u "()I"), (57, u "(Ljava/math/BigInteger;)V"), (11, u "ONE"), (0, u "Ljava/math/MutableBigInteger;"), (2, u "([I)V"), (67, .methodref 131 330), (0, .nameAndType 331 94), (0, u "abs"), (0, .methodref 12 333), (0, .nameAndType 334 335), (0, u "binaryGCD"), (0, u "(Ljava/math/MutableBigInteger;)Ljava/math/MutableBigInteger;"), (2, .methodref 12 339), (0, .nameAndType 340 135), (0, u "binaryGcd"), (0, .methodref 12 342), (0, .nameAndType 343 145), (0, u "difference"), (67, u "KNUTH_POW2_THRESH_LEN"), (2, u "KNUTH_POW2_THRESH_ZEROS"), (137, u "hybridGCD")] 37

def k7c0 : Code := { maxStack := 2, maxLocals := 1, code := jdk_2101_method_1_code, exceptionTable := #[], attributes := #[] }
def k7m0 : Method := { name := "<init>", desc := "()V", sig := { parameters := [], returnType := none }, accessFlags := 0, code := some k7c0 }
def k7c1 : Code := { maxStack := 2, maxLocals := 2, code := jdk_2101_method_3_code, exceptionTable := #[], attributes := #[] }
def k7m1 : Method := { name := "<init>", desc := "([I)V", sig := { parameters := [(.array .int)], returnType := none }, accessFlags := 0, code := some k7c1 }
def k7c2 : Code := { maxStack := 3, maxLocals := 2, code := jdk_2101_method_4_code, exceptionTable := #[], attributes := #[] }
def k7m2 : Method := { name := "<init>", desc := "(Ljava/math/BigInteger;)V", sig := { parameters := [(.object "java/math/BigInteger")], returnType := none }, accessFlags := 0, code := some k7c2 }
def k7c3 : Code := { maxStack := 4, maxLocals := 2, code := jdk_2101_method_7_code, exceptionTable := #[], attributes := #[] }
def k7m3 : Method := { name := "getMagnitudeArray", desc := "()[I", sig := { parameters := [], returnType := some (.array .int) }, accessFlags := 2, code := some k7c3 }
def k7c4 : Code := { maxStack := 4, maxLocals := 2, code := jdk_2101_method_9_code, exceptionTable := #[], attributes := #[] }
def k7m4 : Method := { name := "toBigInteger", desc := "(I)Ljava/math/BigInteger;", sig := { parameters := [.int], returnType := some (.object "java/math/BigInteger") }, accessFlags := 0, code := some k7c4 }
def k7c5 : Code := { maxStack := 4, maxLocals := 3, code := jdk_2101_method_13_code, exceptionTable := #[], attributes := #[] }
def k7m5 : Method := { name := "clear", desc := "()V", sig := { parameters := [], returnType := none }, accessFlags := 0, code := some k7c5 }
def k7c6 : Code := { maxStack := 3, maxLocals := 8, code := jdk_2101_method_15_code, exceptionTable := #[], attributes := #[] }
def k7m6 : Method := { name := "compare", desc := "(Ljava/math/MutableBigInteger;)I", sig := { parameters := [(.object "java/math/MutableBigInteger")], returnType := some .int }, accessFlags := 16, code := some k7c6 }
def k7c7 : Code := { maxStack := 3, maxLocals := 3, code := jdk_2101_method_18_code, exceptionTable := #[], attributes := #[] }
def k7m7 : Method := { name := "getLowestSetBit", desc := "()I", sig := { parameters := [], returnType := some .int }, accessFlags := 18, code := some k7c7 }
def k7c8 : Code := { maxStack := 3, maxLocals := 4, code := jdk_2101_method_21_code, exceptionTable := #[], attributes := #[] }
def k7m8 : Method := { name := "normalize", desc := "()V", sig := { parameters := [], returnType := none }, accessFlags := 16, code := some k7c8 }
def k7c9 : Code := { maxStack := 3, maxLocals := 5, code := jdk_2101_method_35_code, exceptionTable := #[], attributes := #[] }
def k7m9 : Method := { name := "rightShift", desc := "(I)V", sig := { parameters := [.int], returnType := none }, accessFlags := 0, code := some k7c9 }
def k7c10 : Code := { maxStack := 5, maxLocals := 7, code := jdk_2101_method_41_code, exceptionTable := #[], attributes := #[] }
def k7m10 : Method := { name := "primitiveRightShift", desc := "(I)V", sig := { parameters := [.int], returnType := none }, accessFlags := 18, code := some k7c10 }
def k7c11 : Code := { maxStack := 5, maxLocals := 8, code := jdk_2101_method_42_code, exceptionTable := #[], attributes := #[] }
def k7m11 : Method := { name := "primitiveLeftShift", desc := "(I)V", sig := { parameters := [.int], returnType := none }, accessFlags := 18, code := some k7c11 }
def k7c12 : Code := { maxStack := 6, maxLocals := 8, code := jdk_2101_method_50_code, exceptionTable := #[], attributes := #[] }
def k7m12 : Method := { name := "difference", desc := "(Ljava/math/MutableBigInteger;)I", sig := { parameters := [(.object "java/math/MutableBigInteger")], returnType := some .int }, accessFlags := 2, code := some k7c12 }
def k7c13 : Code := { maxStack := 6, maxLocals := 15, code := jdk_2101_method_53_code, exceptionTable := #[], attributes := #[] }
def k7m13 : Method := { name := "divideOneWord", desc := "(ILjava/math/MutableBigInteger;)I", sig := { parameters := [.int, (.object "java/math/MutableBigInteger")], returnType := some .int }, accessFlags := 0, code := some k7c13 }
def k7c14 : Code := { maxStack := 5, maxLocals := 8, code := jdk_2101_method_57_code, exceptionTable := #[], attributes := #[] }
def k7m14 : Method := { name := "divideKnuth", desc := "(Ljava/math/MutableBigInteger;Ljava/math/MutableBigInteger;Z)Ljava/math/MutableBigInteger;", sig := { parameters := [(.object "java/math/MutableBigInteger"), (.object "java/math/MutableBigInteger"), .boolean], returnType := some (.object "java/math/MutableBigInteger") }, accessFlags := 0, code := some k7c14 }
def k7c15 : Code := { maxStack := 3, maxLocals := 5, code := jdk_2101_method_72_code, exceptionTable := #[], attributes := #[] }
def k7m15 : Method := { name := "hybridGCD", desc := "(Ljava/math/MutableBigInteger;)Ljava/math/MutableBigInteger;", sig := { parameters := [(.object "java/math/MutableBigInteger")], returnType := some (.object "java/math/MutableBigInteger") }, accessFlags := 0, code := some k7c15 }
def k7c16 : Code := { maxStack := 3, maxLocals := 13, code := jdk_2101_method_73_code, exceptionTable := #[], attributes := #[] }
def k7m16 : Method := { name := "binaryGCD", desc := "(Ljava/math/MutableBigInteger;)Ljava/math/MutableBigInteger;", sig := { parameters := [(.object "java/math/MutableBigInteger")], returnType := some (.object "java/math/MutableBigInteger") }, accessFlags := 2, code := some k7c16 }
def k7c17 : Code := { maxStack := 3, maxLocals := 5, code := jdk_2101_method_74_code, exceptionTable := #[], attributes := #[] }
def k7m17 : Method := { name := "binaryGcd", desc := "(II)I", sig := { parameters := [.int, .int], returnType := some .int }, accessFlags := 8, code := some k7c17 }
/-- java/math/MutableBigInteger -/
def k7 : Class := { plain "java/math/MutableBigInteger" (some 0) with
  accessFlags := 32
  interfaces := #[]
  cf := some (fileOf pool7 12 #[] #[{ accessFlags := 0, nameIndex := 9, descriptorIndex := 10, attributes := #[] }, { accessFlags := 0, nameIndex := 9, descriptorIndex := 261, attributes := #[] }, { accessFlags := 0, nameIndex := 9, descriptorIndex := 245, attributes := #[] }, { accessFlags := 2, nameIndex := 60, descriptorIndex := 61, attributes := #[] }, { accessFlags := 0, nameIndex := 73, descriptorIndex := 74, attributes := #[] }, { accessFlags := 0, nameIndex := 151, descriptorIndex := 10, attributes := #[] }, { accessFlags := 16, nameIndex := 144, descriptorIndex := 145, attributes := #[] }, { accessFlags := 18, nameIndex := 186, descriptorIndex := 187, attributes := #[] }, { accessFlags := 16, nameIndex := 66, descriptorIndex := 10, attributes := #[] }, { accessFlags := 0, nameIndex := 110, descriptorIndex := 111, attributes := #[] }, { accessFlags := 18, nameIndex := 120, descriptorIndex := 111, attributes := #[] }, { accessFlags := 18, nameIndex := 117, descriptorIndex := 111, attributes := #[] }, { accessFlags := 2, nameIndex := 343, descriptorIndex := 145, attributes := #[] }, { accessFlags := 0, nameIndex := 180, descriptorIndex := 181, attributes := #[] }, { accessFlags := 0, nameIndex := 165, descriptorIndex := 162, attributes := #[] }, { accessFlags := 0, nameIndex := 552, descriptorIndex := 335, attributes := #[] }, { accessFlags := 2, nameIndex := 334, descriptorIndex := 335, attributes := #[] }, { accessFlags := 8, nameIndex := 340, descriptorIndex := 135, attributes := #[] }] 32 6 #[] #[{ accessFlags := 0, nameIndex := 19, descriptorIndex := 20, attributes := #[] }, { accessFlags := 0, nameIndex := 23, descriptorIndex := 16, attributes := #[] }, { accessFlags := 0, nameIndex := 15, descriptorIndex := 16, attributes := #[] }, { accessFlags := 24, nameIndex := 257, descriptorIndex := 258, attributes := #[] }, { accessFlags := 24, nameIndex := 411, descriptorIndex := 16, attributes := #[] }, { accessFlags := 24, nameIndex := 414, descriptorIndex := 16, attributes := #[] }, { accessFlags := 4120, nameIndex := 43, descriptorIndex := 44, attributes := #[] }])
  fields := #[{ name := "value", type := (.array .int), accessFlags := 0, slot := 0, constantValue := 0 }, { name := "intLen", type := .int, accessFlags := 0, slot := 1, constantValue := 0 }, { name := "offset", type := .int, accessFlags := 0, slot := 2, constantValue := 0 }, { name := "ONE", type := (.object "java/math/MutableBigInteger"), accessFlags := 24, slot := 0, constantValue := 0 }, { name := "KNUTH_POW2_THRESH_LEN", type := .int, accessFlags := 24, slot := 1, constantValue := 0 }, { name := "KNUTH_POW2_THRESH_ZEROS", type := .int, accessFlags := 24, slot := 2, constantValue := 0 }, { name := "$assertionsDisabled", type := .boolean, accessFlags := 4120, slot := 3, constantValue := 0 }]
  methods := #[k7m0, k7m1, k7m2, k7m3, k7m4, k7m5, k7m6, k7m7, k7m8, k7m9, k7m10, k7m11, k7m12, k7m13, k7m14, k7m15, k7m16, k7m17]
  instanceTypes := #[(.array .int), .int, .int]
  staticTypes := #[(.object "java/math/MutableBigInteger"), .int, .int, .boolean]
  resolved := Array.replicate 590 none
  statics := none }

def pool8 : Array CpInfo := pool [(2, .class_ 4), (1, u "java/lang/Object"), (0, u "<init>"), (0, u "()V"), (7, .class_ 16), (1, u "java/util/Arrays"), (57, .class_ 76), (1, u "java/util/Arrays$NaturalOrder"), (32, u "()Ljava/lang/Object;"), (3, .class_ 115), (1, u "java/util/Arrays$LegacyMergeSort"), (1, u "Z"), (10, .nameAndType 129 109), (0, u "clone"), (172, u "copyOf"), (13, .methodref 317 128), (0, .class_ 318), (0, u "[I"), (56, .class_ 376), (0, u "java/util/Arrays$ArrayList"), (68, u "$assertionsDisabled"), (269, u "MIN_ARRAY_SORT_GRAN"), (0, u "I"), (2, u "INSERTIONSORT_THRESHOLD"), (151, u "([II)[I"), (103, .class_ 976), (0, u "java/util/Arrays$ArrayItr")] 52

def k8m0 : Method := { name := "<init>", desc := "()V", sig := { parameters := [], returnType := none }, accessFlags := 2, code := none }
def k8c1 : Code := { maxStack := 6, maxLocals := 3, code := jdk_65_method_123_code, exceptionTable := #[], attributes := #[] }
def k8m1 : Method := { name := "copyOf", desc := "([II)[I", sig := { parameters := [(.array .int), .int], returnType := some (.array .int) }, accessFlags := 9, code := some k8c1 }
/-- java/util/Arrays -/
def k8 : Class := { plain "java/util/Arrays" (some 0) with
  accessFlags := 49
  interfaces := #[]
  cf := some (fileOf pool8 14 #[.nestMembers #[975, 375, 113, 74]] #[{ accessFlags := 2, nameIndex := 5, descriptorIndex := 6, attributes := #[] }, { accessFlags := 9, nameIndex := 302, descriptorIndex := 871, attributes := #[] }] 49 2 #[] #[{ accessFlags := 26, nameIndex := 715, descriptorIndex := 716, attributes := #[] }, { accessFlags := 26, nameIndex := 719, descriptorIndex := 716, attributes := #[] }, { accessFlags := 4120, nameIndex := 445, descriptorIndex := 117, attributes := #[] }])
  fields := #[{ name := "MIN_ARRAY_SORT_GRAN", type := .int, accessFlags := 26, slot := 0, constantValue := 0 }, { name := "INSERTIONSORT_THRESHOLD", type := .int, accessFlags := 26, slot := 1, constantValue := 0 }, { name := "$assertionsDisabled", type := .boolean, accessFlags := 4120, slot := 2, constantValue := 0 }]
  methods := #[k8m0, k8m1]
  instanceTypes := #[]
  staticTypes := #[.int, .int, .boolean]
  resolved := Array.replicate 1029 none
  statics := none }

def pool9 : Array CpInfo := pool [(1, .class_ 2), (0, u "java/lang/Cloneable"), (0, .class_ 4), (0, u "java/lang/Object")] 2

/-- java/lang/Cloneable -/
def k9 : Class := { plain "java/lang/Cloneable" (some 0) with
  accessFlags := 1537
  interfaces := #[]
  cf := some (fileOf pool9 1 #[] #[] 1537 3 #[] #[])
  fields := #[]
  methods := #[]
  instanceTypes := #[]
  staticTypes := #[]
  resolved := Array.replicate 7 none
  statics := none }

def pool10 : Array CpInfo := pool [(1, .class_ 2), (0, u "java/lang/Math"), (1, .class_ 6), (1, u "java/lang/Object"), (0, u "<init>"), (0, u "()V"), (89, .class_ 100), (1, u "java/lang/Math$RandomNumberGeneratorHolder"), (23, u "abs"), (34, u "(I)I"), (12, u "negativeZeroFloatBits"), (0, u "J"), (2, u "negativeZeroDoubleBits"), (68, u "$assertionsDisabled"), (0, u "Z"), (91, u "twoToTheDoubleScaleDown"), (0, u "D"), (4, u "twoToTheDoubleScaleUp"), (9, u "E"), (3, u "PI"), (2, u "TAU"), (2, u "DEGREES_TO_RADIANS"), (0, u "RADIANS_TO_DEGREES")] 94

def k10m0 : Method := { name := "<init>", desc := "()V", sig := { parameters := [], returnType := none }, accessFlags := 2, code := none }
def k10c1 : Code := { maxStack := 1, maxLocals := 1, code := jdk_29_method_59_code, exceptionTable := #[], attributes := #[] }
def k10m1 : Method := { name := "abs", desc := "(I)I", sig := { parameters := [.int], returnType := some .int }, accessFlags := 9, code := some k10c1 }
/-- java/lang/Math -/
def k10 : Class := { plain "java/lang/Math" (some 0) with
  accessFlags := 49
  interfaces := #[]
  cf := some (fileOf pool10 1 #[.nestMembers #[98]] #[{ accessFlags := 2, nameIndex := 7, descriptorIndex := 8, attributes := #[] }, { accessFlags := 9, nameIndex := 124, descriptorIndex := 159, attributes := #[] }] 49 4 #[] #[{ accessFlags := 25, nameIndex := 354, descriptorIndex := 339, attributes := #[] }, { accessFlags := 25, nameIndex := 358, descriptorIndex := 339, attributes := #[] }, { accessFlags := 25, nameIndex := 361, descriptorIndex := 339, attributes := #[] }, { accessFlags := 26, nameIndex := 364, descriptorIndex := 339, attributes := #[] }, { accessFlags := 26, nameIndex := 365, descriptorIndex := 339, attributes := #[] }, { accessFlags := 26, nameIndex := 172, descriptorIndex := 173, attributes := #[] }, { accessFlags := 26, nameIndex := 176, descriptorIndex := 173, attributes := #[] }, { accessFlags := 8, nameIndex := 344, descriptorIndex := 339, attributes := #[] }, { accessFlags := 8, nameIndex := 338, descriptorIndex := 339, attributes := #[] }, { accessFlags := 4120, nameIndex := 245, descriptorIndex := 246, attributes := #[] }])
  fields := #[{ name := "E", type := .double, accessFlags := 25, slot := 0, constantValue := 0 }, { name := "PI", type := .double, accessFlags := 25, slot := 1, constantValue := 0 }, { name := "TAU", type := .double, accessFlags := 25, slot := 2, constantValue := 0 }, { name := "DEGREES_TO_RADIANS", type := .double, accessFlags := 26, slot := 3, constantValue := 0 }, { name := "RADIANS_TO_DEGREES", type := .double, accessFlags := 26, slot := 4, constantValue := 0 }, { name := "negativeZeroFloatBits", type := .long, accessFlags := 26, slot := 5, constantValue := 0 }, { name := "negativeZeroDoubleBits", type := .long, accessFlags := 26, slot := 6, constantValue := 0 }, { name := "twoToTheDoubleScaleUp", type := .double, accessFlags := 8, slot := 7, constantValue := 0 }, { name := "twoToTheDoubleScaleDown", type := .double, accessFlags := 8, slot := 8, constantValue := 0 }, { name := "$assertionsDisabled", type := .boolean, accessFlags := 4120, slot := 9, constantValue := 0 }]
  methods := #[k10m0, k10m1]
  instanceTypes := #[]
  staticTypes := #[.double, .double, .double, .double, .double, .long, .long, .double, .double, .boolean]
  resolved := Array.replicate 460 none
  statics := none }

def pool11 : Array CpInfo := pool [(1, .class_ 2), (0, u "java/lang/constant/Constable"), (0, .class_ 4), (0, u "java/lang/Object")] 6

/-- java/lang/constant/Constable -/
def k11 : Class := { plain "java/lang/constant/Constable" (some 0) with
  accessFlags := 1537
  interfaces := #[]
  cf := some (fileOf pool11 1 #[] #[] 1537 3 #[] #[])
  fields := #[]
  methods := #[]
  instanceTypes := #[]
  staticTypes := #[]
  resolved := Array.replicate 11 none
  statics := none }

def pool12 : Array CpInfo := pool [(1, .class_ 2), (0, u "java/lang/constant/ConstantDesc"), (0, .class_ 4), (0, u "java/lang/Object")] 32

/-- java/lang/constant/ConstantDesc -/
def k12 : Class := { plain "java/lang/constant/ConstantDesc" (some 0) with
  accessFlags := 1537
  interfaces := #[]
  cf := some (fileOf pool12 1 #[] #[] 1537 3 #[] #[])
  fields := #[]
  methods := #[]
  instanceTypes := #[]
  staticTypes := #[]
  resolved := Array.replicate 37 none
  statics := none }

def pool13 : Array CpInfo := pool [(1, .class_ 2), (0, u "java/lang/Integer"), (16, u "digits"), (0, u "[C"), (32, u "numberOfLeadingZeros"), (0, u "(I)I"), (30, u "DigitOnes"), (0, u "[B"), (2, u "DigitTens"), (99, .class_ 190), (0, u "java/lang/Integer$IntegerCache"), (3, u "I"), (8, .class_ 204), (0, u "java/lang/Number"), (2, u "value"), (56, .integer 65536), (0, .integer 1431655765), (0, .integer 858993459), (0, .integer 252645135), (34, u "TYPE"), (0, u "Ljava/lang/Class;"), (0, .class_ 305), (0, u "java/lang/Comparable"), (0, .class_ 307), (0, u "java/lang/constant/Constable"), (0, .class_ 309), (0, u "java/lang/constant/ConstantDesc"), (0, u "MIN_VALUE"), (1, u "MAX_VALUE"), (3, u "SIZE"), (1, u "BYTES"), (1, u "serialVersionUID"), (0, u "J"), (84, u "numberOfTrailingZeros"), (0, u "bitCount")] 45

def k13c0 : Code := { maxStack := 3, maxLocals := 2, code := jdk_33_method_47_code, exceptionTable := #[], attributes := #[] }
def k13m0 : Method := { name := "numberOfLeadingZeros", desc := "(I)I", sig := { parameters := [.int], returnType := some .int }, accessFlags := 9, code := some k13c0 }
def k13c1 : Code := { maxStack := 3, maxLocals := 2, code := jdk_33_method_48_code, exceptionTable := #[], attributes := #[] }
def k13m1 : Method := { name := "numberOfTrailingZeros", desc := "(I)I", sig := { parameters := [.int], returnType := some .int }, accessFlags := 9, code := some k13c1 }
def k13c2 : Code := { maxStack := 3, maxLocals := 1, code := jdk_33_method_49_code, exceptionTable := #[], attributes := #[] }
def k13m2 : Method := { name := "bitCount", desc := "(I)I", sig := { parameters := [.int], returnType := some .int }, accessFlags := 9, code := some k13c2 }
/-- java/lang/Integer -/
def k13 : Class := { plain "java/lang/Integer" (some 5) with
  accessFlags := 49
  interfaces := #[2, 11, 12]
  cf := some (fileOf pool13 1 #[.nestMembers #[189]] #[{ accessFlags := 9, nameIndex := 53, descriptorIndex := 54, attributes := #[] }, { accessFlags := 9, nameIndex := 406, descriptorIndex := 54, attributes := #[] }, { accessFlags := 9, nameIndex := 407, descriptorIndex := 54, attributes := #[] }] 49 203 #[304, 306, 308] #[{ accessFlags := 25, nameIndex := 310, descriptorIndex := 194, attributes := #[] }, { accessFlags := 25, nameIndex := 312, descriptorIndex := 194, attributes := #[] }, { accessFlags := 25, nameIndex := 302, descriptorIndex := 303, attributes := #[] }, { accessFlags := 24, nameIndex := 19, descriptorIndex := 20, attributes := #[] }, { accessFlags := 24, nameIndex := 89, descriptorIndex := 86, attributes := #[] }, { accessFlags := 24, nameIndex := 85, descriptorIndex := 86, attributes := #[] }, { accessFlags := 18, nameIndex := 207, descriptorIndex := 194, attributes := #[] }, { accessFlags := 25, nameIndex := 316, descriptorIndex := 194, attributes := #[] }, { accessFlags := 25, nameIndex := 318, descriptorIndex := 194, attributes := #[] }, { accessFlags := 26, nameIndex := 320, descriptorIndex := 321, attributes := #[] }])
  fields := #[{ name := "MIN_VALUE", type := .int, accessFlags := 25, slot := 0, constantValue := 0 }, { name := "MAX_VALUE", type := .int, accessFlags := 25, slot := 1, constantValue := 0 }, { name := "TYPE", type := (.object "java/lang/Class"), accessFlags := 25, slot := 2, constantValue := 0 }, { name := "digits", type := (.array .char), accessFlags := 24, slot := 3, constantValue := 0 }, { name := "DigitTens", type := (.array .byte), accessFlags := 24, slot := 4, constantValue := 0 }, { name := "DigitOnes", type := (.array .byte), accessFlags := 24, slot := 5, constantValue := 0 }, { name := "value", type := .int, accessFlags := 18, slot := 0, constantValue := 0 }, { name := "SIZE", type := .int, accessFlags := 25, slot := 6, constantValue := 0 }, { name := "BYTES", type := .int, accessFlags := 25, slot := 7, constantValue := 0 }, { name := "serialVersionUID", type := .long, accessFlags := 26, slot := 8, constantValue := 0 }]
  methods := #[k13m0, k13m1, k13m2]
  instanceTypes := #[.int]
  staticTypes := #[.int, .int, (.object "java/lang/Class"), (.array .char), (.array .byte), (.array .byte), .int, .int, .long]
  resolved := Array.replicate 453 none
  statics := none }

def pool14 : Array CpInfo := pool [(2, .class_ 4), (1, u "java/lang/Object"), (0, u "<init>"), (0, u "()V"), (1, .class_ 10), (1, u "java/lang/System"), (0, u "allowSecurityManager"), (0, u "I"), (16, u "cons"), (0, u "Ljava/io/Console;"), (77, .class_ 110), (1, u "java/lang/System$CallersHolder"), (43, u "initialErrStream"), (0, u "Ljava/io/PrintStream;"), (19, u "security"), (0, u "Ljava/lang/SecurityManager;"), (31, .class_ 209), (0, u "java/lang/System$1"), (7, u "props"), (0, u "Ljava/util/Properties;"), (2, u "lineSeparator"), (0, u "Ljava/lang/String;"), (96, .class_ 321), (1, u "java/lang/System$LoggerFinder"), (5, .class_ 328), (0, u "java/lang/System$Logger"), (67, u "err"), (2, u "out"), (91, u "notSupportedJnuEncoding"), (15, u "in"), (17, u "initialIn"), (0, u "Ljava/io/InputStream;"), (35, u "bootLayer"), (0, u "Ljava/lang/ModuleLayer;"), (99, .class_ 664), (0, u "java/lang/System$2"), (9, u "NEVER"), (2, u "MAYBE"), (49, u "arraycopy"), (0, u "(Ljava/lang/Object;ILjava/lang/Object;II)V"), (72, .class_ 802), (0, u "java/lang/System$Logger$Level")] 31

def k14m0 : Method := { name := "<init>", desc := "()V", sig := { parameters := [], returnType := none }, accessFlags := 2, code := none }
def k14m1 : Method := { name := "arraycopy", desc := "(Ljava/lang/Object;ILjava/lang/Object;II)V", sig := { parameters := [(.object "java/lang/Object"), .int, (.object "java/lang/Object"), .int, .int], returnType := none }, accessFlags := 265, code := none }
/-- java/lang/System -/
def k14 : Class := { plain "java/lang/System" (some 0) with
  accessFlags := 49
  interfaces := #[]
  cf := some (fileOf pool14 8 #[.nestMembers #[319, 327, 801, 108, 663, 208]] #[{ accessFlags := 2, nameIndex := 5, descriptorIndex := 6, attributes := #[] }, { accessFlags := 265, nameIndex := 727, descriptorIndex := 728, attributes := #[] }] 49 2 #[] #[{ accessFlags := 25, nameIndex := 507, descriptorIndex := 526, attributes := #[] }, { accessFlags := 25, nameIndex := 399, descriptorIndex := 155, attributes := #[] }, { accessFlags := 25, nameIndex := 396, descriptorIndex := 155, attributes := #[] }, { accessFlags := 10, nameIndex := 525, descriptorIndex := 526, attributes := #[] }, { accessFlags := 26, nameIndex := 674, descriptorIndex := 12, attributes := #[] }, { accessFlags := 26, nameIndex := 677, descriptorIndex := 12, attributes := #[] }, { accessFlags := 10, nameIndex := 11, descriptorIndex := 12, attributes := #[] }, { accessFlags := 74, nameIndex := 175, descriptorIndex := 176, attributes := #[] }, { accessFlags := 10, nameIndex := 491, descriptorIndex := 222, attributes := #[] }, { accessFlags := 74, nameIndex := 29, descriptorIndex := 30, attributes := #[] }, { accessFlags := 74, nameIndex := 154, descriptorIndex := 155, attributes := #[] }, { accessFlags := 10, nameIndex := 217, descriptorIndex := 218, attributes := #[] }, { accessFlags := 10, nameIndex := 221, descriptorIndex := 222, attributes := #[] }, { accessFlags := 8, nameIndex := 562, descriptorIndex := 563, attributes := #[] }])
  fields := #[{ name := "in", type := (.object "java/io/InputStream"), accessFlags := 25, slot := 0, constantValue := 0 }, { name := "out", type := (.object "java/io/PrintStream"), accessFlags := 25, slot := 1, constantValue := 0 }, { name := "err", type := (.object "java/io/PrintStream"), accessFlags := 25, slot := 2, constantValue := 0 }, { name := "initialIn", type := (.object "java/io/InputStream"), accessFlags := 10, slot := 3, constantValue := 0 }, { name := "NEVER", type := .int, accessFlags := 26, slot := 4, constantValue := 0 }, { name := "MAYBE", type := .int, accessFlags := 26, slot := 5, constantValue := 0 }, { name := "allowSecurityManager", type := .int, accessFlags := 10, slot := 6, constantValue := 0 }, { name := "security", type := (.object "java/lang/SecurityManager"), accessFlags := 74, slot := 7, constantValue := 0 }, { name := "notSupportedJnuEncoding", type := (.object "java/lang/String"), accessFlags := 10, slot := 8, constantValue := 0 }, { name := "cons", type := (.object "java/io/Console"), accessFlags := 74, slot := 9, constantValue := 0 }, { name := "initialErrStream", type := (.object "java/io/PrintStream"), accessFlags := 74, slot := 10, constantValue := 0 }, { name := "props", type := (.object "java/util/Properties"), accessFlags := 10, slot := 11, constantValue := 0 }, { name := "lineSeparator", type := (.object "java/lang/String"), accessFlags := 10, slot := 12, constantValue := 0 }, { name := "bootLayer", type := (.object "java/lang/ModuleLayer"), accessFlags := 8, slot := 13, constantValue := 0 }]
  methods := #[k14m0, k14m1]
  instanceTypes := #[]
  staticTypes := #[(.object "java/io/InputStream"), (.object "java/io/PrintStream"), (.object "java/io/PrintStream"), (.object "java/io/InputStream"), .int, .int, .int, (.object "java/lang/SecurityManager"), (.object "java/lang/String"), (.object "java/io/Console"), (.object "java/io/PrintStream"), (.object "java/util/Properties"), (.object "java/lang/String"), (.object "java/lang/ModuleLayer")]
  resolved := Array.replicate 834 none
  statics := none }

/-- the primitive byte -/
def k15 : Class := { plain "byte" none with kind := .primitive 'B', accessFlags := 0x411 }
/-- [B -/
def k16 : Class := { plain "[B" (some 0) with kind := .array 15 .byte, interfaces := #[9, 4], accessFlags := 1041 }

/-- the primitive int -/
def k17 : Class := { plain "int" none with kind := .primitive 'I', accessFlags := 0x411 }
/-- [I -/
def k18 : Class := { plain "[I" (some 0) with kind := .array 17 .int, interfaces := #[9, 4], accessFlags := 1041 }

/-- [Ljava/math/BigInteger; -/
def k19 : Class := { plain "[Ljava/math/BigInteger;" (some 0) with kind := .array 6 (.object "java/math/BigInteger"), interfaces := #[9, 4], accessFlags := 1041 }

def heap : Heap := #[{ cls := 6, slots := #[.long 0, .int 0, .int 0, .int 0, .int 0, .int 0, .int 0, .int 0, .int 0, .int 0, .int 0, .int 0, .null, .int 0, .int 0, .null, .int 0, .ref 1, .ref 2, .null, .null, .double 0, .ref 67, .ref 3, .ref 7, .ref 5, .ref 39, .null, .int 0, .null, .null, .null, .null, .null, .long 0, .null, .int 0], vm := .statics 6 },
  { cls := 19, slots := #[.null, .ref 3, .ref 7, .ref 11, .ref 15, .ref 19, .ref 23, .ref 27, .ref 31, .ref 35, .ref 39, .ref 43, .ref 47, .ref 51, .ref 55, .ref 59, .ref 63], vm := .none },
  { cls := 19, slots := #[.null, .ref 5, .ref 9, .ref 13, .ref 17, .ref 21, .ref 25, .ref 29, .ref 33, .ref 37, .ref 41, .ref 45, .ref 49, .ref 53, .ref 57, .ref 61, .ref 65], vm := .none },
  { cls := 6, slots := #[.int 1, .ref 4, .int 0, .int 0, .int 0, .int 0], vm := .none },
  { cls := 18, slots := #[.int 1], vm := .none },
  { cls := 6, slots := #[.int (-1), .ref 6, .int 0, .int 0, .int 0, .int 0], vm := .none },
  { cls := 18, slots := #[.int 1], vm := .none },
  { cls := 6, slots := #[.int 1, .ref 8, .int 0, .int 0, .int 0, .int 0], vm := .none },
  { cls := 18, slots := #[.int 2], vm := .none },
  { cls := 6, slots := #[.int (-1), .ref 10, .int 0, .int 0, .int 0, .int 0], vm := .none },
  { cls := 18, slots := #[.int 2], vm := .none },
  { cls := 6, slots := #[.int 1, .ref 12, .int 0, .int 0, .int 0, .int 0], vm := .none },
  { cls := 18, slots := #[.int 3], vm := .none },
  { cls := 6, slots := #[.int (-1), .ref 14, .int 0, .int 0, .int 0, .int 0], vm := .none },
  { cls := 18, slots := #[.int 3], vm := .none },
  { cls := 6, slots := #[.int 1, .ref 16, .int 0, .int 0, .int 0, .int 0], vm := .none },
  { cls := 18, slots := #[.int 4], vm := .none },
  { cls := 6, slots := #[.int (-1), .ref 18, .int 0, .int 0, .int 0, .int 0], vm := .none },
  { cls := 18, slots := #[.int 4], vm := .none },
  { cls := 6, slots := #[.int 1, .ref 20, .int 0, .int 0, .int 0, .int 0], vm := .none },
  { cls := 18, slots := #[.int 5], vm := .none },
  { cls := 6, slots := #[.int (-1), .ref 22, .int 0, .int 0, .int 0, .int 0], vm := .none },
  { cls := 18, slots := #[.int 5], vm := .none },
  { cls := 6, slots := #[.int 1, .ref 24, .int 0, .int 0, .int 0, .int 0], vm := .none },
  { cls := 18, slots := #[.int 6], vm := .none },
  { cls := 6, slots := #[.int (-1), .ref 26, .int 0, .int 0, .int 0, .int 0], vm := .none },
  { cls := 18, slots := #[.int 6], vm := .none },
  { cls := 6, slots := #[.int 1, .ref 28, .int 0, .int 0, .int 0, .int 0], vm := .none },
  { cls := 18, slots := #[.int 7], vm := .none },
  { cls := 6, slots := #[.int (-1), .ref 30, .int 0, .int 0, .int 0, .int 0], vm := .none },
  { cls := 18, slots := #[.int 7], vm := .none },
  { cls := 6, slots := #[.int 1, .ref 32, .int 0, .int 0, .int 0, .int 0], vm := .none },
  { cls := 18, slots := #[.int 8], vm := .none },
  { cls := 6, slots := #[.int (-1), .ref 34, .int 0, .int 0, .int 0, .int 0], vm := .none },
  { cls := 18, slots := #[.int 8], vm := .none },
  { cls := 6, slots := #[.int 1, .ref 36, .int 0, .int 0, .int 0, .int 0], vm := .none },
  { cls := 18, slots := #[.int 9], vm := .none },
  { cls := 6, slots := #[.int (-1), .ref 38, .int 0, .int 0, .int 0, .int 0], vm := .none },
  { cls := 18, slots := #[.int 9], vm := .none },
  { cls := 6, slots := #[.int 1, .ref 40, .int 0, .int 0, .int 0, .int 0], vm := .none },
  { cls := 18, slots := #[.int 10], vm := .none },
  { cls := 6, slots := #[.int (-1), .ref 42, .int 0, .int 0, .int 0, .int 0], vm := .none },
  { cls := 18, slots := #[.int 10], vm := .none },
  { cls := 6, slots := #[.int 1, .ref 44, .int 0, .int 0, .int 0, .int 0], vm := .none },
  { cls := 18, slots := #[.int 11], vm := .none },
  { cls := 6, slots := #[.int (-1), .ref 46, .int 0, .int 0, .int 0, .int 0], vm := .none },
  { cls := 18, slots := #[.int 11], vm := .none },
  { cls := 6, slots := #[.int 1, .ref 48, .int 0, .int 0, .int 0, .int 0], vm := .none },
  { cls := 18, slots := #[.int 12], vm := .none },
  { cls := 6, slots := #[.int (-1), .ref 50, .int 0, .int 0, .int 0, .int 0], vm := .none },
  { cls := 18, slots := #[.int 12], vm := .none },
  { cls := 6, slots := #[.int 1, .ref 52, .int 0, .int 0, .int 0, .int 0], vm := .none },
  { cls := 18, slots := #[.int 13], vm := .none },
  { cls := 6, slots := #[.int (-1), .ref 54, .int 0, .int 0, .int 0, .int 0], vm := .none },
  { cls := 18, slots := #[.int 13], vm := .none },
  { cls := 6, slots := #[.int 1, .ref 56, .int 0, .int 0, .int 0, .int 0], vm := .none },
  { cls := 18, slots := #[.int 14], vm := .none },
  { cls := 6, slots := #[.int (-1), .ref 58, .int 0, .int 0, .int 0, .int 0], vm := .none },
  { cls := 18, slots := #[.int 14], vm := .none },
  { cls := 6, slots := #[.int 1, .ref 60, .int 0, .int 0, .int 0, .int 0], vm := .none },
  { cls := 18, slots := #[.int 15], vm := .none },
  { cls := 6, slots := #[.int (-1), .ref 62, .int 0, .int 0, .int 0, .int 0], vm := .none },
  { cls := 18, slots := #[.int 15], vm := .none },
  { cls := 6, slots := #[.int 1, .ref 64, .int 0, .int 0, .int 0, .int 0], vm := .none },
  { cls := 18, slots := #[.int 16], vm := .none },
  { cls := 6, slots := #[.int (-1), .ref 66, .int 0, .int 0, .int 0, .int 0], vm := .none },
  { cls := 18, slots := #[.int 16], vm := .none },
  { cls := 6, slots := #[.int 0, .ref 68, .int 0, .int 0, .int 0, .int 0], vm := .none },
  { cls := 18, slots := #[], vm := .none }]
def classes : Array Class := #[k0, k1, k2, k3, k4, k5, k6, k7, k8, k9, k10, k11, k12, k13, k14, k15, k16, k17, k18, k19]
def interned : List (Array UInt16 × Addr) := []
def slotsUsed : Nat := 301
def theMethod : MethodId := ⟨1, 3⟩
def args0 : Array Value := #[.long 5, .long 6]
def aboutOver (below : List Frame) : State where
  vm := { classes := classes, interned := interned.toArray }
  heap := heap
  slotsUsed := slotsUsed
  threads := #[{ frames := .invoking theMethod args0 :: below }]
def below0 : List Frame := [.native { method := ⟨0, 0⟩, args := #[] }]
def about1 : State := aboutOver below0
def p0 : Program := .bare "" "" ""
def e0 : Env := launch0.env 0 0 0
theorem w_frames : about1.frames = Frame.invoking theMethod args0 :: below0 := rfl
set_option maxRecDepth 65536 in
theorem w_args : argsFit about1.vm theMethod args0 = true := by decide +kernel
set_option maxRecDepth 65536 in
theorem w_heap : heapFits about1 = true := by decide +kernel
set_option maxRecDepth 65536 in
theorem w_runnable : about1.curStatus? = some .runnable := by decide +kernel
set_option maxRecDepth 65536 in
theorem w_alone : about1.alone = true := by decide +kernel
set_option maxRecDepth 65536 in
theorem w_named : about1.methodNamed? x = some theMethod := by decide +kernel
set_option maxRecDepth 65536 in
theorem w_hears : about1.hears theMethod below0 = true := by decide +kernel
set_option maxRecDepth 65536 in
theorem w_ripe : about1.ripe theMethod args0 below0 = true := by decide +kernel
theorem w_running : about1.status = .running := rfl
set_option maxRecDepth 65536 in
theorem w_room : about1.hasRoom e0.platform room_1 = true :=
  launch0.hasRoom_least _ room_1 (by decide +kernel) (by decide +kernel) (by decide +kernel) (by decide +kernel) (by decide +kernel) (by decide +kernel)
theorem allAtoms_all (ts : List Jvm.Cond) (a : Array Jvm.Value) (st : Jvm.State) : (allAtoms ts).before a st = ts.all (fun c => c.before a st) := by
  induction ts with
  | nil => rfl
  | cons c t ih =>
    show (Jvm.Cond.and c (allAtoms t)).before a st = _
    rw [Jvm.Cond.before_and, ih, List.all_cons]
def words1 : List Jvm.Cond := Jvm.Cond.code x code maxLocals ret :: tables_1
/-- a 'code' word, met by the world's own term for the bytes: nothing is compared byte by byte -/
theorem code_word {y : MethodName} {bytes : ByteArray} {mx : Nat} {rt : Option FieldType} {a : Array Value} {s : State} {m : MethodId} {meth : Method} {c : Code} (h1 : s.methodNamed? y = some m) (h2 : s.vm.method? m = some meth) (h3 : meth.code = some c) (h4 : c.code = bytes)
    (h5 : (c.maxLocals == mx && c.exceptionTable.isEmpty && decide (c.maxStack ≤ mostOperands) && decide (meth.sig.returnType = rt) && !meth.locks && decide (parseMethodDescriptor y.desc = some meth.sig)) = true) : (Jvm.Cond.code y bytes mx rt).before a s = true := by
  simp only [Bool.and_eq_true, beq_iff_eq, Bool.not_eq_true', decide_eq_true_eq] at h5
  obtain ⟨⟨⟨⟨⟨g1, g2⟩, g3⟩, g4⟩, g5⟩, g6⟩ := h5
  simp [Cond.before, Cond.holds, Cond.value, h1, h2, h3, h4, g1, g2, g3, g4, g5, g6]
def isCode : Jvm.Cond → Bool
  | .code _ _ _ _ => true
  | _ => false
theorem all_split {L : List Jvm.Cond} {P : Jvm.Cond → Bool} (h1 : L.all (fun c => isCode c || P c) = true) (h2 : ∀ c ∈ L.filter isCode, P c = true) : L.all P = true := by
  refine List.all_eq_true.mpr fun c hc => ?_
  have h := List.all_eq_true.mp h1 c hc
  rcases Bool.eq_false_or_eq_true (isCode c) with hi | hi
  · exact h2 c (List.mem_filter.mpr ⟨hc, hi⟩)
  · simpa [hi] using h
set_option maxRecDepth 65536 in
theorem w_c0 : (Jvm.Cond.code x code maxLocals ret).before args0 about1 = true := code_word (m := ⟨1, 3⟩) (meth := k1m3) (c := k1c3) (by decide +kernel) rfl rfl rfl (by decide +kernel)
set_option maxRecDepth 65536 in
theorem w_c1 : (Jvm.Cond.code ({ cls := "com/example/envelope/envelope/curves/Rational", name := "of", desc := "(J)Lcom/example/envelope/envelope/curves/Rational;" } : Jvm.MethodName) prog_15_method_2_code (2 : Nat) (Option.some (Jvm.ClassFile.FieldType.object "com/example/envelope/envelope/curves/Rational"))).before args0 about1 = true := code_word (m := ⟨3, 1⟩) (meth := k3m1) (c := k3c1) (by decide +kernel) rfl rfl rfl (by decide +kernel)
set_option maxRecDepth 65536 in
theorem w_c2 : (Jvm.Cond.code ({ cls := "java/math/BigInteger", name := "valueOf", desc := "(J)Ljava/math/BigInteger;" } : Jvm.MethodName) jdk_2097_method_29_code (2 : Nat) (Option.some (Jvm.ClassFile.FieldType.object "java/math/BigInteger"))).before args0 about1 = true := code_word (m := ⟨6, 1⟩) (meth := k6m1) (c := k6c1) (by decide +kernel) rfl rfl rfl (by decide +kernel)
set_option maxRecDepth 65536 in
theorem w_c3 : (Jvm.Cond.code ({ cls := "com/example/envelope/envelope/curves/Rational", name := "<init>", desc := "(Ljava/math/BigInteger;Ljava/math/BigInteger;)V" } : Jvm.MethodName) prog_15_method_1_code (3 : Nat) (Option.none : Option Jvm.ClassFile.FieldType)).before args0 about1 = true := code_word (m := ⟨3, 0⟩) (meth := k3m0) (c := k3c0) (by decide +kernel) rfl rfl rfl (by decide +kernel)
set_option maxRecDepth 65536 in
theorem w_c4 : (Jvm.Cond.code ({ cls := "java/lang/Object", name := "<init>", desc := "()V" } : Jvm.MethodName) object_method_1_code (1 : Nat) (Option.none : Option Jvm.ClassFile.FieldType)).before args0 about1 = true := code_word (m := ⟨0, 0⟩) (meth := k0m0) (c := k0c0) (by decide +kernel) rfl rfl rfl (by decide +kernel)
set_option maxRecDepth 65536 in
theorem w_c5 : (Jvm.Cond.code ({ cls := "com/example/envelope/envelope/curves/Rational", name := "of", desc := "(JJ)Lcom/example/envelope/envelope/curves/Rational;" } : Jvm.MethodName) prog_15_method_3_code (4 : Nat) (Option.some (Jvm.ClassFile.FieldType.object "com/example/envelope/envelope/curves/Rational"))).before args0 about1 = true := code_word (m := ⟨3, 2⟩) (meth := k3m2) (c := k3c2) (by decide +kernel) rfl rfl rfl (by decide +kernel)
set_option maxRecDepth 65536 in
theorem w_c6 : (Jvm.Cond.code ({ cls := "com/example/envelope/envelope/curves/Rational", name := "of", desc := "(Ljava/math/BigInteger;Ljava/math/BigInteger;)Lcom/example/envelope/envelope/curves/Rational;" } : Jvm.MethodName) prog_15_method_4_code (3 : Nat) (Option.some (Jvm.ClassFile.FieldType.object "com/example/envelope/envelope/curves/Rational"))).before args0 about1 = true := code_word (m := ⟨3, 3⟩) (meth := k3m3) (c := k3c3) (by decide +kernel) rfl rfl rfl (by decide +kernel)
set_option maxRecDepth 65536 in
theorem w_c7 : (Jvm.Cond.code ({ cls := "java/math/BigInteger", name := "signum", desc := "()I" } : Jvm.MethodName) jdk_2097_method_81_code (1 : Nat) (Option.some Jvm.ClassFile.FieldType.int)).before args0 about1 = true := code_word (m := ⟨6, 11⟩) (meth := k6m11) (c := k6c11) (by decide +kernel) rfl rfl rfl (by decide +kernel)
set_option maxRecDepth 65536 in
theorem w_c8 : (Jvm.Cond.code ({ cls := "java/math/BigInteger", name := "gcd", desc := "(Ljava/math/BigInteger;)Ljava/math/BigInteger;" } : Jvm.MethodName) jdk_2097_method_73_code (5 : Nat) (Option.some (Jvm.ClassFile.FieldType.object "java/math/BigInteger"))).before args0 about1 = true := code_word (m := ⟨6, 8⟩) (meth := k6m8) (c := k6c8) (by decide +kernel) rfl rfl rfl (by decide +kernel)
set_option maxRecDepth 65536 in
theorem w_c9 : (Jvm.Cond.code ({ cls := "java/math/MutableBigInteger", name := "<init>", desc := "(Ljava/math/BigInteger;)V" } : Jvm.MethodName) jdk_2101_method_4_code (2 : Nat) (Option.none : Option Jvm.ClassFile.FieldType)).before args0 about1 = true := code_word (m := ⟨7, 2⟩) (meth := k7m2) (c := k7c2) (by decide +kernel) rfl rfl rfl (by decide +kernel)
set_option maxRecDepth 65536 in
theorem w_c10 : (Jvm.Cond.code ({ cls := "java/util/Arrays", name := "copyOf", desc := "([II)[I" } : Jvm.MethodName) jdk_65_method_123_code (3 : Nat) (Option.some (Jvm.ClassFile.FieldType.array Jvm.ClassFile.FieldType.int))).before args0 about1 = true := code_word (m := ⟨8, 1⟩) (meth := k8m1) (c := k8c1) (by decide +kernel) rfl rfl rfl (by decide +kernel)
set_option maxRecDepth 65536 in
theorem w_c11 : (Jvm.Cond.code ({ cls := "java/math/MutableBigInteger", name := "hybridGCD", desc := "(Ljava/math/MutableBigInteger;)Ljava/math/MutableBigInteger;" } : Jvm.MethodName) jdk_2101_method_72_code (5 : Nat) (Option.some (Jvm.ClassFile.FieldType.object "java/math/MutableBigInteger"))).before args0 about1 = true := code_word (m := ⟨7, 15⟩) (meth := k7m15) (c := k7c15) (by decide +kernel) rfl rfl rfl (by decide +kernel)
set_option maxRecDepth 65536 in
theorem w_c12 : (Jvm.Cond.code ({ cls := "java/math/MutableBigInteger", name := "<init>", desc := "()V" } : Jvm.MethodName) jdk_2101_method_1_code (1 : Nat) (Option.none : Option Jvm.ClassFile.FieldType)).before args0 about1 = true := code_word (m := ⟨7, 0⟩) (meth := k7m0) (c := k7c0) (by decide +kernel) rfl rfl rfl (by decide +kernel)
set_option maxRecDepth 65536 in
theorem w_c13 : (Jvm.Cond.code ({ cls := "java/lang/Math", name := "abs", desc := "(I)I" } : Jvm.MethodName) jdk_29_method_59_code (1 : Nat) (Option.some Jvm.ClassFile.FieldType.int)).before args0 about1 = true := code_word (m := ⟨10, 1⟩) (meth := k10m1) (c := k10c1) (by decide +kernel) rfl rfl rfl (by decide +kernel)
set_option maxRecDepth 65536 in
theorem w_c14 : (Jvm.Cond.code ({ cls := "java/math/MutableBigInteger", name := "binaryGCD", desc := "(Ljava/math/MutableBigInteger;)Ljava/math/MutableBigInteger;" } : Jvm.MethodName) jdk_2101_method_73_code (13 : Nat) (Option.some (Jvm.ClassFile.FieldType.object "java/math/MutableBigInteger"))).before args0 about1 = true := code_word (m := ⟨7, 16⟩) (meth := k7m16) (c := k7c16) (by decide +kernel) rfl rfl rfl (by decide +kernel)
set_option maxRecDepth 65536 in
theorem w_c15 : (Jvm.Cond.code ({ cls := "java/math/MutableBigInteger", name := "getLowestSetBit", desc := "()I" } : Jvm.MethodName) jdk_2101_method_18_code (3 : Nat) (Option.some Jvm.ClassFile.FieldType.int)).before args0 about1 = true := code_word (m := ⟨7, 7⟩) (meth := k7m7) (c := k7c7) (by decide +kernel) rfl rfl rfl (by decide +kernel)
set_option maxRecDepth 65536 in
theorem w_c16 : (Jvm.Cond.code ({ cls := "java/lang/Integer", name := "numberOfTrailingZeros", desc := "(I)I" } : Jvm.MethodName) jdk_33_method_48_code (2 : Nat) (Option.some Jvm.ClassFile.FieldType.int)).before args0 about1 = true := code_word (m := ⟨13, 1⟩) (meth := k13m1) (c := k13c1) (by decide +kernel) rfl rfl rfl (by decide +kernel)
set_option maxRecDepth 65536 in
theorem w_c17 : (Jvm.Cond.code ({ cls := "java/math/MutableBigInteger", name := "rightShift", desc := "(I)V" } : Jvm.MethodName) jdk_2101_method_35_code (5 : Nat) (Option.none : Option Jvm.ClassFile.FieldType)).before args0 about1 = true := code_word (m := ⟨7, 9⟩) (meth := k7m9) (c := k7c9) (by decide +kernel) rfl rfl rfl (by decide +kernel)
set_option maxRecDepth 65536 in
theorem w_c18 : (Jvm.Cond.code ({ cls := "java/math/MutableBigInteger", name := "binaryGcd", desc := "(II)I" } : Jvm.MethodName) jdk_2101_method_74_code (5 : Nat) (Option.some Jvm.ClassFile.FieldType.int)).before args0 about1 = true := code_word (m := ⟨7, 17⟩) (meth := k7m17) (c := k7c17) (by decide +kernel) rfl rfl rfl (by decide +kernel)
set_option maxRecDepth 65536 in
theorem w_c19 : (Jvm.Cond.code ({ cls := "java/math/MutableBigInteger", name := "toBigInteger", desc := "(I)Ljava/math/BigInteger;" } : Jvm.MethodName) jdk_2101_method_9_code (2 : Nat) (Option.some (Jvm.ClassFile.FieldType.object "java/math/BigInteger"))).before args0 about1 = true := code_word (m := ⟨7, 4⟩) (meth := k7m4) (c := k7c4) (by decide +kernel) rfl rfl rfl (by decide +kernel)
set_option maxRecDepth 65536 in
theorem w_c20 : (Jvm.Cond.code ({ cls := "java/math/MutableBigInteger", name := "getMagnitudeArray", desc := "()[I" } : Jvm.MethodName) jdk_2101_method_7_code (2 : Nat) (Option.some (Jvm.ClassFile.FieldType.array Jvm.ClassFile.FieldType.int))).before args0 about1 = true := code_word (m := ⟨7, 3⟩) (meth := k7m3) (c := k7c3) (by decide +kernel) rfl rfl rfl (by decide +kernel)
set_option maxRecDepth 65536 in
theorem w_c21 : (Jvm.Cond.code ({ cls := "java/math/BigInteger", name := "<init>", desc := "([II)V" } : Jvm.MethodName) jdk_2097_method_25_code (3 : Nat) (Option.none : Option Jvm.ClassFile.FieldType)).before args0 about1 = true := code_word (m := ⟨6, 0⟩) (meth := k6m0) (c := k6c0) (by decide +kernel) rfl rfl rfl (by decide +kernel)
set_option maxRecDepth 65536 in
theorem w_c22 : (Jvm.Cond.code ({ cls := "java/lang/Number", name := "<init>", desc := "()V" } : Jvm.MethodName) jdk_18_method_1_code (1 : Nat) (Option.none : Option Jvm.ClassFile.FieldType)).before args0 about1 = true := code_word (m := ⟨5, 0⟩) (meth := k5m0) (c := k5c0) (by decide +kernel) rfl rfl rfl (by decide +kernel)
set_option maxRecDepth 65536 in
theorem w_c23 : (Jvm.Cond.code ({ cls := "java/math/BigInteger", name := "divide", desc := "(Ljava/math/BigInteger;)Ljava/math/BigInteger;" } : Jvm.MethodName) jdk_2097_method_61_code (2 : Nat) (Option.some (Jvm.ClassFile.FieldType.object "java/math/BigInteger"))).before args0 about1 = true := code_word (m := ⟨6, 6⟩) (meth := k6m6) (c := k6c6) (by decide +kernel) rfl rfl rfl (by decide +kernel)
set_option maxRecDepth 65536 in
theorem w_c24 : (Jvm.Cond.code ({ cls := "java/math/BigInteger", name := "divideKnuth", desc := "(Ljava/math/BigInteger;)Ljava/math/BigInteger;" } : Jvm.MethodName) jdk_2097_method_62_code (5 : Nat) (Option.some (Jvm.ClassFile.FieldType.object "java/math/BigInteger"))).before args0 about1 = true := code_word (m := ⟨6, 7⟩) (meth := k6m7) (c := k6c7) (by decide +kernel) rfl rfl rfl (by decide +kernel)
set_option maxRecDepth 65536 in
theorem w_c25 : (Jvm.Cond.code ({ cls := "java/math/MutableBigInteger", name := "<init>", desc := "([I)V" } : Jvm.MethodName) jdk_2101_method_3_code (2 : Nat) (Option.none : Option Jvm.ClassFile.FieldType)).before args0 about1 = true := code_word (m := ⟨7, 1⟩) (meth := k7m1) (c := k7c1) (by decide +kernel) rfl rfl rfl (by decide +kernel)
set_option maxRecDepth 65536 in
theorem w_c26 : (Jvm.Cond.code ({ cls := "java/math/MutableBigInteger", name := "divideKnuth", desc := "(Ljava/math/MutableBigInteger;Ljava/math/MutableBigInteger;Z)Ljava/math/MutableBigInteger;" } : Jvm.MethodName) jdk_2101_method_57_code (8 : Nat) (Option.some (Jvm.ClassFile.FieldType.object "java/math/MutableBigInteger"))).before args0 about1 = true := code_word (m := ⟨7, 14⟩) (meth := k7m14) (c := k7c14) (by decide +kernel) rfl rfl rfl (by decide +kernel)
set_option maxRecDepth 65536 in
theorem w_c27 : (Jvm.Cond.code ({ cls := "java/math/MutableBigInteger", name := "compare", desc := "(Ljava/math/MutableBigInteger;)I" } : Jvm.MethodName) jdk_2101_method_15_code (8 : Nat) (Option.some Jvm.ClassFile.FieldType.int)).before args0 about1 = true := code_word (m := ⟨7, 6⟩) (meth := k7m6) (c := k7c6) (by decide +kernel) rfl rfl rfl (by decide +kernel)
set_option maxRecDepth 65536 in
theorem w_c28 : (Jvm.Cond.code ({ cls := "java/math/MutableBigInteger", name := "clear", desc := "()V" } : Jvm.MethodName) jdk_2101_method_13_code (3 : Nat) (Option.none : Option Jvm.ClassFile.FieldType)).before args0 about1 = true := code_word (m := ⟨7, 5⟩) (meth := k7m5) (c := k7c5) (by decide +kernel) rfl rfl rfl (by decide +kernel)
set_option maxRecDepth 65536 in
theorem w_c29 : (Jvm.Cond.code ({ cls := "java/math/MutableBigInteger", name := "divideOneWord", desc := "(ILjava/math/MutableBigInteger;)I" } : Jvm.MethodName) jdk_2101_method_53_code (15 : Nat) (Option.some Jvm.ClassFile.FieldType.int)).before args0 about1 = true := code_word (m := ⟨7, 13⟩) (meth := k7m13) (c := k7c13) (by decide +kernel) rfl rfl rfl (by decide +kernel)
set_option maxRecDepth 65536 in
theorem w_c30 : (Jvm.Cond.code ({ cls := "com/example/envelope/envelope/curves/Rational", name := "signum", desc := "()I" } : Jvm.MethodName) prog_15_method_13_code (1 : Nat) (Option.some Jvm.ClassFile.FieldType.int)).before args0 about1 = true := code_word (m := ⟨3, 4⟩) (meth := k3m4) (c := k3c4) (by decide +kernel) rfl rfl rfl (by decide +kernel)
set_option maxRecDepth 65536 in
theorem w_c31 : (Jvm.Cond.code ({ cls := "com/example/envelope/envelope/curves/RationalOfPinLaw", name := "sign", desc := "(J)I" } : Jvm.MethodName) method_2_code (2 : Nat) (Option.some Jvm.ClassFile.FieldType.int)).before args0 about1 = true := code_word (m := ⟨1, 1⟩) (meth := k1m1) (c := k1c1) (by decide +kernel) rfl rfl rfl (by decide +kernel)
set_option maxRecDepth 65536 in
theorem w_c32 : (Jvm.Cond.code ({ cls := "com/example/envelope/envelope/curves/Rational", name := "compareTo", desc := "(Lcom/example/envelope/envelope/curves/Rational;)I" } : Jvm.MethodName) prog_15_method_16_code (2 : Nat) (Option.some Jvm.ClassFile.FieldType.int)).before args0 about1 = true := code_word (m := ⟨3, 5⟩) (meth := k3m5) (c := k3c5) (by decide +kernel) rfl rfl rfl (by decide +kernel)
set_option maxRecDepth 65536 in
theorem w_c33 : (Jvm.Cond.code ({ cls := "java/math/BigInteger", name := "multiply", desc := "(Ljava/math/BigInteger;)Ljava/math/BigInteger;" } : Jvm.MethodName) jdk_2097_method_40_code (2 : Nat) (Option.some (Jvm.ClassFile.FieldType.object "java/math/BigInteger"))).before args0 about1 = true := code_word (m := ⟨6, 3⟩) (meth := k6m3) (c := k6c3) (by decide +kernel) rfl rfl rfl (by decide +kernel)
set_option maxRecDepth 65536 in
theorem w_c34 : (Jvm.Cond.code ({ cls := "java/math/BigInteger", name := "multiply", desc := "(Ljava/math/BigInteger;ZZI)Ljava/math/BigInteger;" } : Jvm.MethodName) jdk_2097_method_42_code (9 : Nat) (Option.some (Jvm.ClassFile.FieldType.object "java/math/BigInteger"))).before args0 about1 = true := code_word (m := ⟨6, 4⟩) (meth := k6m4) (c := k6c4) (by decide +kernel) rfl rfl rfl (by decide +kernel)
set_option maxRecDepth 65536 in
theorem w_c35 : (Jvm.Cond.code ({ cls := "java/math/BigInteger", name := "multiplyByInt", desc := "([III)Ljava/math/BigInteger;" } : Jvm.MethodName) jdk_2097_method_43_code (13 : Nat) (Option.some (Jvm.ClassFile.FieldType.object "java/math/BigInteger"))).before args0 about1 = true := code_word (m := ⟨6, 5⟩) (meth := k6m5) (c := k6c5) (by decide +kernel) rfl rfl rfl (by decide +kernel)
set_option maxRecDepth 65536 in
theorem w_c36 : (Jvm.Cond.code ({ cls := "java/lang/Integer", name := "bitCount", desc := "(I)I" } : Jvm.MethodName) jdk_33_method_49_code (1 : Nat) (Option.some Jvm.ClassFile.FieldType.int)).before args0 about1 = true := code_word (m := ⟨13, 2⟩) (meth := k13m2) (c := k13c2) (by decide +kernel) rfl rfl rfl (by decide +kernel)
set_option maxRecDepth 65536 in
theorem w_c37 : (Jvm.Cond.code ({ cls := "java/math/BigInteger", name := "shiftLeft", desc := "([II)[I" } : Jvm.MethodName) jdk_2097_method_102_code (10 : Nat) (Option.some (Jvm.ClassFile.FieldType.array Jvm.ClassFile.FieldType.int))).before args0 about1 = true := code_word (m := ⟨6, 12⟩) (meth := k6m12) (c := k6c12) (by decide +kernel) rfl rfl rfl (by decide +kernel)
set_option maxRecDepth 65536 in
theorem w_c38 : (Jvm.Cond.code ({ cls := "java/math/BigInteger", name := "compareTo", desc := "(Ljava/math/BigInteger;)I" } : Jvm.MethodName) jdk_2097_method_121_code (2 : Nat) (Option.some Jvm.ClassFile.FieldType.int)).before args0 about1 = true := code_word (m := ⟨6, 13⟩) (meth := k6m13) (c := k6c13) (by decide +kernel) rfl rfl rfl (by decide +kernel)
set_option maxRecDepth 65536 in
theorem w_c39 : (Jvm.Cond.code ({ cls := "java/math/BigInteger", name := "compareMagnitude", desc := "(Ljava/math/BigInteger;)I" } : Jvm.MethodName) jdk_2097_method_122_code (9 : Nat) (Option.some Jvm.ClassFile.FieldType.int)).before args0 about1 = true := code_word (m := ⟨6, 14⟩) (meth := k6m14) (c := k6c14) (by decide +kernel) rfl rfl rfl (by decide +kernel)
set_option maxRecDepth 65536 in
theorem w_c40 : (Jvm.Cond.code ({ cls := "com/example/envelope/envelope/curves/RationalOfPinLaw", name := "norm", desc := "(I)I" } : Jvm.MethodName) method_3_code (1 : Nat) (Option.some Jvm.ClassFile.FieldType.int)).before args0 about1 = true := code_word (m := ⟨1, 2⟩) (meth := k1m2) (c := k1c2) (by decide +kernel) rfl rfl rfl (by decide +kernel)
set_option maxRecDepth 65536 in
theorem w_c41 : (Jvm.Cond.code ({ cls := "com/example/envelope/envelope/curves/Rational", name := "equals", desc := "(Ljava/lang/Object;)Z" } : Jvm.MethodName) prog_15_method_17_code (3 : Nat) (Option.some Jvm.ClassFile.FieldType.boolean)).before args0 about1 = true := code_word (m := ⟨3, 6⟩) (meth := k3m6) (c := k3c6) (by decide +kernel) rfl rfl rfl (by decide +kernel)
set_option maxRecDepth 65536 in
theorem w_c42 : (Jvm.Cond.code ({ cls := "java/math/BigInteger", name := "equals", desc := "(Ljava/lang/Object;)Z" } : Jvm.MethodName) jdk_2097_method_124_code (7 : Nat) (Option.some Jvm.ClassFile.FieldType.boolean)).before args0 about1 = true := code_word (m := ⟨6, 15⟩) (meth := k6m15) (c := k6c15) (by decide +kernel) rfl rfl rfl (by decide +kernel)
set_option maxRecDepth 65536 in
theorem w_c43 : (Jvm.Cond.code ({ cls := "java/math/BigInteger", name := "<init>", desc := "(J)V" } : Jvm.MethodName) jdk_2097_method_30_code (4 : Nat) (Option.none : Option Jvm.ClassFile.FieldType)).before args0 about1 = true := code_word (m := ⟨6, 2⟩) (meth := k6m2) (c := k6c2) (by decide +kernel) rfl rfl rfl (by decide +kernel)
set_option maxRecDepth 65536 in
theorem w_c44 : (Jvm.Cond.code ({ cls := "java/math/BigInteger", name := "bitLengthForInt", desc := "(I)I" } : Jvm.MethodName) jdk_2097_method_74_code (1 : Nat) (Option.some Jvm.ClassFile.FieldType.int)).before args0 about1 = true := code_word (m := ⟨6, 9⟩) (meth := k6m9) (c := k6c9) (by decide +kernel) rfl rfl rfl (by decide +kernel)
set_option maxRecDepth 65536 in
theorem w_c45 : (Jvm.Cond.code ({ cls := "java/lang/Integer", name := "numberOfLeadingZeros", desc := "(I)I" } : Jvm.MethodName) jdk_33_method_47_code (2 : Nat) (Option.some Jvm.ClassFile.FieldType.int)).before args0 about1 = true := code_word (m := ⟨13, 0⟩) (meth := k13m0) (c := k13c0) (by decide +kernel) rfl rfl rfl (by decide +kernel)
set_option maxRecDepth 65536 in
theorem w_c46 : (Jvm.Cond.code ({ cls := "java/math/MutableBigInteger", name := "primitiveRightShift", desc := "(I)V" } : Jvm.MethodName) jdk_2101_method_41_code (7 : Nat) (Option.none : Option Jvm.ClassFile.FieldType)).before args0 about1 = true := code_word (m := ⟨7, 10⟩) (meth := k7m10) (c := k7c10) (by decide +kernel) rfl rfl rfl (by decide +kernel)
set_option maxRecDepth 65536 in
theorem w_c47 : (Jvm.Cond.code ({ cls := "java/math/MutableBigInteger", name := "difference", desc := "(Ljava/math/MutableBigInteger;)I" } : Jvm.MethodName) jdk_2101_method_50_code (8 : Nat) (Option.some Jvm.ClassFile.FieldType.int)).before args0 about1 = true := code_word (m := ⟨7, 12⟩) (meth := k7m12) (c := k7c12) (by decide +kernel) rfl rfl rfl (by decide +kernel)
set_option maxRecDepth 65536 in
theorem w_c48 : (Jvm.Cond.code ({ cls := "java/math/MutableBigInteger", name := "normalize", desc := "()V" } : Jvm.MethodName) jdk_2101_method_21_code (4 : Nat) (Option.none : Option Jvm.ClassFile.FieldType)).before args0 about1 = true := code_word (m := ⟨7, 8⟩) (meth := k7m8) (c := k7c8) (by decide +kernel) rfl rfl rfl (by decide +kernel)
set_option maxRecDepth 65536 in
theorem w_c49 : (Jvm.Cond.code ({ cls := "java/math/MutableBigInteger", name := "primitiveLeftShift", desc := "(I)V" } : Jvm.MethodName) jdk_2101_method_42_code (8 : Nat) (Option.none : Option Jvm.ClassFile.FieldType)).before args0 about1 = true := code_word (m := ⟨7, 11⟩) (meth := k7m11) (c := k7c11) (by decide +kernel) rfl rfl rfl (by decide +kernel)
set_option maxRecDepth 65536 in
theorem w_c50 : (Jvm.Cond.code ({ cls := "java/math/BigInteger", name := "abs", desc := "()Ljava/math/BigInteger;" } : Jvm.MethodName) jdk_2097_method_79_code (1 : Nat) (Option.some (Jvm.ClassFile.FieldType.object "java/math/BigInteger"))).before args0 about1 = true := code_word (m := ⟨6, 10⟩) (meth := k6m10) (c := k6c10) (by decide +kernel) rfl rfl rfl (by decide +kernel)
def codes1 : List Jvm.Cond := [Jvm.Cond.code x code maxLocals ret, Jvm.Cond.code ({ cls := "com/example/envelope/envelope/curves/Rational", name := "of", desc := "(J)Lcom/example/envelope/envelope/curves/Rational;" } : Jvm.MethodName) prog_15_method_2_code (2 : Nat) (Option.some (Jvm.ClassFile.FieldType.object "com/example/envelope/envelope/curves/Rational")), Jvm.Cond.code ({ cls := "java/math/BigInteger", name := "valueOf", desc := "(J)Ljava/math/BigInteger;" } : Jvm.MethodName) jdk_2097_method_29_code (2 : Nat) (Option.some (Jvm.ClassFile.FieldType.object "java/math/BigInteger")), Jvm.Cond.code ({ cls := "com/example/envelope/envelope/curves/Rational", name := "<init>", desc := "(Ljava/math/BigInteger;Ljava/math/BigInteger;)V" } : Jvm.MethodName) prog_15_method_1_code (3 : Nat) (Option.none : Option Jvm.ClassFile.FieldType), Jvm.Cond.code ({ cls := "java/lang/Object", name := "<init>", desc := "()V" } : Jvm.MethodName) object_method_1_code (1 : Nat) (Option.none : Option Jvm.ClassFile.FieldType), Jvm.Cond.code ({ cls := "com/example/envelope/envelope/curves/Rational", name := "of", desc := "(JJ)Lcom/example/envelope/envelope/curves/Rational;" } : Jvm.MethodName) prog_15_method_3_code (4 : Nat) (Option.some (Jvm.ClassFile.FieldType.object "com/example/envelope/envelope/curves/Rational")), Jvm.Cond.code ({ cls := "com/example/envelope/envelope/curves/Rational", name := "of", desc := "(Ljava/math/BigInteger;Ljava/math/BigInteger;)Lcom/example/envelope/envelope/curves/Rational;" } : Jvm.MethodName) prog_15_method_4_code (3 : Nat) (Option.some (Jvm.ClassFile.FieldType.object "com/example/envelope/envelope/curves/Rational")), Jvm.Cond.code ({ cls := "java/math/BigInteger", name := "signum", desc := "()I" } : Jvm.MethodName) jdk_2097_method_81_code (1 : Nat) (Option.some Jvm.ClassFile.FieldType.int), Jvm.Cond.code ({ cls := "java/math/BigInteger", name := "gcd", desc := "(Ljava/math/BigInteger;)Ljava/math/BigInteger;" } : Jvm.MethodName) jdk_2097_method_73_code (5 : Nat) (Option.some (Jvm.ClassFile.FieldType.object "java/math/BigInteger")), Jvm.Cond.code ({ cls := "java/math/MutableBigInteger", name := "<init>", desc := "(Ljava/math/BigInteger;)V" } : Jvm.MethodName) jdk_2101_method_4_code (2 : Nat) (Option.none : Option Jvm.ClassFile.FieldType), Jvm.Cond.code ({ cls := "java/util/Arrays", name := "copyOf", desc := "([II)[I" } : Jvm.MethodName) jdk_65_method_123_code (3 : Nat) (Option.some (Jvm.ClassFile.FieldType.array Jvm.ClassFile.FieldType.int)), Jvm.Cond.code ({ cls := "java/math/MutableBigInteger", name := "hybridGCD", desc := "(Ljava/math/MutableBigInteger;)Ljava/math/MutableBigInteger;" } : Jvm.MethodName) jdk_2101_method_72_code (5 : Nat) (Option.some (Jvm.ClassFile.FieldType.object "java/math/MutableBigInteger")), Jvm.Cond.code ({ cls := "java/math/MutableBigInteger", name := "<init>", desc := "()V" } : Jvm.MethodName) jdk_2101_method_1_code (1 : Nat) (Option.none : Option Jvm.ClassFile.FieldType), Jvm.Cond.code ({ cls := "java/lang/Math", name := "abs", desc := "(I)I" } : Jvm.MethodName) jdk_29_method_59_code (1 : Nat) (Option.some Jvm.ClassFile.FieldType.int), Jvm.Cond.code ({ cls := "java/math/MutableBigInteger", name := "binaryGCD", desc := "(Ljava/math/MutableBigInteger;)Ljava/math/MutableBigInteger;" } : Jvm.MethodName) jdk_2101_method_73_code (13 : Nat) (Option.some (Jvm.ClassFile.FieldType.object "java/math/MutableBigInteger")), Jvm.Cond.code ({ cls := "java/math/MutableBigInteger", name := "getLowestSetBit", desc := "()I" } : Jvm.MethodName) jdk_2101_method_18_code (3 : Nat) (Option.some Jvm.ClassFile.FieldType.int), Jvm.Cond.code ({ cls := "java/lang/Integer", name := "numberOfTrailingZeros", desc := "(I)I" } : Jvm.MethodName) jdk_33_method_48_code (2 : Nat) (Option.some Jvm.ClassFile.FieldType.int), Jvm.Cond.code ({ cls := "java/math/MutableBigInteger", name := "rightShift", desc := "(I)V" } : Jvm.MethodName) jdk_2101_method_35_code (5 : Nat) (Option.none : Option Jvm.ClassFile.FieldType), Jvm.Cond.code ({ cls := "java/math/MutableBigInteger", name := "binaryGcd", desc := "(II)I" } : Jvm.MethodName) jdk_2101_method_74_code (5 : Nat) (Option.some Jvm.ClassFile.FieldType.int), Jvm.Cond.code ({ cls := "java/math/MutableBigInteger", name := "toBigInteger", desc := "(I)Ljava/math/BigInteger;" } : Jvm.MethodName) jdk_2101_method_9_code (2 : Nat) (Option.some (Jvm.ClassFile.FieldType.object "java/math/BigInteger")), Jvm.Cond.code ({ cls := "java/math/MutableBigInteger", name := "getMagnitudeArray", desc := "()[I" } : Jvm.MethodName) jdk_2101_method_7_code (2 : Nat) (Option.some (Jvm.ClassFile.FieldType.array Jvm.ClassFile.FieldType.int)), Jvm.Cond.code ({ cls := "java/math/BigInteger", name := "<init>", desc := "([II)V" } : Jvm.MethodName) jdk_2097_method_25_code (3 : Nat) (Option.none : Option Jvm.ClassFile.FieldType), Jvm.Cond.code ({ cls := "java/lang/Number", name := "<init>", desc := "()V" } : Jvm.MethodName) jdk_18_method_1_code (1 : Nat) (Option.none : Option Jvm.ClassFile.FieldType), Jvm.Cond.code ({ cls := "java/math/BigInteger", name := "divide", desc := "(Ljava/math/BigInteger;)Ljava/math/BigInteger;" } : Jvm.MethodName) jdk_2097_method_61_code (2 : Nat) (Option.some (Jvm.ClassFile.FieldType.object "java/math/BigInteger")), Jvm.Cond.code ({ cls := "java/math/BigInteger", name := "divideKnuth", desc := "(Ljava/math/BigInteger;)Ljava/math/BigInteger;" } : Jvm.MethodName) jdk_2097_method_62_code (5 : Nat) (Option.some (Jvm.ClassFile.FieldType.object "java/math/BigInteger")), Jvm.Cond.code ({ cls := "java/math/MutableBigInteger", name := "<init>", desc := "([I)V" } : Jvm.MethodName) jdk_2101_method_3_code (2 : Nat) (Option.none : Option Jvm.ClassFile.FieldType), Jvm.Cond.code ({ cls := "java/math/MutableBigInteger", name := "divideKnuth", desc := "(Ljava/math/MutableBigInteger;Ljava/math/MutableBigInteger;Z)Ljava/math/MutableBigInteger;" } : Jvm.MethodName) jdk_2101_method_57_code (8 : Nat) (Option.some (Jvm.ClassFile.FieldType.object "java/math/MutableBigInteger")), Jvm.Cond.code ({ cls := "java/math/MutableBigInteger", name := "compare", desc := "(Ljava/math/MutableBigInteger;)I" } : Jvm.MethodName) jdk_2101_method_15_code (8 : Nat) (Option.some Jvm.ClassFile.FieldType.int), Jvm.Cond.code ({ cls := "java/math/MutableBigInteger", name := "clear", desc := "()V" } : Jvm.MethodName) jdk_2101_method_13_code (3 : Nat) (Option.none : Option Jvm.ClassFile.FieldType), Jvm.Cond.code ({ cls := "java/math/MutableBigInteger", name := "divideOneWord", desc := "(ILjava/math/MutableBigInteger;)I" } : Jvm.MethodName) jdk_2101_method_53_code (15 : Nat) (Option.some Jvm.ClassFile.FieldType.int), Jvm.Cond.code ({ cls := "com/example/envelope/envelope/curves/Rational", name := "signum", desc := "()I" } : Jvm.MethodName) prog_15_method_13_code (1 : Nat) (Option.some Jvm.ClassFile.FieldType.int), Jvm.Cond.code ({ cls := "com/example/envelope/envelope/curves/RationalOfPinLaw", name := "sign", desc := "(J)I" } : Jvm.MethodName) method_2_code (2 : Nat) (Option.some Jvm.ClassFile.FieldType.int), Jvm.Cond.code ({ cls := "com/example/envelope/envelope/curves/Rational", name := "compareTo", desc := "(Lcom/example/envelope/envelope/curves/Rational;)I" } : Jvm.MethodName) prog_15_method_16_code (2 : Nat) (Option.some Jvm.ClassFile.FieldType.int), Jvm.Cond.code ({ cls := "java/math/BigInteger", name := "multiply", desc := "(Ljava/math/BigInteger;)Ljava/math/BigInteger;" } : Jvm.MethodName) jdk_2097_method_40_code (2 : Nat) (Option.some (Jvm.ClassFile.FieldType.object "java/math/BigInteger")), Jvm.Cond.code ({ cls := "java/math/BigInteger", name := "multiply", desc := "(Ljava/math/BigInteger;ZZI)Ljava/math/BigInteger;" } : Jvm.MethodName) jdk_2097_method_42_code (9 : Nat) (Option.some (Jvm.ClassFile.FieldType.object "java/math/BigInteger")), Jvm.Cond.code ({ cls := "java/math/BigInteger", name := "multiplyByInt", desc := "([III)Ljava/math/BigInteger;" } : Jvm.MethodName) jdk_2097_method_43_code (13 : Nat) (Option.some (Jvm.ClassFile.FieldType.object "java/math/BigInteger")), Jvm.Cond.code ({ cls := "java/lang/Integer", name := "bitCount", desc := "(I)I" } : Jvm.MethodName) jdk_33_method_49_code (1 : Nat) (Option.some Jvm.ClassFile.FieldType.int), Jvm.Cond.code ({ cls := "java/math/BigInteger", name := "shiftLeft", desc := "([II)[I" } : Jvm.MethodName) jdk_2097_method_102_code (10 : Nat) (Option.some (Jvm.ClassFile.FieldType.array Jvm.ClassFile.FieldType.int)), Jvm.Cond.code ({ cls := "java/math/BigInteger", name := "compareTo", desc := "(Ljava/math/BigInteger;)I" } : Jvm.MethodName) jdk_2097_method_121_code (2 : Nat) (Option.some Jvm.ClassFile.FieldType.int), Jvm.Cond.code ({ cls := "java/math/BigInteger", name := "compareMagnitude", desc := "(Ljava/math/BigInteger;)I" } : Jvm.MethodName) jdk_2097_method_122_code (9 : Nat) (Option.some Jvm.ClassFile.FieldType.int), Jvm.Cond.code ({ cls := "com/example/envelope/envelope/curves/RationalOfPinLaw", name := "norm", desc := "(I)I" } : Jvm.MethodName) method_3_code (1 : Nat) (Option.some Jvm.ClassFile.FieldType.int), Jvm.Cond.code ({ cls := "com/example/envelope/envelope/curves/Rational", name := "equals", desc := "(Ljava/lang/Object;)Z" } : Jvm.MethodName) prog_15_method_17_code (3 : Nat) (Option.some Jvm.ClassFile.FieldType.boolean), Jvm.Cond.code ({ cls := "java/math/BigInteger", name := "equals", desc := "(Ljava/lang/Object;)Z" } : Jvm.MethodName) jdk_2097_method_124_code (7 : Nat) (Option.some Jvm.ClassFile.FieldType.boolean), Jvm.Cond.code ({ cls := "java/math/BigInteger", name := "<init>", desc := "(J)V" } : Jvm.MethodName) jdk_2097_method_30_code (4 : Nat) (Option.none : Option Jvm.ClassFile.FieldType), Jvm.Cond.code ({ cls := "java/math/BigInteger", name := "bitLengthForInt", desc := "(I)I" } : Jvm.MethodName) jdk_2097_method_74_code (1 : Nat) (Option.some Jvm.ClassFile.FieldType.int), Jvm.Cond.code ({ cls := "java/lang/Integer", name := "numberOfLeadingZeros", desc := "(I)I" } : Jvm.MethodName) jdk_33_method_47_code (2 : Nat) (Option.some Jvm.ClassFile.FieldType.int), Jvm.Cond.code ({ cls := "java/math/MutableBigInteger", name := "primitiveRightShift", desc := "(I)V" } : Jvm.MethodName) jdk_2101_method_41_code (7 : Nat) (Option.none : Option Jvm.ClassFile.FieldType), Jvm.Cond.code ({ cls := "java/math/MutableBigInteger", name := "difference", desc := "(Ljava/math/MutableBigInteger;)I" } : Jvm.MethodName) jdk_2101_method_50_code (8 : Nat) (Option.some Jvm.ClassFile.FieldType.int), Jvm.Cond.code ({ cls := "java/math/MutableBigInteger", name := "normalize", desc := "()V" } : Jvm.MethodName) jdk_2101_method_21_code (4 : Nat) (Option.none : Option Jvm.ClassFile.FieldType), Jvm.Cond.code ({ cls := "java/math/MutableBigInteger", name := "primitiveLeftShift", desc := "(I)V" } : Jvm.MethodName) jdk_2101_method_42_code (8 : Nat) (Option.none : Option Jvm.ClassFile.FieldType), Jvm.Cond.code ({ cls := "java/math/BigInteger", name := "abs", desc := "()Ljava/math/BigInteger;" } : Jvm.MethodName) jdk_2097_method_79_code (1 : Nat) (Option.some (Jvm.ClassFile.FieldType.object "java/math/BigInteger"))]
set_option maxRecDepth 65536 in
theorem codes_eq : words1.filter isCode = codes1 := rfl
theorem w_codes : ∀ c ∈ words1.filter isCode, c.before args0 about1 = true := by
  rw [codes_eq]
  intro c hc
  simp only [codes1, List.mem_cons, List.not_mem_nil, or_false] at hc
  rcases hc with rfl | rfl | rfl | rfl | rfl | rfl | rfl | rfl | rfl | rfl | rfl | rfl | rfl | rfl | rfl | rfl | rfl | rfl | rfl | rfl | rfl | rfl | rfl | rfl | rfl | rfl | rfl | rfl | rfl | rfl | rfl | rfl | rfl | rfl | rfl | rfl | rfl | rfl | rfl | rfl | rfl | rfl | rfl | rfl | rfl | rfl | rfl | rfl | rfl | rfl | rfl
  · exact w_c0
  · exact w_c1
  · exact w_c2
  · exact w_c3
  · exact w_c4
  · exact w_c5
  · exact w_c6
  · exact w_c7
  · exact w_c8
  · exact w_c9
  · exact w_c10
  · exact w_c11
  · exact w_c12
  · exact w_c13
  · exact w_c14
  · exact w_c15
  · exact w_c16
  · exact w_c17
  · exact w_c18
  · exact w_c19
  · exact w_c20
  · exact w_c21
  · exact w_c22
  · exact w_c23
  · exact w_c24
  · exact w_c25
  · exact w_c26
  · exact w_c27
  · exact w_c28
  · exact w_c29
  · exact w_c30
  · exact w_c31
  · exact w_c32
  · exact w_c33
  · exact w_c34
  · exact w_c35
  · exact w_c36
  · exact w_c37
  · exact w_c38
  · exact w_c39
  · exact w_c40
  · exact w_c41
  · exact w_c42
  · exact w_c43
  · exact w_c44
  · exact w_c45
  · exact w_c46
  · exact w_c47
  · exact w_c48
  · exact w_c49
  · exact w_c50
set_option maxRecDepth 65536 in
theorem w_t1 : (words1.take 24).all (fun c => isCode c || c.before args0 about1) = true := by decide +kernel
set_option maxRecDepth 65536 in
theorem w_t2 : ((words1.drop 24).take 24).all (fun c => isCode c || c.before args0 about1) = true := by decide +kernel
set_option maxRecDepth 65536 in
theorem w_t3 : (((words1.drop 24).drop 24).take 24).all (fun c => isCode c || c.before args0 about1) = true := by decide +kernel
set_option maxRecDepth 65536 in
theorem w_t4 : ((((words1.drop 24).drop 24).drop 24).take 24).all (fun c => isCode c || c.before args0 about1) = true := by decide +kernel
set_option maxRecDepth 65536 in
theorem w_t5 : (((((words1.drop 24).drop 24).drop 24).drop 24).take 24).all (fun c => isCode c || c.before args0 about1) = true := by decide +kernel
set_option maxRecDepth 65536 in
theorem w_t6 : ((((((words1.drop 24).drop 24).drop 24).drop 24).drop 24).take 24).all (fun c => isCode c || c.before args0 about1) = true := by decide +kernel
set_option maxRecDepth 65536 in
theorem w_t7 : (((((((words1.drop 24).drop 24).drop 24).drop 24).drop 24).drop 24).take 24).all (fun c => isCode c || c.before args0 about1) = true := by decide +kernel
set_option maxRecDepth 65536 in
theorem w_t8 : ((((((((words1.drop 24).drop 24).drop 24).drop 24).drop 24).drop 24).drop 24).take 24).all (fun c => isCode c || c.before args0 about1) = true := by decide +kernel
set_option maxRecDepth 65536 in
theorem w_t9 : (((((((((words1.drop 24).drop 24).drop 24).drop 24).drop 24).drop 24).drop 24).drop 24).take 24).all (fun c => isCode c || c.before args0 about1) = true := by decide +kernel
set_option maxRecDepth 65536 in
theorem w_t10 : ((((((((((words1.drop 24).drop 24).drop 24).drop 24).drop 24).drop 24).drop 24).drop 24).drop 24).take 24).all (fun c => isCode c || c.before args0 about1) = true := by decide +kernel
set_option maxRecDepth 65536 in
theorem w_t11 : (((((((((((words1.drop 24).drop 24).drop 24).drop 24).drop 24).drop 24).drop 24).drop 24).drop 24).drop 24).take 24).all (fun c => isCode c || c.before args0 about1) = true := by decide +kernel
set_option maxRecDepth 65536 in
theorem w_t12 : (((((((((((words1.drop 24).drop 24).drop 24).drop 24).drop 24).drop 24).drop 24).drop 24).drop 24).drop 24).drop 24).all (fun c => isCode c || c.before args0 about1) = true := by decide +kernel
theorem w_tables : (allAtoms (Jvm.Cond.code x code maxLocals ret :: tables_1)).before args0 about1 = true := by
  rw [allAtoms_all]
  show words1.all (fun c => c.before args0 about1) = true
  refine all_split ?_ w_codes
  rw [← List.take_append_drop 24 words1, List.all_append, w_t1, ← List.take_append_drop 24 (words1.drop 24), List.all_append, w_t2, ← List.take_append_drop 24 ((words1.drop 24).drop 24), List.all_append, w_t3, ← List.take_append_drop 24 (((words1.drop 24).drop 24).drop 24), List.all_append, w_t4, ← List.take_append_drop 24 ((((words1.drop 24).drop 24).drop 24).drop 24), List.all_append, w_t5, ← List.take_append_drop 24 (((((words1.drop 24).drop 24).drop 24).drop 24).drop 24), List.all_append, w_t6, ← List.take_append_drop 24 ((((((words1.drop 24).drop 24).drop 24).drop 24).drop 24).drop 24), List.all_append, w_t7, ← List.take_append_drop 24 (((((((words1.drop 24).drop 24).drop 24).drop 24).drop 24).drop 24).drop 24), List.all_append, w_t8, ← List.take_append_drop 24 ((((((((words1.drop 24).drop 24).drop 24).drop 24).drop 24).drop 24).drop 24).drop 24), List.all_append, w_t9, ← List.take_append_drop 24 (((((((((words1.drop 24).drop 24).drop 24).drop 24).drop 24).drop 24).drop 24).drop 24).drop 24), List.all_append, w_t10, ← List.take_append_drop 24 ((((((((((words1.drop 24).drop 24).drop 24).drop 24).drop 24).drop 24).drop 24).drop 24).drop 24).drop 24), List.all_append, w_t11, w_t12]
  rfl
set_option maxRecDepth 65536 in
theorem w_rest : rest_1_c.before args0 about1 = true := by decide +kernel
set_option maxRecDepth 65536 in
theorem w_case : (Jvm.Cond.and given_1 narrow_1).before args0 about1 = true := by decide +kernel
theorem w_applies : (headSpec (Jvm.Cond.code x code maxLocals ret :: tables_1) room_1).applies x e0.platform about1 = true :=
  (Spec.applies_iff w_frames).mpr ⟨w_running, w_runnable, w_alone, w_named, w_hears, w_ripe, w_room, w_tables⟩
theorem atStart : AtStart classFile x code maxLocals ret World_1 tables_1 room_1 Calls_1 rest_1 Pre_1 launch0 p0 e0 about1 theMethod args0 below0 :=
  ⟨lists_1, trivial, launch0.admits_env _ _ _, launch0.least_env, fairChoices_fair.cas, fairChoices_fair.clock, w_frames, w_args, w_heap, w_applies, trivial, w_rest, w_case⟩
end start1
theorem witness_1 : WitnessClaimed_1 := ⟨start1.p0, start1.e0, start1.about1, start1.theMethod, start1.args0, start1.below0, start1.atStart⟩
end Jvm.Pilot.@@N@@
