import JvmDerived
import JvmDerived.Pilot.@@N@@Statement
import JvmDerived.Pilot.@@N@@Code
set_option linter.unusedVariables false
set_option linter.unusedSimpArgs false
namespace Jvm.Wk9
open Sem ClassFile Op Lib Jvm.Stand Jvm.Free Jvm.LawKit Jvm.RoadKit
/-- the end of a walk; narrow (nothing interned) where wd is false -/
def FinE (wd : Bool) (s : State) (o : Outcome) (t : State) (L : List Loc) (k n : Nat) : Prop :=
  (wd = false → FrameEnd s o t L k n) ∧ ReturnedEndW s o t L k n
/-- what the walk keeps of the tables at hand and of the booked literals; mine: the cells it may write -/
def Vi (wd : Bool) (Z s : State) (EL : List (String × Nat)) (m0 mine : List Addr) (locs : List Loc) (vm : Vm) (h : Heap) : Prop :=
  ((wd = false → vm = s.vm) ∧ Z.Warmed39 vm ∧ (∃ k0, s.Since vm k0 ∧ k0 ≤ h.size) ∧ CHr Z EL s.vm s.heap vm h) ∧ (∀ x ∈ mine, x < h.size ∧ Safe Z EL vm h x ∧ Z.heap.size ≤ x ∧ (x ∈ m0 ∨ s.heap.size ≤ x)) ∧ Ext Z.heap h ∧ Keep s.heap h m0 ∧ Fr Z.heap.size locs
/-- from this frame over this heap the invocation comes to an end of which Q holds -/
def Go (wd : Bool) (p : Program) (l : Launch) (e : Env) (R : Room) (s : State) (m : MethodId) (args : Array Value) (below : List Frame) (meth : Method) (c : Code) (Z : State) (EL : List (String × Nat)) (Q : Option Value → Heap → Prop) (kc ks : Nat) (m0 mine : List Addr) (h : Heap) (locs : List Loc) (cells slots : Nat) (g : JFrame) : Prop :=
  ∀ (T : State) (vm0 : Vm), Stand p l e R (s.setVm vm0) m args below meth c T locs cells slots → T.heap = h → Vi wd Z s EL m0 mine locs vm0 h →
    ∃ (s₂ : State) (o : Outcome), Steps p.tables e below (T.setTop g) s₂ ∧ s₂.status = .running ∧ Ended s₂ below o ∧ ∃ (v : Option Value) (L : List Loc), o = .returned v ∧ Q v s₂.heap ∧ CHr Z EL s.vm s.heap s₂.vm s₂.heap ∧ FinE wd s o s₂ L kc ks ∧ Ext Z.heap s₂.heap ∧ Keep s.heap s₂.heap m0 ∧ Fr Z.heap.size L
/-- what is known of the method that is walked -/
def Cx (wd : Bool) (p : Program) (s : State) (m : MethodId) (meth : Method) (c : Code) (Z : State) (a0 : Array Value) (EL : List (String × Nat)) (own : String) (bytes : ByteArray) (ml : Nat) (ret : Option FieldType) (nm : String) : Prop :=
  p.tables.exec = Jvm.exec ∧ s.vm.findClass own = some m.cls ∧ c.code = bytes ∧ c.maxLocals = ml ∧ meth.sig.returnType = ret ∧ meth.locks = false ∧ EW Z a0 EL ∧ (wd = false → EL = []) ∧ meth.name = nm
/-- a contract: of the method y at these arguments, over the heap h -/
def MetW (wd : Bool) (l : Launch) (Z : State) (EL : List (String × Nat)) (y : MethodName) (bytes : ByteArray) (ml : Nat) (ret : Option FieldType) (ws : List Cond) (rm : Room) (as' : Array Value) (m0 : List Addr) (h : Heap) (Q : Option Value → Heap → Prop) : Prop :=
  MetFree l y (head1 (Cond.code y bytes ml ret :: ws) rm) (fun a U => a = as' ∧ Z.Warmed39 U.vm ∧ U.heap = h ∧ CHv Z EL U.vm h ∧ (∀ x ∈ m0, x < h.size ∧ Safe Z EL U.vm h x ∧ Z.heap.size ≤ x) ∧ Ext Z.heap h) (fun _ _ _ _ _ => True)
    (fun _ U o U' => ∃ v L, o = .returned v ∧ Q v U'.heap ∧ CHr Z EL U.vm U.heap U'.vm U'.heap ∧ FinE wd U o U' L rm.cells rm.slots ∧ Ext Z.heap U'.heap ∧ Keep U.heap U'.heap m0 ∧ Fr Z.heap.size L)
/-- an array whose places hold just vs -/
def Av (Z : State) (h : Heap) (a : Addr) (ty : FieldType) (vs : List Value) : Prop :=
  ∃ c : Cell, Arr Z h a c ty ∧ c.slots.toList = vs ∧ vs.length < 2147483648 ∧ ∀ v ∈ vs, fits ty v = true
section K
variable {wd : Bool} {p : Program} {l : Launch} {e : Env} {R : Room} {s : State} {m : MethodId} {args : Array Value} {below : List Frame} {meth : Method} {c : Code} {Z : State} {a0 : Array Value} {EL : List (String × Nat)} {Q : Option Value → Heap → Prop} {kc ks : Nat} {m0 mine : List Addr} {h h' : Heap} {locs : List Loc} {cells slots : Nat} {own nm : String} {bytes : ByteArray} {ml : Nat} {ret : Option FieldType} {pc : Nat} {Ls : Array Slot} {st : List Value} {a b : Addr} {ty : FieldType} {vs : List Value} {vm : Vm} {ws : List Addr} {v : Value} {sl : Nat}
theorem Cx.hx (C : Cx wd p s m meth c Z a0 EL own bytes ml ret nm) : p.tables.exec = Jvm.exec := C.1
theorem Cx.hown (C : Cx wd p s m meth c Z a0 EL own bytes ml ret nm) : s.vm.findClass own = some m.cls := C.2.1
theorem Cx.hby (C : Cx wd p s m meth c Z a0 EL own bytes ml ret nm) : c.code = bytes := C.2.2.1
theorem Cx.hml (C : Cx wd p s m meth c Z a0 EL own bytes ml ret nm) : c.maxLocals = ml := C.2.2.2.1
theorem Cx.hret (C : Cx wd p s m meth c Z a0 EL own bytes ml ret nm) : meth.sig.returnType = ret := C.2.2.2.2.1
theorem Cx.hlk (C : Cx wd p s m meth c Z a0 EL own bytes ml ret nm) : meth.locks = false := C.2.2.2.2.2.1
theorem Cx.hEW (C : Cx wd p s m meth c Z a0 EL own bytes ml ret nm) : EW Z a0 EL := C.2.2.2.2.2.2.1
theorem Cx.hwd (C : Cx wd p s m meth c Z a0 EL own bytes ml ret nm) : wd = false → EL = [] := C.2.2.2.2.2.2.2.1
theorem Cx.hnm (C : Cx wd p s m meth c Z a0 EL own bytes ml ret nm) : meth.name = nm := C.2.2.2.2.2.2.2.2
theorem Vi.hZ (V : Vi wd Z s EL m0 mine locs vm h) : Z.Warmed39 vm := V.1.2.1
theorem Vi.hZ' (V : Vi wd Z s EL m0 mine locs vm h) : Z.Warmed39 (s.setVm vm).vm := V.1.2.1
theorem Vi.held (V : Vi wd Z s EL m0 mine locs vm h) : CHv Z EL vm h := V.1.2.2.2.1
theorem Vi.fr (V : Vi wd Z s EL m0 mine locs vm h) : Fr Z.heap.size locs := V.2.2.2.2
theorem Vi.old (V : Vi wd Z s EL m0 mine locs vm h) : Ext Z.heap h := V.2.2.1
theorem Vi.hown (C : Cx wd p s m meth c Z a0 EL own bytes ml ret nm) (V : Vi wd Z s EL m0 mine locs vm h) : (s.setVm vm).vm.findClass own = some m.cls := by
  obtain ⟨⟨-, -, ⟨k0, hS, -⟩, -⟩, -⟩ := V
  show vm.findClass own = some m.cls
  rw [hS.1.alike.findClass]; exact C.hown
theorem Vi.hown' (C : Cx wd p s m meth c Z a0 EL own bytes ml ret nm) (V : Vi wd Z s EL m0 mine locs vm h) : vm.findClass own = some m.cls := V.hown C
theorem Vi.keep {locs' : List Loc} (K : Keep h h' ws) (hw : ∀ x ∈ ws, x ∈ mine) (hF : Fr Z.heap.size locs') (V : Vi wd Z s EL m0 mine locs vm h) : Vi wd Z s EL m0 mine locs' vm h' := by
  obtain ⟨⟨v1, v2, ⟨k0, v3, v4⟩, v5⟩, v6, v7, v8, v9⟩ := V
  have sf : ∀ x ∈ ws, Safe Z EL vm h x := fun x hx => (v6 x (hw x hx)).2.1
  have R2 : CHr Z EL vm h vm h' := CHr.keep K sf v5.1
  exact ⟨⟨v1, v2, ⟨k0, v3, Nat.le_trans v4 K.1⟩, v5.trans R2⟩, fun x hx => ⟨Nat.lt_of_lt_of_le (v6 x hx).1 K.1, R2.safe (v6 x hx).1 (v6 x hx).2.1, (v6 x hx).2.2⟩,
    (Old.keep (n0 := Z.heap.size) ⟨rfl, v7⟩ K (fun x hx => (v6 x (hw x hx)).2.2.1)).2, v8.trans K (fun x hx => (v6 x (hw x hx)).2.2.2), hF⟩
theorem keep_ext (E : Ext h h') : Keep h h' [] := (Keep.refl h []).ext E
theorem Vi.ext (E : Ext h h') (V : Vi wd Z s EL m0 mine locs vm h) : Vi wd Z s EL m0 mine locs vm h' := V.keep (keep_ext E) (fun _ q => nomatch q) V.fr
theorem Vi.new (E : Ext h h') (hlt : h.size < h'.size) (V : Vi wd Z s EL m0 mine locs vm h) : Vi wd Z s EL m0 (h.size :: mine) locs vm h' := by
  have V' := V.ext E
  refine ⟨V'.1, fun x hx => ?_, V'.2.2⟩
  rcases List.mem_cons.mp hx with rfl | hx
  · exact ⟨hlt, Safe.ext E V.held (Safe.new (Nat.le_refl _)), V.2.2.1.1, Or.inr V.2.2.2.1.1⟩
  · exact V'.2.1 x hx
theorem Vi.less {mine' : List Addr} (hm : ∀ x ∈ mine', x ∈ mine) (V : Vi wd Z s EL m0 mine locs vm h) : Vi wd Z s EL m0 mine' locs vm h :=
  ⟨V.1, fun x hx => V.2.1 x (hm x hx), V.2.2⟩
theorem Vi.wr1 (V : Vi wd Z s EL m0 mine locs vm h) (hm : a ∈ mine) : Fr Z.heap.size (locs ++ [⟨a, sl⟩]) := fun y hy => by
  rcases List.mem_append.mp hy with q | q
  · exact V.fr y q
  · rw [List.mem_singleton.mp q]; exact (V.2.1 a hm).2.2.1
theorem Go.less {mine' : List Addr} {g : JFrame} (hm : ∀ x ∈ mine', x ∈ mine) (nx : Go wd p l e R s m args below meth c Z EL Q kc ks m0 mine' h locs cells slots g) : Go wd p l e R s m args below meth c Z EL Q kc ks m0 mine h locs cells slots g :=
  fun T vm0 X eT V => nx T vm0 X eT (V.less hm)
theorem Go.join {α : Sort _} {P : α → JFrame} {g : JFrame} (k : ∀ x, Go wd p l e R s m args below meth c Z EL Q kc ks m0 mine h locs cells slots (P x)) (u : (∀ x, Go wd p l e R s m args below meth c Z EL Q kc ks m0 mine h locs cells slots (P x)) → Go wd p l e R s m args below meth c Z EL Q kc ks m0 mine h locs cells slots g) : Go wd p l e R s m args below meth c Z EL Q kc ks m0 mine h locs cells slots g := u k
/-- what the walk knows besides, brought to light -/
theorem Go.know {g : JFrame} (nx : Ext Z.heap h → Keep s.heap h m0 → (∀ x ∈ mine, x < h.size ∧ Z.heap.size ≤ x) → Go wd p l e R s m args below meth c Z EL Q kc ks m0 mine h locs cells slots g) : Go wd p l e R s m args below meth c Z EL Q kc ks m0 mine h locs cells slots g :=
  fun T vm0 X eT V => nx V.2.2.1 V.2.2.2.1 (fun x hx => ⟨(V.2.1 x hx).1, (V.2.1 x hx).2.2.1⟩) T vm0 X eT V
theorem FinE.mono {o : Outcome} {t : State} {L : List Loc} {k n k' n' : Nat} (F : FinE wd s o t L k n) (h1 : k ≤ k') (h2 : n ≤ n') : FinE wd s o t L k' n' :=
  ⟨fun q => ⟨(F.1 q).1, (F.1 q).2.1, (F.1 q).2.2.mono h1 h2⟩, F.2.1, F.2.2.1, F.2.2.2.1, F.2.2.2.2.mono h1 h2⟩
theorem MetW.post {y : MethodName} {wsc : List Cond} {rm : Room} {as' : Array Value} {Q' : Option Value → Heap → Prop} (M : MetW wd l Z EL y bytes ml ret wsc rm as' m0 h Q) (hq : ∀ v h', Q v h' → Keep h h' m0 → Q' v h') : MetW wd l Z EL y bytes ml ret wsc rm as' m0 h Q' :=
  MetFree.mono M (fun _ _ q => q) (fun _ _ _ _ _ q => q) (fun _ _ _ _ hP ⟨v, L, q1, q2, q3, q4, q5, q6, q7⟩ => ⟨v, L, q1, hq _ _ q2 (by rw [← hP.2.2.1]; exact q6), q3, q4, q5, q6, q7⟩)
/-- the entry of a method -/
theorem MetW.of {y : MethodName} {wsc : List Cond} {rm : Room} {as' : Array Value} (hpn : plainName y.cls = true) (hef : ∀ m : MethodId, entryFrame m as' ml = mkF m 0 Ls []) (hEW : EW Z a0 EL) (hwd : wd = false → EL = [])
    (body : ∀ (p : Program) (e : Env) (s : State) (m : MethodId) (below : List Frame) (meth : Method) (c : Code), s.heap = h → Cx wd p s m meth c Z a0 EL y.cls bytes ml ret y.name → Go wd p l e rm s m as' below meth c Z EL Q rm.cells rm.slots m0 m0 h [] 0 0 (mkF m 0 Ls [])) :
    MetW wd l Z EL y bytes ml ret wsc rm as' m0 h Q := by
  refine MetFree.of_bodySF (plainFor_of_name hpn) hisR ?_
  intro p e s m args below meth c s₁ Bd hml0 hP hK
  obtain ⟨rfl, hZ, hh, H, hm, hold⟩ := hP
  have X0 : Stand p l e rm s m args below meth c s₁ [] 0 0 := Stand.of_body Bd
  have e0 : s₁.heap = h := by rw [← hh, Bd.state]; rfl
  have hlk : meth.locks = false := by first | exact BodyLoose.notSynchronized Bd | exact Body.notSynchronized Bd
  have C : Cx wd p s m meth c Z a0 EL y.cls bytes ml ret y.name := ⟨Bd.exec, findClass_of_methodNamed Bd.named, Bd.bytes, hml0, Bd.returns, hlk, hEW, hwd, (name_of_methodNamed Bd.named Bd.method).1⟩
  have V : Vi wd Z s EL m0 m0 [] s.vm h := ⟨⟨fun _ => rfl, hZ, ⟨h.size, ⟨State.Warmed39.refl s, fun j q hj hq => absurd (Array.getElem?_eq_some_iff.mp hq).1 (Nat.not_lt.mpr hj)⟩, Nat.le_refl _⟩, by rw [hh]; exact CHr.refl H⟩, fun x hx => ⟨(hm x hx).1, (hm x hx).2.1, (hm x hx).2.2, Or.inl hx⟩, hold, by rw [hh]; exact Keep.refl _ _, Fr.nil _⟩
  obtain ⟨s₂, o, k, r1, r2, v, L, r3, r4, r5, r6⟩ := body p e s m below meth c hh C s₁ s.vm X0 e0 V
  exact ⟨s₂, o, castTop (hef m) k, r1, r2, v, L, r3, r4, r5, r6⟩
theorem Go.pure {g g' : JFrame} (nx : Go wd p l e R s m args below meth c Z EL Q kc ks m0 mine h locs cells slots g') (stp : ∀ (T target : State), At T m c below → Steps p.tables e below (T.setTop g') target → Steps p.tables e below (T.setTop g) target) : Go wd p l e R s m args below meth c Z EL Q kc ks m0 mine h locs cells slots g :=
  fun T vm0 X eT V => by
    obtain ⟨s₂, o, k, r⟩ := nx T vm0 X eT V
    exact ⟨s₂, o, stp T s₂ X.here k, r⟩
def hC (cd : ClassFile.Cond) (x y : Int32) : Prop := match cd with | .eq => x = y | .ne => ¬ x = y | .lt => x < y | .ge => ¬ x < y | .gt => y < x | .le => ¬ y < x
def nC (cd : ClassFile.Cond) (x y : Int32) : Prop := match cd with | .eq => ¬ x = y | .ne => x = y | .lt => ¬ x < y | .ge => x < y | .gt => ¬ y < x | .le => y < x
theorem hC_t {cd : ClassFile.Cond} {x y : Int32} (q : hC cd x y) : if_icmp.holds cd x y = true := by
  cases cd
  · exact (teq q).1
  · exact (feq q).2
  · exact (tlt q).1
  · exact (flt q).2.1
  · exact (tlt q).2.2.1
  · exact (flt q).2.2.2
theorem nC_f {cd : ClassFile.Cond} {x y : Int32} (q : nC cd x y) : if_icmp.holds cd x y = false := by
  cases cd
  · exact (feq q).1
  · exact (teq q).2
  · exact (flt q).1
  · exact (tlt q).2.1
  · exact (flt q).2.2.1
  · exact (tlt q).2.2.2
def aC (cd : ClassFile.ACond) (x y : Value) : Prop := match cd with | .eq => x = y | .ne => ¬ x = y
def aN (cd : ClassFile.ACond) (x y : Value) : Prop := match cd with | .eq => ¬ x = y | .ne => x = y
theorem aC_t {cd : ClassFile.ACond} {x y : Value} (q : aC cd x y) : XT.acmp cd x y = true := by
  cases cd
  · exact XT.aa_eq_t q
  · exact XT.aa_ne_t q
theorem aN_f {cd : ClassFile.ACond} {x y : Value} (q : aN cd x y) : XT.acmp cd x y = false := by
  cases cd
  · exact XT.aa_eq_f q
  · exact XT.aa_ne_f q
theorem g_aloadN {k : Fin 4} {v : Value} (C : Cx wd p s m meth c Z a0 EL own bytes ml ret nm) (hd : decode bytes pc = .ok (.aload_n k, 1)) (hl : Ls[k.val]? = some (.val v)) (hv : v.isRef = true) (nx : Go wd p l e R s m args below meth c Z EL Q kc ks m0 mine h locs cells slots (mkF m (pc + 1) Ls (v :: st))) : Go wd p l e R s m args below meth c Z EL Q kc ks m0 mine h locs cells slots (mkF m pc Ls (st)) := nx.pure fun T t H hr => XS.aloadN H C.hx rfl (hb C.hby hd) hl hv hr
theorem g_aload {k : Nat} {v : Value} (C : Cx wd p s m meth c Z a0 EL own bytes ml ret nm) (hd : decode bytes pc = .ok (.aload k, 2)) (hl : Ls[k]? = some (.val v)) (hv : v.isRef = true) (nx : Go wd p l e R s m args below meth c Z EL Q kc ks m0 mine h locs cells slots (mkF m (pc + 2) Ls (v :: st))) : Go wd p l e R s m args below meth c Z EL Q kc ks m0 mine h locs cells slots (mkF m pc Ls (st)) := nx.pure fun T t H hr => XS.aload H C.hx rfl (hb C.hby hd) hl hv hr
theorem g_iloadN {k : Fin 4} {x : Int32} (C : Cx wd p s m meth c Z a0 EL own bytes ml ret nm) (hd : decode bytes pc = .ok (.iload_n k, 1)) (hl : Ls[k.val]? = some (.val (.int x))) (nx : Go wd p l e R s m args below meth c Z EL Q kc ks m0 mine h locs cells slots (mkF m (pc + 1) Ls (.int x :: st))) : Go wd p l e R s m args below meth c Z EL Q kc ks m0 mine h locs cells slots (mkF m pc Ls (st)) := nx.pure fun T t H hr => XS.iloadN H C.hx rfl (hb C.hby hd) hl hr
theorem g_iload {k : Nat} {x : Int32} (C : Cx wd p s m meth c Z a0 EL own bytes ml ret nm) (hd : decode bytes pc = .ok (.iload k, 2)) (hl : Ls[k]? = some (.val (.int x))) (nx : Go wd p l e R s m args below meth c Z EL Q kc ks m0 mine h locs cells slots (mkF m (pc + 2) Ls (.int x :: st))) : Go wd p l e R s m args below meth c Z EL Q kc ks m0 mine h locs cells slots (mkF m pc Ls (st)) := nx.pure fun T t H hr => XS.iload H C.hx rfl (hb C.hby hd) hl hr
theorem g_lloadN {k : Fin 4} {x : Int64} (C : Cx wd p s m meth c Z a0 EL own bytes ml ret nm) (hd : decode bytes pc = .ok (.lload_n k, 1)) (hl : Ls[k.val]? = some (.val (.long x))) (nx : Go wd p l e R s m args below meth c Z EL Q kc ks m0 mine h locs cells slots (mkF m (pc + 1) Ls (.long x :: st))) : Go wd p l e R s m args below meth c Z EL Q kc ks m0 mine h locs cells slots (mkF m pc Ls (st)) := nx.pure fun T t H hr => XT.lloadN H C.hx rfl (hb C.hby hd) hl hr
theorem g_lload {k : Nat} {x : Int64} (C : Cx wd p s m meth c Z a0 EL own bytes ml ret nm) (hd : decode bytes pc = .ok (.lload k, 2)) (hl : Ls[k]? = some (.val (.long x))) (nx : Go wd p l e R s m args below meth c Z EL Q kc ks m0 mine h locs cells slots (mkF m (pc + 2) Ls (.long x :: st))) : Go wd p l e R s m args below meth c Z EL Q kc ks m0 mine h locs cells slots (mkF m pc Ls (st)) := nx.pure fun T t H hr => XT.lload H C.hx rfl (hb C.hby hd) hl hr
theorem g_istoreN {k : Fin 4} {x : Int32} (l' : Array Slot) (C : Cx wd p s m meth c Z a0 EL own bytes ml ret nm) (hd : decode bytes pc = .ok (.istore_n k, 1)) (hl : storeLocals Ls k.val (.int x) = some l') (nx : Go wd p l e R s m args below meth c Z EL Q kc ks m0 mine h locs cells slots (mkF m (pc + 1) l' (st))) : Go wd p l e R s m args below meth c Z EL Q kc ks m0 mine h locs cells slots (mkF m pc Ls (.int x :: st)) := nx.pure fun T t H hr => XS.istoreN H C.hx rfl (hb C.hby hd) rfl hl hr
theorem g_istore {k : Nat} {x : Int32} (l' : Array Slot) (C : Cx wd p s m meth c Z a0 EL own bytes ml ret nm) (hd : decode bytes pc = .ok (.istore k, 2)) (hl : storeLocals Ls k (.int x) = some l') (nx : Go wd p l e R s m args below meth c Z EL Q kc ks m0 mine h locs cells slots (mkF m (pc + 2) l' (st))) : Go wd p l e R s m args below meth c Z EL Q kc ks m0 mine h locs cells slots (mkF m pc Ls (.int x :: st)) := nx.pure fun T t H hr => XS.istore H C.hx rfl (hb C.hby hd) rfl hl hr
theorem g_lstoreN {k : Fin 4} {x : Int64} (l' : Array Slot) (C : Cx wd p s m meth c Z a0 EL own bytes ml ret nm) (hd : decode bytes pc = .ok (.lstore_n k, 1)) (hl : storeLocals Ls k.val (.long x) = some l') (nx : Go wd p l e R s m args below meth c Z EL Q kc ks m0 mine h locs cells slots (mkF m (pc + 1) l' (st))) : Go wd p l e R s m args below meth c Z EL Q kc ks m0 mine h locs cells slots (mkF m pc Ls (.long x :: st)) := nx.pure fun T t H hr => XT.lstoreN H C.hx rfl (hb C.hby hd) rfl hl hr
theorem g_lstore {k : Nat} {x : Int64} (l' : Array Slot) (C : Cx wd p s m meth c Z a0 EL own bytes ml ret nm) (hd : decode bytes pc = .ok (.lstore k, 2)) (hl : storeLocals Ls k (.long x) = some l') (nx : Go wd p l e R s m args below meth c Z EL Q kc ks m0 mine h locs cells slots (mkF m (pc + 2) l' (st))) : Go wd p l e R s m args below meth c Z EL Q kc ks m0 mine h locs cells slots (mkF m pc Ls (.long x :: st)) := nx.pure fun T t H hr => XT.lstore H C.hx rfl (hb C.hby hd) rfl hl hr
theorem g_astoreN {k : Fin 4} {x : Value} (l' : Array Slot) (C : Cx wd p s m meth c Z a0 EL own bytes ml ret nm) (hd : decode bytes pc = .ok (.astore_n k, 1)) (hv : x.isRef = true) (hl : storeLocals Ls k.val x = some l') (nx : Go wd p l e R s m args below meth c Z EL Q kc ks m0 mine h locs cells slots (mkF m (pc + 1) l' (st))) : Go wd p l e R s m args below meth c Z EL Q kc ks m0 mine h locs cells slots (mkF m pc Ls (x :: st)) := nx.pure fun T t H hr => XS.astoreN H C.hx rfl (hb C.hby hd) rfl hv hl hr
theorem g_astore {k : Nat} {x : Value} (l' : Array Slot) (C : Cx wd p s m meth c Z a0 EL own bytes ml ret nm) (hd : decode bytes pc = .ok (.astore k, 2)) (hv : x.isRef = true) (hl : storeLocals Ls k x = some l') (nx : Go wd p l e R s m args below meth c Z EL Q kc ks m0 mine h locs cells slots (mkF m (pc + 2) l' (st))) : Go wd p l e R s m args below meth c Z EL Q kc ks m0 mine h locs cells slots (mkF m pc Ls (x :: st)) := nx.pure fun T t H hr => XS.astore H C.hx rfl (hb C.hby hd) rfl hv hl hr
theorem g_iconst {i : Int} (z : Int32) (C : Cx wd p s m meth c Z a0 EL own bytes ml ret nm) (hd : decode bytes pc = .ok (.iconst i, 1)) (hz : Int32.ofInt i = z) (nx : Go wd p l e R s m args below meth c Z EL Q kc ks m0 mine h locs cells slots (mkF m (pc + 1) Ls (.int z :: st))) : Go wd p l e R s m args below meth c Z EL Q kc ks m0 mine h locs cells slots (mkF m pc Ls (st)) := nx.pure fun T t H hr => XT.iconstV H C.hx rfl z (hb C.hby hd) hz hr
theorem g_bipush {i : Int} (z : Int32) (C : Cx wd p s m meth c Z a0 EL own bytes ml ret nm) (hd : decode bytes pc = .ok (.bipush i, 2)) (hz : (Int8.ofInt i).toInt32 = z) (nx : Go wd p l e R s m args below meth c Z EL Q kc ks m0 mine h locs cells slots (mkF m (pc + 2) Ls (.int z :: st))) : Go wd p l e R s m args below meth c Z EL Q kc ks m0 mine h locs cells slots (mkF m pc Ls (st)) := nx.pure fun T t H hr => XT.bipushV H C.hx rfl z (hb C.hby hd) hz hr
theorem g_sipush {i : Int} (z : Int32) (C : Cx wd p s m meth c Z a0 EL own bytes ml ret nm) (hd : decode bytes pc = .ok (.sipush i, 3)) (hz : (Int16.ofInt i).toInt32 = z) (nx : Go wd p l e R s m args below meth c Z EL Q kc ks m0 mine h locs cells slots (mkF m (pc + 3) Ls (.int z :: st))) : Go wd p l e R s m args below meth c Z EL Q kc ks m0 mine h locs cells slots (mkF m pc Ls (st)) := nx.pure fun T t H hr => XT.sipushV H C.hx rfl z (hb C.hby hd) hz hr
theorem g_lconst {k : Fin 2} (z : Int64) (C : Cx wd p s m meth c Z a0 EL own bytes ml ret nm) (hd : decode bytes pc = .ok (.lconst k, 1)) (hz : Int64.ofNat k = z) (nx : Go wd p l e R s m args below meth c Z EL Q kc ks m0 mine h locs cells slots (mkF m (pc + 1) Ls (.long z :: st))) : Go wd p l e R s m args below meth c Z EL Q kc ks m0 mine h locs cells slots (mkF m pc Ls (st)) := nx.pure fun T t H hr => XT.lconstV H C.hx rfl z (hb C.hby hd) hz hr
theorem g_aconstNull  (C : Cx wd p s m meth c Z a0 EL own bytes ml ret nm) (hd : decode bytes pc = .ok (.aconst_null, 1))  (nx : Go wd p l e R s m args below meth c Z EL Q kc ks m0 mine h locs cells slots (mkF m (pc + 1) Ls (.null :: st))) : Go wd p l e R s m args below meth c Z EL Q kc ks m0 mine h locs cells slots (mkF m pc Ls (st)) := nx.pure fun T t H hr => XS.aconstNull H C.hx rfl (hb C.hby hd) hr
theorem g_iadd {x y : Int32} (z : Int32) (C : Cx wd p s m meth c Z a0 EL own bytes ml ret nm) (hd : decode bytes pc = .ok (.iadd, 1)) (hz : x + y = z) (nx : Go wd p l e R s m args below meth c Z EL Q kc ks m0 mine h locs cells slots (mkF m (pc + 1) Ls (.int z :: st))) : Go wd p l e R s m args below meth c Z EL Q kc ks m0 mine h locs cells slots (mkF m pc Ls (.int y :: .int x :: st)) := by subst hz; exact nx.pure fun T t H hr => XS.iadd H C.hx rfl (hb C.hby hd) rfl hr
theorem g_isub {x y : Int32} (z : Int32) (C : Cx wd p s m meth c Z a0 EL own bytes ml ret nm) (hd : decode bytes pc = .ok (.isub, 1)) (hz : x - y = z) (nx : Go wd p l e R s m args below meth c Z EL Q kc ks m0 mine h locs cells slots (mkF m (pc + 1) Ls (.int z :: st))) : Go wd p l e R s m args below meth c Z EL Q kc ks m0 mine h locs cells slots (mkF m pc Ls (.int y :: .int x :: st)) := by subst hz; exact nx.pure fun T t H hr => XS.isub H C.hx rfl (hb C.hby hd) rfl hr
theorem g_iand {x y : Int32} (z : Int32) (C : Cx wd p s m meth c Z a0 EL own bytes ml ret nm) (hd : decode bytes pc = .ok (.iand, 1)) (hz : x &&& y = z) (nx : Go wd p l e R s m args below meth c Z EL Q kc ks m0 mine h locs cells slots (mkF m (pc + 1) Ls (.int z :: st))) : Go wd p l e R s m args below meth c Z EL Q kc ks m0 mine h locs cells slots (mkF m pc Ls (.int y :: .int x :: st)) := by subst hz; exact nx.pure fun T t H hr => XS.iand H C.hx rfl (hb C.hby hd) rfl hr
theorem g_imul {x y : Int32} (z : Int32) (C : Cx wd p s m meth c Z a0 EL own bytes ml ret nm) (hd : decode bytes pc = .ok (.imul, 1)) (hz : x * y = z) (nx : Go wd p l e R s m args below meth c Z EL Q kc ks m0 mine h locs cells slots (mkF m (pc + 1) Ls (.int z :: st))) : Go wd p l e R s m args below meth c Z EL Q kc ks m0 mine h locs cells slots (mkF m pc Ls (.int y :: .int x :: st)) := by subst hz; exact nx.pure fun T t H hr => XS.imul H C.hx rfl (hb C.hby hd) rfl hr
theorem g_ixor {x y : Int32} (z : Int32) (C : Cx wd p s m meth c Z a0 EL own bytes ml ret nm) (hd : decode bytes pc = .ok (.ixor, 1)) (hz : x ^^^ y = z) (nx : Go wd p l e R s m args below meth c Z EL Q kc ks m0 mine h locs cells slots (mkF m (pc + 1) Ls (.int z :: st))) : Go wd p l e R s m args below meth c Z EL Q kc ks m0 mine h locs cells slots (mkF m pc Ls (.int y :: .int x :: st)) := by subst hz; exact nx.pure fun T t H hr => XT.ixor H C.hx rfl (hb C.hby hd) rfl hr
theorem g_ior {x y : Int32} (z : Int32) (C : Cx wd p s m meth c Z a0 EL own bytes ml ret nm) (hd : decode bytes pc = .ok (.ior, 1)) (hz : x ||| y = z) (nx : Go wd p l e R s m args below meth c Z EL Q kc ks m0 mine h locs cells slots (mkF m (pc + 1) Ls (.int z :: st))) : Go wd p l e R s m args below meth c Z EL Q kc ks m0 mine h locs cells slots (mkF m pc Ls (.int y :: .int x :: st)) := by subst hz; exact nx.pure fun T t H hr => XT.ior H C.hx rfl (hb C.hby hd) rfl hr
theorem g_ishl {x y : Int32} (z : Int32) (C : Cx wd p s m meth c Z a0 EL own bytes ml ret nm) (hd : decode bytes pc = .ok (.ishl, 1)) (hz : x <<< (y &&& 31) = z) (nx : Go wd p l e R s m args below meth c Z EL Q kc ks m0 mine h locs cells slots (mkF m (pc + 1) Ls (.int z :: st))) : Go wd p l e R s m args below meth c Z EL Q kc ks m0 mine h locs cells slots (mkF m pc Ls (.int y :: .int x :: st)) := by subst hz; exact nx.pure fun T t H hr => XT.ishl H C.hx rfl (hb C.hby hd) rfl hr
theorem g_ishr {x y : Int32} (z : Int32) (C : Cx wd p s m meth c Z a0 EL own bytes ml ret nm) (hd : decode bytes pc = .ok (.ishr, 1)) (hz : x >>> (y &&& 31) = z) (nx : Go wd p l e R s m args below meth c Z EL Q kc ks m0 mine h locs cells slots (mkF m (pc + 1) Ls (.int z :: st))) : Go wd p l e R s m args below meth c Z EL Q kc ks m0 mine h locs cells slots (mkF m pc Ls (.int y :: .int x :: st)) := by subst hz; exact nx.pure fun T t H hr => XT.ishr H C.hx rfl (hb C.hby hd) rfl hr
theorem g_iushr {x y : Int32} (z : Int32) (C : Cx wd p s m meth c Z a0 EL own bytes ml ret nm) (hd : decode bytes pc = .ok (.iushr, 1)) (hz : XT.ushr x y = z) (nx : Go wd p l e R s m args below meth c Z EL Q kc ks m0 mine h locs cells slots (mkF m (pc + 1) Ls (.int z :: st))) : Go wd p l e R s m args below meth c Z EL Q kc ks m0 mine h locs cells slots (mkF m pc Ls (.int y :: .int x :: st)) := by subst hz; exact nx.pure fun T t H hr => XT.iushr H C.hx rfl (hb C.hby hd) rfl hr
theorem g_idiv {x y : Int32} (z : Int32) (C : Cx wd p s m meth c Z a0 EL own bytes ml ret nm) (hd : decode bytes pc = .ok (.idiv, 1)) (hy : y ≠ 0) (hz : x / y = z) (nx : Go wd p l e R s m args below meth c Z EL Q kc ks m0 mine h locs cells slots (mkF m (pc + 1) Ls (.int z :: st))) : Go wd p l e R s m args below meth c Z EL Q kc ks m0 mine h locs cells slots (mkF m pc Ls (.int y :: .int x :: st)) := by subst hz; exact nx.pure fun T t H hr => XS.idiv H C.hx rfl (hb C.hby hd) rfl hy hr
theorem g_irem {x y : Int32} (z : Int32) (C : Cx wd p s m meth c Z a0 EL own bytes ml ret nm) (hd : decode bytes pc = .ok (.irem, 1)) (hy : y ≠ 0) (hz : x - (x / y) * y = z) (nx : Go wd p l e R s m args below meth c Z EL Q kc ks m0 mine h locs cells slots (mkF m (pc + 1) Ls (.int z :: st))) : Go wd p l e R s m args below meth c Z EL Q kc ks m0 mine h locs cells slots (mkF m pc Ls (.int y :: .int x :: st)) := by subst hz; exact nx.pure fun T t H hr => XS.irem H C.hx rfl (hb C.hby hd) rfl hy hr
theorem g_ineg {x : Int32} (z : Int32) (C : Cx wd p s m meth c Z a0 EL own bytes ml ret nm) (hd : decode bytes pc = .ok (.ineg, 1)) (hz : -x = z) (nx : Go wd p l e R s m args below meth c Z EL Q kc ks m0 mine h locs cells slots (mkF m (pc + 1) Ls (.int z :: st))) : Go wd p l e R s m args below meth c Z EL Q kc ks m0 mine h locs cells slots (mkF m pc Ls (.int x :: st)) := by subst hz; exact nx.pure fun T t H hr => XS.ineg H C.hx rfl (hb C.hby hd) rfl hr
theorem g_i2b {x : Int32} (z : Int32) (C : Cx wd p s m meth c Z a0 EL own bytes ml ret nm) (hd : decode bytes pc = .ok (.i2b, 1)) (hz : x.toInt8.toInt32 = z) (nx : Go wd p l e R s m args below meth c Z EL Q kc ks m0 mine h locs cells slots (mkF m (pc + 1) Ls (.int z :: st))) : Go wd p l e R s m args below meth c Z EL Q kc ks m0 mine h locs cells slots (mkF m pc Ls (.int x :: st)) := by subst hz; exact nx.pure fun T t H hr => XT.i2b H C.hx rfl (hb C.hby hd) rfl hr
theorem g_i2c {x : Int32} (z : Int32) (C : Cx wd p s m meth c Z a0 EL own bytes ml ret nm) (hd : decode bytes pc = .ok (.i2c, 1)) (hz : x.toUInt32.toUInt16.toUInt32.toInt32 = z) (nx : Go wd p l e R s m args below meth c Z EL Q kc ks m0 mine h locs cells slots (mkF m (pc + 1) Ls (.int z :: st))) : Go wd p l e R s m args below meth c Z EL Q kc ks m0 mine h locs cells slots (mkF m pc Ls (.int x :: st)) := by subst hz; exact nx.pure fun T t H hr => XT.i2c H C.hx rfl (hb C.hby hd) rfl hr
theorem g_i2s {x : Int32} (z : Int32) (C : Cx wd p s m meth c Z a0 EL own bytes ml ret nm) (hd : decode bytes pc = .ok (.i2s, 1)) (hz : x.toInt16.toInt32 = z) (nx : Go wd p l e R s m args below meth c Z EL Q kc ks m0 mine h locs cells slots (mkF m (pc + 1) Ls (.int z :: st))) : Go wd p l e R s m args below meth c Z EL Q kc ks m0 mine h locs cells slots (mkF m pc Ls (.int x :: st)) := by subst hz; exact nx.pure fun T t H hr => XT.i2s H C.hx rfl (hb C.hby hd) rfl hr
theorem g_i2l {x : Int32} (z : Int64) (C : Cx wd p s m meth c Z a0 EL own bytes ml ret nm) (hd : decode bytes pc = .ok (.i2l, 1)) (hz : x.toInt64 = z) (nx : Go wd p l e R s m args below meth c Z EL Q kc ks m0 mine h locs cells slots (mkF m (pc + 1) Ls (.long z :: st))) : Go wd p l e R s m args below meth c Z EL Q kc ks m0 mine h locs cells slots (mkF m pc Ls (.int x :: st)) := by subst hz; exact nx.pure fun T t H hr => XT.i2l H C.hx rfl (hb C.hby hd) rfl hr
theorem g_l2i {x : Int64} (z : Int32) (C : Cx wd p s m meth c Z a0 EL own bytes ml ret nm) (hd : decode bytes pc = .ok (.l2i, 1)) (hz : x.toInt32 = z) (nx : Go wd p l e R s m args below meth c Z EL Q kc ks m0 mine h locs cells slots (mkF m (pc + 1) Ls (.int z :: st))) : Go wd p l e R s m args below meth c Z EL Q kc ks m0 mine h locs cells slots (mkF m pc Ls (.long x :: st)) := by subst hz; exact nx.pure fun T t H hr => XT.l2i H C.hx rfl (hb C.hby hd) rfl hr
theorem g_ladd {x y : Int64} (z : Int64) (C : Cx wd p s m meth c Z a0 EL own bytes ml ret nm) (hd : decode bytes pc = .ok (.ladd, 1)) (hz : x + y = z) (nx : Go wd p l e R s m args below meth c Z EL Q kc ks m0 mine h locs cells slots (mkF m (pc + 1) Ls (.long z :: st))) : Go wd p l e R s m args below meth c Z EL Q kc ks m0 mine h locs cells slots (mkF m pc Ls (.long y :: .long x :: st)) := by subst hz; exact nx.pure fun T t H hr => XT.ladd H C.hx rfl (hb C.hby hd) rfl hr
theorem g_lsub {x y : Int64} (z : Int64) (C : Cx wd p s m meth c Z a0 EL own bytes ml ret nm) (hd : decode bytes pc = .ok (.lsub, 1)) (hz : x - y = z) (nx : Go wd p l e R s m args below meth c Z EL Q kc ks m0 mine h locs cells slots (mkF m (pc + 1) Ls (.long z :: st))) : Go wd p l e R s m args below meth c Z EL Q kc ks m0 mine h locs cells slots (mkF m pc Ls (.long y :: .long x :: st)) := by subst hz; exact nx.pure fun T t H hr => XT.lsub H C.hx rfl (hb C.hby hd) rfl hr
theorem g_lmul {x y : Int64} (z : Int64) (C : Cx wd p s m meth c Z a0 EL own bytes ml ret nm) (hd : decode bytes pc = .ok (.lmul, 1)) (hz : x * y = z) (nx : Go wd p l e R s m args below meth c Z EL Q kc ks m0 mine h locs cells slots (mkF m (pc + 1) Ls (.long z :: st))) : Go wd p l e R s m args below meth c Z EL Q kc ks m0 mine h locs cells slots (mkF m pc Ls (.long y :: .long x :: st)) := by subst hz; exact nx.pure fun T t H hr => XT.lmul H C.hx rfl (hb C.hby hd) rfl hr
theorem g_land {x y : Int64} (z : Int64) (C : Cx wd p s m meth c Z a0 EL own bytes ml ret nm) (hd : decode bytes pc = .ok (.land, 1)) (hz : x &&& y = z) (nx : Go wd p l e R s m args below meth c Z EL Q kc ks m0 mine h locs cells slots (mkF m (pc + 1) Ls (.long z :: st))) : Go wd p l e R s m args below meth c Z EL Q kc ks m0 mine h locs cells slots (mkF m pc Ls (.long y :: .long x :: st)) := by subst hz; exact nx.pure fun T t H hr => XT.land H C.hx rfl (hb C.hby hd) rfl hr
theorem g_lor {x y : Int64} (z : Int64) (C : Cx wd p s m meth c Z a0 EL own bytes ml ret nm) (hd : decode bytes pc = .ok (.lor, 1)) (hz : x ||| y = z) (nx : Go wd p l e R s m args below meth c Z EL Q kc ks m0 mine h locs cells slots (mkF m (pc + 1) Ls (.long z :: st))) : Go wd p l e R s m args below meth c Z EL Q kc ks m0 mine h locs cells slots (mkF m pc Ls (.long y :: .long x :: st)) := by subst hz; exact nx.pure fun T t H hr => XT.lor H C.hx rfl (hb C.hby hd) rfl hr
theorem g_lxor {x y : Int64} (z : Int64) (C : Cx wd p s m meth c Z a0 EL own bytes ml ret nm) (hd : decode bytes pc = .ok (.lxor, 1)) (hz : x ^^^ y = z) (nx : Go wd p l e R s m args below meth c Z EL Q kc ks m0 mine h locs cells slots (mkF m (pc + 1) Ls (.long z :: st))) : Go wd p l e R s m args below meth c Z EL Q kc ks m0 mine h locs cells slots (mkF m pc Ls (.long y :: .long x :: st)) := by subst hz; exact nx.pure fun T t H hr => XT.lxor H C.hx rfl (hb C.hby hd) rfl hr
theorem g_ldiv {x y : Int64} (z : Int64) (C : Cx wd p s m meth c Z a0 EL own bytes ml ret nm) (hd : decode bytes pc = .ok (.ldiv, 1)) (hy : y ≠ 0) (hz : x / y = z) (nx : Go wd p l e R s m args below meth c Z EL Q kc ks m0 mine h locs cells slots (mkF m (pc + 1) Ls (.long z :: st))) : Go wd p l e R s m args below meth c Z EL Q kc ks m0 mine h locs cells slots (mkF m pc Ls (.long y :: .long x :: st)) := by subst hz; exact nx.pure fun T t H hr => XT.ldiv H C.hx rfl (hb C.hby hd) rfl hy hr
theorem g_lrem {x y : Int64} (z : Int64) (C : Cx wd p s m meth c Z a0 EL own bytes ml ret nm) (hd : decode bytes pc = .ok (.lrem, 1)) (hy : y ≠ 0) (hz : x - (x / y) * y = z) (nx : Go wd p l e R s m args below meth c Z EL Q kc ks m0 mine h locs cells slots (mkF m (pc + 1) Ls (.long z :: st))) : Go wd p l e R s m args below meth c Z EL Q kc ks m0 mine h locs cells slots (mkF m pc Ls (.long y :: .long x :: st)) := by subst hz; exact nx.pure fun T t H hr => XT.lrem H C.hx rfl (hb C.hby hd) rfl hy hr
theorem g_lshl {x : Int64} {y : Int32} (z : Int64) (C : Cx wd p s m meth c Z a0 EL own bytes ml ret nm) (hd : decode bytes pc = .ok (.lshl, 1)) (hz : x <<< (y.toInt64 &&& 63) = z) (nx : Go wd p l e R s m args below meth c Z EL Q kc ks m0 mine h locs cells slots (mkF m (pc + 1) Ls (.long z :: st))) : Go wd p l e R s m args below meth c Z EL Q kc ks m0 mine h locs cells slots (mkF m pc Ls (.int y :: .long x :: st)) := by subst hz; exact nx.pure fun T t H hr => XT.lshl H C.hx rfl (hb C.hby hd) rfl hr
theorem g_lshr {x : Int64} {y : Int32} (z : Int64) (C : Cx wd p s m meth c Z a0 EL own bytes ml ret nm) (hd : decode bytes pc = .ok (.lshr, 1)) (hz : x >>> (y.toInt64 &&& 63) = z) (nx : Go wd p l e R s m args below meth c Z EL Q kc ks m0 mine h locs cells slots (mkF m (pc + 1) Ls (.long z :: st))) : Go wd p l e R s m args below meth c Z EL Q kc ks m0 mine h locs cells slots (mkF m pc Ls (.int y :: .long x :: st)) := by subst hz; exact nx.pure fun T t H hr => XT.lshr H C.hx rfl (hb C.hby hd) rfl hr
theorem g_lushr {x : Int64} {y : Int32} (z : Int64) (C : Cx wd p s m meth c Z a0 EL own bytes ml ret nm) (hd : decode bytes pc = .ok (.lushr, 1)) (hz : XT.ushrL x y = z) (nx : Go wd p l e R s m args below meth c Z EL Q kc ks m0 mine h locs cells slots (mkF m (pc + 1) Ls (.long z :: st))) : Go wd p l e R s m args below meth c Z EL Q kc ks m0 mine h locs cells slots (mkF m pc Ls (.int y :: .long x :: st)) := by subst hz; exact nx.pure fun T t H hr => XT.lushr H C.hx rfl (hb C.hby hd) rfl hr
theorem g_lneg {x : Int64} (z : Int64) (C : Cx wd p s m meth c Z a0 EL own bytes ml ret nm) (hd : decode bytes pc = .ok (.lneg, 1)) (hz : -x = z) (nx : Go wd p l e R s m args below meth c Z EL Q kc ks m0 mine h locs cells slots (mkF m (pc + 1) Ls (.long z :: st))) : Go wd p l e R s m args below meth c Z EL Q kc ks m0 mine h locs cells slots (mkF m pc Ls (.long x :: st)) := by subst hz; exact nx.pure fun T t H hr => XT.lneg H C.hx rfl (hb C.hby hd) rfl hr
theorem g_lcmp {x y : Int64} (C : Cx wd p s m meth c Z a0 EL own bytes ml ret nm) (hd : decode bytes pc = .ok (.lcmp, 1))  (nx : Go wd p l e R s m args below meth c Z EL Q kc ks m0 mine h locs cells slots (mkF m (pc + 1) Ls (.int (XT.cmpL x y) :: st))) : Go wd p l e R s m args below meth c Z EL Q kc ks m0 mine h locs cells slots (mkF m pc Ls (.long y :: .long x :: st)) := nx.pure fun T t H hr => XT.lcmp H C.hx rfl (hb C.hby hd) rfl hr
theorem g_iinc {k : Nat} {cst : Int} {x : Int32} (z : Int32) (l' : Array Slot) (C : Cx wd p s m meth c Z a0 EL own bytes ml ret nm) (hd : decode bytes pc = .ok (.iinc k cst, 3)) (hl : Ls[k]? = some (.val (.int x))) (hz : x + Int32.ofInt cst = z) (hl' : storeLocals Ls k (.int z) = some l') (nx : Go wd p l e R s m args below meth c Z EL Q kc ks m0 mine h locs cells slots (mkF m (pc + 3) l' (st))) : Go wd p l e R s m args below meth c Z EL Q kc ks m0 mine h locs cells slots (mkF m pc Ls (st)) := by subst hz; exact nx.pure fun T t H hr => XS.iinc H C.hx rfl (hb C.hby hd) hl hl' hr
theorem g_dup {x : Value} (C : Cx wd p s m meth c Z a0 EL own bytes ml ret nm) (hd : decode bytes pc = .ok (.dup, 1)) (hc : x.category = 1) (nx : Go wd p l e R s m args below meth c Z EL Q kc ks m0 mine h locs cells slots (mkF m (pc + 1) Ls (x :: x :: st))) : Go wd p l e R s m args below meth c Z EL Q kc ks m0 mine h locs cells slots (mkF m pc Ls (x :: st)) := nx.pure fun T t H hr => XS.dup H C.hx rfl (hb C.hby hd) rfl hc hr
theorem g_pop {x : Value} (C : Cx wd p s m meth c Z a0 EL own bytes ml ret nm) (hd : decode bytes pc = .ok (.pop, 1)) (hc : x.category = 1) (nx : Go wd p l e R s m args below meth c Z EL Q kc ks m0 mine h locs cells slots (mkF m (pc + 1) Ls (st))) : Go wd p l e R s m args below meth c Z EL Q kc ks m0 mine h locs cells slots (mkF m pc Ls (x :: st)) := nx.pure fun T t H hr => XT.pop H C.hx rfl (hb C.hby hd) rfl hc hr
theorem g_dupX1 {x y : Value} (C : Cx wd p s m meth c Z a0 EL own bytes ml ret nm) (hd : decode bytes pc = .ok (.dup_x1, 1)) (hc : x.category = 1) (hc' : y.category = 1) (nx : Go wd p l e R s m args below meth c Z EL Q kc ks m0 mine h locs cells slots (mkF m (pc + 1) Ls (x :: y :: x :: st))) : Go wd p l e R s m args below meth c Z EL Q kc ks m0 mine h locs cells slots (mkF m pc Ls (x :: y :: st)) := nx.pure fun T t H hr => XT.dupX1 H C.hx rfl (hb C.hby hd) rfl hc hc' hr
theorem g_dup2 {x y : Value} (C : Cx wd p s m meth c Z a0 EL own bytes ml ret nm) (hd : decode bytes pc = .ok (.dup2, 1)) (hc : x.category = 1) (hc' : y.category = 1) (nx : Go wd p l e R s m args below meth c Z EL Q kc ks m0 mine h locs cells slots (mkF m (pc + 1) Ls (x :: y :: x :: y :: st))) : Go wd p l e R s m args below meth c Z EL Q kc ks m0 mine h locs cells slots (mkF m pc Ls (x :: y :: st)) := nx.pure fun T t H hr => XT.dup2 H C.hx rfl (hb C.hby hd) rfl hc hc' hr
theorem g_dup2L {x : Int64} (C : Cx wd p s m meth c Z a0 EL own bytes ml ret nm) (hd : decode bytes pc = .ok (.dup2, 1))  (nx : Go wd p l e R s m args below meth c Z EL Q kc ks m0 mine h locs cells slots (mkF m (pc + 1) Ls (.long x :: .long x :: st))) : Go wd p l e R s m args below meth c Z EL Q kc ks m0 mine h locs cells slots (mkF m pc Ls (.long x :: st)) := nx.pure fun T t H hr => XT.dup2L H C.hx rfl (hb C.hby hd) rfl hr
theorem g_goto {o : Int} (pc' : Nat) (C : Cx wd p s m meth c Z a0 EL own bytes ml ret nm) (hd : decode bytes pc = .ok (.goto o, 3)) (ho : 0 ≤ (pc : Int) + o) (hp : ((pc : Int) + o).toNat = pc') (nx : Go wd p l e R s m args below meth c Z EL Q kc ks m0 mine h locs cells slots (mkF m pc' Ls (st))) : Go wd p l e R s m args below meth c Z EL Q kc ks m0 mine h locs cells slots (mkF m pc Ls (st)) := nx.pure fun T t H hr => XS.goto H C.hx rfl rfl (hb C.hby hd) ho hp hr
theorem g_ifT {cd : ClassFile.Cond} {x : Int32} {o : Int} (pc' : Nat) (C : Cx wd p s m meth c Z a0 EL own bytes ml ret nm) (hd : decode bytes pc = .ok (.ifCond cd o, 3)) (hc : hC cd x 0) (ho : 0 ≤ (pc : Int) + o) (hp : ((pc : Int) + o).toNat = pc') (nx : Go wd p l e R s m args below meth c Z EL Q kc ks m0 mine h locs cells slots (mkF m pc' Ls (st))) : Go wd p l e R s m args below meth c Z EL Q kc ks m0 mine h locs cells slots (mkF m pc Ls (.int x :: st)) := nx.pure fun T t H hr => XS.ifYes H C.hx rfl rfl (hb C.hby hd) rfl (by rw [if0]; exact hC_t hc) ho hp hr
theorem g_ifF {cd : ClassFile.Cond} {x : Int32} {o : Int} (C : Cx wd p s m meth c Z a0 EL own bytes ml ret nm) (hd : decode bytes pc = .ok (.ifCond cd o, 3)) (hc : nC cd x 0) (nx : Go wd p l e R s m args below meth c Z EL Q kc ks m0 mine h locs cells slots (mkF m (pc + 3) Ls (st))) : Go wd p l e R s m args below meth c Z EL Q kc ks m0 mine h locs cells slots (mkF m pc Ls (.int x :: st)) := nx.pure fun T t H hr => XS.ifNo H C.hx rfl (hb C.hby hd) rfl (by rw [if0]; exact nC_f hc) hr
theorem g_icmpT {cd : ClassFile.Cond} {x y : Int32} {o : Int} (pc' : Nat) (C : Cx wd p s m meth c Z a0 EL own bytes ml ret nm) (hd : decode bytes pc = .ok (.if_icmp cd o, 3)) (hc : hC cd x y) (ho : 0 ≤ (pc : Int) + o) (hp : ((pc : Int) + o).toNat = pc') (nx : Go wd p l e R s m args below meth c Z EL Q kc ks m0 mine h locs cells slots (mkF m pc' Ls (st))) : Go wd p l e R s m args below meth c Z EL Q kc ks m0 mine h locs cells slots (mkF m pc Ls (.int y :: .int x :: st)) := nx.pure fun T t H hr => XS.icmpYes H C.hx rfl rfl (hb C.hby hd) rfl (hC_t hc) ho hp hr
theorem g_icmpF {cd : ClassFile.Cond} {x y : Int32} {o : Int} (C : Cx wd p s m meth c Z a0 EL own bytes ml ret nm) (hd : decode bytes pc = .ok (.if_icmp cd o, 3)) (hc : nC cd x y) (nx : Go wd p l e R s m args below meth c Z EL Q kc ks m0 mine h locs cells slots (mkF m (pc + 3) Ls (st))) : Go wd p l e R s m args below meth c Z EL Q kc ks m0 mine h locs cells slots (mkF m pc Ls (.int y :: .int x :: st)) := nx.pure fun T t H hr => XS.icmpNo H C.hx rfl (hb C.hby hd) rfl (nC_f hc) hr
theorem g_acmpT {cd : ClassFile.ACond} {x y : Value} {o : Int} (pc' : Nat) (C : Cx wd p s m meth c Z a0 EL own bytes ml ret nm) (hd : decode bytes pc = .ok (.if_acmp cd o, 3)) (hx : x.isRef = true) (hy : y.isRef = true) (hc : aC cd x y) (ho : 0 ≤ (pc : Int) + o) (hp : ((pc : Int) + o).toNat = pc') (nx : Go wd p l e R s m args below meth c Z EL Q kc ks m0 mine h locs cells slots (mkF m pc' Ls (st))) : Go wd p l e R s m args below meth c Z EL Q kc ks m0 mine h locs cells slots (mkF m pc Ls (y :: x :: st)) := nx.pure fun T t H hr => XT.acmpYes H C.hx rfl rfl (hb C.hby hd) rfl hx hy (aC_t hc) ho hp hr
theorem g_acmpF {cd : ClassFile.ACond} {x y : Value} {o : Int} (C : Cx wd p s m meth c Z a0 EL own bytes ml ret nm) (hd : decode bytes pc = .ok (.if_acmp cd o, 3)) (hx : x.isRef = true) (hy : y.isRef = true) (hc : aN cd x y) (nx : Go wd p l e R s m args below meth c Z EL Q kc ks m0 mine h locs cells slots (mkF m (pc + 3) Ls (st))) : Go wd p l e R s m args below meth c Z EL Q kc ks m0 mine h locs cells slots (mkF m pc Ls (y :: x :: st)) := nx.pure fun T t H hr => XT.acmpNo H C.hx rfl (hb C.hby hd) rfl hx hy (aN_f hc) hr
theorem g_ifnullT {o : Int} (pc' : Nat) (C : Cx wd p s m meth c Z a0 EL own bytes ml ret nm) (hd : decode bytes pc = .ok (.ifnull o, 3)) (ho : 0 ≤ (pc : Int) + o) (hp : ((pc : Int) + o).toNat = pc') (nx : Go wd p l e R s m args below meth c Z EL Q kc ks m0 mine h locs cells slots (mkF m pc' Ls (st))) : Go wd p l e R s m args below meth c Z EL Q kc ks m0 mine h locs cells slots (mkF m pc Ls (.null :: st)) := nx.pure fun T t H hr => XS.ifnullYes H C.hx rfl rfl (hb C.hby hd) rfl ho hp hr
theorem g_ifnullF {o : Int} {b : Addr} (C : Cx wd p s m meth c Z a0 EL own bytes ml ret nm) (hd : decode bytes pc = .ok (.ifnull o, 3))  (nx : Go wd p l e R s m args below meth c Z EL Q kc ks m0 mine h locs cells slots (mkF m (pc + 3) Ls (st))) : Go wd p l e R s m args below meth c Z EL Q kc ks m0 mine h locs cells slots (mkF m pc Ls (.ref b :: st)) := nx.pure fun T t H hr => XS.ifnullNo H C.hx rfl (hb C.hby hd) rfl hr
theorem g_ifnonnullT {o : Int} {b : Addr} (pc' : Nat) (C : Cx wd p s m meth c Z a0 EL own bytes ml ret nm) (hd : decode bytes pc = .ok (.ifnonnull o, 3)) (ho : 0 ≤ (pc : Int) + o) (hp : ((pc : Int) + o).toNat = pc') (nx : Go wd p l e R s m args below meth c Z EL Q kc ks m0 mine h locs cells slots (mkF m pc' Ls (st))) : Go wd p l e R s m args below meth c Z EL Q kc ks m0 mine h locs cells slots (mkF m pc Ls (.ref b :: st)) := nx.pure fun T t H hr => XT.ifnonnullYes H C.hx rfl rfl (hb C.hby hd) rfl ho hp hr
theorem g_ifnonnullF {o : Int} (C : Cx wd p s m meth c Z a0 EL own bytes ml ret nm) (hd : decode bytes pc = .ok (.ifnonnull o, 3))  (nx : Go wd p l e R s m args below meth c Z EL Q kc ks m0 mine h locs cells slots (mkF m (pc + 3) Ls (st))) : Go wd p l e R s m args below meth c Z EL Q kc ks m0 mine h locs cells slots (mkF m pc Ls (.null :: st)) := nx.pure fun T t H hr => XT.ifnonnullNo H C.hx rfl (hb C.hby hd) rfl hr
theorem g_leave_ {v : Option Value} {g : JFrame} (C : Cx wd p s m meth c Z a0 EL own bytes ml ret nm) (hv : meth.sig.returnType = none → v = none) (hq : Q v h) (hc : cells ≤ kc) (hs : slots ≤ ks)
    (stp : ∀ (T : State) (vm0 : Vm) (fs : List Frame), Stand p l e R (s.setVm vm0) m args below meth c T locs cells slots → (∀ (f : JFrame) (acts : List Action), f.method = m → f.locked = none → f.entered = [] → (doReturn e (T.setTop f) acts v).1 = T.setFrames fs) → Steps p.tables e below (T.setTop g) (T.setFrames fs)) :
    Go wd p l e R s m args below meth c Z EL Q kc ks m0 mine h locs cells slots g := fun T vm0 X eT V => by
  obtain ⟨⟨v1, v2, ⟨k0, v3, v4⟩, v5⟩, v6, v7, v8, v9⟩ := V
  have hlk := C.hlk
  obtain ⟨fs, hr, hrun, hended, hW, hsame⟩ := X.leave hv hlk
  obtain ⟨u1, u2, u3⟩ := v3.ended (U := T.setFrames fs) hW (by show k0 ≤ T.heap.size; rw [eT]; exact v4) hsame
  have hC : CHr Z EL vm0 h T.vm h := CHv.at X v2 C.hEW v5.1
  refine ⟨_, _, stp T vm0 fs X hr, hrun, hended, v, locs, rfl, ?_, ?_, FinE.mono ⟨fun q => ?_, ⟨v, rfl⟩, u1, u2, u3⟩ hc hs, ?_, ?_, v9⟩
  · show Q v T.heap
    rw [eT]; exact hq
  · show CHr Z EL s.vm s.heap T.vm T.heap
    rw [eT]; exact v5.trans hC
  · have e1 : vm0 = s.vm := v1 q
    subst e1
    exact ⟨⟨v, rfl⟩, hW, hsame⟩
  · show Ext Z.heap T.heap
    rw [eT]; exact v7
  · show Keep s.heap T.heap m0
    rw [eT]; exact v8
theorem g_retV {i : Instr} {t : FieldType} {w : Value} (C : Cx wd p s m meth c Z a0 EL own bytes ml (some t) nm) (hd : decode bytes pc = .ok (i, 1)) (hn : narrow t w = w)
    (hi : (i = .ireturn ∧ (t = .int ∨ t = .boolean ∨ t = .byte ∨ t = .char ∨ t = .short) ∧ ∃ z, w = .int z) ∨ (i = .lreturn ∧ t = .long ∧ ∃ z, w = .long z) ∨ (i = .dreturn ∧ t = .double ∧ ∃ z, w = .double z) ∨ (i = .freturn ∧ t = .float ∧ ∃ z, w = .float z) ∨ (i = .areturn ∧ t.isReference = true ∧ w.isRef = true))
    (hq : Q (some w) h) (hc : cells ≤ kc) (hs : slots ≤ ks) : Go wd p l e R s m args below meth c Z EL Q kc ks m0 mine h locs cells slots (mkF m pc Ls (w :: st)) :=
  g_leave_ C (fun q => by rw [C.hret] at q; cases q) hq hc hs fun T vm0 fs X hr => retOut X C.hx C.hret hn hi (hb C.hby hd) hr
theorem g_retI {z : Int32} (C : Cx wd p s m meth c Z a0 EL own bytes ml (some .int) nm) (hd : decode bytes pc = .ok (.ireturn, 1)) (hq : Q (some (.int z)) h) (hc : cells ≤ kc) (hs : slots ≤ ks) : Go wd p l e R s m args below meth c Z EL Q kc ks m0 mine h locs cells slots (mkF m pc Ls (.int z :: st)) :=
  g_retV C hd rfl (Or.inl ⟨rfl, Or.inl rfl, z, rfl⟩) hq hc hs
theorem g_retJ {z : Int64} (C : Cx wd p s m meth c Z a0 EL own bytes ml (some .long) nm) (hd : decode bytes pc = .ok (.lreturn, 1)) (hq : Q (some (.long z)) h) (hc : cells ≤ kc) (hs : slots ≤ ks) : Go wd p l e R s m args below meth c Z EL Q kc ks m0 mine h locs cells slots (mkF m pc Ls (.long z :: st)) :=
  g_retV C hd rfl (Or.inr (Or.inl ⟨rfl, rfl, z, rfl⟩)) hq hc hs
theorem g_retA {t : FieldType} {w : Value} (C : Cx wd p s m meth c Z a0 EL own bytes ml (some t) nm) (hd : decode bytes pc = .ok (.areturn, 1)) (ht : t.isReference = true) (hw : w.isRef = true) (hq : Q (some w) h) (hc : cells ≤ kc) (hs : slots ≤ ks) : Go wd p l e R s m args below meth c Z EL Q kc ks m0 mine h locs cells slots (mkF m pc Ls (w :: st)) :=
  g_retV C hd (by cases t <;> first | (simp [FieldType.isReference] at ht; done) | rfl) (Or.inr (Or.inr (Or.inr (Or.inr ⟨rfl, ht, hw⟩)))) hq hc hs
/-- boolean, byte, char, short: what is left of z -/
theorem g_retN {z : Int32} {t : FieldType} (C : Cx wd p s m meth c Z a0 EL own bytes ml (some t) nm) (hd : decode bytes pc = .ok (.ireturn, 1)) (ht : t = .boolean ∨ t = .byte ∨ t = .char ∨ t = .short) (hq : Q (some (.int (nar t z))) h) (hc : cells ≤ kc) (hs : slots ≤ ks) : Go wd p l e R s m args below meth c Z EL Q kc ks m0 mine h locs cells slots (mkF m pc Ls (.int z :: st)) :=
  g_leave_ C (fun q => by rw [C.hret] at q; cases q) hq hc hs fun T vm0 fs X hr => RoadKit.retN X C.hx C.hret ht (hb C.hby hd) hr
theorem g_retU (C : Cx wd p s m meth c Z a0 EL own bytes ml none nm) (hd : decode bytes pc = .ok (.return_, 1)) (hq : Q none h) (hc : cells ≤ kc) (hs : slots ≤ ks) : Go wd p l e R s m args below meth c Z EL Q kc ks m0 mine h locs cells slots (mkF m pc Ls []) :=
  g_leave_ C (fun _ => rfl) hq hc hs fun T vm0 fs X hr => X.returnOut C.hx C.hret (hb C.hby hd) hr
theorem g_getfield {idx : Nat} {R0 O n d host : String} {v : Value} (C : Cx wd p s m meth c Z a0 EL own bytes ml ret nm) (hd : decode bytes pc = .ok (.getfield idx, 3)) (w : (Cond.fieldLink own idx R0 n d).before a0 Z = true ∨ (Cond.fieldLinkNest own idx R0 n d host).before a0 Z = true) (via : Via Z R0 O n d) (F : Fld Z h a O n d v)
    (nx : Go wd p l e R s m args below meth c Z EL Q kc ks m0 mine h locs cells slots (mkF m (pc + 3) Ls (v :: st))) : Go wd p l e R s m args below meth c Z EL Q kc ks m0 mine h locs cells slots (mkF m pc Ls (.ref a :: st)) := fun T vm0 X eT V => by
  obtain ⟨T', X', e', k1⟩ := RoadKit.getF X C.hx V.hZ' (V.hown C) w via eT F (g := mkF m pc Ls (.ref a :: st)) rfl rfl (hb C.hby hd)
  obtain ⟨s₂, o, k, r⟩ := nx T' vm0 X' e' V
  exact ⟨s₂, o, k1 _ k, r⟩
theorem g_getstatic {idx : Nat} {R0 O n d host : String} {v : Value} (C : Cx wd p s m meth c Z a0 EL own bytes ml ret nm) (hd : decode bytes pc = .ok (.getstatic idx, 3)) (w : (Cond.fieldLink own idx R0 n d).before a0 Z = true ∨ (Cond.fieldLinkNest own idx R0 n d host).before a0 Z = true) (via : Via Z R0 O n d) (F : Sta Z Z.heap O n d v)
    (nx : Go wd p l e R s m args below meth c Z EL Q kc ks m0 mine h locs cells slots (mkF m (pc + 3) Ls (v :: st))) : Go wd p l e R s m args below meth c Z EL Q kc ks m0 mine h locs cells slots (mkF m pc Ls st) := fun T vm0 X eT V => by
  obtain ⟨T', X', e', k1⟩ := getS2 X C.hx V.hZ' (V.hown C) w via eT (Sta.ext V.old F) (g := mkF m pc Ls st) rfl (hb C.hby hd)
  obtain ⟨s₂, o, k, r⟩ := nx T' vm0 X' e' V
  exact ⟨s₂, o, k1 _ k, r⟩
theorem g_putfield {idx kk : Nat} {R0 O n d host Cn : String} {v old : Value} {ty : FieldType} (C : Cx wd p s m meth c Z a0 EL own bytes ml ret nm) (hd : decode bytes pc = .ok (.putfield idx, 3)) (w : (Cond.fieldLink own idx R0 n d).before a0 Z = true ∨ (Cond.fieldLinkNest own idx R0 n d host).before a0 Z = true) (via : Via Z R0 O n d) (F : Fld Z h a O n d old) (E : Exa Z h a Cn)
    (L : (Cond.lays Cn O n d).before a0 Z = true ∨ ((Cond.laysFinal Cn O n d).before a0 Z = true ∧ own = O ∧ nm = "<init>")) (wi : (Cond.instantiable Cn kk).before a0 Z = true) (hty : parseFieldDescriptor d = some ty) (hn : narrow ty v = v) (hf : fits ty v = true) (hm : a ∈ mine)
    (nx : ∀ h', Wr h h' a (RoadKit.slotOf Z O n d) v → Keep h h' [a] → Go wd p l e R s m args below meth c Z EL Q kc ks m0 mine h' (locs ++ [⟨a, RoadKit.slotOf Z O n d⟩]) cells slots (mkF m (pc + 3) Ls st)) : Go wd p l e R s m args below meth c Z EL Q kc ks m0 mine h locs cells slots (mkF m pc Ls (v :: .ref a :: st)) := fun T vm0 X eT V => by
  have L' : (Cond.lays Cn O n d).before a0 Z = true ∨ ((Cond.laysFinal Cn O n d).before a0 Z = true ∧ own = O ∧ meth.name = "<init>") := L.imp id fun q => ⟨q.1, q.2.1, by rw [C.hnm]; exact q.2.2⟩
  obtain ⟨T', h', X', e', W, k1⟩ := putF X C.hx V.hZ' (V.hown C) w via eT F E L' wi hty hn hf (g := mkF m pc Ls (v :: .ref a :: st)) rfl rfl (hb C.hby hd)
  obtain ⟨s₂, o, k, r⟩ := nx h' W (Keep.of_wr W) T' vm0 X' e' (V.keep (Keep.of_wr W) (fun x hx => by rw [List.mem_singleton.mp hx]; exact hm) (V.wr1 hm))
  exact ⟨s₂, o, k1 _ k, r⟩
theorem g_new_ {idx kk : Nat} {Cn : String} (C : Cx wd p s m meth c Z a0 EL own bytes ml ret nm) (hd : decode bytes pc = .ok (.new idx, 3)) (w : (Cond.classLink own idx Cn).before a0 Z = true) (wi : (Cond.instantiable Cn kk).before a0 Z = true) (wz : (Cond.initialized Cn).before a0 Z = true) (hc : cells + 1 ≤ R.cells) (hs : slots + kk ≤ R.slots)
    (nx : ∀ (a : Addr) (h' : Heap), a = h.size → Ext h h' → a < h'.size → Exa Z h' a Cn → (∀ {O n d : String} {ty : FieldType}, Laid Z a0 Cn O n d → parseFieldDescriptor d = some ty → Fld Z h' a O n d (defaultValue ty)) → Go wd p l e R s m args below meth c Z EL Q kc ks m0 (a :: mine) h' locs (cells + 1) (slots + kk) (mkF m (pc + 3) Ls (.ref a :: st))) : Go wd p l e R s m args below meth c Z EL Q kc ks m0 mine h locs cells slots (mkF m pc Ls st) := fun T vm0 X eT V => by
  obtain ⟨T', h', X', e', E, A, D, -, k1⟩ := newO X C.hx V.hZ' (V.hown C) w wi wz eT (g := mkF m pc Ls st) rfl (hb C.hby hd) hc hs
  obtain ⟨s₂, o, k, r⟩ := nx h.size h' rfl E A.lt A D T' vm0 X' e' (V.new E A.lt)
  exact ⟨s₂, o, k1 _ k, r⟩
theorem g_objInit {idx : Nat} (C : Cx wd p s m meth c Z a0 EL own bytes ml ret nm) (hd : decode bytes pc = .ok (.invokespecial idx, 3)) (w1 : (Cond.methodLink own idx Lib.objectInit).before a0 Z = true) (w2 : (Cond.instanceMethod Lib.objectInit).before a0 Z = true) (w3 : (Cond.code Lib.objectInit ⟨#[0xb1]⟩ 1 none).before a0 Z = true)
    (hsz : Ls.size = ml) (hf : 1 ≤ R.frames) (hl : (st.map fun v => v.category).sum + 12 ≤ R.locals) (nx : Go wd p l e R s m args below meth c Z EL Q kc ks m0 mine h locs cells slots (mkF m (pc + 3) Ls st)) : Go wd p l e R s m args below meth c Z EL Q kc ks m0 mine h locs cells slots (mkF m pc Ls (.ref a :: st)) := fun T vm0 X eT V => by
  obtain ⟨T', X', e', k1⟩ := initO X C.hx V.hZ' (V.hown C) w1 w2 w3 eT (g := mkF m pc Ls (.ref a :: st)) rfl (by rw [C.hml]; exact hsz) rfl (hb C.hby hd) hf (W := (st.map fun v => v.category).sum) (by show 2 * 0 + _ ≤ _; omega) hl
  obtain ⟨s₂, o, k, r⟩ := nx T' vm0 X' e' V
  exact ⟨s₂, o, k1 _ k, r⟩
theorem g_castY {idx : Nat} {K : String} (C : Cx wd p s m meth c Z a0 EL own bytes ml ret nm) (hd : decode bytes pc = .ok (.checkcast idx, 3)) (w : (Cond.classLink own idx K).before a0 Z = true) (I : Ins Z h a K true) (nx : Go wd p l e R s m args below meth c Z EL Q kc ks m0 mine h locs cells slots (mkF m (pc + 3) Ls (.ref a :: st))) : Go wd p l e R s m args below meth c Z EL Q kc ks m0 mine h locs cells slots (mkF m pc Ls (.ref a :: st)) := fun T vm0 X eT V => by
  obtain ⟨T', X', e', k1⟩ := RoadKit.castY X C.hx V.hZ' (V.hown C) w eT I (g := mkF m pc Ls (.ref a :: st)) rfl rfl (hb C.hby hd)
  obtain ⟨s₂, o, k, r⟩ := nx T' vm0 X' e' V
  exact ⟨s₂, o, k1 _ k, r⟩
theorem g_instY {idx : Nat} {K : String} (C : Cx wd p s m meth c Z a0 EL own bytes ml ret nm) (hd : decode bytes pc = .ok (.instanceof idx, 3)) (w : (Cond.classLink own idx K).before a0 Z = true) (I : Ins Z h a K true) (nx : Go wd p l e R s m args below meth c Z EL Q kc ks m0 mine h locs cells slots (mkF m (pc + 3) Ls (.int 1 :: st))) : Go wd p l e R s m args below meth c Z EL Q kc ks m0 mine h locs cells slots (mkF m pc Ls (.ref a :: st)) := fun T vm0 X eT V => by
  obtain ⟨T', X', e', k1⟩ := RoadKit.instY X C.hx V.hZ' (V.hown C) w eT I (g := mkF m pc Ls (.ref a :: st)) rfl rfl (hb C.hby hd)
  obtain ⟨s₂, o, k, r⟩ := nx T' vm0 X' e' V
  exact ⟨s₂, o, k1 _ k, r⟩
/-- not an instance: the object is exactly of a class Cn that isn't assignable to K -/
theorem g_instNo {idx : Nat} {K Cn : String} (C : Cx wd p s m meth c Z a0 EL own bytes ml ret nm) (hd : decode bytes pc = .ok (.instanceof idx, 3)) (w : (Cond.classLink own idx K).before a0 Z = true) (I : Ins Z h a K false) (E : Exa Z h a Cn) (nx : Go wd p l e R s m args below meth c Z EL Q kc ks m0 mine h locs cells slots (mkF m (pc + 3) Ls (.int 0 :: st))) : Go wd p l e R s m args below meth c Z EL Q kc ks m0 mine h locs cells slots (mkF m pc Ls (.ref a :: st)) := fun T vm0 X eT V => by
  obtain ⟨cell, cT, h1, h2, h3⟩ := I
  obtain ⟨cell', k, e1, -, e3, e4, -⟩ := E
  cases h1.symm.trans e1
  obtain ⟨k', q, -⟩ := V.hZ'.alike.2.2 _ _ e3
  obtain ⟨vm', X', k1⟩ := Sym.instanceofNoAt X C.hx (V.hown C) (mv V.hZ' w) (by rw [eT]; exact h1) e4 q (by rw [V.hZ'.alike.findClass]; exact h2) (by rw [V.hZ'.alike.assignable]; simpa [e4] using h3) (g := mkF m pc Ls (.ref a :: st)) rfl rfl (hb C.hby hd)
  obtain ⟨s₂, o, k, r⟩ := nx _ vm0 X' eT V
  exact ⟨s₂, o, k1 _ k, r⟩
theorem g_instNull {idx : Nat} (C : Cx wd p s m meth c Z a0 EL own bytes ml ret nm) (hd : decode bytes pc = .ok (.instanceof idx, 3)) (nx : Go wd p l e R s m args below meth c Z EL Q kc ks m0 mine h locs cells slots (mkF m (pc + 3) Ls (.int 0 :: st))) : Go wd p l e R s m args below meth c Z EL Q kc ks m0 mine h locs cells slots (mkF m pc Ls (.null :: st)) := fun T vm0 X eT V => by
  obtain ⟨s₂, o, k, r⟩ := nx T vm0 X eT V
  exact ⟨s₂, o, X.instanceofNull C.hx (g := mkF m pc Ls (.null :: st)) rfl rfl (hb C.hby hd) _ k, r⟩
theorem g_castNull {idx : Nat} (C : Cx wd p s m meth c Z a0 EL own bytes ml ret nm) (hd : decode bytes pc = .ok (.checkcast idx, 3)) (nx : Go wd p l e R s m args below meth c Z EL Q kc ks m0 mine h locs cells slots (mkF m (pc + 3) Ls (.null :: st))) : Go wd p l e R s m args below meth c Z EL Q kc ks m0 mine h locs cells slots (mkF m pc Ls (.null :: st)) := fun T vm0 X eT V => by
  obtain ⟨s₂, o, k, r⟩ := nx T vm0 X eT V
  exact ⟨s₂, o, X.checkcastNull C.hx (g := mkF m pc Ls (.null :: st)) rfl rfl (hb C.hby hd) _ k, r⟩
theorem Av.lt (A : Av Z h a ty vs) : a < h.size := by obtain ⟨c, A, -⟩ := A; exact A.lt
theorem Av.keep (A : Av Z h a ty vs) (K : Keep h h' ws) (q : a ∉ ws) : Av Z h' a ty vs := by
  obtain ⟨c, A, r⟩ := A
  exact ⟨c, ⟨K.2.1 _ _ A.1 q, A.2⟩, r⟩
theorem Av.ext (A : Av Z h a ty vs) (E : Ext h h') : Av Z h' a ty vs := A.keep (keep_ext E) (fun q => nomatch q)
theorem Av.set {i : Nat} (A : Av Z h a ty vs) (W : Wr h h' a i v) (hf : fits ty v = true) : Av Z h' a ty (vs.set i v) := by
  obtain ⟨c, A, rfl, h2, h3⟩ := A
  refine ⟨c.setSlot i v, A.same W, by simp [Cell.setSlot], by simpa using h2, fun w hw => ?_⟩
  rcases List.mem_or_eq_of_mem_set hw with q | rfl
  · exact h3 w q
  · exact hf
theorem Av.of_arv {k : ClassId} {z : Int32} {d : Value} (A : Arv Z h a k ty z vs d) (hl : z.toNatClampNeg = vs.length) : Av Z h a ty vs := by
  obtain ⟨c, A, -, hs, hz, H, G⟩ := A
  have e1 : c.slots.toList = vs := by
    apply List.ext_getElem?
    intro i
    rw [Array.getElem?_toList]
    by_cases q : i < c.slots.size
    · rw [H i q, List.getD_eq_getElem?_getD, List.getElem?_eq_getElem (by omega)]; rfl
    · rw [Array.getElem?_eq_none (by omega), List.getElem?_eq_none (by omega)]
  refine ⟨c, A, e1, ?_, fun w hw => ?_⟩
  · have := (back32 hz).2; omega
  · obtain ⟨i, hi, rfl⟩ := List.mem_iff_getElem.mp hw
    have := G i (by omega)
    rwa [List.getD_eq_getElem?_getD, List.getElem?_eq_getElem hi] at this
theorem toNat_ofNat {n : Nat} (hn : n < 2147483648) : (Int32.ofNat n).toNatClampNeg = n ∧ ¬ Int32.ofNat n < 0 := by
  have e := Int32.toInt_ofNat_small (n := n) hn
  refine ⟨by simp only [Int32.toNatClampNeg, e]; omega, fun q => ?_⟩
  have := Int32.lt_iff_toInt_lt.mp q
  rw [e] at this
  simp at this
  omega
theorem Arv.of_av {d : Value} (A : Av Z h a ty vs) : ∃ k, Arv Z h a k ty (Int32.ofNat vs.length) vs d := by
  obtain ⟨c, A, rfl, h2, h3⟩ := A
  obtain ⟨q1, q2⟩ := toNat_ofNat h2
  refine ⟨c.cls, c, A, rfl, by rw [q1]; simp, q2, fun i hi => ?_, fun i hi => ?_⟩
  · rw [List.getD_eq_getElem?_getD, Array.getElem?_toList, Array.getElem?_eq_getElem hi]; rfl
  · rw [List.getD_eq_getElem?_getD, Array.getElem?_toList, Array.getElem?_eq_getElem hi]
    exact h3 _ (Array.mem_toList_iff.mpr (Array.getElem_mem hi))
theorem g_alen {z : Int32} (C : Cx wd p s m meth c Z a0 EL own bytes ml ret nm) (hd : decode bytes pc = .ok (.arraylength, 1)) (A : Av Z h a ty vs) (hz : Int32.ofNat vs.length = z) (nx : Go wd p l e R s m args below meth c Z EL Q kc ks m0 mine h locs cells slots (mkF m (pc + 1) Ls (.int z :: st))) : Go wd p l e R s m args below meth c Z EL Q kc ks m0 mine h locs cells slots (mkF m pc Ls (.ref a :: st)) := fun T vm0 X eT V => by
  obtain ⟨cl, Ar, rfl, -, -⟩ := A
  obtain ⟨s₂, o, k, r⟩ := nx T vm0 X eT V
  refine ⟨s₂, o, X.arraylength C.hx (by rw [eT]; exact Ar.1) (State.isArrayOf_alike V.hZ'.alike Ar.2.1) (g := mkF m pc Ls (.ref a :: st)) rfl rfl (hb C.hby hd) _ ?_, r⟩
  have e1 : cl.slots.size.toInt32 = z := by rw [← hz, Array.length_toList]
  rw [e1]; exact k
theorem g_iaload {j : Int32} {v : Value} (i : Nat) (C : Cx wd p s m meth c Z a0 EL own bytes ml ret nm) (hd : decode bytes pc = .ok (.iaload, 1)) (A : Av Z h a .int vs) (hj : ¬ j < 0) (hi : j.toNatClampNeg = i) (hv : vs[i]? = some v) (nx : Go wd p l e R s m args below meth c Z EL Q kc ks m0 mine h locs cells slots (mkF m (pc + 1) Ls (v :: st))) : Go wd p l e R s m args below meth c Z EL Q kc ks m0 mine h locs cells slots (mkF m pc Ls (.int j :: .ref a :: st)) := fun T vm0 X eT V => by
  obtain ⟨cl, Ar, rfl, -, -⟩ := A
  obtain ⟨s₂, o, k, r⟩ := nx T vm0 X eT V
  rw [Array.getElem?_toList] at hv
  have hlt := (Array.getElem?_eq_some_iff.mp hv).1
  exact ⟨s₂, o, X.iaload C.hx (by rw [eT]; exact Ar.1) (State.isArrayOf_alike V.hZ'.alike Ar.2.1) Ar.2.2 (fun q => q.elim hj (by omega)) (by rw [hi]; exact hv) (g := mkF m pc Ls (.int j :: .ref a :: st)) rfl rfl (hb C.hby hd) _ k, r⟩
theorem g_laload {j : Int32} {v : Value} (i : Nat) (C : Cx wd p s m meth c Z a0 EL own bytes ml ret nm) (hd : decode bytes pc = .ok (.laload, 1)) (A : Av Z h a .long vs) (hj : ¬ j < 0) (hi : j.toNatClampNeg = i) (hv : vs[i]? = some v) (nx : Go wd p l e R s m args below meth c Z EL Q kc ks m0 mine h locs cells slots (mkF m (pc + 1) Ls (v :: st))) : Go wd p l e R s m args below meth c Z EL Q kc ks m0 mine h locs cells slots (mkF m pc Ls (.int j :: .ref a :: st)) := fun T vm0 X eT V => by
  obtain ⟨cl, Ar, rfl, -, -⟩ := A
  obtain ⟨s₂, o, k, r⟩ := nx T vm0 X eT V
  rw [Array.getElem?_toList] at hv
  have hlt := (Array.getElem?_eq_some_iff.mp hv).1
  exact ⟨s₂, o, X.laload C.hx (by rw [eT]; exact Ar.1) (State.isArrayOf_alike V.hZ'.alike Ar.2.1) Ar.2.2 (fun q => q.elim hj (by omega)) (by rw [hi]; exact hv) (g := mkF m pc Ls (.int j :: .ref a :: st)) rfl rfl (hb C.hby hd) _ k, r⟩
theorem g_caload {j : Int32} {v : Value} (i : Nat) (C : Cx wd p s m meth c Z a0 EL own bytes ml ret nm) (hd : decode bytes pc = .ok (.caload, 1)) (A : Av Z h a .char vs) (hj : ¬ j < 0) (hi : j.toNatClampNeg = i) (hv : vs[i]? = some v) (nx : Go wd p l e R s m args below meth c Z EL Q kc ks m0 mine h locs cells slots (mkF m (pc + 1) Ls (v :: st))) : Go wd p l e R s m args below meth c Z EL Q kc ks m0 mine h locs cells slots (mkF m pc Ls (.int j :: .ref a :: st)) := fun T vm0 X eT V => by
  obtain ⟨cl, Ar, rfl, -, -⟩ := A
  obtain ⟨s₂, o, k, r⟩ := nx T vm0 X eT V
  rw [Array.getElem?_toList] at hv
  have hlt := (Array.getElem?_eq_some_iff.mp hv).1
  exact ⟨s₂, o, X.caload C.hx (by rw [eT]; exact Ar.1) (State.isArrayOf_alike V.hZ'.alike Ar.2.1) Ar.2.2 (fun q => q.elim hj (by omega)) (by rw [hi]; exact hv) (g := mkF m pc Ls (.int j :: .ref a :: st)) rfl rfl (hb C.hby hd) _ k, r⟩
theorem g_baload {j : Int32} {v : Value} (i : Nat) (C : Cx wd p s m meth c Z a0 EL own bytes ml ret nm) (hd : decode bytes pc = .ok (.baload, 1)) (A : Av Z h a .byte vs) (hj : ¬ j < 0) (hi : j.toNatClampNeg = i) (hv : vs[i]? = some v) (nx : Go wd p l e R s m args below meth c Z EL Q kc ks m0 mine h locs cells slots (mkF m (pc + 1) Ls (v :: st))) : Go wd p l e R s m args below meth c Z EL Q kc ks m0 mine h locs cells slots (mkF m pc Ls (.int j :: .ref a :: st)) := fun T vm0 X eT V => by
  obtain ⟨cl, Ar, rfl, -, -⟩ := A
  obtain ⟨s₂, o, k, r⟩ := nx T vm0 X eT V
  rw [Array.getElem?_toList] at hv
  have hlt := (Array.getElem?_eq_some_iff.mp hv).1
  exact ⟨s₂, o, X.baloadBytes C.hx (by rw [eT]; exact Ar.1) (State.isArrayOf_alike V.hZ'.alike Ar.2.1) Ar.2.2 (fun q => q.elim hj (by omega)) (by rw [hi]; exact hv) (g := mkF m pc Ls (.int j :: .ref a :: st)) rfl rfl (hb C.hby hd) _ k, r⟩
theorem g_aaload {j : Int32} {v : Value} (i : Nat) (C : Cx wd p s m meth c Z a0 EL own bytes ml ret nm) (hd : decode bytes pc = .ok (.aaload, 1)) (A : Av Z h a ty vs) (hty : ty.isReference = true) (hj : ¬ j < 0) (hi : j.toNatClampNeg = i) (hv : vs[i]? = some v) (nx : Go wd p l e R s m args below meth c Z EL Q kc ks m0 mine h locs cells slots (mkF m (pc + 1) Ls (v :: st))) : Go wd p l e R s m args below meth c Z EL Q kc ks m0 mine h locs cells slots (mkF m pc Ls (.int j :: .ref a :: st)) := fun T vm0 X eT V => by
  obtain ⟨cl, Ar, rfl, -, -⟩ := A
  obtain ⟨s₂, o, k, r⟩ := nx T vm0 X eT V
  rw [Array.getElem?_toList] at hv
  have hlt := (Array.getElem?_eq_some_iff.mp hv).1
  exact ⟨s₂, o, X.aaload C.hx (by rw [eT]; exact Ar.1) (State.isArrayOf_alike V.hZ'.alike Ar.2.1) hty Ar.2.2 (fun q => q.elim hj (by omega)) (by rw [hi]; exact hv) (g := mkF m pc Ls (.int j :: .ref a :: st)) rfl rfl (hb C.hby hd) _ k, r⟩
theorem g_castore {j : Int32} {x : Int32} (i : Nat) (C : Cx wd p s m meth c Z a0 EL own bytes ml ret nm) (hd : decode bytes pc = .ok (.castore, 1)) (A : Av Z h a .char vs) (hj : ¬ j < 0) (hi : j.toNatClampNeg = i) (hlt : i < vs.length) (hm : a ∈ mine) (nx : ∀ h', Keep h h' [a] → h'.size = h.size → Av Z h' a .char (vs.set i (.int (nar .char x))) → Go wd p l e R s m args below meth c Z EL Q kc ks m0 mine h' (locs ++ [⟨a, i⟩]) cells slots (mkF m (pc + 1) Ls st)) : Go wd p l e R s m args below meth c Z EL Q kc ks m0 mine h locs cells slots (mkF m pc Ls (.int x :: .int j :: .ref a :: st)) := fun T vm0 X eT V => by
  have A' := A
  obtain ⟨cl, Ar, e1, -, -⟩ := A
  subst hi
  obtain ⟨T', h', X', e', W, k1⟩ := stC X C.hx V.hZ' eT Ar (j := j) (x := x) (fun q => q.elim hj (by rw [← Array.length_toList, e1]; omega)) (g := mkF m pc Ls (.int x :: .int j :: .ref a :: st)) rfl rfl (hb C.hby hd)
  obtain ⟨s₂, o, k, r⟩ := nx h' (Keep.of_wr W) W.size (A'.set W (fits_nar_char x)) T' vm0 X' e' (V.keep (Keep.of_wr W) (fun x hx => by rw [List.mem_singleton.mp hx]; exact hm) (V.wr1 hm))
  exact ⟨s₂, o, k1 _ k, r⟩
theorem g_bastore {j : Int32} {x : Int32} (i : Nat) (C : Cx wd p s m meth c Z a0 EL own bytes ml ret nm) (hd : decode bytes pc = .ok (.bastore, 1)) (A : Av Z h a .byte vs) (hj : ¬ j < 0) (hi : j.toNatClampNeg = i) (hlt : i < vs.length) (hm : a ∈ mine) (nx : ∀ h', Keep h h' [a] → h'.size = h.size → Av Z h' a .byte (vs.set i (.int (nar .byte x))) → Go wd p l e R s m args below meth c Z EL Q kc ks m0 mine h' (locs ++ [⟨a, i⟩]) cells slots (mkF m (pc + 1) Ls st)) : Go wd p l e R s m args below meth c Z EL Q kc ks m0 mine h locs cells slots (mkF m pc Ls (.int x :: .int j :: .ref a :: st)) := fun T vm0 X eT V => by
  have A' := A
  obtain ⟨cl, Ar, e1, -, -⟩ := A
  subst hi
  obtain ⟨T', h', X', e', W, k1⟩ := stB X C.hx V.hZ' eT Ar (j := j) (x := x) (fun q => q.elim hj (by rw [← Array.length_toList, e1]; omega)) (g := mkF m pc Ls (.int x :: .int j :: .ref a :: st)) rfl rfl (hb C.hby hd)
  obtain ⟨s₂, o, k, r⟩ := nx h' (Keep.of_wr W) W.size (A'.set W (fits_nar_byte x)) T' vm0 X' e' (V.keep (Keep.of_wr W) (fun x hx => by rw [List.mem_singleton.mp hx]; exact hm) (V.wr1 hm))
  exact ⟨s₂, o, k1 _ k, r⟩
theorem g_iastore {j : Int32} {x : Int32} (i : Nat) (C : Cx wd p s m meth c Z a0 EL own bytes ml ret nm) (hd : decode bytes pc = .ok (.iastore, 1)) (A : Av Z h a .int vs) (hj : ¬ j < 0) (hi : j.toNatClampNeg = i) (hlt : i < vs.length) (hm : a ∈ mine) (nx : ∀ h', Keep h h' [a] → h'.size = h.size → Av Z h' a .int (vs.set i (.int x)) → Go wd p l e R s m args below meth c Z EL Q kc ks m0 mine h' (locs ++ [⟨a, i⟩]) cells slots (mkF m (pc + 1) Ls st)) : Go wd p l e R s m args below meth c Z EL Q kc ks m0 mine h locs cells slots (mkF m pc Ls (.int x :: .int j :: .ref a :: st)) := fun T vm0 X eT V => by
  have A' := A
  obtain ⟨cl, Ar, e1, -, -⟩ := A
  subst hi
  obtain ⟨T', h', X', e', W, k1⟩ := stI X C.hx V.hZ' eT Ar (j := j) (x := x) (fun q => q.elim hj (by rw [← Array.length_toList, e1]; omega)) (g := mkF m pc Ls (.int x :: .int j :: .ref a :: st)) rfl rfl (hb C.hby hd)
  obtain ⟨s₂, o, k, r⟩ := nx h' (Keep.of_wr W) W.size (A'.set W rfl) T' vm0 X' e' (V.keep (Keep.of_wr W) (fun x hx => by rw [List.mem_singleton.mp hx]; exact hm) (V.wr1 hm))
  exact ⟨s₂, o, k1 _ k, r⟩
theorem g_lastore {j : Int32} {x : Int64} (i : Nat) (C : Cx wd p s m meth c Z a0 EL own bytes ml ret nm) (hd : decode bytes pc = .ok (.lastore, 1)) (A : Av Z h a .long vs) (hj : ¬ j < 0) (hi : j.toNatClampNeg = i) (hlt : i < vs.length) (hm : a ∈ mine) (nx : ∀ h', Keep h h' [a] → h'.size = h.size → Av Z h' a .long (vs.set i (.long x)) → Go wd p l e R s m args below meth c Z EL Q kc ks m0 mine h' (locs ++ [⟨a, i⟩]) cells slots (mkF m (pc + 1) Ls st)) : Go wd p l e R s m args below meth c Z EL Q kc ks m0 mine h locs cells slots (mkF m pc Ls (.long x :: .int j :: .ref a :: st)) := fun T vm0 X eT V => by
  have A' := A
  obtain ⟨cl, Ar, e1, -, -⟩ := A
  subst hi
  obtain ⟨T', h', X', e', W, k1⟩ := stJ X C.hx V.hZ' eT Ar (j := j) (x := x) (fun q => q.elim hj (by rw [← Array.length_toList, e1]; omega)) (g := mkF m pc Ls (.long x :: .int j :: .ref a :: st)) rfl rfl (hb C.hby hd)
  obtain ⟨s₂, o, k, r⟩ := nx h' (Keep.of_wr W) W.size (A'.set W rfl) T' vm0 X' e' (V.keep (Keep.of_wr W) (fun x hx => by rw [List.mem_singleton.mp hx]; exact hm) (V.wr1 hm))
  exact ⟨s₂, o, k1 _ k, r⟩
theorem g_aastore {j : Int32} {x : Value} (i : Nat) (C : Cx wd p s m meth c Z a0 EL own bytes ml ret nm) (hd : decode bytes pc = .ok (.aastore, 1)) (A : Av Z h a ty vs) (hty : ty.isReference = true) (hx : x.isRef = true) (S : Sto Z h a x) (hj : ¬ j < 0) (hi : j.toNatClampNeg = i) (hlt : i < vs.length) (hm : a ∈ mine) (nx : ∀ h', Keep h h' [a] → h'.size = h.size → Av Z h' a ty (vs.set i x) → Go wd p l e R s m args below meth c Z EL Q kc ks m0 mine h' (locs ++ [⟨a, i⟩]) cells slots (mkF m (pc + 1) Ls st)) : Go wd p l e R s m args below meth c Z EL Q kc ks m0 mine h locs cells slots (mkF m pc Ls (x :: .int j :: .ref a :: st)) := fun T vm0 X eT V => by
  have A' := A
  obtain ⟨cl, Ar, e1, -, -⟩ := A
  subst hi
  obtain ⟨T', h', X', e', W, k1⟩ := stR X C.hx V.hZ' eT Ar (j := j) (v := x) (fun q => q.elim hj (by rw [← Array.length_toList, e1]; omega)) hty S (g := mkF m pc Ls (x :: .int j :: .ref a :: st)) rfl rfl (hb C.hby hd)
  have hf : fits ty x = true := by rcases ref_cases hx with rfl | ⟨q, rfl⟩ <;> cases ty <;> first | rfl | (simp [FieldType.isReference] at hty; done)
  obtain ⟨s₂, o, k, r⟩ := nx h' (Keep.of_wr W) W.size (A'.set W hf) T' vm0 X' e' (V.keep (Keep.of_wr W) (fun x hx => by rw [List.mem_singleton.mp hx]; exact hm) (V.wr1 hm))
  exact ⟨s₂, o, k1 _ k, r⟩
theorem g_newarray_ {aty : ArrayType} {n : Int32} {ad : String} (cap : Nat) (vs : List Value) (C : Cx wd p s m meth c Z a0 EL own bytes ml ret nm) (hd : decode bytes pc = .ok (.newarray aty, 2)) (w : (Cond.arrayClass (newarray.typeOf aty)).before a0 Z = true) (hn : ¬ n < 0) (hcap : n.toNatClampNeg ≤ cap) (hbig : cap * 8 ≤ 536870912) (had : "[" ++ (newarray.typeOf aty).toString = ad) (hvs : List.replicate n.toNatClampNeg (defaultValue (newarray.typeOf aty)) = vs) (hc : cells + 1 ≤ R.cells) (hs : slots + cap ≤ R.slots)
    (nx : ∀ (a : Addr) (h' : Heap), a = h.size → Ext h h' → a < h'.size → Exa Z h' a ad → Av Z h' a (newarray.typeOf aty) vs → Go wd p l e R s m args below meth c Z EL Q kc ks m0 (a :: mine) h' locs (cells + 1) (slots + cap) (mkF m (pc + 2) Ls (.ref a :: st))) : Go wd p l e R s m args below meth c Z EL Q kc ks m0 mine h locs cells slots (mkF m pc Ls (.int n :: st)) := fun T vm0 X eT V => by
  obtain ⟨T', h', cA, X', e', E, A, A2, k1⟩ := newPE X C.hx V.hZ' w eT (g := mkF m pc Ls (.int n :: st)) rfl (hb C.hby hd) rfl hn hcap hbig hc hs had
  have hav : Av Z h' h.size (newarray.typeOf aty) vs := by
    refine ⟨_, A, by rw [← hvs]; simp [newA], ?_, fun w hw => ?_⟩
    · rw [← hvs]; simp; have := (back32 hn).2; omega
    · rw [← hvs] at hw
      rw [(List.mem_replicate.mp hw).2]; cases aty <;> rfl
  obtain ⟨s₂, o, k, r⟩ := nx h.size h' rfl E A.lt A2 hav T' vm0 X' e' (V.new E A.lt)
  exact ⟨s₂, o, k1 _ k, r⟩
theorem g_anewarray_ {idx : Nat} {n : Int32} {ad Cn : String} (cap : Nat) (vs : List Value) (C : Cx wd p s m meth c Z a0 EL own bytes ml ret nm) (hd : decode bytes pc = .ok (.anewarray idx, 3)) (w1 : (Cond.classLink own idx Cn).before a0 Z = true) (w2 : (Cond.arrayOver (.object Cn)).before a0 Z = true) (hn : ¬ n < 0) (hcap : n.toNatClampNeg ≤ cap) (hbig : cap * 8 ≤ 536870912) (had : "[" ++ (FieldType.object Cn).toString = ad) (hvs : List.replicate n.toNatClampNeg Value.null = vs) (hc : cells + 1 ≤ R.cells) (hs : slots + cap ≤ R.slots)
    (nx : ∀ (a : Addr) (h' : Heap), a = h.size → Ext h h' → a < h'.size → Exa Z h' a ad → Av Z h' a (.object Cn) vs → (∃ cA cl, h'[a]? = some cl ∧ cl.cls = cA ∧ Ovr Z cA Cn) → Go wd p l e R s m args below meth c Z EL Q kc ks m0 (a :: mine) h' locs (cells + 1) (slots + cap) (mkF m (pc + 3) Ls (.ref a :: st))) : Go wd p l e R s m args below meth c Z EL Q kc ks m0 mine h locs cells slots (mkF m pc Ls (.int n :: st)) := fun T vm0 X eT V => by
  obtain ⟨T', h', cA, X', e', E, A, A2, O, k1⟩ := newRE X C.hx V.hZ' (V.hown C) w1 w2 eT (g := mkF m pc Ls (.int n :: st)) rfl (hb C.hby hd) rfl hn hcap hbig hc hs had
  have hav : Av Z h' h.size (.object Cn) vs := by
    refine ⟨_, A, by rw [← hvs]; simp [newA, defaultValue], ?_, fun w hw => ?_⟩
    · rw [← hvs]; simp; have := (back32 hn).2; omega
    · rw [← hvs] at hw
      rw [(List.mem_replicate.mp hw).2]; rfl
  obtain ⟨s₂, o, k, r⟩ := nx h.size h' rfl E A.lt A2 hav ⟨cA, _, A.1, rfl, O⟩ T' vm0 X' e' (V.new E A.lt)
  exact ⟨s₂, o, k1 _ k, r⟩
theorem Sto.ofAv {y : Addr} {Cn : String} (A : Av Z h a ty vs) (O : ∃ cA cl, h[a]? = some cl ∧ cl.cls = cA ∧ Ovr Z cA Cn) (I : Ins Z h y Cn true) : Sto Z h a (.ref y) := by
  obtain ⟨c, A, -⟩ := A
  obtain ⟨cA, cl, q1, q2, O⟩ := O
  cases A.1.symm.trans q1
  exact Sto.ofV A q2 O I
theorem g_clone_ {idx : Nat} {ad : String} (cap : Nat) (C : Cx wd p s m meth c Z a0 EL own bytes ml ret nm) (hd : decode bytes pc = .ok (.invokevirtual idx, 3)) (w1 : (Cond.methodLink own idx ⟨ad, "clone", "()Ljava/lang/Object;"⟩).before a0 Z = true) (w2 : (Cond.sameMethod ad "java/lang/Object" "clone" "()Ljava/lang/Object;").before a0 Z = true) (w3 : (Cond.native ⟨"java/lang/Object", "clone", "()Ljava/lang/Object;"⟩).before a0 Z = true)
    (w4 : (Cond.instanceMethod ⟨"java/lang/Object", "clone", "()Ljava/lang/Object;"⟩).before a0 Z = true) (w5 : (Cond.selects ad ⟨ad, "clone", "()Ljava/lang/Object;"⟩ ⟨"java/lang/Object", "clone", "()Ljava/lang/Object;"⟩).before a0 Z = true) (w6 : (Cond.castable ad "java/lang/Cloneable").before a0 Z = true)
    (A : Av Z h a ty vs) (E : Exa Z h a ad) (hcap : vs.length ≤ cap) (hsz : Ls.size = ml) (hf : 1 ≤ R.frames) (hl : (st.map fun v => v.category).sum + 14 ≤ R.locals) (hc : cells + 1 ≤ R.cells) (hs : slots + cap ≤ R.slots)
    (nx : ∀ (b : Addr) (h' : Heap), b = h.size → Ext h h' → b < h'.size → Exa Z h' b ad → Av Z h' b ty vs → Go wd p l e R s m args below meth c Z EL Q kc ks m0 (b :: mine) h' locs (cells + 1) (slots + cap) (mkF m (pc + 3) Ls (.ref b :: st))) : Go wd p l e R s m args below meth c Z EL Q kc ks m0 mine h locs cells slots (mkF m pc Ls (.ref a :: st)) := fun T vm0 X eT V => by
  obtain ⟨cl, Ar, rfl, h2, h3⟩ := A
  have FC : FitC Z cl := fitC_of Ar fun i hi v hv => h3 v (by rw [Array.getElem?_eq_getElem hi] at hv; cases hv; exact Array.mem_toList_iff.mpr (Array.getElem_mem hi))
  obtain ⟨T', h', X', e', E', A', A2, k1⟩ := cloneA X C.hx V.hZ' (V.hown C) w1 w2 w3 w4 w5 w6 eT Ar E FC (g := mkF m pc Ls (.ref a :: st)) rfl (by rw [C.hml]; exact hsz) rfl (hb C.hby hd) hf (W := (st.map fun v => v.category).sum) (by show 2 * 0 + _ ≤ _; omega) hl (by rw [← Array.length_toList]; exact hcap) hc hs
  obtain ⟨s₂, o, k, r⟩ := nx h.size h' rfl E' A'.lt A2 ⟨_, A', rfl, h2, h3⟩ T' vm0 X' e' (V.new E' A'.lt)
  exact ⟨s₂, o, k1 _ k, r⟩
/-! calls -/
theorem safe0 {x : Addr} : Safe Z [] vm h x := fun ⟨_, q, _⟩ => nomatch q
theorem chv0 : CHv Z [] vm h := fun _ q => nomatch q
variable {y z : MethodName} {bytes' : ByteArray} {ml' : Nat} {ret' : Option FieldType} {rm : Room} {Q' : Option Value → Heap → Prop} {mine' : List Addr} {as' : Array Value} {len W : Nat}
theorem backN (M : MetW false l Z [] y bytes' ml' ret' [] rm as' mine' h Q') (hZ : Z.Warmed39 s.vm) (wc : (Cond.code y bytes' ml' ret').before a0 Z = true) (wz : (Cond.initialized y.cls).before a0 Z = true) (hf : rm.frames + 1 ≤ R.frames) (hl : W + (ml' + 11) + rm.locals ≤ R.locals) (hm : ∀ x ∈ mine', x < h.size ∧ Z.heap.size ≤ x) (hold : Ext Z.heap h) :
    Back l R p e below s args y len W (fun A a => a = as' ∧ A.U.heap = h ∧ A.cells + rm.cells ≤ R.cells ∧ A.slots + rm.slots ≤ R.slots)
      (fun A _ v B => ∃ L, Q' v B.U.heap ∧ B.locs = A.locs ++ L ∧ B.cells = A.cells + rm.cells ∧ B.slots = A.slots + rm.slots ∧ Keep h B.U.heap mine' ∧ Fr Z.heap.size L) :=
  Back.of_free (bytes := bytes') (maxL := ml') (ret := ret') (E := fun _ first o t L k n => k = rm.cells ∧ n = rm.slots ∧ (∃ v, o = .returned v ∧ Q' v t.heap) ∧ Keep first.heap t.heap mine' ∧ Fr Z.heap.size L) M hf hl
    (fun m meth c A a Y hp => have hU : Z.Warmed39 A.U.vm := wtrans hZ Y.warmed
      ⟨by show (Cond.and _ .tt).before a A.U = true; rw [Cond.before_and, mv hU wc]; rfl, mv hU wc, mv hU wz, hp.2.2.1, hp.2.2.2⟩)
    (fun m meth c A a g mk Y hp => ⟨hp.1, wtrans hZ Y.warmed, hp.2.1, chv0, fun x hx => ⟨(hm x hx).1, safe0, (hm x hx).2⟩, hold⟩) (fun _ _ _ _ _ _ _ _ _ => trivial)
    (fun _ _ _ _ ⟨v, L, h1, h2, h3, h4, h5, h6, h7⟩ => ⟨L, _, _, h4.1 rfl, rfl, rfl, ⟨v, h1, h2⟩, h6, h7⟩)
    (fun m meth c A a g mk v t L k n Y hp _ _ ⟨e1, e2, ⟨v', e3, e4⟩, e5, e6⟩ => by
      cases e3; subst e1 e2
      refine ⟨L, e4, rfl, rfl, rfl, ?_, e6⟩
      rw [← hp.2.1]; exact e5)
theorem backW {vm0 : Vm} (M : MetW true l Z EL y bytes' ml' ret' [] rm as' mine' h Q') (hZ : Z.Warmed39 vm0) (wc : (Cond.code y bytes' ml' ret').before a0 Z = true) (wz : (Cond.initialized y.cls).before a0 Z = true) (hf : rm.frames + 1 ≤ R.frames) (hl : W + (ml' + 11) + rm.locals ≤ R.locals) (hEL : EW Z a0 EL) (H : CHv Z EL vm0 h) (hm : ∀ x ∈ mine', x < h.size ∧ Safe Z EL vm0 h x ∧ Z.heap.size ≤ x) (hold : Ext Z.heap h) :
    BackS l R p e below (s.setVm vm0) args y len W (fun A a => a = as' ∧ A.U.heap = h ∧ A.cells + rm.cells ≤ R.cells ∧ A.slots + rm.slots ≤ R.slots)
      (fun A _ v B => ∃ L, Q' v B.U.heap ∧ B.locs = A.locs ++ L ∧ B.cells = A.cells + rm.cells ∧ B.slots = A.slots + rm.slots ∧ CHr Z EL vm0 h B.U.vm B.U.heap ∧ Keep h B.U.heap mine' ∧ Fr Z.heap.size L) :=
  BackS.of_freeW (bytes := bytes') (maxL := ml') (ret := ret') (E := fun _ first o t L k n => k = rm.cells ∧ n = rm.slots ∧ (∃ v, o = .returned v ∧ Q' v t.heap) ∧ CHr Z EL first.vm first.heap t.vm t.heap ∧ Keep first.heap t.heap mine' ∧ Fr Z.heap.size L) M hf hl
    (fun m meth c A a Y hp => have hU : Z.Warmed39 A.U.vm := wtrans (s := s.setVm vm0) hZ Y.warmed
      ⟨by show (Cond.and _ .tt).before a A.U = true; rw [Cond.before_and, mv hU wc]; rfl, mv hU wc, mv hU wz, hp.2.2.1, hp.2.2.2⟩)
    (fun m meth c A a g mk Y hp => ⟨hp.1, wtrans (s := s.setVm vm0) hZ Y.warmed, hp.2.1, (CHv.at Y hZ hEL H).1, fun x hx => ⟨(hm x hx).1, (CHv.at Y hZ hEL H).safe (hm x hx).1 (hm x hx).2.1, (hm x hx).2.2⟩, hold⟩) (fun _ _ _ _ _ _ _ _ _ => trivial)
    (fun _ _ _ _ ⟨v, L, h1, h2, h3, h4, h5, h6, h7⟩ => ⟨L, _, _, h4.2, rfl, rfl, ⟨v, h1, h2⟩, h3, h6, h7⟩)
    (fun m meth c A a g mk v t L k n Y hp _ _ ⟨e1, e2, ⟨v', e3, e4⟩, e5, e6, e7⟩ => by
      cases e3; subst e1 e2
      refine ⟨L, e4, rfl, rfl, rfl, (CHv.at Y hZ hEL H).trans ?_, ?_, e7⟩
      · rw [← hp.2.1]; exact e5
      · rw [← hp.2.1]; exact e6)
theorem Vi.call {vm0 vm1 : Vm} {n : Nat} {locs' : List Loc} (V : Vi true Z s EL m0 mine locs vm0 h) (hS : (s.setVm vm0).Since vm1 n) (hn : n ≤ h'.size) (hg : h.size ≤ n) (R2 : CHr Z EL vm0 h vm1 h') (K : Keep h h' ws) (hw : ∀ x ∈ ws, x ∈ mine) (hF : Fr Z.heap.size locs') : Vi true Z s EL m0 mine locs' vm1 h' := by
  have V' := V.keep K hw hF
  obtain ⟨⟨v1, v2, ⟨k0, v3, v4⟩, v5⟩, v6, v7, v8, v9⟩ := V
  exact ⟨⟨fun q => (nomatch q), State.Warmed39.trans (t := s.setVm vm0) v2 hS.1, ⟨n, v3.trans hS (Nat.le_trans v4 hg), hn⟩, v5.trans R2⟩, fun x hx => ⟨(V'.2.1 x hx).1, R2.safe (v6 x hx).1 (v6 x hx).2.1, (V'.2.1 x hx).2.2⟩, V'.2.2⟩
theorem Fr.both {L L' : List Loc} {n : Nat} (A : Fr n L) (B : Fr n L') : Fr n (L ++ L') := Fr.app A B
theorem g_invokestatic {idx : Nat} {st0 : List Value} (argsL rest : List Value) (W : Nat) (C : Cx wd p s m meth c Z a0 EL own bytes ml ret nm) (hd : decode bytes pc = .ok (.invokestatic idx, 3)) (w1 : (Cond.methodLink own idx y).before a0 Z = true) (w2 : (Cond.static y).before a0 Z = true) (w3 : (Cond.initialized y.cls).before a0 Z = true) (w4 : (Cond.code y bytes' ml' ret').before a0 Z = true) (hy : y.cls ≠ "java/lang/invoke/MethodHandle" ∧ y.cls ≠ "java/lang/invoke/VarHandle") (M : MetW wd l Z EL y bytes' ml' ret' [] rm argsL.toArray mine' h Q') (hlen : ∀ sig, parseMethodDescriptor y.desc = some sig → argsL.length = sig.parameters.length) (hst : st0 = argsL.reverse ++ rest) (hsz : Ls.size = ml) (hW : (rest.map fun v => v.category).sum ≤ W) (hf : rm.frames + 1 ≤ R.frames) (hl : W + (ml' + 11) + rm.locals ≤ R.locals) (hc : cells + rm.cells ≤ R.cells) (hs : slots + rm.slots ≤ R.slots) (hm : ∀ x ∈ mine', x ∈ mine) (nx : ∀ (v : Option Value) (h' : Heap) (L : List Loc), Q' v h' → Keep h h' mine' → Go wd p l e R s m args below meth c Z EL Q kc ks m0 mine h' (locs ++ L) (cells + rm.cells) (slots + rm.slots) (mkF m (pc + 3) Ls (v.toList ++ rest))) : Go wd p l e R s m args below meth c Z EL Q kc ks m0 mine h locs cells slots (mkF m pc Ls st0) := fun T vm0 X eT V => by
  subst hst
  have h2W : 2 * 0 + (rest.map fun v => v.category).sum ≤ W := by omega
  cases wd with
  | false =>
    have hE := C.hwd rfl
    subst hE
    have e1 : vm0 = s.vm := V.1.1 rfl
    subst e1
    obtain ⟨v, vm₁, ⟨T', L', k', n'⟩, -, X', ⟨L, hq, l1, l2, l3, hK, hF⟩, k1⟩ := Jvm.LawKit.callS X C.hx (V.hown C) (mvT V.hZ' w1) (mvT V.hZ' w2) (mvT V.hZ' w3) (mvT V.hZ' w4) hy (backN (len := 3) (W := W) M V.hZ' w4 w3 hf hl (fun x hx => ⟨(V.2.1 x (hm x hx)).1, (V.2.1 x (hm x hx)).2.2.1⟩) V.old) (g := mkF m pc Ls _) rfl (by rw [C.hml]; exact hsz) hlen rfl h2W (hb C.hby hd) (fun _ _ => ⟨rfl, eT, hc, hs⟩)
    dsimp only [Pt.U, Pt.locs, Pt.cells, Pt.slots] at X' l1 l2 l3 k1 hq hK
    subst l1 l2 l3
    obtain ⟨s₂, o, k, r⟩ := nx v _ L hq hK T' s.vm X' rfl (V.keep hK hm (Fr.app V.fr hF))
    exact ⟨s₂, o, k1 _ k, r⟩
  | true =>
    obtain ⟨v, vm₁, ⟨T', L', k', n'⟩, -, X', hS, hg, ⟨L, hq, l1, l2, l3, hR, hK, hF⟩, k1⟩ := callSS X C.hx (V.hown C) (mvT V.hZ' w1) (mvT V.hZ' w2) (mvT V.hZ' w3) (mvT V.hZ' w4) hy (backW (len := 3) (W := W) M V.hZ w4 w3 hf hl C.hEW V.held (fun x hx => ⟨(V.2.1 x (hm x hx)).1, (V.2.1 x (hm x hx)).2.1, (V.2.1 x (hm x hx)).2.2.1⟩) V.old) (g := mkF m pc Ls _) rfl (by rw [C.hml]; exact hsz) hlen rfl h2W (hb C.hby hd) (fun _ _ => ⟨rfl, eT, hc, hs⟩)
    dsimp only [Pt.U, Pt.locs, Pt.cells, Pt.slots] at X' l1 l2 l3 k1 hq hg hS hR hK
    subst l1 l2 l3
    rw [eT] at hg
    obtain ⟨s₂, o, k, r⟩ := nx v _ L hq hK T' T'.vm X' rfl (V.call hS (Nat.le_refl _) hg hR hK hm (Fr.app V.fr hF))
    exact ⟨s₂, o, k1.trans k, r⟩
theorem g_invokespecial {idx : Nat} {st0 : List Value} (argsL rest : List Value) (W : Nat) (C : Cx wd p s m meth c Z a0 EL own bytes ml ret nm) (hd : decode bytes pc = .ok (.invokespecial idx, 3)) (hyi : y.name = "<init>") (w1 : (Cond.methodLink own idx y).before a0 Z = true) (w2 : (Cond.instanceMethod y).before a0 Z = true) (w3 : (Cond.initialized y.cls).before a0 Z = true) (w4 : (Cond.code y bytes' ml' none).before a0 Z = true) (hy : y.cls ≠ "java/lang/invoke/MethodHandle" ∧ y.cls ≠ "java/lang/invoke/VarHandle") (M : MetW wd l Z EL y bytes' ml' none [] rm (.ref a :: argsL).toArray mine' h Q') (hlen : ∀ sig, parseMethodDescriptor y.desc = some sig → argsL.length = sig.parameters.length) (hst : st0 = argsL.reverse ++ .ref a :: rest) (hsz : Ls.size = ml) (hW : (rest.map fun v => v.category).sum ≤ W) (hf : rm.frames + 1 ≤ R.frames) (hl : W + (ml' + 11) + rm.locals ≤ R.locals) (hc : cells + rm.cells ≤ R.cells) (hs : slots + rm.slots ≤ R.slots) (hm : ∀ x ∈ mine', x ∈ mine) (nx : ∀ (v : Option Value) (h' : Heap) (L : List Loc), Q' v h' → Keep h h' mine' → Go wd p l e R s m args below meth c Z EL Q kc ks m0 mine h' (locs ++ L) (cells + rm.cells) (slots + rm.slots) (mkF m (pc + 3) Ls (v.toList ++ rest))) : Go wd p l e R s m args below meth c Z EL Q kc ks m0 mine h locs cells slots (mkF m pc Ls st0) := fun T vm0 X eT V => by
  subst hst
  have h2W : 2 * 0 + (rest.map fun v => v.category).sum ≤ W := by omega
  cases wd with
  | false =>
    have hE := C.hwd rfl
    subst hE
    have e1 : vm0 = s.vm := V.1.1 rfl
    subst e1
    obtain ⟨v, vm₁, ⟨T', L', k', n'⟩, -, X', ⟨L, hq, l1, l2, l3, hK, hF⟩, k1⟩ := X.specialBack C.hx hyi (V.hown C) (mvT V.hZ' w1) (mvT V.hZ' w2) (mvT V.hZ' w4) hy (backN (len := 3) (W := W) M V.hZ' w4 w3 hf hl (fun x hx => ⟨(V.2.1 x (hm x hx)).1, (V.2.1 x (hm x hx)).2.2.1⟩) V.old) (g := mkF m pc Ls _) rfl (by rw [C.hml]; exact hsz) (Steps.refl _) hlen rfl h2W (hb C.hby hd) (fun _ _ => ⟨rfl, eT, hc, hs⟩)
    dsimp only [Pt.U, Pt.locs, Pt.cells, Pt.slots] at X' l1 l2 l3 k1 hq hK
    subst l1 l2 l3
    obtain ⟨s₂, o, k, r⟩ := nx v _ L hq hK T' s.vm X' rfl (V.keep hK hm (Fr.app V.fr hF))
    exact ⟨s₂, o, k1.trans k, r⟩
  | true =>
    obtain ⟨v, vm₁, ⟨T', L', k', n'⟩, -, X', hS, hg, ⟨L, hq, l1, l2, l3, hR, hK, hF⟩, k1⟩ := X.specialBackS C.hx hyi (V.hown C) (mvT V.hZ' w1) (mvT V.hZ' w2) (mvT V.hZ' w4) hy (backW (len := 3) (W := W) M V.hZ w4 w3 hf hl C.hEW V.held (fun x hx => ⟨(V.2.1 x (hm x hx)).1, (V.2.1 x (hm x hx)).2.1, (V.2.1 x (hm x hx)).2.2.1⟩) V.old) (g := mkF m pc Ls _) rfl (by rw [C.hml]; exact hsz) (Steps.refl _) hlen rfl h2W (hb C.hby hd) (fun _ _ => ⟨rfl, eT, hc, hs⟩)
    dsimp only [Pt.U, Pt.locs, Pt.cells, Pt.slots] at X' l1 l2 l3 k1 hq hg hS hR hK
    subst l1 l2 l3
    rw [eT] at hg
    obtain ⟨s₂, o, k, r⟩ := nx v _ L hq hK T' T'.vm X' rfl (V.call hS (Nat.le_refl _) hg hR hK hm (Fr.app V.fr hF))
    exact ⟨s₂, o, k1.trans k, r⟩
theorem g_invokevirtual {idx : Nat} {st0 : List Value} {Cn : String} (argsL rest : List Value) (W : Nat) (C : Cx wd p s m meth c Z a0 EL own bytes ml ret nm) (hd : decode bytes pc = .ok (.invokevirtual idx, 3)) (w1 : (Cond.methodLink own idx y).before a0 Z = true) (w5 : (Cond.declares y).before a0 Z = true) (w6 : (Cond.selects Cn y z).before a0 Z = true) (w2 : (Cond.instanceMethod z).before a0 Z = true) (w3 : (Cond.initialized z.cls).before a0 Z = true) (w4 : (Cond.code z bytes' ml' ret').before a0 Z = true) (hnf : ∀ U : State, Z.Warmed39 U.vm → NotFace U y) (hy : y.cls ≠ "java/lang/invoke/MethodHandle" ∧ y.cls ≠ "java/lang/invoke/VarHandle") (E : Exa Z h a Cn) (M : MetW wd l Z EL z bytes' ml' ret' [] rm (.ref a :: argsL).toArray mine' h Q') (hlen : ∀ sig, parseMethodDescriptor y.desc = some sig → argsL.length = sig.parameters.length) (hst : st0 = argsL.reverse ++ .ref a :: rest) (hsz : Ls.size = ml) (hW : (rest.map fun v => v.category).sum ≤ W) (hf : rm.frames + 1 ≤ R.frames) (hl : W + (ml' + 11) + rm.locals ≤ R.locals) (hc : cells + rm.cells ≤ R.cells) (hs : slots + rm.slots ≤ R.slots) (hm : ∀ x ∈ mine', x ∈ mine) (nx : ∀ (v : Option Value) (h' : Heap) (L : List Loc), Q' v h' → Keep h h' mine' → Go wd p l e R s m args below meth c Z EL Q kc ks m0 mine h' (locs ++ L) (cells + rm.cells) (slots + rm.slots) (mkF m (pc + 3) Ls (v.toList ++ rest))) : Go wd p l e R s m args below meth c Z EL Q kc ks m0 mine h locs cells slots (mkF m pc Ls st0) := fun T vm0 X eT V => by
  subst hst
  have h2W : 2 * 0 + (rest.map fun v => v.category).sum ≤ W := by omega
  obtain ⟨cB, kB, qa, qb, qc⟩ := isOf V.hZ' eT E
  cases wd with
  | false =>
    have hE := C.hwd rfl
    subst hE
    have e1 : vm0 = s.vm := V.1.1 rfl
    subst e1
    obtain ⟨v, vm₁, ⟨T', L', k', n'⟩, -, X', ⟨L, hq, l1, l2, l3, hK, hF⟩, k1⟩ := X.virtualBack C.hx (V.hown C) (mvT V.hZ' w1) (mvT V.hZ' w5) (hnf _ V.hZ') (mvT V.hZ' w6) (mvT V.hZ' w2) hy (backN (len := 3) (W := W) M V.hZ' w4 w3 hf hl (fun x hx => ⟨(V.2.1 x (hm x hx)).1, (V.2.1 x (hm x hx)).2.2.1⟩) V.old) qa qc (g := mkF m pc Ls _) rfl (by rw [C.hml]; exact hsz) (Steps.refl _) hlen rfl h2W (hb C.hby hd) (fun _ _ => ⟨rfl, eT, hc, hs⟩)
    dsimp only [Pt.U, Pt.locs, Pt.cells, Pt.slots] at X' l1 l2 l3 k1 hq hK
    subst l1 l2 l3
    obtain ⟨s₂, o, k, r⟩ := nx v _ L hq hK T' s.vm X' rfl (V.keep hK hm (Fr.app V.fr hF))
    exact ⟨s₂, o, k1.trans k, r⟩
  | true =>
    obtain ⟨v, vm₁, ⟨T', L', k', n'⟩, -, X', hS, hg, ⟨L, hq, l1, l2, l3, hR, hK, hF⟩, k1⟩ := X.virtualBackS C.hx (V.hown C) (mvT V.hZ' w1) (mvT V.hZ' w5) (hnf _ V.hZ') (mvT V.hZ' w6) (mvT V.hZ' w2) hy (backW (len := 3) (W := W) M V.hZ w4 w3 hf hl C.hEW V.held (fun x hx => ⟨(V.2.1 x (hm x hx)).1, (V.2.1 x (hm x hx)).2.1, (V.2.1 x (hm x hx)).2.2.1⟩) V.old) qa qc (g := mkF m pc Ls _) rfl (by rw [C.hml]; exact hsz) (Steps.refl _) hlen rfl h2W (hb C.hby hd) (fun _ _ => ⟨rfl, eT, hc, hs⟩)
    dsimp only [Pt.U, Pt.locs, Pt.cells, Pt.slots] at X' l1 l2 l3 k1 hq hg hS hR hK
    subst l1 l2 l3
    rw [eT] at hg
    obtain ⟨s₂, o, k, r⟩ := nx v _ L hq hK T' T'.vm X' rfl (V.call hS (Nat.le_refl _) hg hR hK hm (Fr.app V.fr hF))
    exact ⟨s₂, o, k1.trans k, r⟩
theorem g_specialB {idx : Nat} {rc rs : Nat} {QB : Option Value → Heap → List Loc → Prop} {st0 : List Value} (argsL rest : List Value) (W : Nat) (C : Cx wd p s m meth c Z a0 EL own bytes ml ret nm) (hd : decode bytes pc = .ok (.invokespecial idx, 3)) (hyi : y.name = "<init>") (w1 : (Cond.methodLink own idx y).before a0 Z = true) (w2 : (Cond.instanceMethod y).before a0 Z = true) (w4 : (Cond.code y bytes' ml' none).before a0 Z = true) (hy : y.cls ≠ "java/lang/invoke/MethodHandle" ∧ y.cls ≠ "java/lang/invoke/VarHandle") (hB : ∀ vm0 : Vm, Z.Warmed39 vm0 → Ext Z.heap h → Back l R p e below (s.setVm vm0) args y 3 W (fun A a => a = as' ∧ A.U.heap = h ∧ A.cells + rc ≤ R.cells ∧ A.slots + rs ≤ R.slots) (fun A _ v B => ∃ L, QB v B.U.heap L ∧ B.locs = A.locs ++ L ∧ B.cells = A.cells + rc ∧ B.slots = A.slots + rs)) (has : as' = (.ref a :: argsL).toArray) (hlen : ∀ sig, parseMethodDescriptor y.desc = some sig → argsL.length = sig.parameters.length) (hst : st0 = argsL.reverse ++ .ref a :: rest) (hsz : Ls.size = ml) (hW : (rest.map fun v => v.category).sum ≤ W) (hc : cells + rc ≤ R.cells) (hs : slots + rs ≤ R.slots) (hk : ∀ (v : Option Value) (h' : Heap) (L : List Loc), QB v h' L → Keep h h' mine' ∧ Fr Z.heap.size L) (hm : ∀ x ∈ mine', x ∈ mine) (nx : ∀ (v : Option Value) (h' : Heap) (L : List Loc), QB v h' L → Keep h h' mine' → Go wd p l e R s m args below meth c Z EL Q kc ks m0 mine h' (locs ++ L) (cells + rc) (slots + rs) (mkF m (pc + 3) Ls (v.toList ++ rest))) : Go wd p l e R s m args below meth c Z EL Q kc ks m0 mine h locs cells slots (mkF m pc Ls st0) := fun T vm0 X eT V => by
  subst hst
  have h2W : 2 * 0 + (rest.map fun v => v.category).sum ≤ W := by omega
  obtain ⟨v, vm₁, ⟨T', L', k', n'⟩, -, X', ⟨L, hq, l1, l2, l3⟩, k1⟩ := X.specialBack C.hx hyi (V.hown C) (mvT V.hZ' w1) (mvT V.hZ' w2) (mvT V.hZ' w4) hy (hB vm0 V.hZ V.old) (g := mkF m pc Ls _) rfl (by rw [C.hml]; exact hsz) (Steps.refl _) hlen rfl h2W (hb C.hby hd) (fun _ _ => ⟨has.symm, eT, hc, hs⟩)
  dsimp only [Pt.U, Pt.locs, Pt.cells, Pt.slots] at X' l1 l2 l3 k1 hq
  subst l1 l2 l3
  obtain ⟨K, hF⟩ := hk _ _ _ hq
  obtain ⟨s₂, o, k, r⟩ := nx v _ L hq K T' vm0 X' rfl (V.keep K hm (Fr.app V.fr hF))
  exact ⟨s₂, o, k1.trans k, r⟩
theorem g_virtualB {idx : Nat} {rc rs : Nat} {QB : Option Value → Heap → List Loc → Prop} {st0 : List Value} {Cn : String} (argsL rest : List Value) (W : Nat) (C : Cx wd p s m meth c Z a0 EL own bytes ml ret nm) (hd : decode bytes pc = .ok (.invokevirtual idx, 3)) (w1 : (Cond.methodLink own idx y).before a0 Z = true) (w5 : (Cond.declares y).before a0 Z = true) (w6 : (Cond.selects Cn y z).before a0 Z = true) (w2 : (Cond.instanceMethod z).before a0 Z = true) (hnf : ∀ U : State, Z.Warmed39 U.vm → NotFace U y) (hy : y.cls ≠ "java/lang/invoke/MethodHandle" ∧ y.cls ≠ "java/lang/invoke/VarHandle") (E : Exa Z h a Cn) (hB : ∀ vm0 : Vm, Z.Warmed39 vm0 → Ext Z.heap h → Back l R p e below (s.setVm vm0) args z 3 W (fun A a => a = as' ∧ A.U.heap = h ∧ A.cells + rc ≤ R.cells ∧ A.slots + rs ≤ R.slots) (fun A _ v B => ∃ L, QB v B.U.heap L ∧ B.locs = A.locs ++ L ∧ B.cells = A.cells + rc ∧ B.slots = A.slots + rs)) (has : as' = (.ref a :: argsL).toArray) (hlen : ∀ sig, parseMethodDescriptor y.desc = some sig → argsL.length = sig.parameters.length) (hst : st0 = argsL.reverse ++ .ref a :: rest) (hsz : Ls.size = ml) (hW : (rest.map fun v => v.category).sum ≤ W) (hc : cells + rc ≤ R.cells) (hs : slots + rs ≤ R.slots) (hk : ∀ (v : Option Value) (h' : Heap) (L : List Loc), QB v h' L → Keep h h' mine' ∧ Fr Z.heap.size L) (hm : ∀ x ∈ mine', x ∈ mine) (nx : ∀ (v : Option Value) (h' : Heap) (L : List Loc), QB v h' L → Keep h h' mine' → Go wd p l e R s m args below meth c Z EL Q kc ks m0 mine h' (locs ++ L) (cells + rc) (slots + rs) (mkF m (pc + 3) Ls (v.toList ++ rest))) : Go wd p l e R s m args below meth c Z EL Q kc ks m0 mine h locs cells slots (mkF m pc Ls st0) := fun T vm0 X eT V => by
  subst hst
  have h2W : 2 * 0 + (rest.map fun v => v.category).sum ≤ W := by omega
  obtain ⟨cB, kB, qa, qb, qc⟩ := isOf V.hZ' eT E
  obtain ⟨v, vm₁, ⟨T', L', k', n'⟩, -, X', ⟨L, hq, l1, l2, l3⟩, k1⟩ := X.virtualBack C.hx (V.hown C) (mvT V.hZ' w1) (mvT V.hZ' w5) (hnf _ V.hZ') (mvT V.hZ' w6) (mvT V.hZ' w2) hy (hB vm0 V.hZ V.old) qa qc (g := mkF m pc Ls _) rfl (by rw [C.hml]; exact hsz) (Steps.refl _) hlen rfl h2W (hb C.hby hd) (fun _ _ => ⟨has.symm, eT, hc, hs⟩)
  dsimp only [Pt.U, Pt.locs, Pt.cells, Pt.slots] at X' l1 l2 l3 k1 hq
  subst l1 l2 l3
  obtain ⟨K, hF⟩ := hk _ _ _ hq
  obtain ⟨s₂, o, k, r⟩ := nx v _ L hq K T' vm0 X' rfl (V.keep K hm (Fr.app V.fr hF))
  exact ⟨s₂, o, k1.trans k, r⟩
theorem g_ldcStr {idx : Nat} {text : String} {zl : Int32} (n : Nat) (C : Cx true p s m meth c Z a0 EL own bytes ml ret nm) (hd : decode bytes pc = .ok (.ldc idx, 2)) (w : (Cond.stringLink own idx text).before a0 Z = true) (wS : ∀ a ∈ Bundle.stringAtoms, a.before a0 Z = true) (hmem : (own, idx) ∈ EL)
    (ht : (∀ c ∈ text.toList, c.toNat < 256) ∧ text.toList.map (fun c => Value.int (Jvm.Lit.byteI c.toNat.toUInt16)) = vs) (hz : ¬ zl < 0) (hzl : zl.toNatClampNeg = vs.length) (hn : 4 * text.toList.length ≤ n) (hbig : n ≤ 536870912) (hc : cells + 2 ≤ R.cells) (hs : slots + (n + 4) ≤ R.slots)
    (nx : ∀ (a b : Addr) (h' : Heap), Ext h h' → Exa Z h' a "java/lang/String" → Fld Z h' a "java/lang/String" "coder" "B" (.int 0) → Fld Z h' a "java/lang/String" "value" "[B" (.ref b) → Av Z h' b .byte vs → (∀ x ∈ mine, x ≠ a ∧ x ≠ b) → Go true p l e R s m args below meth c Z EL Q kc ks m0 mine h' locs (cells + 2) (slots + (n + 4)) (mkF m (pc + 2) Ls (.ref a :: st))) : Go true p l e R s m args below meth c Z EL Q kc ks m0 mine h locs cells slots (mkF m pc Ls st) := fun T vm0 X eT V => by
  have V' := V
  obtain ⟨⟨v1, v2, ⟨k0, v3, v4⟩, v5⟩, v6, -⟩ := V'

  obtain ⟨a, T', h', k1, b, kb, X', e', E, hS, hk, hW, hf, F1, F2, F3, F4, l1, l2, hR, hL, hne, kk⟩ := ldcCH X C.hx V.hZ (V.hown' C) w wS eT v3 v4 C.hEW hmem v5.1 ht hz hzl (g := mkF m pc Ls st) rfl (hb C.hby hd) hn hbig hc hs
  have V2 := V.ext E
  have v6' : ∀ x ∈ mine, x < h'.size ∧ Safe Z EL T'.vm h' x ∧ Z.heap.size ≤ x ∧ (x ∈ m0 ∨ s.heap.size ≤ x) := fun x hx => ⟨Nat.lt_of_lt_of_le (v6 x hx).1 E.1, hR.safe (v6 x hx).1 (v6 x hx).2.1, (v6 x hx).2.2⟩
  obtain ⟨s₂, o, k, r⟩ := nx a b h' E F1 F2 F3 (Av.of_arv F4 hzl) (fun x hx => hne x (v6' x hx).2.1) T' T'.vm X' e' ⟨⟨fun q => (nomatch q), hW, ⟨k1, hS, hk⟩, v5.trans hR⟩, v6', V2.2.2⟩
  exact ⟨s₂, o, kk _ k, r⟩
/-- a String constant that isn't read -/
theorem g_ldcOpq {idx : Nat} {text : String} (n : Nat) (C : Cx true p s m meth c Z a0 EL own bytes ml ret nm) (hd : decode bytes pc = .ok (.ldc idx, 2)) (w : (Cond.stringLink own idx text).before a0 Z = true) (wS : ∀ a ∈ Bundle.stringAtoms, a.before a0 Z = true)
    (hn : 4 * text.toList.length ≤ n) (hbig : n ≤ 536870912) (hc : cells + 2 ≤ R.cells) (hs : slots + (n + 4) ≤ R.slots)
    (nx : ∀ (a : Addr) (h' : Heap), Ext h h' → Go true p l e R s m args below meth c Z EL Q kc ks m0 mine h' locs (cells + 2) (slots + (n + 4)) (mkF m (pc + 2) Ls (.ref a :: st))) : Go true p l e R s m args below meth c Z EL Q kc ks m0 mine h locs cells slots (mkF m pc Ls st) := fun T vm0 X eT V => by
  have V' := V
  obtain ⟨⟨v1, v2, ⟨k0, v3, v4⟩, v5⟩, v6, -⟩ := V'

  obtain ⟨a, T', h', k1, X', e', E, hS, hk, hW, hf, hR, hL, kk⟩ := ldcOH X C.hx V.hZ (V.hown' C) w wS eT v3 v4 C.hEW v5.1 (g := mkF m pc Ls st) rfl (hb C.hby hd) hn hbig hc hs
  obtain ⟨s₂, o, k, r⟩ := nx a h' E T' T'.vm X' e' ⟨⟨fun q => (nomatch q), hW, ⟨k1, hS, hk⟩, v5.trans hR⟩, fun x hx => ⟨Nat.lt_of_lt_of_le (v6 x hx).1 E.1, hR.safe (v6 x hx).1 (v6 x hx).2.1, (v6 x hx).2.2⟩, (V.ext E).2.2⟩
  exact ⟨s₂, o, kk _ k, r⟩
/-- an object of C isn't one of the ordinary class K that C's chain of superclasses doesn't meet -/
theorem ins_no {C K : String} {t : List String} {n : Nat} (E : Exa Z h a C) (hw : ∀ w ∈ Cond.chainWords (C :: t), w.before a0 Z = true) (wi : (Cond.instantiable K n).before a0 Z = true) (hn : K ∉ C :: t) : Ins Z h a K false := by
  obtain ⟨cell, k, e1, e2, e3, e4, -⟩ := E
  obtain ⟨cK, kK, i1, i2, i3, i4, -⟩ := Cond.instantiable_spec wi
  obtain ⟨c', k', c1, c2, c3, c4⟩ := Cond.chain_head hw
  cases e2.symm.trans c1
  cases e3.symm.trans c2
  have ne : cell.cls ≠ cK := Vm.findClass_ne e2 i1 (fun e => hn (by simp [e]))
  have ns := Cond.chain_notSub i1 t C _ e2 hw hn (Z.vm.classes.size + 1)
  have i5 : kK.isInterface = false := by
    cases q : kK.isInterface
    · rfl
    · rw [q] at i4; cases i4
  refine ⟨cell, cK, e1, i1, ?_⟩
  simp [e4, Vm.assignable, Vm.assignableAux, ne, e3, i2, c3, i3, i5, Vm.isSubclass, ns]
/-- a String of Latin-1 chars cs, its bytes at t -/
def Str (Z : State) (h : Heap) (x t : Addr) (cs : List Int32) : Prop :=
  Exa Z h x "java/lang/String" ∧ Fld Z h x "java/lang/String" "coder" "B" (.int 0) ∧ Fld Z h x "java/lang/String" "value" "[B" (.ref t) ∧ Av Z h t .byte (cs.map fun c => Value.int c.toInt8.toInt32)
theorem Str.keep {x t : Addr} {cs : List Int32} (F : Str Z h x t cs) (K : Keep h h' ws) (q1 : x ∉ ws) (q2 : t ∉ ws) : Str Z h' x t cs := ⟨F.1.keep K, F.2.1.keep K q1, F.2.2.1.keep K q1, F.2.2.2.keep K q2⟩
theorem Str.ext {x t : Addr} {cs : List Int32} (F : Str Z h x t cs) (E : Ext h h') : Str Z h' x t cs := F.keep (keep_ext E) (fun q => nomatch q) (fun q => nomatch q)
theorem g_ldc2w {idx : Nat} (z : Int64) (C : Cx wd p s m meth c Z a0 EL own bytes ml ret nm) (hd : decode bytes pc = .ok (.ldc2_w idx, 3)) (w : (Cond.constantLong own idx z).before a0 Z = true) (nx : Go wd p l e R s m args below meth c Z EL Q kc ks m0 mine h locs cells slots (mkF m (pc + 3) Ls (.long z :: st))) : Go wd p l e R s m args below meth c Z EL Q kc ks m0 mine h locs cells slots (mkF m pc Ls st) := fun T vm0 X eT V => by
  obtain ⟨s₂, o, k, r⟩ := nx T vm0 X eT V
  exact ⟨s₂, o, X.ldc2J C.hx (V.hown C) (mvT V.hZ' w) (g := mkF m pc Ls st) rfl (hb C.hby hd) k, r⟩
theorem g_ldcInt {idx : Nat} (z : Int32) (C : Cx wd p s m meth c Z a0 EL own bytes ml ret nm) (hd : decode bytes pc = .ok (.ldc idx, 2)) (w : (Cond.constant own idx z).before a0 Z = true) (nx : Go wd p l e R s m args below meth c Z EL Q kc ks m0 mine h locs cells slots (mkF m (pc + 2) Ls (.int z :: st))) : Go wd p l e R s m args below meth c Z EL Q kc ks m0 mine h locs cells slots (mkF m pc Ls st) := fun T vm0 X eT V => by
  obtain ⟨s₂, o, k, r⟩ := nx T vm0 X eT V
  exact ⟨s₂, o, X.ldcI C.hx (V.hown C) (mvT V.hZ' w) (g := mkF m pc Ls st) rfl (hb C.hby hd) k, r⟩
theorem cl_lt {x y : Int64} : XT.cmpL x y < 0 ↔ x < y := by rw [← lw_lt]; rfl
theorem cl_gt {x y : Int64} : 0 < XT.cmpL x y ↔ y < x := by rw [← lw_gt]; rfl
theorem cl_eq {x y : Int64} : XT.cmpL x y = 0 ↔ x = y := by rw [← lw_eq]; rfl
theorem cl_eq_t {x y : Int64} (q : x = y) : hC .eq (XT.cmpL x y) 0 := cl_eq.mpr q
theorem cl_eq_f {x y : Int64} (q : ¬ x = y) : nC .eq (XT.cmpL x y) 0 := fun z => q (cl_eq.mp z)
theorem cl_ne_t {x y : Int64} (q : ¬ x = y) : hC .ne (XT.cmpL x y) 0 := fun z => q (cl_eq.mp z)
theorem cl_ne_f {x y : Int64} (q : x = y) : nC .ne (XT.cmpL x y) 0 := cl_eq.mpr q
theorem cl_lt_t {x y : Int64} (q : x < y) : hC .lt (XT.cmpL x y) 0 := cl_lt.mpr q
theorem cl_lt_f {x y : Int64} (q : ¬ x < y) : nC .lt (XT.cmpL x y) 0 := fun z => q (cl_lt.mp z)
theorem cl_ge_t {x y : Int64} (q : ¬ x < y) : hC .ge (XT.cmpL x y) 0 := fun z => q (cl_lt.mp z)
theorem cl_ge_f {x y : Int64} (q : x < y) : nC .ge (XT.cmpL x y) 0 := cl_lt.mpr q
theorem cl_gt_t {x y : Int64} (q : y < x) : hC .gt (XT.cmpL x y) 0 := cl_gt.mpr q
theorem cl_gt_f {x y : Int64} (q : ¬ y < x) : nC .gt (XT.cmpL x y) 0 := fun z => q (cl_gt.mp z)
theorem cl_le_t {x y : Int64} (q : ¬ y < x) : hC .le (XT.cmpL x y) 0 := fun z => q (cl_gt.mp z)
theorem cl_le_f {x y : Int64} (q : y < x) : nC .le (XT.cmpL x y) 0 := cl_gt.mpr q
end K
end Jvm.Wk9
/- laws to paste: Road.backV, Road.eqW, Road.codOf (cut by pick.py; bodies as the Statement names them) -/
namespace Jvm.Pilot.@@N@@
namespace StrChars
open Jvm Sem ClassFile Op Lib Jvm.Stand Jvm.Free.XT Jvm.Free.ALB Jvm.Free.JM Jvm.Free
open Jvm.Lib.Cold (StaticIs)
/-- a char array whose places are chars -/
def Ch (a : Addr) (A : Cell) (U : State) : Prop := Arr .char a A U ∧ Typed .char A
theorem Ch.mv {a : Addr} {A : Cell} {U U' : State} (h : Ch a A U) (hal : U.vm.Alike U'.vm) (hh : U'.heap = U.heap) : Ch a A U' := ⟨h.1.mv hal hh, h.2⟩
theorem Ch.keep {a : Addr} {A : Cell} {U U' : State} (h : Ch a A U) (hal : U.vm.Alike U'.vm) (hk : U'.heap[a]? = some A) : Ch a A U' := ⟨h.1.keep hal hk, h.2⟩
/-- what place i of a char[]'s cell holds -/
def cv (A : Cell) (i : Nat) : Int32 := match A.slots[i]? with | some (.int x) => x | _ => 0
theorem Ch.get {a : Addr} {A : Cell} {U : State} (h : Ch a A U) {i : Nat} (hi : i < A.slots.size) : A.slots[i]? = some (.int (cv A i)) := by
  have e := Array.getElem?_eq_getElem hi
  have f := h.2 i _ e
  unfold cv; rw [e]
  generalize A.slots[i] = v at f
  cases v <;> simp [fits] at f ⊢
/-- the byte that i2b leaves of a char -/
def lo8 (x : Int32) : Int32 := x.toInt8.toInt32
theorem fits_lo8 (y : Int32) : fits .byte (.int (lo8 y)) = true := by
  have h1 := y.toInt8.le_toInt
  have h2 := y.toInt8.toInt_lt
  simp only [lo8, fits, Bool.and_eq_true, decide_eq_true_eq, Int32.le_iff_toInt_le, Int8.toInt_toInt32, show (-128 : Int32).toInt = -128 from by decide, show (127 : Int32).toInt = 127 from by decide]
  omega
/-- A' is A but that each place j of lo .. hi - 1 holds f j -/
def Laid (A A' : Cell) (lo hi : Nat) (f : Nat → Value) : Prop := A'.cls = A.cls ∧ A'.vm = A.vm ∧ A'.slots.size = A.slots.size ∧ ∀ i, A'.slots[i]? = if lo ≤ i ∧ i < hi then some (f i) else A.slots[i]?
theorem Laid.zero (A : Cell) (lo : Nat) (f : Nat → Value) : Laid A A lo (lo + 0) f := ⟨rfl, rfl, rfl, fun i => by rw [if_neg (by omega)]⟩
theorem Laid.step {A Ak : Cell} {lo k : Nat} {f : Nat → Value} {v : Value} (h : Laid A Ak lo k f) (hlo : lo ≤ k) (hk : k < Ak.slots.size) (hv : v = f k) : Laid A (Ak.setSlot k v) lo (k + 1) f := by
  refine ⟨h.1, h.2.1, by simpa [Cell.setSlot] using h.2.2.1, fun i => ?_⟩
  by_cases e : k = i
  · subst e; rw [Cell.slots_setSlot_self v hk, if_pos (by omega), hv]
  · rw [Cell.slots_setSlot_ne v e, h.2.2.2 i]
    by_cases q : lo ≤ i ∧ i < k
    · rw [if_pos q, if_pos (by omega)]
    · rw [if_neg q, if_neg (by omega)]
def U16 : String := "java/lang/StringUTF16"
namespace Cmp5
def yN : MethodName := ⟨"java/lang/StringUTF16", "compress", "([CI[BII)I"⟩
abbrev yB : ByteArray := jdk_52_method_21_code
theorem d0 : decode yB 0 = .ok (.iconst 0, 1) := by decide +kernel
theorem d1 : decode yB 1 = .ok (.istore 5, 2) := by decide +kernel
theorem d3 : decode yB 3 = .ok (.iload 5, 2) := by decide +kernel
theorem d5 : decode yB 5 = .ok (.iload 4, 2) := by decide +kernel
theorem d7 : decode yB 7 = .ok (.if_icmp (.ge) 37, 3) := by decide +kernel
theorem d10 : decode yB 10 = .ok (.aload_n 0, 1) := by decide +kernel
theorem d11 : decode yB 11 = .ok (.iload_n 1, 1) := by decide +kernel
theorem d12 : decode yB 12 = .ok (.caload, 1) := by decide +kernel
theorem d13 : decode yB 13 = .ok (.istore 6, 2) := by decide +kernel
theorem d15 : decode yB 15 = .ok (.iload 6, 2) := by decide +kernel
theorem d17 : decode yB 17 = .ok (.sipush 255, 3) := by decide +kernel
theorem d20 : decode yB 20 = .ok (.if_icmp (.le) 6, 3) := by decide +kernel
theorem d26 : decode yB 26 = .ok (.aload_n 2, 1) := by decide +kernel
theorem d27 : decode yB 27 = .ok (.iload_n 3, 1) := by decide +kernel
theorem d28 : decode yB 28 = .ok (.iload 6, 2) := by decide +kernel
theorem d30 : decode yB 30 = .ok (.i2b, 1) := by decide +kernel
theorem d31 : decode yB 31 = .ok (.bastore, 1) := by decide +kernel
theorem d32 : decode yB 32 = .ok (.iinc 1 1, 3) := by decide +kernel
theorem d35 : decode yB 35 = .ok (.iinc 3 1, 3) := by decide +kernel
theorem d38 : decode yB 38 = .ok (.iinc 5 1, 3) := by decide +kernel
theorem d41 : decode yB 41 = .ok (.goto (-38), 3) := by decide +kernel
theorem d44 : decode yB 44 = .ok (.iload 4, 2) := by decide +kernel
theorem d46 : decode yB 46 = .ok (.ireturn, 1) := by decide +kernel
def site : List Cond := []
def tab : Cond := tabOf yN yB 7 (some .int) site
def P (b : Addr) (A : Cell) (d : Addr) (B : Cell) (o q len : Nat) (args : Array Value) (s : State) : Prop := args = #[.ref b, .int (Int32.ofNat o), .ref d, .int (Int32.ofNat q), .int (Int32.ofNat len)] ∧ Ch b A s ∧ Arr .byte d B s ∧ b ≠ d ∧ o + len ≤ A.slots.size ∧ q + len ≤ B.slots.size ∧ ∀ i, i < len → ¬ 255 < cv A (o + i)
def E (b : Addr) (A : Cell) (d : Addr) (B : Cell) (o q len : Nat) (r : Option Value) (s u : State) : Prop := r = some (.int (Int32.ofNat len)) ∧ ∃ B', Put d B' s u ∧ Laid B B' q (q + len) (fun j => Value.int (lo8 (cv A (o + (j - q)))))
/-- no char of the range above 255: len; the places written hold each char's low byte -/
theorem law (l : Launch) (b : Addr) (A : Cell) (d : Addr) (B : Cell) (o q len : Nat) : Law l yN 5 5 0 0 yB 7 (some .int) site (P b A d B o q len) (E b A d B o q len) (copyLocs d q len) 0 0 := by
  refine Law.of_walk (plainFor_of_name (by decide +kernel)) (by decide +kernel) (by decide +kernel) (by decide) (fun _ _ h => by rw [h.1]; rfl) (fun _ U U' hal hh h => ⟨h.1, h.2.1.mv hal hh, h.2.2.1.mv hal hh, h.2.2.2⟩) (fun r U U' V V' h1 hal h2 h => ⟨h.1, h.2.elim fun B' q => ⟨B', q.1.mv h1 h2, q.2⟩⟩) ?_
  intro p e s m args below meth c s₁ X0 hexec hbytes hml hret hlk hnm hown hh0 W hP
  obtain ⟨rfl, hA, hB, hne, l1, l2, hp⟩ := hP
  have c1 : Steps p.tables e below (s₁.setTop (entryFrame m #[.ref b, .int (Int32.ofNat o), .ref d, .int (Int32.ofNat q), .int (Int32.ofNat len)] 7)) (s₁.setTop (mkF m 0 #[.val (.ref b), .val (.int (Int32.ofNat o)), .val (.ref d), .val (.int (Int32.ofNat q)), .val (.int (Int32.ofNat len)), .unset, .unset] [])) := entry rfl
  have hA0 := hA.1.mv X0.warmed.alike hh0
  have hB0 := hB.mv X0.warmed.alike hh0
  have a31 := hA.1.2.2.2
  have c2 : Steps p.tables e below (s₁.setTop (entryFrame m #[.ref b, .int (Int32.ofNat o), .ref d, .int (Int32.ofNat q), .int (Int32.ofNat len)] 7)) (s₁.setTop (mkF m 3 #[.val (.ref b), .val (.int (Int32.ofNat o)), .val (.ref d), .val (.int (Int32.ofNat q)), .val (.int (Int32.ofNat len)), .val (.int 0), .unset] [])) := c1.trans (by
    refine iconstV X0.here hexec rfl 0 (hb hbytes d0) (by decide) ?_
    refine XS.istore X0.here hexec rfl (hb hbytes d1) rfl rfl ?_
    exact Steps.refl _)
  have loop : ∀ (r i : Nat), i + r = len → ∀ (z : Slot), (z = .unset ∨ ∃ w, z = .val w ∧ w.category = 1) → ∀ (Tl : State) (Bk : Cell), Stand p l e { frames := 0, locals := 0, cells := 0, slots := 0 } s m #[.ref b, .int (Int32.ofNat o), .ref d, .int (Int32.ofNat q), .int (Int32.ofNat len)] below meth c Tl ([] ++ copyLocs d q i) 0 0 → Put d Bk s₁ Tl → Laid B Bk q (q + i) (fun j => Value.int (lo8 (cv A (o + (j - q))))) →
      Steps p.tables e below (s₁.setTop (entryFrame m #[.ref b, .int (Int32.ofNat o), .ref d, .int (Int32.ofNat q), .int (Int32.ofNat len)] 7)) (Tl.setTop (mkF m 3 #[.val (.ref b), .val (.int (Int32.ofNat (o + i))), .val (.ref d), .val (.int (Int32.ofNat (q + i))), .val (.int (Int32.ofNat len)), .val (.int (Int32.ofNat i)), z] [])) → ∃ (T' : State) (B' : Cell) (z' : Slot), Stand p l e { frames := 0, locals := 0, cells := 0, slots := 0 } s m #[.ref b, .int (Int32.ofNat o), .ref d, .int (Int32.ofNat q), .int (Int32.ofNat len)] below meth c T' ([] ++ copyLocs d q len) 0 0 ∧ Put d B' s₁ T' ∧ Laid B B' q (q + len) (fun j => Value.int (lo8 (cv A (o + (j - q))))) ∧
      Steps p.tables e below (s₁.setTop (entryFrame m #[.ref b, .int (Int32.ofNat o), .ref d, .int (Int32.ofNat q), .int (Int32.ofNat len)] 7)) (T'.setTop (mkF m 3 #[.val (.ref b), .val (.int (Int32.ofNat (o + len))), .val (.ref d), .val (.int (Int32.ofNat (q + len))), .val (.int (Int32.ofNat len)), .val (.int (Int32.ofNat len)), z'] [])) := by
    intro r
    induction r with
    | zero =>
      intro i hi z hz Tl Bk Xl pl fl cl
      have hil : i = len := by omega
      rw [hil] at Xl fl cl
      exact ⟨Tl, Bk, z, Xl, pl, fl, cl⟩
    | succ r ih =>
      intro i hi z hz Tl Bk Xl pl fl cl
      have all := X0.warmed.alike.symm.trans Xl.warmed.alike
      have hAl := hA0.keep all (pl.other hne hA0.1)
      have hBk := hB0.like all pl.1 fl.1 fl.2.1 fl.2.2.1
      have hlt : q + i < Bk.slots.size := by rw [fl.2.2.1]; omega
      have c3 : Steps p.tables e below (s₁.setTop (entryFrame m #[.ref b, .int (Int32.ofNat o), .ref d, .int (Int32.ofNat q), .int (Int32.ofNat len)] 7)) (Tl.setTop (mkF m 12 #[.val (.ref b), .val (.int (Int32.ofNat (o + i))), .val (.ref d), .val (.int (Int32.ofNat (q + i))), .val (.int (Int32.ofNat len)), .val (.int (Int32.ofNat i)), z] [.int (Int32.ofNat (o + i)), .ref b])) := cl.trans (by
        refine XS.iload Xl.here hexec rfl (hb hbytes d3) rfl ?_
        refine XS.iload Xl.here hexec rfl (hb hbytes d5) rfl ?_
        refine XS.icmpNo Xl.here hexec rfl (hb hbytes d7) rfl (ii_ge_f (lt32 (by omega) (by omega))) ?_
        refine XS.aloadN Xl.here hexec rfl (hb hbytes d10) rfl rfl ?_
        refine XS.iloadN Xl.here hexec rfl (hb hbytes d11) rfl ?_
        exact Steps.refl _)
      have c4 : Steps p.tables e below (s₁.setTop (entryFrame m #[.ref b, .int (Int32.ofNat o), .ref d, .int (Int32.ofNat q), .int (Int32.ofNat len)] 7)) (Tl.setTop (mkF m 13 #[.val (.ref b), .val (.int (Int32.ofNat (o + i))), .val (.ref d), .val (.int (Int32.ofNat (q + i))), .val (.int (Int32.ofNat len)), .val (.int (Int32.ofNat i)), z] [.int (cv A (o + i))])) := c3.trans (by
        refine Xl.aget hexec hAl rfl (hA.get (i := o + i) (by omega)) rfl rfl (hb hbytes d12) ?_
        exact Steps.refl _)
      have c5 : Steps p.tables e below (s₁.setTop (entryFrame m #[.ref b, .int (Int32.ofNat o), .ref d, .int (Int32.ofNat q), .int (Int32.ofNat len)] 7)) (Tl.setTop (mkF m 15 #[.val (.ref b), .val (.int (Int32.ofNat (o + i))), .val (.ref d), .val (.int (Int32.ofNat (q + i))), .val (.int (Int32.ofNat len)), .val (.int (Int32.ofNat i)), .val (.int (cv A (o + i)))] [])) := c4.trans (by
        refine XS.istoreS Xl.here hexec rfl (hb hbytes d13) rfl rfl hz ?_
        exact Steps.refl _)
      have c6 : Steps p.tables e below (s₁.setTop (entryFrame m #[.ref b, .int (Int32.ofNat o), .ref d, .int (Int32.ofNat q), .int (Int32.ofNat len)] 7)) (Tl.setTop (mkF m 31 #[.val (.ref b), .val (.int (Int32.ofNat (o + i))), .val (.ref d), .val (.int (Int32.ofNat (q + i))), .val (.int (Int32.ofNat len)), .val (.int (Int32.ofNat i)), .val (.int (cv A (o + i)))] [.int (lo8 (cv A (o + i))), .int (Int32.ofNat (q + i)), .ref d])) := c5.trans (by
        refine XS.iload Xl.here hexec rfl (hb hbytes d15) rfl ?_
        refine sipushV Xl.here hexec rfl 255 (hb hbytes d17) (by decide) ?_
        refine XS.icmpYes Xl.here hexec rfl (pc0 := 20) rfl (hb hbytes d20) rfl (ii_le_t (hp i (by omega))) (by decide) rfl ?_
        refine XS.aloadN Xl.here hexec rfl (hb hbytes d26) rfl rfl ?_
        refine XS.iloadN Xl.here hexec rfl (hb hbytes d27) rfl ?_
        refine XS.iload Xl.here hexec rfl (hb hbytes d28) rfl ?_
        refine i2b Xl.here hexec rfl (hb hbytes d30) rfl ?_
        exact Steps.refl _)
      obtain ⟨T7, X7, p7, st7⟩ := Xl.aput hexec hBk rfl hlt rfl (fits_lo8 (cv A (o + i))) (g := (mkF m 31 #[.val (.ref b), .val (.int (Int32.ofNat (o + i))), .val (.ref d), .val (.int (Int32.ofNat (q + i))), .val (.int (Int32.ofNat len)), .val (.int (Int32.ofNat i)), .val (.int (cv A (o + i)))] [.int (lo8 (cv A (o + i))), .int (Int32.ofNat (q + i)), .ref d])) rfl (rest := []) rfl (hb hbytes d31)
      have c8 : Steps p.tables e below (s₁.setTop (entryFrame m #[.ref b, .int (Int32.ofNat o), .ref d, .int (Int32.ofNat q), .int (Int32.ofNat len)] 7)) (T7.setTop (mkF m 32 #[.val (.ref b), .val (.int (Int32.ofNat (o + i))), .val (.ref d), .val (.int (Int32.ofNat (q + i))), .val (.int (Int32.ofNat len)), .val (.int (Int32.ofNat i)), .val (.int (cv A (o + i)))] [])) := c6.trans (st7 _ (Steps.refl _))
      have c9 : Steps p.tables e below (s₁.setTop (entryFrame m #[.ref b, .int (Int32.ofNat o), .ref d, .int (Int32.ofNat q), .int (Int32.ofNat len)] 7)) (T7.setTop (mkF m 3 #[.val (.ref b), .val (.int (Int32.ofNat (o + i) + 1)), .val (.ref d), .val (.int (Int32.ofNat (q + i) + 1)), .val (.int (Int32.ofNat len)), .val (.int (Int32.ofNat i + 1)), .val (.int (cv A (o + i)))] [])) := c8.trans (by
        refine iincV X7.here hexec rfl 1 (hb hbytes d32) (by decide) rfl rfl ?_
        refine iincV X7.here hexec rfl 1 (hb hbytes d35) (by decide) rfl rfl ?_
        refine iincV X7.here hexec rfl 1 (hb hbytes d38) (by decide) rfl rfl ?_
        refine XS.goto X7.here hexec rfl (pc0 := 41) rfl (hb hbytes d41) (by decide) rfl ?_
        exact Steps.refl _)
      have c10 : Steps p.tables e below (s₁.setTop (entryFrame m #[.ref b, .int (Int32.ofNat o), .ref d, .int (Int32.ofNat q), .int (Int32.ofNat len)] 7)) (T7.setTop (mkF m 3 #[.val (.ref b), .val (.int (Int32.ofNat (o + (i + 1)))), .val (.ref d), .val (.int (Int32.ofNat (q + (i + 1)))), .val (.int (Int32.ofNat len)), .val (.int (Int32.ofNat (i + 1))), .val (.int (cv A (o + i)))] [])) := by
        have := c9
        rw [succ32, succ32, succ32] at this
        exact this
      exact ih (i + 1) (by omega) _ (Or.inr ⟨_, rfl, rfl⟩) T7 _ (by rw [copyLocs_step, ← List.append_assoc]; exact X7) (pl.trans p7) (fl.step (by omega) hlt (by simp)) c10
  obtain ⟨T9, B9, z9, X9, p9, f9, g9⟩ := loop len 0 (by omega) .unset (Or.inl rfl) s₁ B (by simpa [copyLocs] using X0) ⟨hB0.1, fun _ _ => rfl, rfl⟩ (Laid.zero _ _ _) c2
  have c11 : Steps p.tables e below (s₁.setTop (entryFrame m #[.ref b, .int (Int32.ofNat o), .ref d, .int (Int32.ofNat q), .int (Int32.ofNat len)] 7)) (T9.setTop (mkF m 46 #[.val (.ref b), .val (.int (Int32.ofNat (o + len))), .val (.ref d), .val (.int (Int32.ofNat (q + len))), .val (.int (Int32.ofNat len)), .val (.int (Int32.ofNat len)), z9] [.int (Int32.ofNat len)])) := g9.trans (by
    refine XS.iload X9.here hexec rfl (hb hbytes d3) rfl ?_
    refine XS.iload X9.here hexec rfl (hb hbytes d5) rfl ?_
    refine XS.icmpYes X9.here hexec rfl (pc0 := 7) rfl (hb hbytes d7) rfl (ii_ge_t (nlt32 (by omega) (Nat.le_refl _))) (by decide) rfl ?_
    refine XS.iload X9.here hexec rfl (hb hbytes d44) rfl ?_
    exact Steps.refl _)
  exact ⟨T9, some (.int (Int32.ofNat len)), _, _, _, X9, by simp, rfl, rfl, (fun h => by cases h), ⟨rfl, B9, p9.from hh0, f9⟩, fun fs hl => c11.trans (X9.ireturnOut hexec hret rfl (Or.inl rfl) (hb hbytes d46) hl)⟩
end Cmp5
namespace Cmp3
def yN : MethodName := ⟨"java/lang/StringUTF16", "compress", "([CII)[B"⟩
abbrev yB : ByteArray := jdk_52_method_16_code
theorem d0 : decode yB 0 = .ok (.iload_n 2, 1) := by decide +kernel
theorem d1 : decode yB 1 = .ok (.newarray .byte, 2) := by decide +kernel
theorem d3 : decode yB 3 = .ok (.astore_n 3, 1) := by decide +kernel
theorem d4 : decode yB 4 = .ok (.aload_n 0, 1) := by decide +kernel
theorem d5 : decode yB 5 = .ok (.iload_n 1, 1) := by decide +kernel
theorem d6 : decode yB 6 = .ok (.aload_n 3, 1) := by decide +kernel
theorem d7 : decode yB 7 = .ok (.iconst 0, 1) := by decide +kernel
theorem d8 : decode yB 8 = .ok (.iload_n 2, 1) := by decide +kernel
theorem d9 : decode yB 9 = .ok (.invokestatic 115, 3) := by decide +kernel
theorem d12 : decode yB 12 = .ok (.istore 4, 2) := by decide +kernel
theorem d14 : decode yB 14 = .ok (.iload 4, 2) := by decide +kernel
theorem d16 : decode yB 16 = .ok (.iload_n 2, 1) := by decide +kernel
theorem d17 : decode yB 17 = .ok (.if_icmp (.eq) 40, 3) := by decide +kernel
theorem d57 : decode yB 57 = .ok (.aload_n 3, 1) := by decide +kernel
theorem d58 : decode yB 58 = .ok (.areturn, 1) := by decide +kernel
def site : List Cond := [.arrayClass .byte, Cmp5.tab] ++ staticW U16 115 Cmp5.yN
def tab : Cond := tabOf yN yB 6 (some (.array .byte)) site
def P (b : Addr) (A : Cell) (o len : Nat) (args : Array Value) (s : State) : Prop := args = #[.ref b, .int (Int32.ofNat o), .int (Int32.ofNat len)] ∧ Ch b A s ∧ o + len ≤ A.slots.size ∧ len ≤ 536870912 ∧ ∀ i, i < len → ¬ 255 < cv A (o + i)
def E (b : Addr) (A : Cell) (o len : Nat) (r : Option Value) (s u : State) : Prop := NewArr .byte "[B" len (fun j => .int (lo8 (cv A (o + j)))) r s u ∧ u.heap.size = s.heap.size + 1
/-- no char of the range above 255: a new byte[] of their low bytes -/
theorem law (l : Launch) (b : Addr) (A : Cell) (o len : Nat) : Law l yN 3 3 1 18 yB 6 (some (.array .byte)) site (P b A o len) (E b A o len) [] 1 len := by
  refine Law.of_walk (plainFor_of_name (by decide +kernel)) (by decide +kernel) (by decide +kernel) (by decide) (fun _ _ h => by rw [h.1]; rfl) (fun _ U U' hal hh h => ⟨h.1, h.2.1.mv hal hh, h.2.2⟩) (fun r U U' V V' h1 hal h2 h => ⟨NewArr.mv r U U' V V' h1 hal h2 h.1, by rw [h1, h2]; exact h.2⟩) ?_
  intro p e s m args below meth c s₁ X0 hexec hbytes hml hret hlk hnm hown hh0 W hP
  obtain ⟨rfl, hA, l1, l2, hp⟩ := hP
  have a31 := hA.1.2.2.2
  have c1 : Steps p.tables e below (s₁.setTop (entryFrame m #[.ref b, .int (Int32.ofNat o), .int (Int32.ofNat len)] 6)) (s₁.setTop (mkF m 0 #[.val (.ref b), .val (.int (Int32.ofNat o)), .val (.int (Int32.ofNat len)), .unset, .unset, .unset] [])) := entry rfl
  have c2 : Steps p.tables e below (s₁.setTop (entryFrame m #[.ref b, .int (Int32.ofNat o), .int (Int32.ofNat len)] 6)) (s₁.setTop (mkF m 1 #[.val (.ref b), .val (.int (Int32.ofNat o)), .val (.int (Int32.ofNat len)), .unset, .unset, .unset] [.int (Int32.ofNat len)])) := c1.trans (by
    refine XS.iloadN X0.here hexec rfl (hb hbytes d0) rfl ?_
    exact Steps.refl _)
  obtain ⟨T3, B3, X3, ba3, bs3, bv3, bh3, bf3, st3⟩ := X0.anew hexec (atype := .byte) (wk W (.arrayClass .byte)) rfl (by show len * 1 ≤ _; omega) (by omega) (g := (mkF m 1 #[.val (.ref b), .val (.int (Int32.ofNat o)), .val (.int (Int32.ofNat len)), .unset, .unset, .unset] [.int (Int32.ofNat len)])) rfl (hb hbytes d1) (rest := []) rfl (Nat.le_refl _) (by show 0 + len ≤ len; omega)
  rw [hh0] at ba3 st3
  have kp3 : XT.Kept s T3 := (XT.Kept.of_eq hh0).push bh3
  have hA3 := hA.keep X3.warmed.alike (kp3 _ _ hA.1.1)
  have hne : b ≠ s.heap.size := hA.1.ne
  have c4 : Steps p.tables e below (s₁.setTop (entryFrame m #[.ref b, .int (Int32.ofNat o), .int (Int32.ofNat len)] 6)) (T3.setTop (mkF m 3 #[.val (.ref b), .val (.int (Int32.ofNat o)), .val (.int (Int32.ofNat len)), .unset, .unset, .unset] [.ref s.heap.size])) := c2.trans (st3 _ (Steps.refl _))
  have c5 : Steps p.tables e below (s₁.setTop (entryFrame m #[.ref b, .int (Int32.ofNat o), .int (Int32.ofNat len)] 6)) (T3.setTop (mkF m 9 #[.val (.ref b), .val (.int (Int32.ofNat o)), .val (.int (Int32.ofNat len)), .val (.ref s.heap.size), .unset, .unset] [.int (Int32.ofNat len), .int 0, .ref s.heap.size, .int (Int32.ofNat o), .ref b])) := c4.trans (by
    refine XS.astoreN X3.here hexec rfl (hb hbytes d3) rfl rfl rfl ?_
    refine XS.aloadN X3.here hexec rfl (hb hbytes d4) rfl rfl ?_
    refine XS.iloadN X3.here hexec rfl (hb hbytes d5) rfl ?_
    refine XS.aloadN X3.here hexec rfl (hb hbytes d6) rfl rfl ?_
    refine iconstV X3.here hexec rfl 0 (hb hbytes d7) (by decide) ?_
    refine XS.iloadN X3.here hexec rfl (hb hbytes d8) rfl ?_
    exact Steps.refl _)
  obtain ⟨v6, T6, X6, E6, g6⟩ := X3.callS hexec (Cmp5.law l b A s.heap.size B3 o 0 len) hown (wks W (staticW U16 115 Cmp5.yN)) (wk W Cmp5.tab) (W := 0) (Nat.le_of_ble_eq_true rfl) (Nat.le_of_ble_eq_true rfl) (Nat.le_refl _) (by show 0 + len + 0 ≤ len; omega) (g := (mkF m 9 #[.val (.ref b), .val (.int (Int32.ofNat o)), .val (.int (Int32.ofNat len)), .val (.ref s.heap.size), .unset, .unset] [.int (Int32.ofNat len), .int (Int32.ofNat 0), .ref s.heap.size, .int (Int32.ofNat o), .ref b])) rfl (by rw [hml]; rfl) c5 (argsL := [.ref b, .int (Int32.ofNat o), .ref s.heap.size, .int (Int32.ofNat 0), .int (Int32.ofNat len)]) (rest := []) rfl rfl (by show 2 * 0 + 0 ≤ _; decide) (hb hbytes d9) (⟨rfl, hA3, ba3, hne, l1, by rw [bs3]; simp, hp⟩)
  obtain ⟨rfl, B6, p6, f6⟩ := E6
  have c7 : Steps p.tables e below (s₁.setTop (entryFrame m #[.ref b, .int (Int32.ofNat o), .int (Int32.ofNat len)] 6)) (T6.setTop (mkF m 12 #[.val (.ref b), .val (.int (Int32.ofNat o)), .val (.int (Int32.ofNat len)), .val (.ref s.heap.size), .unset, .unset] [.int (Int32.ofNat len)])) := g6
  have c8 : Steps p.tables e below (s₁.setTop (entryFrame m #[.ref b, .int (Int32.ofNat o), .int (Int32.ofNat len)] 6)) (T6.setTop (mkF m 58 #[.val (.ref b), .val (.int (Int32.ofNat o)), .val (.int (Int32.ofNat len)), .val (.ref s.heap.size), .val (.int (Int32.ofNat len)), .unset] [.ref s.heap.size])) := c7.trans (by
    refine XS.istore X6.here hexec rfl (hb hbytes d12) rfl rfl ?_
    refine XS.iload X6.here hexec rfl (hb hbytes d14) rfl ?_
    refine XS.iloadN X6.here hexec rfl (hb hbytes d16) rfl ?_
    refine XS.icmpYes X6.here hexec rfl (pc0 := 17) rfl (hb hbytes d17) rfl (ii_eq_t rfl) (by decide) rfl ?_
    refine XS.aloadN X6.here hexec rfl (hb hbytes d57) rfl rfl ?_
    exact Steps.refl _)
  have X8 := X6.wide (L' := []) (cells' := 1) (slots' := len) (fun x hx hlt => by
    simp only [List.nil_append, copyLocs, List.mem_map, List.mem_range] at hx
    obtain ⟨i, -, rfl⟩ := hx
    exact absurd hlt (Nat.lt_irrefl _)) (Nat.le_refl _) (by omega)
  exact ⟨T6, some (.ref s.heap.size), _, _, _, X8, rfl, rfl, rfl, (fun h => by cases h), ⟨⟨rfl, B6, ba3.like (X3.warmed.alike.symm.trans X6.warmed.alike) p6.1 f6.1 f6.2.1 f6.2.2.1, f6.2.1.trans bv3, by rw [X6.warmed.alike.findClass, f6.1]; exact bf3, by rw [f6.2.2.1, bs3]; simp, fun j hj => by rw [f6.2.2.2 j, if_pos (by omega)]; rfl, kp3.put p6 (Nat.le_refl _)⟩, by rw [p6.2.2, bh3, hh0]; simp⟩, fun fs hl => c8.trans (X8.areturnOut hexec rfl hret rfl (hb hbytes d58) hl)⟩
end Cmp3
namespace CodL
def yN : MethodName := ⟨"java/lang/StringUTF16", "coderFromArrayLen", "([BI)B"⟩
abbrev yB : ByteArray := jdk_52_method_15_code
theorem d0 : decode yB 0 = .ok (.iload_n 1, 1) := by decide +kernel
theorem d1 : decode yB 1 = .ok (.aload_n 0, 1) := by decide +kernel
theorem d2 : decode yB 2 = .ok (.arraylength, 1) := by decide +kernel
theorem d3 : decode yB 3 = .ok (.isub, 1) := by decide +kernel
theorem d4 : decode yB 4 = .ok (.bipush 31, 2) := by decide +kernel
theorem d6 : decode yB 6 = .ok (.iushr, 1) := by decide +kernel
theorem d7 : decode yB 7 = .ok (.i2b, 1) := by decide +kernel
theorem d8 : decode yB 8 = .ok (.ireturn, 1) := by decide +kernel
def site : List Cond := []
def tab : Cond := tabOf yN yB 2 (some .byte) site
def P (d : Addr) (B : Cell) (args : Array Value) (s : State) : Prop := args = #[.ref d, .int (Int32.ofNat B.slots.size)] ∧ Arr .byte d B s
def E (r : Option Value) (s u : State) : Prop := XT.PureE (some (.int 0)) r s u
/-- an array as long as the number of chars: LATIN1 -/
theorem law (l : Launch) (d : Addr) (B : Cell) : Law l yN 2 2 0 0 yB 2 (some .byte) site (P d B) E [] 0 0 := by
  refine Law.of_walk (plainFor_of_name (by decide +kernel)) (by decide +kernel) (by decide +kernel) (by decide) (fun _ _ h => by rw [h.1]; rfl) (fun _ U U' hal hh h => ⟨h.1, h.2.mv hal hh⟩) (fun r U U' V V' h1 hal h2 h => XT.PureE.mv r U U' V V' h1 hal h2 h) ?_
  intro p e s m args below meth c s₁ X0 hexec hbytes hml hret hlk hnm hown hh0 W hP
  obtain ⟨rfl, hB⟩ := hP
  have hB0 := hB.mv X0.warmed.alike hh0
  have c1 : Steps p.tables e below (s₁.setTop (entryFrame m #[.ref d, .int (Int32.ofNat B.slots.size)] 2)) (s₁.setTop (mkF m 0 #[.val (.ref d), .val (.int (Int32.ofNat B.slots.size))] [])) := entry rfl
  have c2 : Steps p.tables e below (s₁.setTop (entryFrame m #[.ref d, .int (Int32.ofNat B.slots.size)] 2)) (s₁.setTop (mkF m 2 #[.val (.ref d), .val (.int (Int32.ofNat B.slots.size))] [.ref d, .int (Int32.ofNat B.slots.size)])) := c1.trans (by
    refine XS.iloadN X0.here hexec rfl (hb hbytes d0) rfl ?_
    refine XS.aloadN X0.here hexec rfl (hb hbytes d1) rfl rfl ?_
    exact Steps.refl _)
  have c3 : Steps p.tables e below (s₁.setTop (entryFrame m #[.ref d, .int (Int32.ofNat B.slots.size)] 2)) (s₁.setTop (mkF m 8 #[.val (.ref d), .val (.int (Int32.ofNat B.slots.size))] [.int (lo8 (ushr (Int32.ofNat B.slots.size - Int32.ofNat B.slots.size) 31))])) := c2.trans (by
    refine X0.alen hexec hB0 rfl rfl (hb hbytes d2) ?_
    refine XS.isub X0.here hexec rfl (hb hbytes d3) rfl ?_
    refine bipushV X0.here hexec rfl 31 (hb hbytes d4) (by decide) ?_
    refine iushr X0.here hexec rfl (hb hbytes d6) rfl ?_
    refine i2b X0.here hexec rfl (hb hbytes d7) rfl ?_
    exact Steps.refl _)
  have e0 : lo8 (ushr (Int32.ofNat B.slots.size - Int32.ofNat B.slots.size) 31) = 0 := by rw [Int32.sub_self]; decide
  rw [e0] at c3
  exact ⟨s₁, some (.int 0), _, _, _, X0, rfl, rfl, rfl, (fun h => by cases h), ⟨rfl, hh0⟩, fun fs hl => c3.trans (X0.ireturnOut hexec hret rfl (Or.inr (Or.inr (Or.inl rfl))) (hb hbytes d8) hl)⟩
end CodL
/-- the String at a is Latin-1 over a new byte[] (the heap's one new cell): the low bytes of the len chars of A from o on; every cell but a is kept -/
def Got (a : Addr) (D : Cell) (fV fC : Field) (A : Cell) (o len : Nat) (r : Option Value) (s u : State) : Prop := r = none ∧ ∃ D' V : Cell, Blank "java/lang/String" a D' u ∧ Same D D' [fV.slot, fC.slot] ∧ D'.slots[fV.slot]? = some (.ref s.heap.size) ∧ D'.slots[fC.slot]? = some (.int 0) ∧ Arr .byte s.heap.size V u ∧ V.vm = .none ∧ u.vm.findClass "[B" = some V.cls ∧ V.slots.size = len ∧ (∀ j, j < len → V.slots[j]? = some (.int (lo8 (cv A (o + j))))) ∧ (∀ (y : Addr) (c : Cell), y ≠ a → s.heap[y]? = some c → u.heap[y]? = some c) ∧ u.heap.size = s.heap.size + 1
theorem Got.mv {a : Addr} {D A : Cell} {fV fC : Field} {o len : Nat} : ∀ r (U U' V V' : State), U'.heap = U.heap → V.vm.Alike V'.vm → V'.heap = V.heap → Got a D fV fC A o len r U V → Got a D fV fC A o len r U' V' :=
  fun r U U' V V' h1 hal h2 ⟨e0, D', X, a1, a2, a3, a4, a5, a6, a7, a8, a9, a10, a11⟩ => ⟨e0, D', X, a1.mv hal h2, a2, by rw [h1]; exact a3, a4, by rw [h1]; exact a5.mv hal h2, a6, by rw [hal.findClass]; exact a7, a8, a9, by rw [h1, h2]; exact a10, by rw [h1, h2]; exact a11⟩
namespace New4
def yN : MethodName := ⟨"java/lang/String", "<init>", "([CIILjava/lang/Void;)V"⟩
abbrev yB : ByteArray := jdk_42_method_149_code
theorem d0 : decode yB 0 = .ok (.aload_n 0, 1) := by decide +kernel
theorem d1 : decode yB 1 = .ok (.invokespecial 1, 3) := by decide +kernel
theorem d4 : decode yB 4 = .ok (.iload_n 3, 1) := by decide +kernel
theorem d5 : decode yB 5 = .ok (.ifCond (.ne) 22, 3) := by decide +kernel
theorem d27 : decode yB 27 = .ok (.getstatic 38, 3) := by decide +kernel
theorem d30 : decode yB 30 = .ok (.ifCond (.eq) 28, 3) := by decide +kernel
theorem d33 : decode yB 33 = .ok (.aload_n 1, 1) := by decide +kernel
theorem d34 : decode yB 34 = .ok (.iload_n 2, 1) := by decide +kernel
theorem d35 : decode yB 35 = .ok (.iload_n 3, 1) := by decide +kernel
theorem d36 : decode yB 36 = .ok (.invokestatic 177, 3) := by decide +kernel
theorem d39 : decode yB 39 = .ok (.astore 5, 2) := by decide +kernel
theorem d41 : decode yB 41 = .ok (.aload_n 0, 1) := by decide +kernel
theorem d42 : decode yB 42 = .ok (.aload 5, 2) := by decide +kernel
theorem d44 : decode yB 44 = .ok (.iload_n 3, 1) := by decide +kernel
theorem d45 : decode yB 45 = .ok (.invokestatic 47, 3) := by decide +kernel
theorem d48 : decode yB 48 = .ok (.putfield 15, 3) := by decide +kernel
theorem d51 : decode yB 51 = .ok (.aload_n 0, 1) := by decide +kernel
theorem d52 : decode yB 52 = .ok (.aload 5, 2) := by decide +kernel
theorem d54 : decode yB 54 = .ok (.putfield 9, 3) := by decide +kernel
theorem d57 : decode yB 57 = .ok (.return_, 1) := by decide +kernel
def site : List Cond := [.fieldLink "java/lang/String" 38 "java/lang/String" "COMPACT_STRINGS" "Z", Cmp3.tab, CodL.tab, .laysFinal "java/lang/String" "java/lang/String" "value" "[B", .fieldLink "java/lang/String" 9 "java/lang/String" "value" "[B", .laysFinal "java/lang/String" "java/lang/String" "coder" "B", .fieldLink "java/lang/String" 15 "java/lang/String" "coder" "B"] ++ objW "java/lang/String" 1 ++ staticW "java/lang/String" 177 Cmp3.yN ++ staticW "java/lang/String" 47 CodL.yN
def tab : Cond := tabOf yN yB 6 none site
def P (a : Addr) (D : Cell) (fV fC : Field) (b : Addr) (A : Cell) (z : Int32) (o len : Nat) (args : Array Value) (s : State) : Prop := args = #[.ref a, .ref b, .int (Int32.ofNat o), .int (Int32.ofNat len), .null] ∧ Blank "java/lang/String" a D s ∧ Found "java/lang/String" "value" "[B" fV s ∧ Found "java/lang/String" "coder" "B" fC s ∧ Ch b A s ∧ StaticIs s "java/lang/String" "COMPACT_STRINGS" "Z" (.int z) ∧ ¬ z = 0 ∧ 0 < len ∧ o + len ≤ A.slots.size ∧ len ≤ 536870912 ∧ ∀ i, i < len → ¬ 255 < cv A (o + i)
def E (a : Addr) (D : Cell) (fV fC : Field) (A : Cell) (o len : Nat) (r : Option Value) (s u : State) : Prop := Got a D fV fC A o len r s u
/-- len > 0, no char of the range above 255: a Latin-1 String of their low bytes -/
theorem law (l : Launch) (a : Addr) (D : Cell) (fV fC : Field) (b : Addr) (A : Cell) (z : Int32) (o len : Nat) : Law l yN 5 4 2 35 yB 6 none site (P a D fV fC b A z o len) (E a D fV fC A o len) [⟨a, fC.slot⟩, ⟨a, fV.slot⟩] 1 len := by
  refine Law.of_walk (plainFor_of_name (by decide +kernel)) (by decide +kernel) (by decide +kernel) (by decide) (fun _ _ h => by rw [h.1]; rfl) (fun _ U U' hal hh h => ⟨h.1, h.2.1.mv hal hh, h.2.2.1.al hal, h.2.2.2.1.al hal, h.2.2.2.2.1.mv hal hh, h.2.2.2.2.2.1.there hal hh, h.2.2.2.2.2.2⟩) (fun r U U' V V' h1 hal h2 h => Got.mv r U U' V V' h1 hal h2 h) ?_
  intro p e s m args below meth c s₁ X0 hexec hbytes hml hret hlk hnm hown hh0 W hP
  obtain ⟨rfl, hB, f1, f2, hA, s1, hz, l0, l1, l2, hp⟩ := hP
  have a31 := hA.1.2.2.2
  have c1 : Steps p.tables e below (s₁.setTop (entryFrame m #[.ref a, .ref b, .int (Int32.ofNat o), .int (Int32.ofNat len), .null] 6)) (s₁.setTop (mkF m 0 #[.val (.ref a), .val (.ref b), .val (.int (Int32.ofNat o)), .val (.int (Int32.ofNat len)), .val .null, .unset] [])) := entry rfl
  have c2 : Steps p.tables e below (s₁.setTop (entryFrame m #[.ref a, .ref b, .int (Int32.ofNat o), .int (Int32.ofNat len), .null] 6)) (s₁.setTop (mkF m 1 #[.val (.ref a), .val (.ref b), .val (.int (Int32.ofNat o)), .val (.int (Int32.ofNat len)), .val .null, .unset] [.ref a])) := c1.trans (by
    refine XS.aloadN X0.here hexec rfl (hb hbytes d0) rfl rfl ?_
    exact Steps.refl _)
  obtain ⟨T3, X3, q3, st3⟩ := X0.oinit hexec hown (wks W (objW "java/lang/String" 1)) (g := (mkF m 1 #[.val (.ref a), .val (.ref b), .val (.int (Int32.ofNat o)), .val (.int (Int32.ofNat len)), .val .null, .unset] [.ref a])) rfl (by rw [hml]; rfl) (rest := []) rfl (hb hbytes d1) (W := 0) (by show 2 * 0 + 0 ≤ _; decide) (Nat.le_of_ble_eq_true rfl) (Nat.le_of_ble_eq_true rfl)
  have hh3 := q3.trans hh0
  have c4 : Steps p.tables e below (s₁.setTop (entryFrame m #[.ref a, .ref b, .int (Int32.ofNat o), .int (Int32.ofNat len), .null] 6)) (T3.setTop (mkF m 27 #[.val (.ref a), .val (.ref b), .val (.int (Int32.ofNat o)), .val (.int (Int32.ofNat len)), .val .null, .unset] [])) := (c2.trans (st3 _ (Steps.refl _))).trans (by
    refine XS.iloadN X3.here hexec rfl (hb hbytes d4) rfl ?_
    refine XS.ifYes X3.here hexec rfl (pc0 := 5) rfl (hb hbytes d5) rfl (i0_ne_t (nz32 (by omega) l0)) (by decide) rfl ?_
    exact Steps.refl _)
  obtain ⟨T5, X5, q5, st5⟩ := X3.sget hexec hown (wk W (.fieldLink "java/lang/String" 38 "java/lang/String" "COMPACT_STRINGS" "Z")) s1 (fun _ _ h => by rw [hh3]; exact h) (g := (mkF m 27 #[.val (.ref a), .val (.ref b), .val (.int (Int32.ofNat o)), .val (.int (Int32.ofNat len)), .val .null, .unset] [])) rfl (hb hbytes d27)
  have hh5 := q5.trans hh3
  have c6 : Steps p.tables e below (s₁.setTop (entryFrame m #[.ref a, .ref b, .int (Int32.ofNat o), .int (Int32.ofNat len), .null] 6)) (T5.setTop (mkF m 30 #[.val (.ref a), .val (.ref b), .val (.int (Int32.ofNat o)), .val (.int (Int32.ofNat len)), .val .null, .unset] [.int z])) := c4.trans (st5 _ (Steps.refl _))
  have c7 : Steps p.tables e below (s₁.setTop (entryFrame m #[.ref a, .ref b, .int (Int32.ofNat o), .int (Int32.ofNat len), .null] 6)) (T5.setTop (mkF m 36 #[.val (.ref a), .val (.ref b), .val (.int (Int32.ofNat o)), .val (.int (Int32.ofNat len)), .val .null, .unset] [.int (Int32.ofNat len), .int (Int32.ofNat o), .ref b])) := c6.trans (by
    refine XS.ifNo X5.here hexec rfl (hb hbytes d30) rfl (i0_eq_f hz) ?_
    refine XS.aloadN X5.here hexec rfl (hb hbytes d33) rfl rfl ?_
    refine XS.iloadN X5.here hexec rfl (hb hbytes d34) rfl ?_
    refine XS.iloadN X5.here hexec rfl (hb hbytes d35) rfl ?_
    exact Steps.refl _)
  obtain ⟨v8, T8, X8, E8, g8⟩ := X5.callS hexec (Cmp3.law l b A o len) hown (wks W (staticW "java/lang/String" 177 Cmp3.yN)) (wk W Cmp3.tab) (W := 0) (Nat.le_of_ble_eq_true rfl) (Nat.le_of_ble_eq_true rfl) (Nat.le_refl _) (by show 0 + len ≤ len; omega) (g := (mkF m 36 #[.val (.ref a), .val (.ref b), .val (.int (Int32.ofNat o)), .val (.int (Int32.ofNat len)), .val .null, .unset] [.int (Int32.ofNat len), .int (Int32.ofNat o), .ref b])) rfl (by rw [hml]; rfl) c7 (argsL := [.ref b, .int (Int32.ofNat o), .int (Int32.ofNat len)]) (rest := []) rfl rfl (by show 2 * 0 + 0 ≤ _; decide) (hb hbytes d36) (⟨rfl, hA.mv X5.warmed.alike hh5, l1, l2, hp⟩)
  obtain ⟨e8, z8⟩ := E8
  obtain ⟨rfl, N, n1, n2, n3, n4, n5, n6⟩ := NewArr.mv _ T5 s _ _ hh5.symm (Vm.Alike.refl _) rfl e8
  rw [hh5] at z8
  have hB1 := hB.keep X8.warmed.alike (n6 _ _ hB.1)
  have hne : s.heap.size ≠ a := (Nat.ne_of_lt (Array.getElem?_eq_some_iff.mp hB.1).1).symm
  have c9 : Steps p.tables e below (s₁.setTop (entryFrame m #[.ref a, .ref b, .int (Int32.ofNat o), .int (Int32.ofNat len), .null] 6)) (T8.setTop (mkF m 39 #[.val (.ref a), .val (.ref b), .val (.int (Int32.ofNat o)), .val (.int (Int32.ofNat len)), .val .null, .unset] [.ref s.heap.size])) := g8
  have c10 : Steps p.tables e below (s₁.setTop (entryFrame m #[.ref a, .ref b, .int (Int32.ofNat o), .int (Int32.ofNat len), .null] 6)) (T8.setTop (mkF m 45 #[.val (.ref a), .val (.ref b), .val (.int (Int32.ofNat o)), .val (.int (Int32.ofNat len)), .val .null, .val (.ref s.heap.size)] [.int (Int32.ofNat N.slots.size), .ref s.heap.size, .ref a])) := by
    have hc : Steps p.tables e below (s₁.setTop (entryFrame m #[.ref a, .ref b, .int (Int32.ofNat o), .int (Int32.ofNat len), .null] 6)) (T8.setTop (mkF m 45 #[.val (.ref a), .val (.ref b), .val (.int (Int32.ofNat o)), .val (.int (Int32.ofNat len)), .val .null, .val (.ref s.heap.size)] [.int (Int32.ofNat len), .ref s.heap.size, .ref a])) := c9.trans (by
      refine XS.astore X8.here hexec rfl (hb hbytes d39) rfl rfl rfl ?_
      refine XS.aloadN X8.here hexec rfl (hb hbytes d41) rfl rfl ?_
      refine XS.aload X8.here hexec rfl (hb hbytes d42) rfl rfl ?_
      refine XS.iloadN X8.here hexec rfl (hb hbytes d44) rfl ?_
      exact Steps.refl _)
    rw [n4]; exact hc
  obtain ⟨v11, T11, X11, E11, g11⟩ := X8.callS hexec (CodL.law l s.heap.size N) hown (wks W (staticW "java/lang/String" 47 CodL.yN)) (wk W CodL.tab) (W := 1) (Nat.le_of_ble_eq_true rfl) (Nat.le_of_ble_eq_true rfl) (Nat.le_refl _) (by show 0 + len + 0 ≤ len; omega) (g := (mkF m 45 #[.val (.ref a), .val (.ref b), .val (.int (Int32.ofNat o)), .val (.int (Int32.ofNat len)), .val .null, .val (.ref s.heap.size)] [.int (Int32.ofNat N.slots.size), .ref s.heap.size, .ref a])) rfl (by rw [hml]; rfl) c10 (argsL := [.ref s.heap.size, .int (Int32.ofNat N.slots.size)]) (rest := [.ref a]) rfl rfl (by show 2 * 0 + (1 + 0) ≤ _; decide) (hb hbytes d45) (⟨rfl, n1⟩)
  obtain ⟨rfl, q11⟩ := E11
  have hB11 := hB1.mv (X8.warmed.alike.symm.trans X11.warmed.alike) q11
  have c12 : Steps p.tables e below (s₁.setTop (entryFrame m #[.ref a, .ref b, .int (Int32.ofNat o), .int (Int32.ofNat len), .null] 6)) (T11.setTop (mkF m 48 #[.val (.ref a), .val (.ref b), .val (.int (Int32.ofNat o)), .val (.int (Int32.ofNat len)), .val .null, .val (.ref s.heap.size)] [.int 0, .ref a])) := g11
  obtain ⟨T13, X13, p13, bl13, sl13, st13⟩ := X11.finit hexec hown (wk W (.fieldLink "java/lang/String" 15 "java/lang/String" "coder" "B")) (Or.inr ⟨_, (wk W (.laysFinal "java/lang/String" "java/lang/String" "coder" "B"))⟩) (Or.inl ⟨rfl, hnm⟩) f2 (Or.inl rfl) hB11 (t := .byte) (by decide +kernel) rfl (g := (mkF m 48 #[.val (.ref a), .val (.ref b), .val (.int (Int32.ofNat o)), .val (.int (Int32.ofNat len)), .val .null, .val (.ref s.heap.size)] [.int 0, .ref a])) rfl (rest := []) rfl (hb hbytes d48)
  have c14 : Steps p.tables e below (s₁.setTop (entryFrame m #[.ref a, .ref b, .int (Int32.ofNat o), .int (Int32.ofNat len), .null] 6)) (T13.setTop (mkF m 54 #[.val (.ref a), .val (.ref b), .val (.int (Int32.ofNat o)), .val (.int (Int32.ofNat len)), .val .null, .val (.ref s.heap.size)] [.ref s.heap.size, .ref a])) := (c12.trans (st13 _ (Steps.refl _))).trans (by
    refine XS.aloadN X13.here hexec rfl (hb hbytes d51) rfl rfl ?_
    refine XS.aload X13.here hexec rfl (hb hbytes d52) rfl rfl ?_
    exact Steps.refl _)
  obtain ⟨T15, X15, p15, bl15, sl15, st15⟩ := X13.finit hexec hown (wk W (.fieldLink "java/lang/String" 9 "java/lang/String" "value" "[B")) (Or.inr ⟨_, (wk W (.laysFinal "java/lang/String" "java/lang/String" "value" "[B"))⟩) (Or.inl ⟨rfl, hnm⟩) f1 (Or.inl rfl) bl13 (t := (.array .byte)) (by decide +kernel) rfl (g := (mkF m 54 #[.val (.ref a), .val (.ref b), .val (.int (Int32.ofNat o)), .val (.int (Int32.ofNat len)), .val .null, .val (.ref s.heap.size)] [.ref s.heap.size, .ref a])) rfl (rest := []) rfl (hb hbytes d54)
  have c16 : Steps p.tables e below (s₁.setTop (entryFrame m #[.ref a, .ref b, .int (Int32.ofNat o), .int (Int32.ofNat len), .null] 6)) (T15.setTop (mkF m 57 #[.val (.ref a), .val (.ref b), .val (.int (Int32.ofNat o)), .val (.int (Int32.ofNat len)), .val .null, .val (.ref s.heap.size)] [])) := c14.trans (st15 _ (Steps.refl _))
  have ap := apart (Or.inr ⟨_, (wk W (.laysFinal "java/lang/String" "java/lang/String" "value" "[B"))⟩) (Or.inr ⟨_, (wk W (.laysFinal "java/lang/String" "java/lang/String" "coder" "B"))⟩) f1 f2 (t₁ := .array .byte) (t₂ := .byte) (by decide +kernel) (by decide +kernel) (by decide)
  have al := X8.warmed.alike.symm.trans X15.warmed.alike
  have n7 : T11.heap[s.heap.size]? = some N := by rw [q11]; exact n1.1
  exact ⟨T15, none, _, _, _, X15, by simp, rfl, by omega, (fun _ => rfl), ⟨rfl, _, N, bl15, ((Same.refl D _).set _ (by simp)).set _ (by simp), sl15, (Cell.slots_setSlot_ne _ ap).trans sl13, n1.keep al (p15.other hne (p13.other hne n7)), n2, by rw [al.findClass]; exact n3, n4, n5, fun y c h1 h2 => p15.other h1 (p13.other h1 (by rw [q11]; exact n6 y c h2)), by rw [p15.2.2, p13.2.2, q11]; exact z8⟩, fun fs hl => c16.trans (X15.returnOut hexec hret (hb hbytes d57) hl)⟩
end New4
namespace New1
def yN : MethodName := ⟨"java/lang/String", "<init>", "([C)V"⟩
abbrev yB : ByteArray := jdk_42_method_3_code
theorem d0 : decode yB 0 = .ok (.aload_n 0, 1) := by decide +kernel
theorem d1 : decode yB 1 = .ok (.aload_n 1, 1) := by decide +kernel
theorem d2 : decode yB 2 = .ok (.iconst 0, 1) := by decide +kernel
theorem d3 : decode yB 3 = .ok (.aload_n 1, 1) := by decide +kernel
theorem d4 : decode yB 4 = .ok (.arraylength, 1) := by decide +kernel
theorem d5 : decode yB 5 = .ok (.aconst_null, 1) := by decide +kernel
theorem d6 : decode yB 6 = .ok (.invokespecial 27, 3) := by decide +kernel
theorem d9 : decode yB 9 = .ok (.return_, 1) := by decide +kernel
def site : List Cond := [New4.tab] ++ initW "java/lang/String" 27 New4.yN
def tab : Cond := tabOf yN yB 2 none site
def P (a : Addr) (D : Cell) (fV fC : Field) (b : Addr) (A : Cell) (z : Int32) (args : Array Value) (s : State) : Prop := args = #[.ref a, .ref b] ∧ Blank "java/lang/String" a D s ∧ Found "java/lang/String" "value" "[B" fV s ∧ Found "java/lang/String" "coder" "B" fC s ∧ Ch b A s ∧ StaticIs s "java/lang/String" "COMPACT_STRINGS" "Z" (.int z) ∧ ¬ z = 0 ∧ 0 < A.slots.size ∧ A.slots.size ≤ 536870912 ∧ ∀ i, i < A.slots.size → ¬ 255 < cv A i
def E (a : Addr) (D : Cell) (fV fC : Field) (A : Cell) (r : Option Value) (s u : State) : Prop := Got a D fV fC A 0 A.slots.size r s u
/-- new String(chars), not empty, no char above 255: a Latin-1 String of their low bytes -/
theorem law (l : Launch) (a : Addr) (D : Cell) (fV fC : Field) (b : Addr) (A : Cell) (z : Int32) : Law l yN 2 1 3 52 yB 2 none site (P a D fV fC b A z) (E a D fV fC A) [⟨a, fC.slot⟩, ⟨a, fV.slot⟩] 1 A.slots.size := by
  refine Law.of_walk (plainFor_of_name (by decide +kernel)) (by decide +kernel) (by decide +kernel) (by decide) (fun _ _ h => by rw [h.1]; rfl) (fun _ U U' hal hh h => ⟨h.1, h.2.1.mv hal hh, h.2.2.1.al hal, h.2.2.2.1.al hal, h.2.2.2.2.1.mv hal hh, h.2.2.2.2.2.1.there hal hh, h.2.2.2.2.2.2⟩) (fun r U U' V V' h1 hal h2 h => Got.mv r U U' V V' h1 hal h2 h) ?_
  intro p e s m args below meth c s₁ X0 hexec hbytes hml hret hlk hnm hown hh0 W hP
  obtain ⟨rfl, hB, f1, f2, hA, s1, hz, l0, l2, hp⟩ := hP
  have c1 : Steps p.tables e below (s₁.setTop (entryFrame m #[.ref a, .ref b] 2)) (s₁.setTop (mkF m 0 #[.val (.ref a), .val (.ref b)] [])) := entry rfl
  have c2 : Steps p.tables e below (s₁.setTop (entryFrame m #[.ref a, .ref b] 2)) (s₁.setTop (mkF m 6 #[.val (.ref a), .val (.ref b)] [.null, .int (Int32.ofNat A.slots.size), .int 0, .ref b, .ref a])) := c1.trans (by
    refine XS.aloadN X0.here hexec rfl (hb hbytes d0) rfl rfl ?_
    refine XS.aloadN X0.here hexec rfl (hb hbytes d1) rfl rfl ?_
    refine iconstV X0.here hexec rfl 0 (hb hbytes d2) (by decide) ?_
    refine XS.aloadN X0.here hexec rfl (hb hbytes d3) rfl rfl ?_
    refine X0.alen hexec (hA.1.mv X0.warmed.alike hh0) rfl rfl (hb hbytes d4) ?_
    refine XS.aconstNull X0.here hexec rfl (hb hbytes d5) ?_
    exact Steps.refl _)
  obtain ⟨v3, T3, X3, E3, g3⟩ := X0.callN hexec (New4.law l a D fV fC b A z 0 A.slots.size) rfl hown (wks W (initW "java/lang/String" 27 New4.yN)) (W New4.tab (by simp only [site, List.mem_cons, List.mem_append, true_or, or_true])) (W := 0) (Nat.le_of_ble_eq_true rfl) (Nat.le_of_ble_eq_true rfl) (Nat.le_refl _) (by show 0 + A.slots.size ≤ A.slots.size; omega) (g := (mkF m 6 #[.val (.ref a), .val (.ref b)] [.null, .int (Int32.ofNat A.slots.size), .int (Int32.ofNat 0), .ref b, .ref a])) rfl (by rw [hml]; rfl) c2 (argsL := [.ref b, .int (Int32.ofNat 0), .int (Int32.ofNat A.slots.size), .null]) (rest := []) rfl rfl (by show 2 * 0 + 0 ≤ _; decide) (hb hbytes d6) (⟨rfl, hB.mv X0.warmed.alike hh0, f1.al X0.warmed.alike, f2.al X0.warmed.alike, hA.mv X0.warmed.alike hh0, s1.there X0.warmed.alike hh0, hz, l0, by omega, l2, fun i hi => by rw [Nat.zero_add]; exact hp i hi⟩)
  have e0 := Got.mv _ s₁ s _ _ hh0.symm (Vm.Alike.refl _) rfl E3
  obtain rfl := e0.1
  have c4 : Steps p.tables e below (s₁.setTop (entryFrame m #[.ref a, .ref b] 2)) (T3.setTop (mkF m 9 #[.val (.ref a), .val (.ref b)] [])) := g3
  exact ⟨T3, none, _, _, _, X3, by simp, rfl, by omega, (fun _ => rfl), e0, fun fs hl => c4.trans (X3.returnOut hexec hret (hb hbytes d9) hl)⟩
theorem pays {l : Launch} {R : Room} {p : Program} {e : Env} {below : List Frame} {s : State} {sargs : Array Value} {len W : Nat} (a : Addr) (D : Cell) (fV fC : Field) (b : Addr) (A : Cell) (z : Int32) (htab : tab.before sargs s = true) (hfr : 4 ≤ R.frames) (hlo : W + 65 ≤ R.locals) :
    Back l R p e below s sargs yN len W (fun A₁ a₁ => A₁.cells + 1 ≤ R.cells ∧ A₁.slots + A.slots.size ≤ R.slots ∧ P a D fV fC b A z a₁ A₁.U) (fun A₁ _ v₁ B₁ => E a D fV fC A v₁ A₁.U B₁.U ∧ B₁.locs = A₁.locs ++ [⟨a, fC.slot⟩, ⟨a, fV.slot⟩] ∧ B₁.cells = A₁.cells + 1 ∧ B₁.slots = A₁.slots + A.slots.size) :=
  (law l a D fV fC b A z).pays htab hfr (by omega)
end New1
/-- the byte, read back as charAt reads it, is the char -/
theorem lo8_mask {x : Int32} (h0 : ¬ x < 0) (h1 : ¬ 255 < x) : lo8 x &&& 255 = x := by
  have t : ∀ k : Fin 256, lo8 (Int32.ofNat k.val) &&& 255 = Int32.ofNat k.val := by decide +kernel
  rw [Int32.lt_iff_toInt_lt] at h0 h1
  have e0 : (0 : Int32).toInt = 0 := rfl
  have e1 : (255 : Int32).toInt = 255 := rfl
  obtain ⟨k, hk⟩ : ∃ k : Nat, x.toInt = k := ⟨x.toInt.toNat, by omega⟩
  have hx : x = Int32.ofNat k := Int32.toInt_inj.mp (by rw [hk, Int32.toInt_ofNat_small (by omega)])
  rw [hx]
  exact t ⟨k, by omega⟩
end StrChars
namespace StrChars.Road
open Jvm Sem ClassFile Op Lib Jvm.Stand Jvm.Free Jvm.Free.XT
open Jvm.Lib.Cold (StaticIs)
abbrev ST : String := "java/lang/String"
/-- every table word that New1's law asks, flat -/
abbrev words : List Jvm.Cond := [.code New1.yN New1.yB 2 none, .initialized ST, .methodLink ST 27 New4.yN, .instanceMethod New4.yN,
  .code New4.yN New4.yB 6 none, .fieldLink ST 38 ST "COMPACT_STRINGS" "Z", .laysFinal ST ST "value" "[B", .fieldLink ST 9 ST "value" "[B", .laysFinal ST ST "coder" "B", .fieldLink ST 15 ST "coder" "B",
  .methodLink ST 1 Lib.objectInit, .instanceMethod Lib.objectInit, .code Lib.objectInit ⟨#[0xb1]⟩ 1 none, .methodLink ST 177 Cmp3.yN, .static Cmp3.yN, .methodLink ST 47 CodL.yN, .static CodL.yN,
  .code Cmp3.yN Cmp3.yB 6 (some (.array .byte)), .initialized U16, .arrayClass .byte, .methodLink U16 115 Cmp5.yN, .static Cmp5.yN, .code Cmp5.yN Cmp5.yB 7 (some .int), .code CodL.yN CodL.yB 2 (some .byte)]
theorem tab_of {a : Array Value} {s : State} (h : ∀ w ∈ words, w.before a s = true) : New1.tab.before a s = true := by
  have h5 : Cmp5.tab.before a s = true := unparts (wk h (.code Cmp5.yN Cmp5.yB 7 (some .int))) (wks h (.initialized Cmp5.yN.cls :: Cmp5.site))
  have hc : CodL.tab.before a s = true := unparts (wk h (.code CodL.yN CodL.yB 2 (some .byte))) (wks h (.initialized CodL.yN.cls :: CodL.site))
  have q5 : ∀ w ∈ Cmp5.tab :: words, w.before a s = true := fun w hw => (List.mem_cons.mp hw).elim (fun e => e ▸ h5) (h w)
  have h3 : Cmp3.tab.before a s = true := unparts (wk q5 (.code Cmp3.yN Cmp3.yB 6 (some (.array .byte)))) (wks q5 (.initialized Cmp3.yN.cls :: Cmp3.site))
  have q3 : ∀ w ∈ Cmp3.tab :: CodL.tab :: words, w.before a s = true := fun w hw => (List.mem_cons.mp hw).elim (fun e => e ▸ h3) fun hw => (List.mem_cons.mp hw).elim (fun e => e ▸ hc) (h w)
  have h4 : New4.tab.before a s = true := unparts (wk q3 (.code New4.yN New4.yB 6 none)) (wks q3 (.initialized New4.yN.cls :: New4.site))
  have q4 : ∀ w ∈ New4.tab :: words, w.before a s = true := fun w hw => (List.mem_cons.mp hw).elim (fun e => e ▸ h4) (h w)
  exact unparts (wk q4 (.code New1.yN New1.yB 2 none)) (wks q4 (.initialized New1.yN.cls :: New1.site))
/-- the words ride from the start Z to the walk's own state -/
theorem moved {Z s : State} {a0 args : Array Value} (hZ : Z.Warmed39 s.vm) (hw : ∀ d ∈ words, d.before a0 Z = true) : ∀ d ∈ words, d.before args s = true := fun d hd => by
  have q := hw d hd
  have t : ∀ d ∈ words, d = .arrayClass .byte ∨ (d.onTables && d.keepsFace) = true := by decide +kernel
  rcases t d hd with rfl | t
  · exact RoadKit.mvA hZ q
  · exact RoadKit.mv hZ q t
/-- WHAT COMES BACK, over the tables of the start Z: h the heap at the call, h' behind it -/
def Q (Z : State) (x : Addr) (A : Cell) (h : Heap) (v : Option Value) (h' : Heap) (L : List Loc) : Prop := v = none ∧ (∀ y ∈ L, y.base = x) ∧ RoadKit.Keep h h' [x] ∧ h'.size = h.size + 1 ∧ RoadKit.Exa Z h' x ST ∧ RoadKit.Fld Z h' x ST "value" "[B" (.ref h.size) ∧ RoadKit.Fld Z h' x ST "coder" "B" (.int 0) ∧
  (∃ V : Cell, RoadKit.Arr Z h' h.size V .byte ∧ V.vm = .none ∧ Z.vm.findClass "[B" = some V.cls ∧ V.slots.size = A.slots.size ∧ ∀ j, j < A.slots.size → V.slots[j]? = some (.int (lo8 (cv A j)))) ∧
  ∀ (O n d : String) (w : Value), RoadKit.Fld Z h x O n d w → RoadKit.slotOf Z O n d ≠ RoadKit.slotOf Z ST "value" "[B" → RoadKit.slotOf Z O n d ≠ RoadKit.slotOf Z ST "coder" "B" → RoadKit.Fld Z h' x O n d w
/-- **new String(chars) AT A CALL, IN THE ROAD'S FORM**: for specialBack behind newO: x the fresh String, b the char[] with the cell A -/
theorem back {p : Program} {l : Launch} {e : Env} {R : Room} {s : State} {args : Array Value} {below : List Frame} {len W : Nat} {Z : State} {a0 : Array Value} {h : Heap} (hZ : Z.Warmed39 s.vm) (hw : ∀ d ∈ words, d.before a0 Z = true) {kI : Nat} (wi : (Jvm.Cond.instantiable ST kI).before a0 Z = true)
    {x b : Addr} {A : Cell} {z : Int32} {v0 c0 : Value} (E : RoadKit.Exa Z h x ST) (V : RoadKit.Fld Z h x ST "value" "[B" v0) (C : RoadKit.Fld Z h x ST "coder" "B" c0) (K : RoadKit.Arr Z h b A .char) (hty : Typed .char A) (S : RoadKit.Sta Z h ST "COMPACT_STRINGS" "Z" (.int z)) (hz : ¬ z = 0)
    (l0 : 0 < A.slots.size) (l2 : A.slots.size ≤ 536870912) (hp : ∀ i, i < A.slots.size → ¬ 255 < cv A i) (hfr : 4 ≤ R.frames) (hlo : W + 65 ≤ R.locals) :
    Back l R p e below s args New1.yN len W (fun P a => a = #[.ref x, .ref b] ∧ P.U.heap = h ∧ P.cells + 1 ≤ R.cells ∧ P.slots + A.slots.size ≤ R.slots)
      (fun P _ v B => ∃ L, Q Z x A h v B.U.heap L ∧ B.locs = P.locs ++ L ∧ B.cells = P.cells + 1 ∧ B.slots = P.slots + A.slots.size) := by
  intro m meth c P g ig mk a X hg hsize hdg hW hn hp'
  obtain ⟨rfl, rfl, r1, r2⟩ := hp'
  have al : Z.vm.Alike P.U.vm := hZ.alike.trans X.warmed.alike
  obtain ⟨D, cfV, kV, iV, fV, hD, gV, stV, knV, obV, asV, slV⟩ := id V
  obtain ⟨D', cfC, kC, iC, fC, hD', gC, stC, -, -, asC, slC⟩ := id C
  cases hD.symm.trans hD'
  obtain ⟨D2, kD, e1, e2, e3, e4, e5⟩ := id E
  cases hD.symm.trans e1
  obtain ⟨c2, k2, i1, i2, i3, -⟩ := Cond.instantiable_spec wi
  cases e2.symm.trans i1
  cases e3.symm.trans i2
  obtain ⟨kU, u1, u2⟩ := al.2.2 _ _ e3
  have hB : Blank ST x D P.U := ⟨hD, ⟨knV, fun q hq => by rw [hq] at obV; cases obV⟩, by rw [al.findClass]; exact e2, kU, u1, by rw [u2]; exact i3, by rw [u2]; exact e5 i3⟩
  have F1 : Found ST "value" "[B" fV P.U := ⟨SBG.found_only al ⟨cfV, kV, iV, gV⟩, stV⟩
  have F2 : Found ST "coder" "B" fC P.U := ⟨SBG.found_only al ⟨cfC, kC, iC, gC⟩, stC⟩
  have hA : Ch b A P.U := ⟨⟨K.1, State.isArrayOf_alike al K.2.1, K.2.2, by omega⟩, hty⟩
  have hS : StaticIs P.U ST "COMPACT_STRINGS" "Z" (.int z) := by
    obtain ⟨cfS, iS, kS, fS, st, cS, t1, t2, t3, t4, t5, t6, t7⟩ := S
    exact StaticIs.there (s := { Z with heap := P.U.heap }) ⟨cfS, iS, kS, fS, st, cS, t1, t2, t3, t4, t5, (fun q => by rw [q] at t6; cases t6), t7⟩ al rfl
  obtain ⟨v, B, X', ⟨⟨hv, E', V', q1, q2, q3, q4, q5, q6, q7, q8, q9, q10, q11⟩, hl, hc, hs⟩, st⟩ := New1.pays x D fV fC b A z (tab_of (moved hZ hw)) hfr hlo m meth c P g ig mk _ X hg hsize hdg hW hn ⟨r1, r2, rfl, hB, F1, F2, hA, hS, hz, l0, l2, hp⟩
  have al' : Z.vm.Alike B.U.vm := hZ.alike.trans X'.warmed.alike
  have hsz : E'.slots.size = D.slots.size := by
    obtain ⟨-, -, -, kB, w1, w2, w3⟩ := q1
    obtain ⟨kB', y1, y2⟩ := al'.2.2 _ _ e3
    rw [q2.2.1] at w1
    cases w1.symm.trans y1
    rw [w3, e5 i3, y2]
  refine ⟨v, B, X', ⟨_, ⟨hv, ?_, ⟨by omega, fun y cy hy hn' => q10 y cy (by simpa using hn') hy, fun y cy hy => ?_⟩, q11, ⟨E', _, q1.1, by rw [q2.2.1]; exact e2, by rw [q2.2.1]; exact e3, by rw [q2.1]; exact obV, fun _ => by rw [hsz]; exact e5 i3⟩,
    ⟨E', cfV, kV, iV, fV, q1.1, gV, stV, by rw [q2.1]; exact knV, by rw [q2.1]; exact obV, by rw [q2.2.1]; exact asV, q3⟩, ⟨E', cfC, kC, iC, fC, q1.1, gC, stC, by rw [q2.1]; exact knV, by rw [q2.1]; exact obV, by rw [q2.2.1]; exact asC, q4⟩,
    ⟨V', ⟨q5.1, State.isArrayOf_alike al'.symm q5.2.1, q5.2.2.1⟩, q6, by rw [← al'.findClass]; exact q7, q8, fun j hj => by have := q9 j hj; rwa [Nat.zero_add] at this⟩, fun O n d w F n1 n2 => ?_⟩, hl, hc, hs⟩, st⟩
  · intro y hy
    simp only [List.mem_cons, List.not_mem_nil, or_false] at hy
    rcases hy with rfl | rfl <;> rfl
  · by_cases q : y = x
    · subst q
      cases hD.symm.trans hy
      exact ⟨E', q1.1, q2.2.1, q2.1, hsz⟩
    · exact ⟨cy, q10 y cy q hy, rfl, rfl, rfl⟩
  · obtain ⟨D3, cf, k, i, f, g1, g2, g3, g4, g5, g6, g7⟩ := F
    cases hD.symm.trans g1
    simp only [RoadKit.slotOf, g2, gV, gC, Option.map_some, Option.getD_some] at n1 n2
    exact ⟨E', cf, k, i, f, q1.1, g2, g3, by rw [q2.1]; exact g4, by rw [q2.1]; exact g5, by rw [q2.2.1]; exact g6, by rw [q2.2.2 f.slot (by simp [n1, n2])]; exact g7⟩
end StrChars.Road
namespace StrChars.Road
open Jvm Sem ClassFile Op Lib Jvm.Stand Jvm.Free Jvm.Free.XT
/-- WHAT COMES BACK, the byte[] as a list of values -/
def QA (Z : State) (x : Addr) (zn : Int32) (cs : List Int32) (h : Heap) (v : Option Value) (h' : Heap) (L : List Loc) : Prop := v = none ∧ (∀ y ∈ L, y.base = x) ∧ RoadKit.Keep h h' [x] ∧ h'.size = h.size + 1 ∧ RoadKit.Exa Z h' x ST ∧ RoadKit.Fld Z h' x ST "value" "[B" (.ref h.size) ∧ RoadKit.Fld Z h' x ST "coder" "B" (.int 0) ∧
  (∃ kb, Z.vm.findClass "[B" = some kb ∧ RoadKit.Arv Z h' h.size kb .byte zn (cs.map fun c => .int (lo8 c)) (.int 0)) ∧
  ∀ (O n d : String) (w : Value), RoadKit.Fld Z h x O n d w → RoadKit.slotOf Z O n d ≠ RoadKit.slotOf Z ST "value" "[B" → RoadKit.slotOf Z O n d ≠ RoadKit.slotOf Z ST "coder" "B" → RoadKit.Fld Z h' x O n d w
/-- **new String(chars) AT A CALL, THE ARRAYS AS LISTS**: the char[] at b holds cs, not empty, no char above 255 -/
theorem backArv {p : Program} {l : Launch} {e : Env} {R : Room} {s : State} {args : Array Value} {below : List Frame} {len W : Nat} {Z : State} {a0 : Array Value} {h : Heap} (hZ : Z.Warmed39 s.vm) (hw : ∀ d ∈ words, d.before a0 Z = true) {kI : Nat} (wi : (Jvm.Cond.instantiable ST kI).before a0 Z = true)
    {x b : Addr} {k : ClassId} {zn z : Int32} {cs : List Int32} {dv v0 c0 : Value} (E : RoadKit.Exa Z h x ST) (V : RoadKit.Fld Z h x ST "value" "[B" v0) (C : RoadKit.Fld Z h x ST "coder" "B" c0) (K : RoadKit.Arv Z h b k .char zn (cs.map Value.int) dv) (S : RoadKit.Sta Z h ST "COMPACT_STRINGS" "Z" (.int z)) (hz : ¬ z = 0)
    (hlen : zn.toNatClampNeg = cs.length) (h0 : 0 < cs.length) (hbig : cs.length ≤ 536870912) (hall : ∀ c ∈ cs, ¬ 255 < c) (hfr : 4 ≤ R.frames) (hlo : W + 65 ≤ R.locals) :
    Back l R p e below s args New1.yN len W (fun P a => a = #[.ref x, .ref b] ∧ P.U.heap = h ∧ P.cells + 1 ≤ R.cells ∧ P.slots + cs.length ≤ R.slots)
      (fun P _ v B => ∃ L, QA Z x zn cs h v B.U.heap L ∧ B.locs = P.locs ++ L ∧ B.cells = P.cells + 1 ∧ B.slots = P.slots + cs.length) := by
  obtain ⟨A, K1, K2, K3, K4, K5, K6⟩ := K
  have e : A.slots.size = cs.length := K3.trans hlen
  have hat : ∀ (i : Nat) (hi : i < cs.length), A.slots[i]? = some (.int cs[i]) := fun i hi => by rw [K5 i (by omega)]; simp [List.getD_eq_getElem?_getD, hi]
  have hcv : ∀ (i : Nat) (hi : i < cs.length), cv A i = cs[i] := fun i hi => by unfold cv; rw [hat i hi]
  have hty : Typed .char A := fun i v hv => by
    have hi : i < A.slots.size := (Array.getElem?_eq_some_iff.mp hv).1
    have q := K5 i hi
    rw [hv] at q
    rw [Option.some.inj q]
    exact K6 i hi
  refine Back.mono (back hZ hw wi E V C K1 hty S hz (by omega) (by omega) (fun i hi => by rw [hcv i (by omega)]; exact hall _ (List.getElem_mem _)) hfr hlo) (fun P a hp => ⟨hp.1, hp.2.1, hp.2.2.1, by rw [e]; exact hp.2.2.2⟩) (fun P a v B hp hq => ?_)
  obtain ⟨L, ⟨q1, q2, q3, q4, q5, q6, q7, ⟨V', v1, v2, v3, v4, v5⟩, q9⟩, hl, hc, hs⟩ := hq
  refine ⟨L, ⟨q1, q2, q3, q4, q5, q6, q7, ⟨V'.cls, v3, V', v1, rfl, by rw [v4, e, hlen], K4, fun i hi => ?_, fun i hi => ?_⟩, q9⟩, hl, hc, by rw [hs, e]⟩
  · have hi' : i < cs.length := by omega
    rw [v5 i (by omega), hcv i hi']; simp [List.getD_eq_getElem?_getD, hi']
  · have hi' : i < cs.length := by omega
    simp only [List.getD_eq_getElem?_getD, List.getElem?_map, List.getElem?_eq_getElem hi', Option.map_some, Option.getD_some]
    exact fits_lo8 _
end StrChars.Road
namespace StrChars.Road
open Jvm Sem ClassFile Op Lib Jvm.Stand Jvm.Free Jvm.Free.XT
/-- WHAT COMES BACK, in the writer's own shape -/
def QV (Z : State) (x : Addr) (N : Int32) (bs : List Int32) (h : Heap) (n0 : Nat) (v : Option Value) (h' : Heap) (L : List Loc) : Prop := v = none ∧ RoadKit.Fr n0 L ∧ RoadKit.Keep h h' [x] ∧ RoadKit.Exa Z h' x ST ∧ RoadKit.Fld Z h' x ST "coder" "B" (.int 0) ∧
  ∃ (t : Addr) (kb : ClassId), n0 ≤ t ∧ h.size ≤ t ∧ ¬ t = x ∧ RoadKit.Fld Z h' x ST "value" "[B" (.ref t) ∧ RoadKit.Arv Z h' t kb .byte N (bs.map Value.int) (.int 0)
/-- **new String(chars) AT A CALL, FOR THE WRITER**: a char[] of n known ints, each 0 to 255 -/
theorem backV {p : Program} {l : Launch} {e : Env} {R : Room} {s : State} {args : Array Value} {below : List Frame} {len W : Nat} {Z : State} {a0 : Array Value} {h : Heap} (hZ : Z.Warmed39 s.vm) (hw : ∀ d ∈ words, d.before a0 Z = true) {kI : Nat} (wi : (Jvm.Cond.instantiable ST kI).before a0 Z = true)
    {x b : Addr} {kC : ClassId} {cs bs : List Int32} {d v0 c0 : Value} {z N : Int32} {n n0 : Nat} (hx0 : n0 ≤ x) (hh0 : n0 ≤ h.size) (E : RoadKit.Exa Z h x ST) (V : RoadKit.Fld Z h x ST "value" "[B" v0) (C : RoadKit.Fld Z h x ST "coder" "B" c0) (K : RoadKit.Arv Z h b kC .char N (cs.map Value.int) d) (S : RoadKit.Sta Z h ST "COMPACT_STRINGS" "Z" (.int z)) (hz : ¬ z = 0)
    (hn : cs.length = n) (hN : N = Int32.ofNat n) (l0 : 0 < n) (l2 : n ≤ 4000) (hp : ∀ c ∈ cs, ¬ c < 0 ∧ ¬ (255 : Int32) < c) (hb : bs = cs.map (fun c => c.toInt8.toInt32)) (hfr : 4 ≤ R.frames) (hlo : W + 65 ≤ R.locals) :
    Back l R p e below s args (⟨"java/lang/String", "<init>", "([C)V"⟩ : MethodName) len W (fun P a => a = #[.ref x, .ref b] ∧ P.U.heap = h ∧ P.cells + 1 ≤ R.cells ∧ P.slots + n ≤ R.slots)
      (fun P _ v B => ∃ L, QV Z x N bs h n0 v B.U.heap L ∧ B.locs = P.locs ++ L ∧ B.cells = P.cells + 1 ∧ B.slots = P.slots + n) := by
  subst hn hN hb
  refine Back.mono (backArv hZ hw wi E V C K S hz (n32 (by omega)) l0 (by omega) (fun c hc => (hp c hc).2) hfr hlo) (fun P a hp => hp) (fun P a v B hp hq => ?_)
  obtain ⟨L, ⟨q1, q2, q3, q4, q5, q6, q7, ⟨kb, v1, v2⟩, q9⟩, hl, hc, hs⟩ := hq
  exact ⟨L, ⟨q1, fun y hy => by rw [q2 y hy]; exact hx0, q3, q5, q7, h.size, kb, hh0, Nat.le_refl _, Nat.ne_of_gt E.lt, q6, by rw [List.map_map]; exact v2⟩, hl, hc, hs⟩
end StrChars.Road
namespace StrChars
open Jvm Sem ClassFile Op Lib Jvm.Stand Jvm.Free.XT Jvm.Free.ALB Jvm.Free.JM Jvm.Free
open Jvm.Lib.Cold (StaticIs)
def hi8 (x : Int32) : Int32 := lo8 (x >>> ((8 : Int32) &&& 31))
/-- what StringUTF16.getChar makes of two bytes -/
def pairCh (u v : Int32) : Int32 := (((u &&& 255) <<< ((0 : Int32) &&& 31)) ||| ((v &&& 255) <<< ((8 : Int32) &&& 31))).toUInt32.toUInt16.toUInt32.toInt32
theorem lo8_and (x : Int32) : (lo8 x &&& 255).toBitVec.toNat = x.toBitVec.toNat % 256 := by
  have h : (lo8 x).toBitVec = (x.toBitVec.signExtend 8).signExtend 32 := by rw [lo8, Int8.toBitVec_toInt32, Int32.toBitVec_toInt8]
  rw [Int32.toBitVec_and, BitVec.toNat_and, h]
  have e : ((x.toBitVec.signExtend 8).signExtend 32).toNat % 256 = x.toBitVec.toNat % 256 := by
    rw [BitVec.toNat_signExtend]
    have hlt := x.toBitVec.isLt
    simp only [BitVec.toNat_setWidth, BitVec.toNat_signExtend]
    split <;> split <;> omega
  rw [← e]
  exact Nat.and_two_pow_sub_one_eq_mod _ 8
theorem pair_says {c : Int32} (h0 : ¬ c < 0) (h1 : ¬ 65535 < c) : pairCh (lo8 c) (hi8 c) = c := by
  rw [Int32.lt_iff_toInt_lt] at h0 h1
  have e0 : (0 : Int32).toInt = 0 := rfl
  have e1 : (65535 : Int32).toInt = 65535 := rfl
  have hc : c.toInt = c.toBitVec.toNat := by
    have := c.toBitVec.isLt
    have e : c.toInt = c.toBitVec.toInt := rfl
    rw [e] at h0 h1
    rw [e]
    rw [BitVec.toInt_eq_toNat_cond] at h0 h1 ⊢
    split at h0 <;> split <;> omega
  have hn : c.toBitVec.toNat < 65536 := by omega
  have a1 := lo8_and c
  have a2 : (hi8 c &&& 255).toBitVec.toNat = c.toBitVec.toNat / 256 := by
    rw [hi8, lo8_and]
    have e : ((8 : Int32) &&& 31) = 8 := by decide
    rw [e, Int32.toBitVec_shiftRight]
    have e2 : ((8 : Int32).toBitVec.smod 32) = 8#32 := by decide
    rw [e2, BitVec.sshiftRight_eq', BitVec.toNat_sshiftRight_of_msb_false (by rw [BitVec.msb_eq_false_iff_two_mul_lt]; omega)]
    show c.toBitVec.toNat >>> 8 % 256 = _
    rw [Nat.shiftRight_eq_div_pow]
    omega
  unfold pairCh
  apply Int32.toBitVec_inj.mp
  apply BitVec.eq_of_toNat_eq
  have f0 : ((0 : Int32) &&& 31) = 0 := by decide
  have f8 : ((8 : Int32) &&& 31) = 8 := by decide
  rw [f0, f8]
  have g : (((lo8 c &&& 255) <<< (0 : Int32)) ||| ((hi8 c &&& 255) <<< (8 : Int32))).toBitVec.toNat = c.toBitVec.toNat := by
    rw [Int32.toBitVec_or, Int32.toBitVec_shiftLeft, Int32.toBitVec_shiftLeft]
    have s0 : ((0 : Int32).toBitVec.smod 32) = 0#32 := by decide
    have s8 : ((8 : Int32).toBitVec.smod 32) = 8#32 := by decide
    rw [s0, s8, BitVec.toNat_or]
    simp only [BitVec.shiftLeft_eq', BitVec.toNat_shiftLeft, a1, a2]
    show (c.toBitVec.toNat % 256) <<< 0 % 2 ^ 32 ||| (c.toBitVec.toNat / 256) <<< 8 % 2 ^ 32 = _
    rw [Nat.shiftLeft_zero, Nat.mod_eq_of_lt (show c.toBitVec.toNat % 256 < 2 ^ 32 by omega), Nat.mod_eq_of_lt (show (c.toBitVec.toNat / 256) <<< 8 < 2 ^ 32 by rw [Nat.shiftLeft_eq]; omega), Nat.or_comm, ← Nat.shiftLeft_add_eq_or_of_lt (by omega), Nat.shiftLeft_eq]
    omega
  show BitVec.toNat (((((lo8 c &&& 255) <<< (0 : Int32)) ||| ((hi8 c &&& 255) <<< (8 : Int32))).toBitVec.setWidth 16).setWidth 32) = _
  rw [BitVec.toNat_setWidth, BitVec.toNat_setWidth, g]
  omega
end StrChars
namespace StrChars
open Jvm Sem ClassFile Op Lib Jvm.Stand Jvm.Free.XT Jvm.Free.ALB Jvm.Free.JM Jvm.Free
open Jvm.Lib.Cold (StaticIs)
/-- the array's cell V codes the n chars f 0 .. f (n - 1) by the coder cd, as the JDK does: coder 1 just where some char is above 255 -/
def Cod (cd : Int32) (n : Nat) (f : Nat → Int32) (V : Cell) : Prop := (cd = 0 ∧ V.slots.size = n ∧ ∀ j, j < n → V.slots[j]? = some (.int (lo8 (f j))) ∧ ¬ 255 < f j) ∨ (cd = 1 ∧ V.slots.size = 2 * n ∧ (∀ j, j < n → V.slots[2 * j]? = some (.int (lo8 (f j))) ∧ V.slots[2 * j + 1]? = some (.int (hi8 (f j)))) ∧ ∃ j, j < n ∧ 255 < f j)
/-- **x is a String of the n chars f 0 .. f (n - 1)**, Latin-1 or UTF-16; its array at t has the cell V -/
def Txt (x t : Addr) (V : Cell) (cd : Int32) (n : Nat) (f : Nat → Int32) (U : State) : Prop := Exact "java/lang/String" x U ∧ Has x "java/lang/String" "value" "[B" (.ref t) U ∧ Has x "java/lang/String" "coder" "B" (.int cd) U ∧ XT.Arr .byte t V U ∧ Cod cd n f V ∧ ∀ j, j < n → ¬ f j < 0 ∧ ¬ 65535 < f j
theorem Txt.mv {x t : Addr} {V : Cell} {cd : Int32} {n : Nat} {f : Nat → Int32} {U U' : State} (h : Txt x t V cd n f U) (hal : U.vm.Alike U'.vm) (hh : U'.heap = U.heap) : Txt x t V cd n f U' := ⟨h.1.mv hal hh, h.2.1.mv hal hh, h.2.2.1.mv hal hh, h.2.2.2.1.mv hal hh, h.2.2.2.2⟩
end StrChars
namespace StrChars.Road
open Jvm Sem ClassFile Op Lib Jvm.Stand Jvm.Free Jvm.Free.XT
open Jvm.Lib.Cold (StaticIs)
theorem consq {a : Array Value} {s : State} {c : Jvm.Cond} {L : List Jvm.Cond} (h0 : c.before a s = true) (h : ∀ w ∈ L, w.before a s = true) : ∀ w ∈ c :: L, w.before a s = true := fun w hw => (List.mem_cons.mp hw).elim (fun e => e ▸ h0) (h w)
/-- the bytes of the chars cs, low before high -/
def wideBytes : List Int32 → List Value
  | [] => []
  | c :: cs => .int (lo8 c) :: .int (hi8 c) :: wideBytes cs
theorem wide_lo (d : Value) : ∀ (cs : List Int32) (j : Nat), j < cs.length → (wideBytes cs).getD (2 * j) d = .int (lo8 (cs.getD j 0))
  | [], j, h => absurd h (Nat.not_lt_zero j)
  | c :: cs, 0, _ => rfl
  | c :: cs, j + 1, h => by
    have q := wide_lo d cs j (by simpa using h)
    rw [show 2 * (j + 1) = 2 * j + 1 + 1 from by omega]
    simpa [wideBytes] using q
theorem wide_hi (d : Value) : ∀ (cs : List Int32) (j : Nat), j < cs.length → (wideBytes cs).getD (2 * j + 1) d = .int (hi8 (cs.getD j 0))
  | [], j, h => absurd h (Nat.not_lt_zero j)
  | c :: cs, 0, _ => rfl
  | c :: cs, j + 1, h => by
    have q := wide_hi d cs j (by simpa using h)
    rw [show 2 * (j + 1) + 1 = 2 * j + 1 + 1 + 1 from by omega]
    simpa [wideBytes] using q
theorem low_at (d : Value) (cs : List Int32) (j : Nat) (h : j < cs.length) : (cs.map fun c => Value.int (lo8 c)).getD j d = .int (lo8 (cs.getD j 0)) := by
  simp [List.getD_eq_getElem?_getD, h]
/-- an array of N2 bytes vs codes the chars cs by the coder cd -/
def CodA (cs : List Int32) (cd N2 : Int32) (vs : List Value) : Prop := (cd = 0 ∧ N2 = Int32.ofNat cs.length ∧ vs = (cs.map fun c => Value.int (lo8 c)) ∧ ∀ c ∈ cs, ¬ 255 < c) ∨ (cd = 1 ∧ N2 = Int32.ofNat (2 * cs.length) ∧ vs = wideBytes cs ∧ ∃ c ∈ cs, 255 < c)
theorem CodA.cod {cs : List Int32} {cd N2 : Int32} {vs : List Value} {V : Cell} (h : CodA cs cd N2 vs) (hn : 2 * cs.length < 2 ^ 31) (hs : V.slots.size = N2.toNatClampNeg) (hv : RoadKit.Has V vs (.int 0)) : Cod cd cs.length (fun j => cs.getD j 0) V := by
  rcases h with ⟨rfl, rfl, rfl, h⟩ | ⟨rfl, rfl, rfl, c, hc, hw⟩
  · rw [n32 (by omega)] at hs
    exact Or.inl ⟨rfl, hs, fun j hj => ⟨by rw [hv j (by omega), low_at _ _ _ hj], by
      have e : cs.getD j 0 = cs[j] := by simp [List.getD_eq_getElem?_getD, hj]
      show ¬ 255 < cs.getD j 0
      rw [e]; exact h _ (List.getElem_mem _)⟩⟩
  · rw [n32 (by omega)] at hs
    obtain ⟨j, hj, rfl⟩ := List.getElem_of_mem hc
    exact Or.inr ⟨rfl, hs, fun j hj => ⟨by rw [hv _ (by omega), wide_lo _ _ _ hj], by rw [hv _ (by omega), wide_hi _ _ _ hj]⟩, j, hj, by
      have e : cs.getD j 0 = cs[j] := by simp [List.getD_eq_getElem?_getD, hj]
      show 255 < cs.getD j 0
      rw [e]; exact hw⟩
/-- an object of exactly java/lang/String, its two fields found: as the laws ask it -/
theorem strObj {Z U : State} {a0 : Array Value} {kI : Nat} (wi : (Jvm.Cond.instantiable ST kI).before a0 Z = true) (al : Z.vm.Alike U.vm) {x : Addr} {v0 c0 : Value} (E : RoadKit.Exa Z U.heap x ST) (V : RoadKit.Fld Z U.heap x ST "value" "[B" v0) (C : RoadKit.Fld Z U.heap x ST "coder" "B" c0) :
    ∃ (D : Cell) (fV fC : Field), Blank ST x D U ∧ Found ST "value" "[B" fV U ∧ Found ST "coder" "B" fC U ∧ D.slots[fV.slot]? = some v0 ∧ D.slots[fC.slot]? = some c0 ∧ RoadKit.slotOf Z ST "value" "[B" = fV.slot ∧ RoadKit.slotOf Z ST "coder" "B" = fC.slot := by
  obtain ⟨D, cfV, kV, iV, fV, hD, gV, stV, knV, obV, asV, slV⟩ := V
  obtain ⟨D', cfC, kC, iC, fC, hD', gC, stC, -, -, asC, slC⟩ := C
  cases hD.symm.trans hD'
  obtain ⟨D2, kD, e1, e2, e3, e4, e5⟩ := E
  cases hD.symm.trans e1
  obtain ⟨c2, k2, i1, i2, i3, -⟩ := Cond.instantiable_spec wi
  cases e2.symm.trans i1
  cases e3.symm.trans i2
  obtain ⟨kU, u1, u2⟩ := al.2.2 _ _ e3
  exact ⟨D, fV, fC, ⟨hD, ⟨knV, fun q hq => by rw [hq] at obV; cases obV⟩, by rw [al.findClass]; exact e2, kU, u1, by rw [u2]; exact i3, by rw [u2]; exact e5 i3⟩, ⟨SBG.found_only al ⟨cfV, kV, iV, gV⟩, stV⟩, ⟨SBG.found_only al ⟨cfC, kC, iC, gC⟩, stC⟩, slV, slC, by simp [RoadKit.slotOf, gV], by simp [RoadKit.slotOf, gC]⟩
theorem sta_is {Z U : State} (al : Z.vm.Alike U.vm) {C n d : String} {v : Value} (S : RoadKit.Sta Z U.heap C n d v) : StaticIs U C n d v := by
  obtain ⟨cfS, iS, kS, fS, st, cS, t1, t2, t3, t4, t5, t6, t7⟩ := S
  exact StaticIs.there (s := { Z with heap := U.heap }) ⟨cfS, iS, kS, fS, st, cS, t1, t2, t3, t4, t5, (fun q => by rw [q] at t6; cases t6), t7⟩ al rfl
end StrChars.Road
namespace StrChars
open Jvm Sem ClassFile Op Lib Jvm.Stand Jvm.Free.XT Jvm.Free.ALB Jvm.Free.JM Jvm.Free
open Jvm.Lib.Cold (StaticIs)
/-- what place i of a byte[]'s cell holds -/
def yv (A : Cell) (i : Nat) : Int32 := match A.slots[i]? with | some (.int x) => x | _ => 0
theorem yv_get {a : Addr} {A : Cell} {U : State} (h : XT.Arr .byte a A U) (ht : Typed .byte A) {i : Nat} (hi : i < A.slots.size) : A.slots[i]? = some (.int (yv A i)) := by
  have e := Array.getElem?_eq_getElem hi
  have f := ht i _ e
  unfold yv; rw [e]
  generalize A.slots[i] = v at f
  cases v <;> simp [fits] at f ⊢
/-- the two arrays are equal, place for place -/
def EqC (A B : Cell) : Prop := A.slots.size = B.slots.size ∧ ∀ i, i < A.slots.size → yv A i = yv B i
/-- a boolean that says whether p -/
def Says01 (q : Prop) (r : Option Value) (s u : State) : Prop := ∃ v : Int32, r = some (.int v) ∧ u.heap = s.heap ∧ ((v = 1 ∧ q) ∨ (v = 0 ∧ ¬ q))
theorem Says01.mv {q : Prop} : ∀ r (U U' V V' : State), U'.heap = U.heap → V.vm.Alike V'.vm → V'.heap = V.heap → Says01 q r U V → Says01 q r U' V' :=
  fun r U U' V V' h1 _ h2 ⟨v, a, b, c⟩ => ⟨v, a, by rw [h1, h2]; exact b, c⟩
namespace LEq
def yN : MethodName := ⟨"java/lang/StringLatin1", "equals", "([B[B)Z"⟩
abbrev yB : ByteArray := jdk_43_method_13_code
theorem d0 : decode yB 0 = .ok (.aload_n 0, 1) := by decide +kernel
theorem d1 : decode yB 1 = .ok (.arraylength, 1) := by decide +kernel
theorem d2 : decode yB 2 = .ok (.aload_n 1, 1) := by decide +kernel
theorem d3 : decode yB 3 = .ok (.arraylength, 1) := by decide +kernel
theorem d4 : decode yB 4 = .ok (.if_icmp (.ne) 30, 3) := by decide +kernel
theorem d7 : decode yB 7 = .ok (.iconst 0, 1) := by decide +kernel
theorem d8 : decode yB 8 = .ok (.istore_n 2, 1) := by decide +kernel
theorem d9 : decode yB 9 = .ok (.iload_n 2, 1) := by decide +kernel
theorem d10 : decode yB 10 = .ok (.aload_n 0, 1) := by decide +kernel
theorem d11 : decode yB 11 = .ok (.arraylength, 1) := by decide +kernel
theorem d12 : decode yB 12 = .ok (.if_icmp (.ge) 20, 3) := by decide +kernel
theorem d15 : decode yB 15 = .ok (.aload_n 0, 1) := by decide +kernel
theorem d16 : decode yB 16 = .ok (.iload_n 2, 1) := by decide +kernel
theorem d17 : decode yB 17 = .ok (.baload, 1) := by decide +kernel
theorem d18 : decode yB 18 = .ok (.aload_n 1, 1) := by decide +kernel
theorem d19 : decode yB 19 = .ok (.iload_n 2, 1) := by decide +kernel
theorem d20 : decode yB 20 = .ok (.baload, 1) := by decide +kernel
theorem d21 : decode yB 21 = .ok (.if_icmp (.eq) 5, 3) := by decide +kernel
theorem d24 : decode yB 24 = .ok (.iconst 0, 1) := by decide +kernel
theorem d25 : decode yB 25 = .ok (.ireturn, 1) := by decide +kernel
theorem d26 : decode yB 26 = .ok (.iinc 2 1, 3) := by decide +kernel
theorem d29 : decode yB 29 = .ok (.goto (-20), 3) := by decide +kernel
theorem d32 : decode yB 32 = .ok (.iconst 1, 1) := by decide +kernel
theorem d33 : decode yB 33 = .ok (.ireturn, 1) := by decide +kernel
theorem d34 : decode yB 34 = .ok (.iconst 0, 1) := by decide +kernel
theorem d35 : decode yB 35 = .ok (.ireturn, 1) := by decide +kernel
def site : List Cond := []
def tab : Cond := tabOf yN yB 3 (some .boolean) site
def P (a : Addr) (A : Cell) (b : Addr) (B : Cell) (args : Array Value) (s : State) : Prop := args = #[.ref a, .ref b] ∧ XT.Arr .byte a A s ∧ Typed .byte A ∧ XT.Arr .byte b B s ∧ Typed .byte B
/-- whether two byte[] are equal, place for place -/
theorem law (l : Launch) (a : Addr) (A : Cell) (b : Addr) (B : Cell) : Law l yN 2 2 0 0 yB 3 (some .boolean) site (P a A b B) (Says01 (EqC A B)) [] 0 0 := by
  refine Law.of_walk (plainFor_of_name (by decide +kernel)) (by decide +kernel) (by decide +kernel) (by decide) (fun _ _ h => by rw [h.1]; rfl) (fun _ U U' hal hh h => ⟨h.1, h.2.1.mv hal hh, h.2.2.1, h.2.2.2.1.mv hal hh, h.2.2.2.2⟩) (fun r U U' V V' h1 hal h2 h => Says01.mv r U U' V V' h1 hal h2 h) ?_
  intro p e s m args below meth c s₁ X0 hexec hbytes hml hret hlk hnm hown hh0 W hP
  obtain ⟨rfl, hA, tA, hB, tB⟩ := hP
  have a31 := hA.2.2.2
  have b31 := hB.2.2.2
  have hA0 := hA.mv X0.warmed.alike hh0
  have hB0 := hB.mv X0.warmed.alike hh0
  have c1 : Steps p.tables e below (s₁.setTop (entryFrame m #[.ref a, .ref b] 3)) (s₁.setTop (mkF m 0 #[.val (.ref a), .val (.ref b), .unset] [])) := entry rfl
  have c2 : Steps p.tables e below (s₁.setTop (entryFrame m #[.ref a, .ref b] 3)) (s₁.setTop (mkF m 4 #[.val (.ref a), .val (.ref b), .unset] [.int (Int32.ofNat B.slots.size), .int (Int32.ofNat A.slots.size)])) := c1.trans (by
    refine XS.aloadN X0.here hexec rfl (hb hbytes d0) rfl rfl ?_
    refine X0.alen hexec hA0 rfl rfl (hb hbytes d1) ?_
    refine XS.aloadN X0.here hexec rfl (hb hbytes d2) rfl rfl ?_
    refine X0.alen hexec hB0 rfl rfl (hb hbytes d3) ?_
    exact Steps.refl _)
  by_cases hs : A.slots.size = B.slots.size
  · have c3 : Steps p.tables e below (s₁.setTop (entryFrame m #[.ref a, .ref b] 3)) (s₁.setTop (mkF m 9 #[.val (.ref a), .val (.ref b), .val (.int 0)] [])) := c2.trans (by
      refine XS.icmpNo X0.here hexec rfl (hb hbytes d4) rfl (ii_ne_f (by rw [hs])) ?_
      refine iconstV X0.here hexec rfl 0 (hb hbytes d7) (by decide) ?_
      refine XS.istoreN X0.here hexec rfl (hb hbytes d8) rfl rfl ?_
      exact Steps.refl _)
    have loop : ∀ (r i : Nat), i + r = A.slots.size → (∀ j, j < i → yv A j = yv B j) → Steps p.tables e below (s₁.setTop (entryFrame m #[.ref a, .ref b] 3)) (s₁.setTop (mkF m 9 #[.val (.ref a), .val (.ref b), .val (.int (Int32.ofNat i))] [])) → ∃ (pc : Nat) (Ls : Array Slot) (v : Int32), (pc = 25 ∨ pc = 33) ∧ ((v = 1 ∧ EqC A B) ∨ (v = 0 ∧ ¬ EqC A B)) ∧ Steps p.tables e below (s₁.setTop (entryFrame m #[.ref a, .ref b] 3)) (s₁.setTop (mkF m pc Ls [.int v])) := by
      intro r
      induction r with
      | zero =>
        intro i hi he cl
        exact ⟨33, _, 1, Or.inr rfl, Or.inl ⟨rfl, hs, fun j hj => he j (by omega)⟩, cl.trans (by
          refine XS.iloadN X0.here hexec rfl (hb hbytes d9) rfl ?_
          refine XS.aloadN X0.here hexec rfl (hb hbytes d10) rfl rfl ?_
          refine X0.alen hexec hA0 rfl rfl (hb hbytes d11) ?_
          refine XS.icmpYes X0.here hexec rfl (pc0 := 12) rfl (hb hbytes d12) rfl (ii_ge_t (nlt32 (by omega) (by omega))) (by decide) rfl ?_
          refine iconstV X0.here hexec rfl 1 (hb hbytes d32) (by decide) ?_
          exact Steps.refl _)⟩
      | succ r ih =>
        intro i hi he cl
        have c4 : Steps p.tables e below (s₁.setTop (entryFrame m #[.ref a, .ref b] 3)) (s₁.setTop (mkF m 21 #[.val (.ref a), .val (.ref b), .val (.int (Int32.ofNat i))] [.int (yv B i), .int (yv A i)])) := cl.trans (by
          refine XS.iloadN X0.here hexec rfl (hb hbytes d9) rfl ?_
          refine XS.aloadN X0.here hexec rfl (hb hbytes d10) rfl rfl ?_
          refine X0.alen hexec hA0 rfl rfl (hb hbytes d11) ?_
          refine XS.icmpNo X0.here hexec rfl (hb hbytes d12) rfl (ii_ge_f (lt32 (by omega) (by omega))) ?_
          refine XS.aloadN X0.here hexec rfl (hb hbytes d15) rfl rfl ?_
          refine XS.iloadN X0.here hexec rfl (hb hbytes d16) rfl ?_
          refine X0.aget hexec hA0 rfl (yv_get hA tA (i := i) (by omega)) rfl rfl (hb hbytes d17) ?_
          refine XS.aloadN X0.here hexec rfl (hb hbytes d18) rfl rfl ?_
          refine XS.iloadN X0.here hexec rfl (hb hbytes d19) rfl ?_
          refine X0.aget hexec hB0 rfl (yv_get hB tB (i := i) (by omega)) rfl rfl (hb hbytes d20) ?_
          exact Steps.refl _)
        by_cases hv : yv A i = yv B i
        · have c5 : Steps p.tables e below (s₁.setTop (entryFrame m #[.ref a, .ref b] 3)) (s₁.setTop (mkF m 9 #[.val (.ref a), .val (.ref b), .val (.int (Int32.ofNat i + 1))] [])) := c4.trans (by
            refine XS.icmpYes X0.here hexec rfl (pc0 := 21) rfl (hb hbytes d21) rfl (ii_eq_t hv) (by decide) rfl ?_
            refine iincV X0.here hexec rfl 1 (hb hbytes d26) (by decide) rfl rfl ?_
            refine XS.goto X0.here hexec rfl (pc0 := 29) rfl (hb hbytes d29) (by decide) rfl ?_
            exact Steps.refl _)
          rw [succ32] at c5
          exact ih (i + 1) (by omega) (fun j hj => by
            by_cases e : j = i
            · rw [e]; exact hv
            · exact he j (by omega)) c5
        · exact ⟨25, _, 0, Or.inl rfl, Or.inr ⟨rfl, fun q => hv (q.2 i (by omega))⟩, c4.trans (by
            refine XS.icmpNo X0.here hexec rfl (hb hbytes d21) rfl (ii_eq_f hv) ?_
            refine iconstV X0.here hexec rfl 0 (hb hbytes d24) (by decide) ?_
            exact Steps.refl _)⟩
    obtain ⟨pc, Ls, v, hpc, hv, cz⟩ := loop A.slots.size 0 (by omega) (fun j hj => absurd hj (Nat.not_lt_zero j)) c3
    have nv : narrow .boolean (.int v) = .int v := by rcases hv with ⟨rfl, -⟩ | ⟨rfl, -⟩ <;> rfl
    rcases hpc with rfl | rfl
    · exact ⟨s₁, some (.int v), _, _, _, X0, rfl, rfl, rfl, (fun h => by cases h), ⟨v, rfl, hh0, hv⟩, fun fs hl => cz.trans (X0.ireturnOut hexec hret nv (Or.inr (Or.inl rfl)) (hb hbytes d25) hl)⟩
    · exact ⟨s₁, some (.int v), _, _, _, X0, rfl, rfl, rfl, (fun h => by cases h), ⟨v, rfl, hh0, hv⟩, fun fs hl => cz.trans (X0.ireturnOut hexec hret nv (Or.inr (Or.inl rfl)) (hb hbytes d33) hl)⟩
  · have c3 : Steps p.tables e below (s₁.setTop (entryFrame m #[.ref a, .ref b] 3)) (s₁.setTop (mkF m 35 #[.val (.ref a), .val (.ref b), .unset] [.int 0])) := c2.trans (by
      refine XS.icmpYes X0.here hexec rfl (pc0 := 4) rfl (hb hbytes d4) rfl (ii_ne_t (ne32 a31 b31 hs)) (by decide) rfl ?_
      refine iconstV X0.here hexec rfl 0 (hb hbytes d34) (by decide) ?_
      exact Steps.refl _)
    exact ⟨s₁, some (.int 0), _, _, _, X0, rfl, rfl, rfl, (fun h => by cases h), ⟨0, rfl, hh0, Or.inr ⟨rfl, fun q => hs q.1⟩⟩, fun fs hl => c3.trans (X0.ireturnOut hexec hret rfl (Or.inr (Or.inl rfl)) (hb hbytes d35) hl)⟩
end LEq
theorem Cod.ty {cd : Int32} {n : Nat} {f : Nat → Int32} {V : Cell} (h : Cod cd n f V) : Typed .byte V := fun i v hv => by
  have hi : i < V.slots.size := (Array.getElem?_eq_some_iff.mp hv).1
  rcases h with ⟨-, k1, k2⟩ | ⟨-, k1, k2, -⟩
  · rw [(k2 i (by omega)).1] at hv; cases hv; exact fits_lo8 _
  · rcases Nat.mod_two_eq_zero_or_one i with e | e
    · obtain ⟨j, rfl⟩ : ∃ j, i = 2 * j := ⟨i / 2, by omega⟩
      rw [(k2 j (by omega)).1] at hv; cases hv; exact fits_lo8 _
    · obtain ⟨j, rfl⟩ : ∃ j, i = 2 * j + 1 := ⟨i / 2, by omega⟩
      rw [(k2 j (by omega)).2] at hv; cases hv; exact fits_lo8 _
/-- the same text -/
def SameT (n : Nat) (f : Nat → Int32) (k : Nat) (g : Nat → Int32) : Prop := n = k ∧ ∀ j, j < n → f j = g j
theorem lo8_inj {x y : Int32} (h0 : ¬ x < 0) (h1 : ¬ 255 < x) (k0 : ¬ y < 0) (k1 : ¬ 255 < y) (h : lo8 x = lo8 y) : x = y := by
  rw [← lo8_mask h0 h1, ← lo8_mask k0 k1, h]
/-- arrays coded by one coder are equal just where the texts are -/
theorem Cod.eqv {cd : Int32} {n k : Nat} {f g : Nat → Int32} {V V' : Cell} (h : Cod cd n f V) (h' : Cod cd k g V') (hf : ∀ j, j < n → ¬ f j < 0 ∧ ¬ 65535 < f j) (hg : ∀ j, j < k → ¬ g j < 0 ∧ ¬ 65535 < g j) : EqC V V' ↔ SameT n f k g := by
  have yvv : ∀ {W : Cell} {i : Nat} {x : Int32}, W.slots[i]? = some (.int x) → yv W i = x := fun q => by unfold yv; rw [q]
  rcases h with ⟨rfl, k1, k2⟩ | ⟨rfl, k1, k2, -⟩
  · rcases h' with ⟨-, m1, m2⟩ | ⟨e, -⟩
    · constructor
      · rintro ⟨e1, e2⟩
        refine ⟨by omega, fun j hj => ?_⟩
        have q := e2 j (by omega)
        rw [yvv (k2 j hj).1, yvv (m2 j (by omega)).1] at q
        exact lo8_inj (hf j hj).1 (k2 j hj).2 (hg j (by omega)).1 (m2 j (by omega)).2 q
      · rintro ⟨rfl, e2⟩
        refine ⟨by omega, fun j hj => ?_⟩
        rw [yvv (k2 j (by omega)).1, yvv (m2 j (by omega)).1, e2 j (by omega)]
    · exact absurd e (by decide)
  · rcases h' with ⟨e, -⟩ | ⟨-, m1, m2, -⟩
    · exact absurd e (by decide)
    · constructor
      · rintro ⟨e1, e2⟩
        refine ⟨by omega, fun j hj => ?_⟩
        have q1 := e2 (2 * j) (by omega)
        have q2 := e2 (2 * j + 1) (by omega)
        rw [yvv (k2 j hj).1, yvv (m2 j (by omega)).1] at q1
        rw [yvv (k2 j hj).2, yvv (m2 j (by omega)).2] at q2
        rw [← pair_says (hf j hj).1 (hf j hj).2, ← pair_says (hg j (by omega)).1 (hg j (by omega)).2, q1, q2]
      · rintro ⟨rfl, e2⟩
        refine ⟨by omega, fun i hi => ?_⟩
        rcases Nat.mod_two_eq_zero_or_one i with e | e
        · obtain ⟨j, rfl⟩ : ∃ j, i = 2 * j := ⟨i / 2, by omega⟩
          rw [yvv (k2 j (by omega)).1, yvv (m2 j (by omega)).1, e2 j (by omega)]
        · obtain ⟨j, rfl⟩ : ∃ j, i = 2 * j + 1 := ⟨i / 2, by omega⟩
          rw [yvv (k2 j (by omega)).2, yvv (m2 j (by omega)).2, e2 j (by omega)]
/-- two codings differ: so do the texts -/
theorem Cod.dif {cd cd' : Int32} {n k : Nat} {f g : Nat → Int32} {V V' : Cell} (h : Cod cd n f V) (h' : Cod cd' k g V') (hne : ¬ cd = cd') : ¬ SameT n f k g := by
  rintro ⟨rfl, e⟩
  rcases h with ⟨rfl, -, k2⟩ | ⟨rfl, -, -, j, hj, hw⟩
  · rcases h' with ⟨rfl, -⟩ | ⟨-, -, -, j, hj, hw⟩
    · exact hne rfl
    · exact (k2 j hj).2 (by rw [e j hj]; exact hw)
  · rcases h' with ⟨-, -, m2⟩ | ⟨rfl, -⟩
    · exact (m2 j hj).2 (by rw [← e j hj]; exact hw)
    · exact hne rfl
/-- an object of exactly C is an instance of C -/
theorem cinst {p : Program} {l : Launch} {e : Env} {R : Room} {s : State} {m : MethodId} {args : Array Value} {below : List Frame} {meth : Method} {c : Code} {T : State} {locs : List Loc} {cells slots : Nat} (X : Stand p l e R s m args below meth c T locs cells slots) (hexec : p.tables.exec = Jvm.exec) {own C : String} {index : Nat} (hown : s.vm.findClass own = some m.cls) (hlink : (Cond.classLink own index C).before args s = true) {a : Addr} (hE : Exact C a T)
    {g : JFrame} (hg : g.method = m) {rest : List Value} (hstack : g.stack = .ref a :: rest) (hdg : decode c.code g.pc = .ok (.instanceof index, 3)) :
    ∃ T', Stand p l e R s m args below meth c T' locs cells slots ∧ T'.heap = T.heap ∧ ∀ target, Steps p.tables e below (T'.setTop { g with pc := g.pc + 3, stack := .int 1 :: rest }) target → Steps p.tables e below (T.setTop g) target := by
  obtain ⟨cB, h1, D, h2, h3, h4⟩ := hE
  have h1' : s.vm.findClass C = some cB := by rw [← X.warmed.alike.findClass]; exact h1
  obtain ⟨vm', X', st⟩ := X.instanceofYes hexec hown hlink h2 h4 h1' (by rw [h3]; exact Jvm.Free.SB.assignable_self _ _) hg hstack hdg
  exact ⟨_, X', rfl, st⟩
theorem cself {p : Program} {l : Launch} {e : Env} {R : Room} {s : State} {m : MethodId} {args : Array Value} {below : List Frame} {meth : Method} {c : Code} {T : State} {locs : List Loc} {cells slots : Nat} (X : Stand p l e R s m args below meth c T locs cells slots) (hexec : p.tables.exec = Jvm.exec) {own C : String} {index : Nat} (hown : s.vm.findClass own = some m.cls) (hlink : (Cond.classLink own index C).before args s = true) {a : Addr} (hE : Exact C a T)
    {g : JFrame} (hg : g.method = m) {rest : List Value} (hstack : g.stack = .ref a :: rest) (hdg : decode c.code g.pc = .ok (.checkcast index, 3)) :
    ∃ T', Stand p l e R s m args below meth c T' locs cells slots ∧ T'.heap = T.heap ∧ ∀ target, Steps p.tables e below (T'.setTop { g with pc := g.pc + 3, stack := .ref a :: rest }) target → Steps p.tables e below (T.setTop g) target := by
  obtain ⟨cB, h1, D, h2, h3, h4⟩ := hE
  have h1' : s.vm.findClass C = some cB := by rw [← X.warmed.alike.findClass]; exact h1
  obtain ⟨vm', X', st⟩ := X.checkcastYes hexec hown hlink h2 h4 h1' (by rw [h3]; exact Jvm.Free.SB.assignable_self _ _) hg hstack hdg
  exact ⟨_, X', rfl, fun t h => st t (by rw [← hstack] at h; exact h)⟩
namespace SEq
def yN : MethodName := ⟨"java/lang/String", "equals", "(Ljava/lang/Object;)Z"⟩
abbrev yB : ByteArray := jdk_42_method_66_code
theorem d0 : decode yB 0 = .ok (.aload_n 0, 1) := by decide +kernel
theorem d1 : decode yB 1 = .ok (.aload_n 1, 1) := by decide +kernel
theorem d2 : decode yB 2 = .ok (.if_acmp (.ne) 5, 3) := by decide +kernel
theorem d5 : decode yB 5 = .ok (.iconst 1, 1) := by decide +kernel
theorem d6 : decode yB 6 = .ok (.ireturn, 1) := by decide +kernel
theorem d7 : decode yB 7 = .ok (.aload_n 1, 1) := by decide +kernel
theorem d8 : decode yB 8 = .ok (.instanceof 10, 3) := by decide +kernel
theorem d11 : decode yB 11 = .ok (.ifCond (.eq) 43, 3) := by decide +kernel
theorem d14 : decode yB 14 = .ok (.aload_n 1, 1) := by decide +kernel
theorem d15 : decode yB 15 = .ok (.checkcast 10, 3) := by decide +kernel
theorem d18 : decode yB 18 = .ok (.astore_n 2, 1) := by decide +kernel
theorem d19 : decode yB 19 = .ok (.getstatic 38, 3) := by decide +kernel
theorem d22 : decode yB 22 = .ok (.ifCond (.eq) 14, 3) := by decide +kernel
theorem d25 : decode yB 25 = .ok (.aload_n 0, 1) := by decide +kernel
theorem d26 : decode yB 26 = .ok (.getfield 15, 3) := by decide +kernel
theorem d29 : decode yB 29 = .ok (.aload_n 2, 1) := by decide +kernel
theorem d30 : decode yB 30 = .ok (.getfield 15, 3) := by decide +kernel
theorem d33 : decode yB 33 = .ok (.if_icmp (.ne) 21, 3) := by decide +kernel
theorem d36 : decode yB 36 = .ok (.aload_n 0, 1) := by decide +kernel
theorem d37 : decode yB 37 = .ok (.getfield 9, 3) := by decide +kernel
theorem d40 : decode yB 40 = .ok (.aload_n 2, 1) := by decide +kernel
theorem d41 : decode yB 41 = .ok (.getfield 9, 3) := by decide +kernel
theorem d44 : decode yB 44 = .ok (.invokestatic 541, 3) := by decide +kernel
theorem d47 : decode yB 47 = .ok (.ifCond (.eq) 7, 3) := by decide +kernel
theorem d50 : decode yB 50 = .ok (.iconst 1, 1) := by decide +kernel
theorem d51 : decode yB 51 = .ok (.goto 4, 3) := by decide +kernel
theorem d54 : decode yB 54 = .ok (.iconst 0, 1) := by decide +kernel
theorem d55 : decode yB 55 = .ok (.ireturn, 1) := by decide +kernel
def site : List Cond := [.classLink "java/lang/String" 10 "java/lang/String", .fieldLink "java/lang/String" 38 "java/lang/String" "COMPACT_STRINGS" "Z", .fieldLink "java/lang/String" 15 "java/lang/String" "coder" "B", .fieldLink "java/lang/String" 9 "java/lang/String" "value" "[B", LEq.tab] ++ staticW "java/lang/String" 541 LEq.yN
def tab : Cond := tabOf yN yB 3 (some .boolean) site
def P (x t : Addr) (V : Cell) (cd : Int32) (n : Nat) (f : Nat → Int32) (y t' : Addr) (V' : Cell) (cd' : Int32) (k : Nat) (g : Nat → Int32) (z : Int32) (args : Array Value) (s : State) : Prop := args = #[.ref x, .ref y] ∧ Txt x t V cd n f s ∧ Txt y t' V' cd' k g s ∧ StaticIs s "java/lang/String" "COMPACT_STRINGS" "Z" (.int z) ∧ ¬ z = 0
/-- equals(Object) of two Strings: whether the texts are the same -/
theorem law (l : Launch) (x t : Addr) (V : Cell) (cd : Int32) (n : Nat) (f : Nat → Int32) (y t' : Addr) (V' : Cell) (cd' : Int32) (k : Nat) (g : Nat → Int32) (z : Int32) : Law l yN 2 1 1 14 yB 3 (some .boolean) site (P x t V cd n f y t' V' cd' k g z) (Says01 (SameT n f k g)) [] 0 0 := by
  refine Law.of_walk (plainFor_of_name (by decide +kernel)) (by decide +kernel) (by decide +kernel) (by decide) (fun _ _ h => by rw [h.1]; rfl) (fun _ U U' hal hh h => ⟨h.1, h.2.1.mv hal hh, h.2.2.1.mv hal hh, h.2.2.2.1.there hal hh, h.2.2.2.2⟩) (fun r U U' V V' h1 hal h2 h => Says01.mv r U U' V V' h1 hal h2 h) ?_
  intro p e s m args below meth c s₁ X0 hexec hbytes hml hret hlk hnm hown hh0 W hP
  obtain ⟨rfl, hx, hy, s1, hz⟩ := hP
  have c1 : Steps p.tables e below (s₁.setTop (entryFrame m #[.ref x, .ref y] 3)) (s₁.setTop (mkF m 2 #[.val (.ref x), .val (.ref y), .unset] [.ref y, .ref x])) := Steps.trans (entry rfl) (by
    show Steps p.tables e below (s₁.setTop (mkF m 0 #[.val (.ref x), .val (.ref y), .unset] [])) _
    refine XS.aloadN X0.here hexec rfl (hb hbytes d0) rfl rfl ?_
    refine XS.aloadN X0.here hexec rfl (hb hbytes d1) rfl rfl ?_
    exact Steps.refl _)
  by_cases hxy : x = y
  · have c2 : Steps p.tables e below (s₁.setTop (entryFrame m #[.ref x, .ref y] 3)) (s₁.setTop (mkF m 6 #[.val (.ref x), .val (.ref y), .unset] [.int 1])) := c1.trans (by
      refine acmpNo X0.here hexec rfl (hb hbytes d2) rfl rfl rfl (by simp [acmp, hxy]) ?_
      refine iconstV X0.here hexec rfl 1 (hb hbytes d5) (by decide) ?_
      exact Steps.refl _)
    subst hxy
    have ec : cd = cd' := by
      obtain ⟨D, fd, a1, a2, a3⟩ := hx.2.2.1
      obtain ⟨D', fd', b1, b2, b3⟩ := hy.2.2.1
      cases a1.symm.trans b1
      obtain ⟨q1, q2, q3, q4⟩ := a2.1
      obtain ⟨r1, r2, r3, r4⟩ := b2.1
      cases q4.symm.trans r4
      cases a3.symm.trans b3; rfl
    have et : t = t' := by
      obtain ⟨D, fd, a1, a2, a3⟩ := hx.2.1
      obtain ⟨D', fd', b1, b2, b3⟩ := hy.2.1
      cases a1.symm.trans b1
      obtain ⟨q1, q2, q3, q4⟩ := a2.1
      obtain ⟨r1, r2, r3, r4⟩ := b2.1
      cases q4.symm.trans r4
      cases a3.symm.trans b3; rfl
    subst ec et
    have ev : V = V' := by cases hx.2.2.2.1.1.symm.trans hy.2.2.2.1.1; rfl
    subst ev
    have hs : SameT n f k g := (Cod.eqv hx.2.2.2.2.1 hy.2.2.2.2.1 hx.2.2.2.2.2 hy.2.2.2.2.2).mp ⟨rfl, fun _ _ => rfl⟩
    exact ⟨s₁, some (.int 1), _, _, _, X0, rfl, rfl, rfl, (fun h => by cases h), ⟨1, rfl, hh0, Or.inl ⟨rfl, hs⟩⟩, fun fs hl => c2.trans (X0.ireturnOut hexec hret rfl (Or.inr (Or.inl rfl)) (hb hbytes d6) hl)⟩
  · have c2 : Steps p.tables e below (s₁.setTop (entryFrame m #[.ref x, .ref y] 3)) (s₁.setTop (mkF m 8 #[.val (.ref x), .val (.ref y), .unset] [.ref y])) := c1.trans (by
      refine acmpYes X0.here hexec rfl (pc0 := 2) rfl (hb hbytes d2) rfl rfl rfl (by simp [acmp, hxy]) (by decide) rfl ?_
      refine XS.aloadN X0.here hexec rfl (hb hbytes d7) rfl rfl ?_
      exact Steps.refl _)
    obtain ⟨T3, X3, q3, st3⟩ := cinst X0 hexec hown (wk W (.classLink "java/lang/String" 10 "java/lang/String")) (hy.mv X0.warmed.alike hh0).1 (g := (mkF m 8 #[.val (.ref x), .val (.ref y), .unset] [.ref y])) rfl (rest := []) rfl (hb hbytes d8)
    have hh3 := q3.trans hh0
    have c4 : Steps p.tables e below (s₁.setTop (entryFrame m #[.ref x, .ref y] 3)) (T3.setTop (mkF m 15 #[.val (.ref x), .val (.ref y), .unset] [.ref y])) := (c2.trans (st3 _ (Steps.refl _))).trans (by
      refine XS.ifNo X3.here hexec rfl (hb hbytes d11) rfl (i0_eq_f (by decide)) ?_
      refine XS.aloadN X3.here hexec rfl (hb hbytes d14) rfl rfl ?_
      exact Steps.refl _)
    obtain ⟨T5, X5, q5, st5⟩ := cself X3 hexec hown (wk W (.classLink "java/lang/String" 10 "java/lang/String")) (hy.mv X3.warmed.alike hh3).1 (g := (mkF m 15 #[.val (.ref x), .val (.ref y), .unset] [.ref y])) rfl (rest := []) rfl (hb hbytes d15)
    have hh5 := q5.trans hh3
    have c6 : Steps p.tables e below (s₁.setTop (entryFrame m #[.ref x, .ref y] 3)) (T5.setTop (mkF m 19 #[.val (.ref x), .val (.ref y), .val (.ref y)] [])) := (c4.trans (st5 _ (Steps.refl _))).trans (by
      refine XS.astoreN X5.here hexec rfl (hb hbytes d18) rfl rfl rfl ?_
      exact Steps.refl _)
    obtain ⟨T7, X7, q7, st7⟩ := X5.sget hexec hown (wk W (.fieldLink "java/lang/String" 38 "java/lang/String" "COMPACT_STRINGS" "Z")) s1 (fun _ _ h => by rw [hh5]; exact h) (g := (mkF m 19 #[.val (.ref x), .val (.ref y), .val (.ref y)] [])) rfl (hb hbytes d19)
    have hh7 := q7.trans hh5
    have c8 : Steps p.tables e below (s₁.setTop (entryFrame m #[.ref x, .ref y] 3)) (T7.setTop (mkF m 26 #[.val (.ref x), .val (.ref y), .val (.ref y)] [.ref x])) := (c6.trans (st7 _ (Steps.refl _))).trans (by
      refine XS.ifNo X7.here hexec rfl (hb hbytes d22) rfl (i0_eq_f hz) ?_
      refine XS.aloadN X7.here hexec rfl (hb hbytes d25) rfl rfl ?_
      exact Steps.refl _)
    obtain ⟨T9, X9, q9, st9⟩ := X7.hget hexec hown (wk W (.fieldLink "java/lang/String" 15 "java/lang/String" "coder" "B")) (hx.mv X7.warmed.alike hh7).2.2.1 (g := (mkF m 26 #[.val (.ref x), .val (.ref y), .val (.ref y)] [.ref x])) rfl (rest := []) rfl (hb hbytes d26)
    have hh9 := q9.trans hh7
    have c10 : Steps p.tables e below (s₁.setTop (entryFrame m #[.ref x, .ref y] 3)) (T9.setTop (mkF m 30 #[.val (.ref x), .val (.ref y), .val (.ref y)] [.ref y, .int cd])) := (c8.trans (st9 _ (Steps.refl _))).trans (by
      refine XS.aloadN X9.here hexec rfl (hb hbytes d29) rfl rfl ?_
      exact Steps.refl _)
    obtain ⟨T11, X11, q11, st11⟩ := X9.hget hexec hown (wk W (.fieldLink "java/lang/String" 15 "java/lang/String" "coder" "B")) (hy.mv X9.warmed.alike hh9).2.2.1 (g := (mkF m 30 #[.val (.ref x), .val (.ref y), .val (.ref y)] [.ref y, .int cd])) rfl (rest := [.int cd]) rfl (hb hbytes d30)
    have hh11 := q11.trans hh9
    have c12 : Steps p.tables e below (s₁.setTop (entryFrame m #[.ref x, .ref y] 3)) (T11.setTop (mkF m 33 #[.val (.ref x), .val (.ref y), .val (.ref y)] [.int cd', .int cd])) := c10.trans (st11 _ (Steps.refl _))
    by_cases hcd : cd = cd'
    · subst hcd
      have c13 : Steps p.tables e below (s₁.setTop (entryFrame m #[.ref x, .ref y] 3)) (T11.setTop (mkF m 37 #[.val (.ref x), .val (.ref y), .val (.ref y)] [.ref x])) := c12.trans (by
        refine XS.icmpNo X11.here hexec rfl (hb hbytes d33) rfl (ii_ne_f rfl) ?_
        refine XS.aloadN X11.here hexec rfl (hb hbytes d36) rfl rfl ?_
        exact Steps.refl _)
      obtain ⟨T14, X14, q14, st14⟩ := X11.hget hexec hown (wk W (.fieldLink "java/lang/String" 9 "java/lang/String" "value" "[B")) (hx.mv X11.warmed.alike hh11).2.1 (g := (mkF m 37 #[.val (.ref x), .val (.ref y), .val (.ref y)] [.ref x])) rfl (rest := []) rfl (hb hbytes d37)
      have hh14 := q14.trans hh11
      have c15 : Steps p.tables e below (s₁.setTop (entryFrame m #[.ref x, .ref y] 3)) (T14.setTop (mkF m 41 #[.val (.ref x), .val (.ref y), .val (.ref y)] [.ref y, .ref t])) := (c13.trans (st14 _ (Steps.refl _))).trans (by
        refine XS.aloadN X14.here hexec rfl (hb hbytes d40) rfl rfl ?_
        exact Steps.refl _)
      obtain ⟨T16, X16, q16, st16⟩ := X14.hget hexec hown (wk W (.fieldLink "java/lang/String" 9 "java/lang/String" "value" "[B")) (hy.mv X14.warmed.alike hh14).2.1 (g := (mkF m 41 #[.val (.ref x), .val (.ref y), .val (.ref y)] [.ref y, .ref t])) rfl (rest := [.ref t]) rfl (hb hbytes d41)
      have hh16 := q16.trans hh14
      have c17 : Steps p.tables e below (s₁.setTop (entryFrame m #[.ref x, .ref y] 3)) (T16.setTop (mkF m 44 #[.val (.ref x), .val (.ref y), .val (.ref y)] [.ref t', .ref t])) := c15.trans (st16 _ (Steps.refl _))
      obtain ⟨v18, T18, X18, E18, g18⟩ := X16.callS hexec (LEq.law l t V t' V') hown (wks W (staticW "java/lang/String" 541 LEq.yN)) (wk W LEq.tab) (W := 0) (Nat.le_of_ble_eq_true rfl) (Nat.le_of_ble_eq_true rfl) (Nat.le_refl _) (Nat.le_refl _) (g := (mkF m 44 #[.val (.ref x), .val (.ref y), .val (.ref y)] [.ref t', .ref t])) rfl (by rw [hml]; rfl) c17 (argsL := [.ref t, .ref t']) (rest := []) rfl rfl (by show 2 * 0 + 0 ≤ _; decide) (hb hbytes d44) (⟨rfl, hx.2.2.2.1.mv X16.warmed.alike hh16, hx.2.2.2.2.1.ty, hy.2.2.2.1.mv X16.warmed.alike hh16, hy.2.2.2.2.1.ty⟩)
      obtain ⟨v, rfl, q18, hv⟩ := E18
      have iff := Cod.eqv hx.2.2.2.2.1 hy.2.2.2.2.1 hx.2.2.2.2.2 hy.2.2.2.2.2
      rcases hv with ⟨rfl, he⟩ | ⟨rfl, he⟩
      · have c19 : Steps p.tables e below (s₁.setTop (entryFrame m #[.ref x, .ref y] 3)) (T18.setTop (mkF m 55 #[.val (.ref x), .val (.ref y), .val (.ref y)] [.int 1])) := Steps.trans g18 (by
          refine XS.ifNo X18.here hexec rfl (hb hbytes d47) rfl (i0_eq_f (by decide)) ?_
          refine iconstV X18.here hexec rfl 1 (hb hbytes d50) (by decide) ?_
          refine XS.goto X18.here hexec rfl (pc0 := 51) rfl (hb hbytes d51) (by decide) rfl ?_
          exact Steps.refl _)
        exact ⟨T18, some (.int 1), _, _, _, X18, rfl, rfl, rfl, (fun h => by cases h), ⟨1, rfl, q18.trans hh16, Or.inl ⟨rfl, iff.mp he⟩⟩, fun fs hl => c19.trans (X18.ireturnOut hexec hret rfl (Or.inr (Or.inl rfl)) (hb hbytes d55) hl)⟩
      · have c19 : Steps p.tables e below (s₁.setTop (entryFrame m #[.ref x, .ref y] 3)) (T18.setTop (mkF m 55 #[.val (.ref x), .val (.ref y), .val (.ref y)] [.int 0])) := Steps.trans g18 (by
          refine XS.ifYes X18.here hexec rfl (pc0 := 47) rfl (hb hbytes d47) rfl (i0_eq_t rfl) (by decide) rfl ?_
          refine iconstV X18.here hexec rfl 0 (hb hbytes d54) (by decide) ?_
          exact Steps.refl _)
        exact ⟨T18, some (.int 0), _, _, _, X18, rfl, rfl, rfl, (fun h => by cases h), ⟨0, rfl, q18.trans hh16, Or.inr ⟨rfl, fun q => he (iff.mpr q)⟩⟩, fun fs hl => c19.trans (X18.ireturnOut hexec hret rfl (Or.inr (Or.inl rfl)) (hb hbytes d55) hl)⟩
    · have c13 : Steps p.tables e below (s₁.setTop (entryFrame m #[.ref x, .ref y] 3)) (T11.setTop (mkF m 55 #[.val (.ref x), .val (.ref y), .val (.ref y)] [.int 0])) := c12.trans (by
        refine XS.icmpYes X11.here hexec rfl (pc0 := 33) rfl (hb hbytes d33) rfl (ii_ne_t hcd) (by decide) rfl ?_
        refine iconstV X11.here hexec rfl 0 (hb hbytes d54) (by decide) ?_
        exact Steps.refl _)
      exact ⟨T11, some (.int 0), _, _, _, X11, rfl, rfl, rfl, (fun h => by cases h), ⟨0, rfl, hh11, Or.inr ⟨rfl, Cod.dif hx.2.2.2.2.1 hy.2.2.2.2.1 hcd⟩⟩, fun fs hl => c13.trans (X11.ireturnOut hexec hret rfl (Or.inr (Or.inl rfl)) (hb hbytes d55) hl)⟩
theorem pays {l : Launch} {R : Room} {p : Program} {e : Env} {below : List Frame} {s : State} {sargs : Array Value} {len W : Nat} (x t : Addr) (V : Cell) (cd : Int32) (n : Nat) (f : Nat → Int32) (y t' : Addr) (V' : Cell) (cd' : Int32) (k : Nat) (g : Nat → Int32) (z : Int32) (htab : tab.before sargs s = true) (hfr : 2 ≤ R.frames) (hlo : W + 28 ≤ R.locals) :
    Back l R p e below s sargs yN len W (fun A₁ a₁ => A₁.cells + 0 ≤ R.cells ∧ A₁.slots + 0 ≤ R.slots ∧ P x t V cd n f y t' V' cd' k g z a₁ A₁.U) (fun A₁ _ v₁ B₁ => Says01 (SameT n f k g) v₁ A₁.U B₁.U ∧ B₁.locs = A₁.locs ++ [] ∧ B₁.cells = A₁.cells + 0 ∧ B₁.slots = A₁.slots + 0) :=
  (law l x t V cd n f y t' V' cd' k g z).pays htab hfr (by omega)
end SEq
end StrChars
namespace StrChars.Road
open Jvm Sem ClassFile Op Lib Jvm.Stand Jvm.Free Jvm.Free.XT
open Jvm.Lib.Cold (StaticIs)
/-- the words of String.equals(Object) -/
abbrev wordsEq : List Jvm.Cond := [.code SEq.yN SEq.yB 3 (some .boolean), .initialized ST, .classLink ST 10 ST, .fieldLink ST 38 ST "COMPACT_STRINGS" "Z", .fieldLink ST 15 ST "coder" "B", .fieldLink ST 9 ST "value" "[B", .methodLink ST 541 LEq.yN, .static LEq.yN, .code LEq.yN LEq.yB 3 (some .boolean), .initialized "java/lang/StringLatin1"]
theorem tabEq_of {a : Array Value} {s : State} (h : ∀ w ∈ wordsEq, w.before a s = true) : SEq.tab.before a s = true := by
  have hl : LEq.tab.before a s = true := unparts (wk h (.code LEq.yN LEq.yB 3 (some .boolean))) (wks h (.initialized LEq.yN.cls :: LEq.site))
  have q := consq hl h
  exact unparts (wk q (.code SEq.yN SEq.yB 3 (some .boolean))) (wks q (.initialized SEq.yN.cls :: SEq.site))
theorem movedEq {Z s : State} {a0 args : Array Value} (hZ : Z.Warmed39 s.vm) (hw : ∀ d ∈ wordsEq, d.before a0 Z = true) : ∀ d ∈ wordsEq, d.before args s = true := fun d hd => by
  have t : ∀ d ∈ wordsEq, (d.onTables && d.keepsFace) = true := by decide +kernel
  exact RoadKit.mv hZ (hw d hd) (t d hd)
/-- the road's facts of a String, as the laws ask it -/
theorem txt_of {Z U : State} {a0 : Array Value} {kI : Nat} (wi : (Jvm.Cond.instantiable ST kI).before a0 Z = true) (al : Z.vm.Alike U.vm) {x t : Addr} {kb : ClassId} {cs : List Int32} {cd N2 : Int32} {vs : List Value} (E : RoadKit.Exa Z U.heap x ST) (V : RoadKit.Fld Z U.heap x ST "value" "[B" (.ref t)) (C : RoadKit.Fld Z U.heap x ST "coder" "B" (.int cd)) (K : RoadKit.Arv Z U.heap t kb .byte N2 vs (.int 0)) (hc : CodA cs cd N2 vs) (hb : ∀ c ∈ cs, ¬ c < 0 ∧ ¬ (65535 : Int32) < c) (l2 : cs.length ≤ 4000) :
    ∃ A, Txt x t A cd cs.length (fun j => cs.getD j 0) U := by
  obtain ⟨A, K1, K2, K3, K4, K5, K6⟩ := K
  have hcod := hc.cod (by omega) K3 K5
  obtain ⟨D, fV, fC, hB, F1, F2, g1, g2, -, -⟩ := strObj wi al E V C
  exact ⟨A, ⟨_, hB.2.2.1, D, hB.1, rfl, by cases q : D.vm <;> first | rfl | exact absurd q (hB.2.1.2 _)⟩, Has.of hB F1 g1, Has.of hB F2 g2, ⟨K1.1, State.isArrayOf_alike al K1.2.1, K1.2.2, by rcases hcod with ⟨-, q, -⟩ | ⟨-, q, -⟩ <;> omega⟩, hcod, fun j hj => by
    have e : cs.getD j 0 = cs[j] := by simp [List.getD_eq_getElem?_getD, hj]
    show ¬ cs.getD j 0 < 0 ∧ ¬ 65535 < cs.getD j 0
    rw [e]; exact hb _ (List.getElem_mem _)⟩
theorem same_list (cs ds : List Int32) : SameT cs.length (fun j => cs.getD j 0) ds.length (fun j => ds.getD j 0) ↔ cs = ds := by
  constructor
  · rintro ⟨e, q⟩
    refine List.ext_getElem e fun j h1 h2 => ?_
    have := q j h1
    simpa [List.getD_eq_getElem?_getD, h1, h2] using this
  · rintro rfl
    exact ⟨rfl, fun _ _ => rfl⟩
/-- **equals(Object) OF TWO SUCH STRINGS**: 1 just where the chars are the same -/
theorem eqW {p : Program} {l : Launch} {e : Env} {R : Room} {s : State} {args : Array Value} {below : List Frame} {len W : Nat} {Z : State} {a0 : Array Value} {h : Heap} (hZ : Z.Warmed39 s.vm) (hw : ∀ d ∈ wordsEq, d.before a0 Z = true) {kI : Nat} (wi : (Jvm.Cond.instantiable ST kI).before a0 Z = true)
    {x t : Addr} {kb : ClassId} {cs : List Int32} {cd N2 : Int32} {vs : List Value} (E : RoadKit.Exa Z h x ST) (V : RoadKit.Fld Z h x ST "value" "[B" (.ref t)) (C : RoadKit.Fld Z h x ST "coder" "B" (.int cd)) (K : RoadKit.Arv Z h t kb .byte N2 vs (.int 0)) (hc : CodA cs cd N2 vs) (hb : ∀ c ∈ cs, ¬ c < 0 ∧ ¬ (65535 : Int32) < c) (l2 : cs.length ≤ 4000)
    {y t' : Addr} {kb' : ClassId} {ds : List Int32} {cd' N2' : Int32} {vs' : List Value} (E' : RoadKit.Exa Z h y ST) (V' : RoadKit.Fld Z h y ST "value" "[B" (.ref t')) (C' : RoadKit.Fld Z h y ST "coder" "B" (.int cd')) (K' : RoadKit.Arv Z h t' kb' .byte N2' vs' (.int 0)) (hc' : CodA ds cd' N2' vs') (hb' : ∀ c ∈ ds, ¬ c < 0 ∧ ¬ (65535 : Int32) < c) (l2' : ds.length ≤ 4000)
    {z : Int32} (S : RoadKit.Sta Z h ST "COMPACT_STRINGS" "Z" (.int z)) (hz : ¬ z = 0) (hfr : 2 ≤ R.frames) (hlo : W + 28 ≤ R.locals) :
    Back l R p e below s args (⟨"java/lang/String", "equals", "(Ljava/lang/Object;)Z"⟩ : MethodName) len W (fun P a => a = #[.ref x, .ref y] ∧ P.U.heap = h ∧ P.cells + 0 ≤ R.cells ∧ P.slots + 0 ≤ R.slots)
      (fun P _ v B => ∃ L, (((v = some (.int 1) ∧ cs = ds) ∨ (v = some (.int 0) ∧ ¬ cs = ds)) ∧ L = [] ∧ B.U.heap = h) ∧ B.locs = P.locs ++ L ∧ B.cells = P.cells + 0 ∧ B.slots = P.slots + 0) := by
  intro m meth c P g ig mk a X hg hsize hdg hW hn hp'
  obtain ⟨rfl, rfl, r1, r2⟩ := hp'
  have al : Z.vm.Alike P.U.vm := hZ.alike.trans X.warmed.alike
  obtain ⟨A, hx⟩ := txt_of wi al E V C K hc hb l2
  obtain ⟨A', hy⟩ := txt_of wi al E' V' C' K' hc' hb' l2'
  obtain ⟨v, B, X', ⟨⟨w, hv, hh, hq⟩, hl, hk, hs⟩, st⟩ := SEq.pays x t A cd cs.length (fun j => cs.getD j 0) y t' A' cd' ds.length (fun j => ds.getD j 0) z (tabEq_of (movedEq hZ hw)) hfr hlo m meth c P g ig mk _ X hg hsize hdg hW hn ⟨r1, r2, rfl, hx, hy, sta_is al S, hz⟩
  refine ⟨v, B, X', ⟨[], ⟨?_, rfl, hh⟩, hl, hk, hs⟩, st⟩
  rcases hq with ⟨rfl, q⟩ | ⟨rfl, q⟩
  · exact Or.inl ⟨hv, (same_list cs ds).mp q⟩
  · exact Or.inr ⟨hv, fun e => q ((same_list cs ds).mpr e)⟩
end StrChars.Road
namespace StrChars.Road
open Jvm Sem ClassFile Op Lib Jvm.Stand Jvm.Free Jvm.Free.XT
open Jvm.Lib.Cold (StaticIs)
/-- what backV says of its String, as the contracts of this text ask it: cs's low bytes, coder 0 -/
theorem codOf {cs : List Int32} {n : Nat} (hn : cs.length = n) (hb : ∀ c ∈ cs, ¬ 255 < c) : CodA cs 0 (Int32.ofNat n) ((cs.map lo8).map Value.int) := Or.inl ⟨rfl, by rw [hn], by simp [List.map_map, Function.comp_def], hb⟩
end StrChars.Road
end Jvm.Pilot.@@N@@

namespace Jvm.Pilot.@@N@@
open Jvm Jvm.ClassFile Sem Op Lib Jvm.Free Jvm.Stand Jvm.LawKit Jvm.RoadKit Bundle Jvm.Pilot.@@N@@.Jvm.D Jvm.Wk9
theorem own_mask255 (x : Int32) : ¬ (x &&& 255) < 0 ∧ ¬ (255 : Int32) < (x &&& 255) := by
  have h := c_and x 255 (by decide)
  have e : (255 : Int32).toInt = 255 := by decide
  rw [e] at h
  refine ⟨fun q => ?_, fun q => ?_⟩
  · have := Int32.lt_iff_toInt_lt.mp q
    have e0 : (0 : Int32).toInt = 0 := by decide
    omega
  · have := Int32.lt_iff_toInt_lt.mp q
    omega
theorem own_narc {x : Int32} (h : ¬ x < 0 ∧ ¬ (255 : Int32) < x) : nar .char x = x := by
  have h1 := h.1
  have h2 := h.2
  rw [Int32.lt_iff_toInt_lt] at h1 h2
  have e0 : (0 : Int32).toInt = 0 := by decide
  have e1 : (255 : Int32).toInt = 255 := by decide
  have k := c_i2c x
  apply Int32.toInt_inj.mp
  show (x.toUInt32.toUInt16.toUInt32.toInt32).toInt = x.toInt
  omega
theorem own_all0 {P : Int32 → Prop} : ∀ c ∈ ([] : List Int32), P c := fun _ h => nomatch h
theorem own_allS {P : Int32 → Prop} {y : Int32} {L : List Int32} (q : P y) (r : ∀ c ∈ L, P c) : ∀ c ∈ y :: L, P c := fun c h => by
  rcases List.mem_cons.mp h with rfl | h
  · exact q
  · exact r c h
theorem own_narb (x : Int32) : nar .byte x.toInt8.toInt32 = x.toInt8.toInt32 := by
  show x.toInt8.toInt32.toInt8.toInt32 = x.toInt8.toInt32
  simp
/-- new String(char[]) of chars 0 to 255, at least one -/
theorem g_newStr {wd : Bool} {p : Program} {l : Launch} {e : Env} {R : Room} {s : State} {m : MethodId} {args : Array Value} {below : List Frame} {meth : Method} {c : Code} {Z : State} {a0 : Array Value} {EL : List (String × Nat)} {Q : Option Value → Heap → Prop} {kc ks : Nat} {m0 mine : List Addr} {h : Heap} {locs : List Loc} {cells slots : Nat} {own nm : String} {bytes : ByteArray} {ml : Nat} {ret : Option FieldType} {pc : Nat} {Ls : Array Slot} {idx kI : Nat} {x b : Addr} {cs : List Int32} {v0 c0 : Value} {z : Int32} (n : Nat) (rest : List Value) (W : Nat) (C : Cx wd p s m meth c Z a0 EL own bytes ml ret nm) (hd : decode bytes pc = .ok (.invokespecial idx, 3)) (hws : ∀ d ∈ StrChars.Road.words, d.before a0 Z = true) (wi : (Jvm.Cond.instantiable "java/lang/String" kI).before a0 Z = true)
    (w1 : (Jvm.Cond.methodLink own idx ⟨"java/lang/String", "<init>", "([C)V"⟩).before a0 Z = true) (w2 : (Jvm.Cond.instanceMethod ⟨"java/lang/String", "<init>", "([C)V"⟩).before a0 Z = true) (w4 : (Jvm.Cond.code ⟨"java/lang/String", "<init>", "([C)V"⟩ StrChars.New1.yB 2 none).before a0 Z = true)
    (E : Exa Z h x "java/lang/String") (F1 : Fld Z h x "java/lang/String" "value" "[B" v0) (F2 : Fld Z h x "java/lang/String" "coder" "B" c0) (A : Av Z h b .char (cs.map Value.int)) (S : Sta Z Z.heap "java/lang/String" "COMPACT_STRINGS" "Z" (.int z)) (hz : ¬ z = 0)
    (hn : cs.length = n) (l0 : 0 < n) (l2 : n ≤ 4000) (hp : ∀ c ∈ cs, ¬ c < 0 ∧ ¬ (255 : Int32) < c) (hsz : Ls.size = ml) (hW : (rest.map fun v => v.category).sum ≤ W) (hf : 4 ≤ R.frames) (hl : W + 65 ≤ R.locals) (hc : cells + 1 ≤ R.cells) (hs : slots + n ≤ R.slots) (hm : x ∈ mine)
    (nx : ∀ (t : Addr) (h' : Heap) (L : List Loc), h.size ≤ t → t < h'.size → Str Z h' x t cs → Keep h h' [x] → Go wd p l e R s m args below meth c Z EL Q kc ks m0 mine h' (locs ++ L) (cells + 1) (slots + n) (mkF m (pc + 3) Ls rest)) :
    Go wd p l e R s m args below meth c Z EL Q kc ks m0 mine h locs cells slots (mkF m pc Ls (.ref b :: .ref x :: rest)) := by
  refine Go.know fun ho _ hmm => ?_
  obtain ⟨kC, A'⟩ := Arv.of_av (d := .int 0) A
  have hl1 : (cs.map Value.int).length = n := by simp [hn]
  rw [hl1] at A'
  refine g_specialB (mine' := [x]) (as' := #[.ref x, .ref b]) [.ref b] rest W C hd rfl w1 w2 w4 (by decide) (fun vm0 hZ hold => StrChars.Road.backV (s := s.setVm vm0) (W := W) (n0 := Z.heap.size) hZ hws wi (hmm x hm).2 hold.1 E F1 F2 A' (S.ext hold) hz hn rfl l0 l2 hp rfl hf hl) rfl (lenOf (ps := [.array .char]) (r := none) (by decide +kernel) rfl) rfl hsz hW hc hs (fun v h' L q => ⟨q.2.2.1, q.2.1⟩) (fun y hy => by rw [List.mem_singleton.mp hy]; exact hm) (fun v h' L q K => ?_)
  obtain ⟨rfl, -, -, q1, q2, t, kb, -, q3, q4, q5, q6⟩ := q
  have hav : Av Z h' t .byte ((cs.map fun c => c.toInt8.toInt32).map Value.int) := Av.of_arv q6 (by rw [(toNat_ofNat (n := n) (by omega)).1]; simp [hn])
  refine nx t h' L q3 hav.lt ⟨q1, q2, q5, ?_⟩ K
  rw [List.map_map] at hav
  exact hav
theorem own_hws {Z : State} {a0 : Array Value} (hw : ∀ d ∈ tables_1, d.before a0 Z = true) : ∀ d ∈ StrChars.Road.words, d.before a0 Z = true := fun d hd => hw d ((by decide +kernel : ∀ d ∈ StrChars.Road.words, d ∈ tables_1) d hd)
/-- equals of two such Strings -/
theorem g_strEq {wd : Bool} {p : Program} {l : Launch} {e : Env} {R : Room} {s : State} {m : MethodId} {args : Array Value} {below : List Frame} {meth : Method} {c : Code} {Z : State} {a0 : Array Value} {EL : List (String × Nat)} {Q : Option Value → Heap → Prop} {kc ks : Nat} {m0 mine : List Addr} {h : Heap} {locs : List Loc} {cells slots : Nat} {own nm : String} {bytes : ByteArray} {ml : Nat} {ret : Option FieldType} {pc : Nat} {Ls : Array Slot} {idx kI : Nat} {x y t t' : Addr} {cs ds : List Int32} {z : Int32} (rest : List Value) (W : Nat) (C : Cx wd p s m meth c Z a0 EL own bytes ml ret nm) (hd : decode bytes pc = .ok (.invokevirtual idx, 3)) (hws : ∀ d ∈ StrChars.Road.wordsEq, d.before a0 Z = true) (wi : (Jvm.Cond.instantiable "java/lang/String" kI).before a0 Z = true)
    (w1 : (Jvm.Cond.methodLink own idx ⟨"java/lang/String", "equals", "(Ljava/lang/Object;)Z"⟩).before a0 Z = true) (w5 : (Jvm.Cond.declares ⟨"java/lang/String", "equals", "(Ljava/lang/Object;)Z"⟩).before a0 Z = true) (w6 : (Jvm.Cond.selects "java/lang/String" ⟨"java/lang/String", "equals", "(Ljava/lang/Object;)Z"⟩ ⟨"java/lang/String", "equals", "(Ljava/lang/Object;)Z"⟩).before a0 Z = true) (w2 : (Jvm.Cond.instanceMethod ⟨"java/lang/String", "equals", "(Ljava/lang/Object;)Z"⟩).before a0 Z = true)
    (E : Str Z h x t cs) (E' : Str Z h y t' ds) (S : Sta Z Z.heap "java/lang/String" "COMPACT_STRINGS" "Z" (.int z)) (hz : ¬ z = 0) (l1 : cs.length ≤ 4000) (l2 : ds.length ≤ 4000) (hp : ∀ c ∈ cs, ¬ c < 0 ∧ ¬ (255 : Int32) < c) (hp' : ∀ c ∈ ds, ¬ c < 0 ∧ ¬ (255 : Int32) < c)
    (hsz : Ls.size = ml) (hW : (rest.map fun v => v.category).sum ≤ W) (hf : 2 ≤ R.frames) (hl : W + 28 ≤ R.locals) (hc : cells ≤ R.cells) (hs : slots ≤ R.slots)
    (yes : cs = ds → Go wd p l e R s m args below meth c Z EL Q kc ks m0 mine h (locs ++ []) (cells + 0) (slots + 0) (mkF m (pc + 3) Ls (.int 1 :: rest))) (no : ¬ cs = ds → Go wd p l e R s m args below meth c Z EL Q kc ks m0 mine h (locs ++ []) (cells + 0) (slots + 0) (mkF m (pc + 3) Ls (.int 0 :: rest))) :
    Go wd p l e R s m args below meth c Z EL Q kc ks m0 mine h locs cells slots (mkF m pc Ls (.ref y :: .ref x :: rest)) := by
  obtain ⟨e1, e2, e3, e4⟩ := E
  obtain ⟨f1, f2, f3, f4⟩ := E'
  obtain ⟨k1, A1⟩ := Arv.of_av (d := .int 0) e4
  obtain ⟨k2, A2⟩ := Arv.of_av (d := .int 0) f4
  have up : ∀ {L : List Int32}, (∀ c ∈ L, ¬ c < 0 ∧ ¬ (255 : Int32) < c) → ∀ c ∈ L, ¬ c < 0 ∧ ¬ (65535 : Int32) < c := fun hL c hc => ⟨(hL c hc).1, fun q => (hL c hc).2 (by have := Int32.lt_iff_toInt_lt.mp q; apply Int32.lt_iff_toInt_lt.mpr; simp at this ⊢; omega)⟩
  have cd : ∀ (L : List Int32), (∀ c ∈ L, ¬ c < 0 ∧ ¬ (255 : Int32) < c) → StrChars.Road.CodA L 0 (Int32.ofNat (L.map fun c => Value.int c.toInt8.toInt32).length) (L.map fun c => Value.int c.toInt8.toInt32) := fun L hL => by
    have q := StrChars.Road.codOf (cs := L) (n := L.length) rfl (fun c hc => (hL c hc).2)
    rw [List.map_map] at q
    rw [List.length_map]
    exact q
  refine g_virtualB (mine' := []) (as' := #[.ref x, .ref y]) (QB := fun v h' L => ((v = some (.int 1) ∧ cs = ds) ∨ (v = some (.int 0) ∧ ¬ cs = ds)) ∧ L = [] ∧ h' = h) (rc := 0) (rs := 0) [.ref y] rest W C hd w1 w5 w6 w2 (fun _ hZ => notFace_of_selects (args := #[]) (mvT hZ w6)) (by decide) e1 (fun vm0 hZ hold => StrChars.Road.eqW (s := s.setVm vm0) (W := W) hZ hws wi e1 e3 e2 A1 (cd cs hp) (up hp) l1 f1 f3 f2 A2 (cd ds hp') (up hp') l2 (S.ext hold) hz hf hl) rfl (lenOf (ps := [.object "java/lang/Object"]) (r := some .boolean) (by decide +kernel) rfl) rfl hsz hW hc hs (fun v h' L q => ⟨by rw [q.2.2]; exact Keep.refl _ _, by rw [q.2.1]; exact Fr.nil _⟩) all0 (fun v h' L q K => ?_)
  obtain ⟨q, rfl, rfl⟩ := q
  rcases q with ⟨rfl, q⟩ | ⟨rfl, q⟩
  · exact yes q
  · exact no q
theorem own_hwe {Z : State} {a0 : Array Value} (hw : ∀ d ∈ tables_1, d.before a0 Z = true) : ∀ d ∈ StrChars.Road.wordsEq, d.before a0 Z = true := fun d hd => hw d ((by decide +kernel : ∀ d ∈ StrChars.Road.wordsEq, d ∈ tables_1) d hd)
theorem pd0 : parseMethodDescriptor "([CIILjava/lang/Void;)V" = some ⟨[(.array .char), .int, .int, (.object "java/lang/Void")], none⟩ := by decide +kernel
theorem pd1 : parseMethodDescriptor "(C)Z" = some ⟨[.char], some .boolean⟩ := by decide +kernel
theorem pd2 : parseMethodDescriptor "(C)[B" = some ⟨[.char], some (.array .byte)⟩ := by decide +kernel
theorem pd3 : parseMethodDescriptor "([BB)V" = some ⟨[(.array .byte), .byte], none⟩ := by decide +kernel
theorem pd4 : parseMethodDescriptor "([C)V" = some ⟨[(.array .char)], none⟩ := by decide +kernel
theorem pd5 : parseMethodDescriptor "(C)Ljava/lang/String;" = some ⟨[.char], some (.object "java/lang/String")⟩ := by decide +kernel
theorem pd6 : parseMethodDescriptor "(II)Ljava/lang/String;" = some ⟨[.int, .int], some (.object "java/lang/String")⟩ := by decide +kernel
theorem pd7 : parseMethodDescriptor "(I)Lcom/example/libcloak/libcloak/core/Level;" = some ⟨[.int], some (.object "com/example/libcloak/libcloak/core/Level")⟩ := by decide +kernel
theorem pd8 : parseMethodDescriptor "(Ljava/lang/String;Lcom/example/libcloak/libcloak/core/Level;Ljava/lang/String;Z)V" = some ⟨[(.object "java/lang/String"), (.object "com/example/libcloak/libcloak/core/Level"), (.object "java/lang/String"), .boolean], none⟩ := by decide +kernel
theorem pd9 : parseMethodDescriptor "(IIII)Z" = some ⟨[.int, .int, .int, .int], some .boolean⟩ := by decide +kernel
theorem pd10 : parseMethodDescriptor "(Ljava/lang/Object;)Z" = some ⟨[(.object "java/lang/Object")], some .boolean⟩ := by decide +kernel
theorem own_EW {Z : State} {a0 : Array Value} (hw : ∀ d ∈ tables_1, d.before a0 Z = true) : EW Z a0 [("java/lang/String", 7)] := EW.cons (hw _ (List.mem_of_getElem? (i := 19) rfl)) (by decide) (EW.nil)
theorem own_wS {Z : State} {a0 : Array Value} (hw : ∀ d ∈ tables_1, d.before a0 Z = true) : ∀ d ∈ Bundle.stringAtoms, d.before a0 Z = true := fun d hd => hw d ((by decide +kernel : ∀ d ∈ Bundle.stringAtoms, d ∈ tables_1) d hd)
theorem dS4_0 : decode jdk_42_method_149_code 0 = .ok (.aload_n 0, 1) := by decide +kernel
theorem dS4_1 : decode jdk_42_method_149_code 1 = .ok (.invokespecial 1, 3) := by decide +kernel
theorem dS4_4 : decode jdk_42_method_149_code 4 = .ok (.iload_n 3, 1) := by decide +kernel
theorem dS4_5 : decode jdk_42_method_149_code 5 = .ok (.ifCond .ne 22, 3) := by decide +kernel
theorem dS4_8 : decode jdk_42_method_149_code 8 = .ok (.aload_n 0, 1) := by decide +kernel
theorem dS4_9 : decode jdk_42_method_149_code 9 = .ok (.ldc 7, 2) := by decide +kernel
theorem dS4_11 : decode jdk_42_method_149_code 11 = .ok (.getfield 9, 3) := by decide +kernel
theorem dS4_14 : decode jdk_42_method_149_code 14 = .ok (.putfield 9, 3) := by decide +kernel
theorem dS4_17 : decode jdk_42_method_149_code 17 = .ok (.aload_n 0, 1) := by decide +kernel
theorem dS4_18 : decode jdk_42_method_149_code 18 = .ok (.ldc 7, 2) := by decide +kernel
theorem dS4_20 : decode jdk_42_method_149_code 20 = .ok (.getfield 15, 3) := by decide +kernel
theorem dS4_23 : decode jdk_42_method_149_code 23 = .ok (.putfield 15, 3) := by decide +kernel
theorem dS4_26 : decode jdk_42_method_149_code 26 = .ok (.return_, 1) := by decide +kernel
set_option maxRecDepth 65536 in
set_option maxHeartbeats 80000000 in
theorem m_str4 (l : Launch) (Z : State) (a0 : Array Value) {z0 : Int32} (hw : ∀ d ∈ tables_1, d.before a0 Z = true) (S0 : Sta Z Z.heap "java/lang/String" "COMPACT_STRINGS" "Z" (.int z0)) (hz0 : ¬ z0 = 0) {u1 u2 u3 u4 : Addr} (S1 : Sta Z Z.heap "com/example/libcloak/libcloak/core/Level" "UNCLASSIFIED" "Lcom/example/libcloak/libcloak/core/Level;" (.ref u1)) (S2 : Sta Z Z.heap "com/example/libcloak/libcloak/core/Level" "CONFIDENTIAL" "Lcom/example/libcloak/libcloak/core/Level;" (.ref u2)) (S3 : Sta Z Z.heap "com/example/libcloak/libcloak/core/Level" "SECRET" "Lcom/example/libcloak/libcloak/core/Level;" (.ref u3)) (S4 : Sta Z Z.heap "com/example/libcloak/libcloak/core/Level" "TOP_SECRET" "Lcom/example/libcloak/libcloak/core/Level;" (.ref u4)) (a b : Addr) (h : Heap) (E : Exa Z h a "java/lang/String") (F1 : Fld Z h a "java/lang/String" "value" "[B" .null) (F2 : Fld Z h a "java/lang/String" "coder" "B" (.int (0 : Int32))) :
    MetW true l Z [("java/lang/String", 7)] (⟨"java/lang/String", "<init>", "([CIILjava/lang/Void;)V"⟩ : MethodName) jdk_42_method_149_code 6 none [] ({ frames := 1, cells := 4, slots := 8, locals := 12 } : Room) #[(.ref a), (.ref b), (.int (0 : Int32)), (.int (0 : Int32)), .null] [a] h (fun v h' => v = none ∧ ∃ t : Addr, t < h'.size ∧ t ≠ a ∧ Str Z h' a t []) := by
  refine MetW.of (Ls := #[.val (.ref a), .val (.ref b), .val (.int (0 : Int32)), .val (.int (0 : Int32)), .val .null, .unset]) (a0 := a0) (by first | (simp [plainName, overriddenIn]; done) | decide +kernel) (fun m => by first | (simp [entryFrame, mkF, argsToLocals, Value.category]; done) | rfl) (own_EW hw) (fun q => nomatch q) (fun p e s m below meth c hs0 C => ?_)
  refine g_aloadN C dS4_0 rfl rfl ?_
  refine g_objInit C dS4_1 (hw _ (List.mem_of_getElem? (i := 16) rfl)) (hw _ (List.mem_of_getElem? (i := 17) rfl)) (hw _ (List.mem_of_getElem? (i := 18) rfl)) rfl (by decide) (Nat.le_of_ble_eq_true rfl) ?_
  refine g_iloadN C dS4_4 rfl ?_
  refine g_ifF C dS4_5 (show (0 : Int32) = (0 : Int32) by decide) ?_
  refine g_aloadN C dS4_8 rfl rfl ?_
  refine g_ldcStr (vs := []) (zl := 0) 0 C dS4_9 (hw _ (List.mem_of_getElem? (i := 19) rfl)) (own_wS hw) (List.mem_of_getElem? (i := 0) rfl) (by decide) (by decide) (by decide) (by decide) (by decide) (by decide) (by decide) (fun a1 a2 h3 E4 f5 f6 f7 f8 n9 => ?_)
  have K10 := keep_ext E4
  refine g_getfield (host := "") C dS4_11 (Or.inl (hw _ (List.mem_of_getElem? (i := 25) rfl))) Via.refl f7 ?_
  have f11 := (F1.keep K10 nin0)
  have f12 := (E.keep K10)
  have f13 := (F2.keep K10 nin0)
  refine g_putfield (host := "") C dS4_14 (Or.inl (hw _ (List.mem_of_getElem? (i := 25) rfl))) Via.refl f11 f12 (Or.inr ⟨(hw _ (List.mem_of_getElem? (i := 21) rfl)), rfl, rfl⟩) (hw _ (List.mem_of_getElem? (i := 6) rfl)) (ty := (.array .byte)) (by decide) rfl rfl (List.mem_of_getElem? (i := 0) rfl) (fun h14 W15 K16 => ?_)
  have f17 := Fld.same W15 f11
  have f18 := Fld.other W15 f13 (Or.inr (slot_ne (Or.inr (hw _ (List.mem_of_getElem? (i := 22) rfl))) (Or.inr (hw _ (List.mem_of_getElem? (i := 21) rfl))) (by decide) (t := .byte) (t' := (.array .byte)) (by decide) (by decide)))
  refine g_aloadN C dS4_17 rfl rfl ?_
  refine g_ldcStr (vs := []) (zl := 0) 0 C dS4_18 (hw _ (List.mem_of_getElem? (i := 19) rfl)) (own_wS hw) (List.mem_of_getElem? (i := 0) rfl) (by decide) (by decide) (by decide) (by decide) (by decide) (by decide) (by decide) (fun a19 a20 h21 E22 f23 f24 f25 f26 n27 => ?_)
  have K28 := keep_ext E22
  refine g_getfield (host := "") C dS4_20 (Or.inl (hw _ (List.mem_of_getElem? (i := 26) rfl))) Via.refl f24 ?_
  have f29 := (f18.keep K28 nin0)
  have f30 := ((f12.keep K16).keep K28)
  have f31 := (f17.keep K28 nin0)
  refine g_putfield (host := "") C dS4_23 (Or.inl (hw _ (List.mem_of_getElem? (i := 26) rfl))) Via.refl f29 f30 (Or.inr ⟨(hw _ (List.mem_of_getElem? (i := 22) rfl)), rfl, rfl⟩) (hw _ (List.mem_of_getElem? (i := 6) rfl)) (ty := .byte) (by decide) rfl rfl (List.mem_of_getElem? (i := 0) rfl) (fun h32 W33 K34 => ?_)
  have f35 := Fld.same W33 f29
  have f36 := Fld.other W33 f31 (Or.inr (slot_ne (Or.inr (hw _ (List.mem_of_getElem? (i := 21) rfl))) (Or.inr (hw _ (List.mem_of_getElem? (i := 22) rfl))) (by decide) (t := (.array .byte)) (t' := .byte) (by decide) (by decide)))
  have f37 := (f30.keep K34)
  have f38 := (((f8.keep K16 (ninS (Ne.symm (n9 _ (List.mem_of_getElem? (i := 0) rfl)).2) nin0)).keep K28 nin0).keep K34 (ninS (Ne.symm (n9 _ (List.mem_of_getElem? (i := 0) rfl)).2) nin0))
  exact g_retU C dS4_26 ⟨rfl, a2, (Nat.lt_of_lt_of_le f8.lt (Nat.le_trans (Nat.le_trans K16.1 K28.1) K34.1)), Ne.symm (n9 _ (List.mem_of_getElem? (i := 0) rfl)).2, f37, f35, f36, f38⟩ (by decide) (by decide)
theorem dS1_0 : decode jdk_42_method_3_code 0 = .ok (.aload_n 0, 1) := by decide +kernel
theorem dS1_1 : decode jdk_42_method_3_code 1 = .ok (.aload_n 1, 1) := by decide +kernel
theorem dS1_2 : decode jdk_42_method_3_code 2 = .ok (.iconst 0, 1) := by decide +kernel
theorem dS1_3 : decode jdk_42_method_3_code 3 = .ok (.aload_n 1, 1) := by decide +kernel
theorem dS1_4 : decode jdk_42_method_3_code 4 = .ok (.arraylength, 1) := by decide +kernel
theorem dS1_5 : decode jdk_42_method_3_code 5 = .ok (.aconst_null, 1) := by decide +kernel
theorem dS1_6 : decode jdk_42_method_3_code 6 = .ok (.invokespecial 27, 3) := by decide +kernel
theorem dS1_9 : decode jdk_42_method_3_code 9 = .ok (.return_, 1) := by decide +kernel
set_option maxRecDepth 65536 in
set_option maxHeartbeats 80000000 in
theorem m_str1 (l : Launch) (Z : State) (a0 : Array Value) {z0 : Int32} (hw : ∀ d ∈ tables_1, d.before a0 Z = true) (S0 : Sta Z Z.heap "java/lang/String" "COMPACT_STRINGS" "Z" (.int z0)) (hz0 : ¬ z0 = 0) {u1 u2 u3 u4 : Addr} (S1 : Sta Z Z.heap "com/example/libcloak/libcloak/core/Level" "UNCLASSIFIED" "Lcom/example/libcloak/libcloak/core/Level;" (.ref u1)) (S2 : Sta Z Z.heap "com/example/libcloak/libcloak/core/Level" "CONFIDENTIAL" "Lcom/example/libcloak/libcloak/core/Level;" (.ref u2)) (S3 : Sta Z Z.heap "com/example/libcloak/libcloak/core/Level" "SECRET" "Lcom/example/libcloak/libcloak/core/Level;" (.ref u3)) (S4 : Sta Z Z.heap "com/example/libcloak/libcloak/core/Level" "TOP_SECRET" "Lcom/example/libcloak/libcloak/core/Level;" (.ref u4)) (a b : Addr) (h : Heap) (E : Exa Z h a "java/lang/String") (F1 : Fld Z h a "java/lang/String" "value" "[B" .null) (F2 : Fld Z h a "java/lang/String" "coder" "B" (.int (0 : Int32))) (Ab : Av Z h b .char []) :
    MetW true l Z [("java/lang/String", 7)] (⟨"java/lang/String", "<init>", "([C)V"⟩ : MethodName) jdk_42_method_3_code 2 none [] ({ frames := 2, cells := 4, slots := 8, locals := 29 } : Room) #[(.ref a), (.ref b)] [a] h (fun v h' => v = none ∧ ∃ t : Addr, t < h'.size ∧ t ≠ a ∧ Str Z h' a t []) := by
  refine MetW.of (Ls := #[.val (.ref a), .val (.ref b)]) (a0 := a0) (by first | (simp [plainName, overriddenIn]; done) | decide +kernel) (fun m => by first | (simp [entryFrame, mkF, argsToLocals, Value.category]; done) | rfl) (own_EW hw) (fun q => nomatch q) (fun p e s m below meth c hs0 C => ?_)
  refine g_aloadN C dS1_0 rfl rfl ?_
  refine g_aloadN C dS1_1 rfl rfl ?_
  refine g_iconst (0 : Int32) C dS1_2 (by decide) ?_
  refine g_aloadN C dS1_3 rfl rfl ?_
  refine g_alen C dS1_4 Ab (z := (0 : Int32)) rfl ?_
  refine g_aconstNull C dS1_5 ?_
  refine g_invokespecial [(.ref b), (.int (0 : Int32)), (.int (0 : Int32)), .null] [] 0 C dS1_6 rfl (hw _ (List.mem_of_getElem? (i := 12) rfl)) (hw _ (List.mem_of_getElem? (i := 13) rfl)) (hw _ (List.mem_of_getElem? (i := 7) rfl)) (hw _ (List.mem_of_getElem? (i := 15) rfl)) (by decide) (m_str4 l Z a0 hw S0 hz0 S1 S2 S3 S4 a b _ E F1 F2) (lenOf pd0 rfl) rfl rfl (Nat.le_of_ble_eq_true rfl) (by decide) (by decide) (by decide) (by decide) (allS (List.mem_of_getElem? (i := 0) rfl) all0) (fun v1 h2 L3 q4 K5 => ?_)
  obtain ⟨rfl, t, hl, hn, hS⟩ := q4
  show Go _ _ _ _ _ _ _ _ _ _ _ _ _ _ _ _ _ _ _ _ _ _ (mkF _ 9 #[.val (.ref a), .val (.ref b)] [])
  exact g_retU C dS1_9 ⟨rfl, t, hl, hn, hS⟩ (by decide) (by decide)
theorem dV1_0 : decode jdk_43_method_3_code 0 = .ok (.iload_n 0, 1) := by decide +kernel
theorem dV1_1 : decode jdk_43_method_3_code 1 = .ok (.sipush 255, 3) := by decide +kernel
theorem dV1_4 : decode jdk_43_method_3_code 4 = .ok (.if_icmp .gt 7, 3) := by decide +kernel
theorem dV1_7 : decode jdk_43_method_3_code 7 = .ok (.iconst 1, 1) := by decide +kernel
theorem dV1_8 : decode jdk_43_method_3_code 8 = .ok (.goto 4, 3) := by decide +kernel
theorem dV1_12 : decode jdk_43_method_3_code 12 = .ok (.ireturn, 1) := by decide +kernel
set_option maxRecDepth 65536 in
set_option maxHeartbeats 80000000 in
theorem m_canEncode (l : Launch) (Z : State) (a0 : Array Value) {z0 : Int32} (hw : ∀ d ∈ tables_1, d.before a0 Z = true) (S0 : Sta Z Z.heap "java/lang/String" "COMPACT_STRINGS" "Z" (.int z0)) (hz0 : ¬ z0 = 0) {u1 u2 u3 u4 : Addr} (S1 : Sta Z Z.heap "com/example/libcloak/libcloak/core/Level" "UNCLASSIFIED" "Lcom/example/libcloak/libcloak/core/Level;" (.ref u1)) (S2 : Sta Z Z.heap "com/example/libcloak/libcloak/core/Level" "CONFIDENTIAL" "Lcom/example/libcloak/libcloak/core/Level;" (.ref u2)) (S3 : Sta Z Z.heap "com/example/libcloak/libcloak/core/Level" "SECRET" "Lcom/example/libcloak/libcloak/core/Level;" (.ref u3)) (S4 : Sta Z Z.heap "com/example/libcloak/libcloak/core/Level" "TOP_SECRET" "Lcom/example/libcloak/libcloak/core/Level;" (.ref u4)) (x : Int32) (hx : ¬ x < 0 ∧ ¬ (255 : Int32) < x) (h : Heap) :
    MetW true l Z [("java/lang/String", 7)] (⟨"java/lang/StringLatin1", "canEncode", "(C)Z"⟩ : MethodName) jdk_43_method_3_code 1 (Option.some Jvm.ClassFile.FieldType.boolean) [] ({ frames := 0, cells := 0, slots := 0, locals := 0 } : Room) #[(.int x)] [] h (fun v h' => v = some (.int (1 : Int32))) := by
  refine MetW.of (Ls := #[.val (.int x)]) (a0 := a0) (by first | (simp [plainName, overriddenIn]; done) | decide +kernel) (fun m => by first | (simp [entryFrame, mkF, argsToLocals, Value.category]; done) | rfl) (own_EW hw) (fun q => nomatch q) (fun p e s m below meth c hs0 C => ?_)
  refine g_iloadN C dV1_0 rfl ?_
  refine g_sipush (255 : Int32) C dV1_1 (by decide) ?_
  refine g_icmpF C dV1_4 (show ¬ (255 : Int32) < x from hx.2) ?_
  refine g_iconst (1 : Int32) C dV1_7 (by decide) ?_
  refine g_goto 12 C dV1_8 (by decide) (by decide) ?_
  exact g_retN C dV1_12 (by simp) rfl (by decide) (by decide)
theorem dV2_0 : decode jdk_43_method_46_code 0 = .ok (.iconst 1, 1) := by decide +kernel
theorem dV2_1 : decode jdk_43_method_46_code 1 = .ok (.newarray .byte, 2) := by decide +kernel
theorem dV2_3 : decode jdk_43_method_46_code 3 = .ok (.dup, 1) := by decide +kernel
theorem dV2_4 : decode jdk_43_method_46_code 4 = .ok (.iconst 0, 1) := by decide +kernel
theorem dV2_5 : decode jdk_43_method_46_code 5 = .ok (.iload_n 0, 1) := by decide +kernel
theorem dV2_6 : decode jdk_43_method_46_code 6 = .ok (.i2b, 1) := by decide +kernel
theorem dV2_7 : decode jdk_43_method_46_code 7 = .ok (.bastore, 1) := by decide +kernel
theorem dV2_8 : decode jdk_43_method_46_code 8 = .ok (.areturn, 1) := by decide +kernel
set_option maxRecDepth 65536 in
set_option maxHeartbeats 80000000 in
theorem m_toBytes (l : Launch) (Z : State) (a0 : Array Value) {z0 : Int32} (hw : ∀ d ∈ tables_1, d.before a0 Z = true) (S0 : Sta Z Z.heap "java/lang/String" "COMPACT_STRINGS" "Z" (.int z0)) (hz0 : ¬ z0 = 0) {u1 u2 u3 u4 : Addr} (S1 : Sta Z Z.heap "com/example/libcloak/libcloak/core/Level" "UNCLASSIFIED" "Lcom/example/libcloak/libcloak/core/Level;" (.ref u1)) (S2 : Sta Z Z.heap "com/example/libcloak/libcloak/core/Level" "CONFIDENTIAL" "Lcom/example/libcloak/libcloak/core/Level;" (.ref u2)) (S3 : Sta Z Z.heap "com/example/libcloak/libcloak/core/Level" "SECRET" "Lcom/example/libcloak/libcloak/core/Level;" (.ref u3)) (S4 : Sta Z Z.heap "com/example/libcloak/libcloak/core/Level" "TOP_SECRET" "Lcom/example/libcloak/libcloak/core/Level;" (.ref u4)) (x : Int32) (h : Heap) :
    MetW true l Z [("java/lang/String", 7)] (⟨"java/lang/StringLatin1", "toBytes", "(C)[B"⟩ : MethodName) jdk_43_method_46_code 1 (Option.some (Jvm.ClassFile.FieldType.array Jvm.ClassFile.FieldType.byte)) [] ({ frames := 0, cells := 1, slots := 1, locals := 0 } : Room) #[(.int x)] [] h (fun v h' => ∃ a : Addr, v = some (.ref a) ∧ h.size ≤ a ∧ Exa Z h' a "[B" ∧ Av Z h' a .byte [.int x.toInt8.toInt32]) := by
  refine MetW.of (Ls := #[.val (.int x)]) (a0 := a0) (by first | (simp [plainName, overriddenIn]; done) | decide +kernel) (fun m => by first | (simp [entryFrame, mkF, argsToLocals, Value.category]; done) | rfl) (own_EW hw) (fun q => nomatch q) (fun p e s m below meth c hs0 C => ?_)
  refine g_iconst (1 : Int32) C dV2_0 (by decide) ?_
  refine g_newarray_ (ad := "[B") 1 [(.int (0 : Int32))] C dV2_1 (hw _ (List.mem_of_getElem? (i := 20) rfl)) (by decide) (by decide) (by decide) (by decide) (by decide) (by decide) (by decide) (fun a1 h2 e3 E4 l5 f6 f7 => ?_)
  have K8 := keep_ext E4
  refine g_dup C dV2_3 rfl ?_
  refine g_iconst (0 : Int32) C dV2_4 (by decide) ?_
  refine g_iloadN C dV2_5 rfl ?_
  refine g_i2b _ C dV2_6 rfl ?_
  refine g_bastore 0 C dV2_7 f7 (by decide) (by decide) (Nat.le_of_ble_eq_true rfl) (List.mem_of_getElem? (i := 0) rfl) (fun h9 K10 z11 f12 => ?_)
  have f13 : Av Z h9 a1 .byte [(.int (x.toInt8.toInt32))] := (show nar .byte (x.toInt8.toInt32) = (x.toInt8.toInt32) from own_narb _) ▸ f12
  have f14 := (f6.keep K10)
  exact g_retA C dV2_8 rfl rfl ⟨a1, rfl, (Nat.le_of_eq e3.symm), f14, f13⟩ (by decide) (by decide)
theorem dV3_0 : decode jdk_42_method_151_code 0 = .ok (.aload_n 0, 1) := by decide +kernel
theorem dV3_1 : decode jdk_42_method_151_code 1 = .ok (.invokespecial 1, 3) := by decide +kernel
theorem dV3_4 : decode jdk_42_method_151_code 4 = .ok (.aload_n 0, 1) := by decide +kernel
theorem dV3_5 : decode jdk_42_method_151_code 5 = .ok (.aload_n 1, 1) := by decide +kernel
theorem dV3_6 : decode jdk_42_method_151_code 6 = .ok (.putfield 9, 3) := by decide +kernel
theorem dV3_9 : decode jdk_42_method_151_code 9 = .ok (.aload_n 0, 1) := by decide +kernel
theorem dV3_10 : decode jdk_42_method_151_code 10 = .ok (.iload_n 2, 1) := by decide +kernel
theorem dV3_11 : decode jdk_42_method_151_code 11 = .ok (.putfield 15, 3) := by decide +kernel
theorem dV3_14 : decode jdk_42_method_151_code 14 = .ok (.return_, 1) := by decide +kernel
set_option maxRecDepth 65536 in
set_option maxHeartbeats 80000000 in
theorem m_strBB (l : Launch) (Z : State) (a0 : Array Value) {z0 : Int32} (hw : ∀ d ∈ tables_1, d.before a0 Z = true) (S0 : Sta Z Z.heap "java/lang/String" "COMPACT_STRINGS" "Z" (.int z0)) (hz0 : ¬ z0 = 0) {u1 u2 u3 u4 : Addr} (S1 : Sta Z Z.heap "com/example/libcloak/libcloak/core/Level" "UNCLASSIFIED" "Lcom/example/libcloak/libcloak/core/Level;" (.ref u1)) (S2 : Sta Z Z.heap "com/example/libcloak/libcloak/core/Level" "CONFIDENTIAL" "Lcom/example/libcloak/libcloak/core/Level;" (.ref u2)) (S3 : Sta Z Z.heap "com/example/libcloak/libcloak/core/Level" "SECRET" "Lcom/example/libcloak/libcloak/core/Level;" (.ref u3)) (S4 : Sta Z Z.heap "com/example/libcloak/libcloak/core/Level" "TOP_SECRET" "Lcom/example/libcloak/libcloak/core/Level;" (.ref u4)) (a b : Addr) (h : Heap) (E : Exa Z h a "java/lang/String") (F1 : Fld Z h a "java/lang/String" "value" "[B" .null) (F2 : Fld Z h a "java/lang/String" "coder" "B" (.int (0 : Int32))) :
    MetW true l Z [("java/lang/String", 7)] (⟨"java/lang/String", "<init>", "([BB)V"⟩ : MethodName) jdk_42_method_151_code 3 none [] ({ frames := 1, cells := 0, slots := 0, locals := 12 } : Room) #[(.ref a), (.ref b), (.int (0 : Int32))] [a] h (fun v h' => v = none ∧ Exa Z h' a "java/lang/String" ∧ Fld Z h' a "java/lang/String" "coder" "B" (.int (0 : Int32)) ∧ Fld Z h' a "java/lang/String" "value" "[B" (.ref b)) := by
  refine MetW.of (Ls := #[.val (.ref a), .val (.ref b), .val (.int (0 : Int32))]) (a0 := a0) (by first | (simp [plainName, overriddenIn]; done) | decide +kernel) (fun m => by first | (simp [entryFrame, mkF, argsToLocals, Value.category]; done) | rfl) (own_EW hw) (fun q => nomatch q) (fun p e s m below meth c hs0 C => ?_)
  refine g_aloadN C dV3_0 rfl rfl ?_
  refine g_objInit C dV3_1 (hw _ (List.mem_of_getElem? (i := 16) rfl)) (hw _ (List.mem_of_getElem? (i := 17) rfl)) (hw _ (List.mem_of_getElem? (i := 18) rfl)) rfl (by decide) (Nat.le_of_ble_eq_true rfl) ?_
  refine g_aloadN C dV3_4 rfl rfl ?_
  refine g_aloadN C dV3_5 rfl rfl ?_
  refine g_putfield (host := "") C dV3_6 (Or.inl (hw _ (List.mem_of_getElem? (i := 25) rfl))) Via.refl F1 E (Or.inr ⟨(hw _ (List.mem_of_getElem? (i := 21) rfl)), rfl, rfl⟩) (hw _ (List.mem_of_getElem? (i := 6) rfl)) (ty := (.array .byte)) (by decide) rfl rfl (List.mem_of_getElem? (i := 0) rfl) (fun h1 W2 K3 => ?_)
  have f4 := Fld.same W2 F1
  have f5 := Fld.other W2 F2 (Or.inr (slot_ne (Or.inr (hw _ (List.mem_of_getElem? (i := 22) rfl))) (Or.inr (hw _ (List.mem_of_getElem? (i := 21) rfl))) (by decide) (t := .byte) (t' := (.array .byte)) (by decide) (by decide)))
  refine g_aloadN C dV3_9 rfl rfl ?_
  refine g_iloadN C dV3_10 rfl ?_
  have f6 := (E.keep K3)
  refine g_putfield (host := "") C dV3_11 (Or.inl (hw _ (List.mem_of_getElem? (i := 26) rfl))) Via.refl f5 f6 (Or.inr ⟨(hw _ (List.mem_of_getElem? (i := 22) rfl)), rfl, rfl⟩) (hw _ (List.mem_of_getElem? (i := 6) rfl)) (ty := .byte) (by decide) rfl rfl (List.mem_of_getElem? (i := 0) rfl) (fun h7 W8 K9 => ?_)
  have f10 := Fld.same W8 f5
  have f11 := Fld.other W8 f4 (Or.inr (slot_ne (Or.inr (hw _ (List.mem_of_getElem? (i := 21) rfl))) (Or.inr (hw _ (List.mem_of_getElem? (i := 22) rfl))) (by decide) (t := (.array .byte)) (t' := .byte) (by decide) (by decide)))
  have f12 := (f6.keep K9)
  exact g_retU C dV3_14 ⟨rfl, f12, f10, f11⟩ (by decide) (by decide)
theorem dV4_0 : decode jdk_42_method_139_code 0 = .ok (.getstatic 38, 3) := by decide +kernel
theorem dV4_3 : decode jdk_42_method_139_code 3 = .ok (.ifCond .eq 23, 3) := by decide +kernel
theorem dV4_6 : decode jdk_42_method_139_code 6 = .ok (.iload_n 0, 1) := by decide +kernel
theorem dV4_7 : decode jdk_42_method_139_code 7 = .ok (.invokestatic 1015, 3) := by decide +kernel
theorem dV4_10 : decode jdk_42_method_139_code 10 = .ok (.ifCond .eq 16, 3) := by decide +kernel
theorem dV4_13 : decode jdk_42_method_139_code 13 = .ok (.new 10, 3) := by decide +kernel
theorem dV4_16 : decode jdk_42_method_139_code 16 = .ok (.dup, 1) := by decide +kernel
theorem dV4_17 : decode jdk_42_method_139_code 17 = .ok (.iload_n 0, 1) := by decide +kernel
theorem dV4_18 : decode jdk_42_method_139_code 18 = .ok (.invokestatic 1018, 3) := by decide +kernel
theorem dV4_21 : decode jdk_42_method_139_code 21 = .ok (.iconst 0, 1) := by decide +kernel
theorem dV4_22 : decode jdk_42_method_139_code 22 = .ok (.invokespecial 209, 3) := by decide +kernel
theorem dV4_25 : decode jdk_42_method_139_code 25 = .ok (.areturn, 1) := by decide +kernel
set_option maxRecDepth 65536 in
set_option maxHeartbeats 80000000 in
theorem m_valueOf (l : Launch) (Z : State) (a0 : Array Value) {z0 : Int32} (hw : ∀ d ∈ tables_1, d.before a0 Z = true) (S0 : Sta Z Z.heap "java/lang/String" "COMPACT_STRINGS" "Z" (.int z0)) (hz0 : ¬ z0 = 0) {u1 u2 u3 u4 : Addr} (S1 : Sta Z Z.heap "com/example/libcloak/libcloak/core/Level" "UNCLASSIFIED" "Lcom/example/libcloak/libcloak/core/Level;" (.ref u1)) (S2 : Sta Z Z.heap "com/example/libcloak/libcloak/core/Level" "CONFIDENTIAL" "Lcom/example/libcloak/libcloak/core/Level;" (.ref u2)) (S3 : Sta Z Z.heap "com/example/libcloak/libcloak/core/Level" "SECRET" "Lcom/example/libcloak/libcloak/core/Level;" (.ref u3)) (S4 : Sta Z Z.heap "com/example/libcloak/libcloak/core/Level" "TOP_SECRET" "Lcom/example/libcloak/libcloak/core/Level;" (.ref u4)) (x : Int32) (hx : ¬ x < 0 ∧ ¬ (255 : Int32) < x) (h : Heap) :
    MetW true l Z [("java/lang/String", 7)] (⟨"java/lang/String", "valueOf", "(C)Ljava/lang/String;"⟩ : MethodName) jdk_42_method_139_code 1 (Option.some (Jvm.ClassFile.FieldType.object "java/lang/String")) [] ({ frames := 2, cells := 2, slots := 5, locals := 27 } : Room) #[(.int x)] [] h (fun v h' => ∃ a t : Addr, v = some (.ref a) ∧ h.size ≤ a ∧ t < h'.size ∧ Str Z h' a t [x]) := by
  refine MetW.of (Ls := #[.val (.int x)]) (a0 := a0) (by first | (simp [plainName, overriddenIn]; done) | decide +kernel) (fun m => by first | (simp [entryFrame, mkF, argsToLocals, Value.category]; done) | rfl) (own_EW hw) (fun q => nomatch q) (fun p e s m below meth c hs0 C => ?_)
  refine g_getstatic (host := "") C dV4_0 (Or.inl (hw _ (List.mem_of_getElem? (i := 64) rfl))) Via.refl S0 ?_
  refine g_ifF C dV4_3 (show ¬ z0 = (0 : Int32) from hz0) ?_
  refine g_iloadN C dV4_6 rfl ?_
  refine g_invokestatic [(.int x)] [] 0 C dV4_7 (hw _ (List.mem_of_getElem? (i := 88) rfl)) (hw _ (List.mem_of_getElem? (i := 89) rfl)) (hw _ (List.mem_of_getElem? (i := 67) rfl)) (hw _ (List.mem_of_getElem? (i := 90) rfl)) (by decide) (m_canEncode l Z a0 hw S0 hz0 S1 S2 S3 S4 x hx _) (lenOf pd1 rfl) rfl rfl (Nat.le_of_ble_eq_true rfl) (by decide) (by decide) (by decide) (by decide) all0 (fun v1 h2 L3 q4 K5 => ?_)
  obtain rfl := q4
  show Go _ _ _ _ _ _ _ _ _ _ _ _ _ _ _ _ _ _ _ _ _ _ (mkF _ 10 #[.val (.int x)] [(.int (1 : Int32))])
  refine g_ifF C dV4_10 (show ¬ (1 : Int32) = (0 : Int32) by decide) ?_
  refine g_new_ C dV4_13 (hw _ (List.mem_of_getElem? (i := 63) rfl)) (hw _ (List.mem_of_getElem? (i := 6) rfl)) (hw _ (List.mem_of_getElem? (i := 7) rfl)) (by decide) (by decide) (fun a6 h7 e8 E9 l10 f11 D12 => ?_)
  have K13 := keep_ext E9
  have f14 : Fld Z h7 a6 "java/lang/String" "value" "[B" .null := D12 (Or.inr (hw _ (List.mem_of_getElem? (i := 21) rfl))) (ty := (.array .byte)) (by decide)
  have f15 : Fld Z h7 a6 "java/lang/String" "coder" "B" (.int (0 : Int32)) := D12 (Or.inr (hw _ (List.mem_of_getElem? (i := 22) rfl))) (ty := .byte) (by decide)
  refine g_dup C dV4_16 rfl ?_
  refine g_iloadN C dV4_17 rfl ?_
  refine g_invokestatic [(.int x)] [(.ref a6), (.ref a6)] 2 C dV4_18 (hw _ (List.mem_of_getElem? (i := 91) rfl)) (hw _ (List.mem_of_getElem? (i := 92) rfl)) (hw _ (List.mem_of_getElem? (i := 67) rfl)) (hw _ (List.mem_of_getElem? (i := 93) rfl)) (by decide) (m_toBytes l Z a0 hw S0 hz0 S1 S2 S3 S4 x _) (lenOf pd2 rfl) rfl rfl (Nat.le_of_ble_eq_true rfl) (by decide) (by decide) (by decide) (by decide) all0 (fun v20 h21 L22 q23 K24 => ?_)
  obtain ⟨a16, rfl, g17, f18, f19⟩ := q23
  show Go _ _ _ _ _ _ _ _ _ _ _ _ _ _ _ _ _ _ _ _ _ _ (mkF _ 21 #[.val (.int x)] [(.ref a16), (.ref a6), (.ref a6)])
  refine g_iconst (0 : Int32) C dV4_21 (by decide) ?_
  have f28 := (f11.keep K24)
  have f29 := (f14.keep K24 nin0)
  have f30 := (f15.keep K24 nin0)
  refine g_invokespecial [(.ref a16), (.int (0 : Int32))] [(.ref a6)] 1 C dV4_22 rfl (hw _ (List.mem_of_getElem? (i := 94) rfl)) (hw _ (List.mem_of_getElem? (i := 95) rfl)) (hw _ (List.mem_of_getElem? (i := 7) rfl)) (hw _ (List.mem_of_getElem? (i := 96) rfl)) (by decide) (m_strBB l Z a0 hw S0 hz0 S1 S2 S3 S4 a6 a16 _ f28 f29 f30) (lenOf pd3 rfl) rfl rfl (Nat.le_of_ble_eq_true rfl) (by decide) (by decide) (by decide) (by decide) (allS (List.mem_of_getElem? (i := 0) rfl) all0) (fun v31 h32 L33 q34 K35 => ?_)
  obtain ⟨rfl, f25, f26, f27⟩ := q34
  show Go _ _ _ _ _ _ _ _ _ _ _ _ _ _ _ _ _ _ _ _ _ _ (mkF _ 25 #[.val (.int x)] [(.ref a6)])
  have f36 := (f19.keep K35 (ninS (Nat.ne_of_gt (Nat.lt_of_lt_of_le l10 g17)) nin0))
  exact g_retA C dV4_25 rfl rfl ⟨a6, a16, rfl, Nat.le_trans K5.1 (Nat.le_of_eq e8.symm), (Nat.lt_of_lt_of_le f19.lt K35.1), f25, f26, f27, f36⟩ (by decide) (by decide)
def mkL (n b : Int32) : List Int32 := if n = 0 then [] else if n = 1 then [b &&& 255] else [b &&& 255, XT.ushr b 8 &&& 255]
theorem mkL_len (n b : Int32) : (mkL n b).length ≤ 4000 := by
  unfold mkL; repeat' split
  all_goals simp
theorem mkL_bd (n b : Int32) : ∀ c ∈ mkL n b, ¬ c < 0 ∧ ¬ (255 : Int32) < c := by
  unfold mkL; repeat' split
  · exact own_all0
  · exact own_allS (own_mask255 _) own_all0
  · exact own_allS (own_mask255 _) (own_allS (own_mask255 _) own_all0)
theorem mkL_eq {n1 n2 : Int32} (h1 : n1 = 0 ∨ n1 = 1 ∨ n1 = 2) (h2 : n2 = 0 ∨ n2 = 1 ∨ n2 = 2) (b1 b2 : Int32) : mkL n1 b1 = mkL n2 b2 ↔ n1 = n2 ∧ (n1 = 0 ∨ (b1 &&& 255 = b2 &&& 255 ∧ (n1 = 1 ∨ XT.ushr b1 8 &&& 255 = XT.ushr b2 8 &&& 255))) := by
  rcases h1 with rfl | rfl | rfl <;> rcases h2 with rfl | rfl | rfl <;> simp [mkL]
def lvA (n : Int32) (u1 u2 u3 u4 : Addr) : Addr := if n = 0 then u1 else if n = 1 then u2 else if n = 2 then u3 else u4
theorem lvA_eq {n m : Int32} (h1 : n = 0 ∨ n = 1 ∨ n = 2 ∨ n = 3) (h2 : m = 0 ∨ m = 1 ∨ m = 2 ∨ m = 3) {u1 u2 u3 u4 : Addr} (n1 : u1 ≠ u2) (n2 : u1 ≠ u3) (n3 : u1 ≠ u4) (n4 : u2 ≠ u3) (n5 : u2 ≠ u4) (n6 : u3 ≠ u4) : lvA n u1 u2 u3 u4 = lvA m u1 u2 u3 u4 ↔ n = m := by
  rcases h1 with rfl | rfl | rfl | rfl <;> rcases h2 with rfl | rfl | rfl | rfl <;> simp [lvA, n1, n2, n3, n4, n5, n6, n1.symm, n2.symm, n3.symm, n4.symm, n5.symm, n6.symm]
theorem own_rem3 (x : Int32) : (XT.ushr x 16 &&& 65535) - (XT.ushr x 16 &&& 65535) / 3 * 3 = 0 ∨ (XT.ushr x 16 &&& 65535) - (XT.ushr x 16 &&& 65535) / 3 * 3 = 1 ∨ (XT.ushr x 16 &&& 65535) - (XT.ushr x 16 &&& 65535) / 3 * 3 = 2 := by
  have h := c_and (XT.ushr x 16) 65535 (by decide)
  rw [irem_eq_mod]
  have k := (c_irem (XT.ushr x 16 &&& 65535) 3 3 (by decide)).1 h.1
  have k2 : ((XT.ushr x 16 &&& 65535) % 3).toInt = 0 ∨ ((XT.ushr x 16 &&& 65535) % 3).toInt = 1 ∨ ((XT.ushr x 16 &&& 65535) % 3).toInt = 2 := by omega
  rcases k2 with k2 | k2 | k2
  · exact Or.inl (Int32.toInt_inj.mp k2)
  · exact Or.inr (Or.inl (Int32.toInt_inj.mp k2))
  · exact Or.inr (Or.inr (Int32.toInt_inj.mp k2))
theorem own_and3 (x : Int32) : x &&& 3 = 0 ∨ x &&& 3 = 1 ∨ x &&& 3 = 2 ∨ x &&& 3 = 3 := by
  have h := c_and x 3 (by decide)
  have e : (3 : Int32).toInt = 3 := by decide
  rw [e] at h
  have k : (x &&& 3).toInt = 0 ∨ (x &&& 3).toInt = 1 ∨ (x &&& 3).toInt = 2 ∨ (x &&& 3).toInt = 3 := by omega
  rcases k with k | k | k | k
  · exact Or.inl (Int32.toInt_inj.mp k)
  · exact Or.inr (Or.inl (Int32.toInt_inj.mp k))
  · exact Or.inr (Or.inr (Or.inl (Int32.toInt_inj.mp k)))
  · exact Or.inr (Or.inr (Or.inr (Int32.toInt_inj.mp k)))

theorem dA_0 : decode method_2_code 0 = .ok (.iload_n 0, 1) := by decide +kernel
theorem dA_1 : decode method_2_code 1 = .ok (.ifCond .ne 14, 3) := by decide +kernel
theorem dA_4 : decode method_2_code 4 = .ok (.new 7, 3) := by decide +kernel
theorem dA_7 : decode method_2_code 7 = .ok (.dup, 1) := by decide +kernel
theorem dA_8 : decode method_2_code 8 = .ok (.iconst 0, 1) := by decide +kernel
theorem dA_9 : decode method_2_code 9 = .ok (.newarray .char, 2) := by decide +kernel
theorem dA_11 : decode method_2_code 11 = .ok (.invokespecial 9, 3) := by decide +kernel
theorem dA_14 : decode method_2_code 14 = .ok (.areturn, 1) := by decide +kernel
theorem dA_15 : decode method_2_code 15 = .ok (.iload_n 0, 1) := by decide +kernel
theorem dA_16 : decode method_2_code 16 = .ok (.iconst 1, 1) := by decide +kernel
theorem dA_17 : decode method_2_code 17 = .ok (.if_icmp .ne 13, 3) := by decide +kernel
theorem dA_20 : decode method_2_code 20 = .ok (.iload_n 1, 1) := by decide +kernel
theorem dA_21 : decode method_2_code 21 = .ok (.sipush 255, 3) := by decide +kernel
theorem dA_24 : decode method_2_code 24 = .ok (.iand, 1) := by decide +kernel
theorem dA_25 : decode method_2_code 25 = .ok (.i2c, 1) := by decide +kernel
theorem dA_26 : decode method_2_code 26 = .ok (.invokestatic 12, 3) := by decide +kernel
theorem dA_29 : decode method_2_code 29 = .ok (.areturn, 1) := by decide +kernel
theorem dA_30 : decode method_2_code 30 = .ok (.iconst 2, 1) := by decide +kernel
theorem dA_31 : decode method_2_code 31 = .ok (.newarray .char, 2) := by decide +kernel
theorem dA_33 : decode method_2_code 33 = .ok (.astore_n 2, 1) := by decide +kernel
theorem dA_34 : decode method_2_code 34 = .ok (.aload_n 2, 1) := by decide +kernel
theorem dA_35 : decode method_2_code 35 = .ok (.iconst 0, 1) := by decide +kernel
theorem dA_36 : decode method_2_code 36 = .ok (.iload_n 1, 1) := by decide +kernel
theorem dA_37 : decode method_2_code 37 = .ok (.sipush 255, 3) := by decide +kernel
theorem dA_40 : decode method_2_code 40 = .ok (.iand, 1) := by decide +kernel
theorem dA_41 : decode method_2_code 41 = .ok (.i2c, 1) := by decide +kernel
theorem dA_42 : decode method_2_code 42 = .ok (.castore, 1) := by decide +kernel
theorem dA_43 : decode method_2_code 43 = .ok (.aload_n 2, 1) := by decide +kernel
theorem dA_44 : decode method_2_code 44 = .ok (.iconst 1, 1) := by decide +kernel
theorem dA_45 : decode method_2_code 45 = .ok (.iload_n 1, 1) := by decide +kernel
theorem dA_46 : decode method_2_code 46 = .ok (.bipush 8, 2) := by decide +kernel
theorem dA_48 : decode method_2_code 48 = .ok (.iushr, 1) := by decide +kernel
theorem dA_49 : decode method_2_code 49 = .ok (.sipush 255, 3) := by decide +kernel
theorem dA_52 : decode method_2_code 52 = .ok (.iand, 1) := by decide +kernel
theorem dA_53 : decode method_2_code 53 = .ok (.i2c, 1) := by decide +kernel
theorem dA_54 : decode method_2_code 54 = .ok (.castore, 1) := by decide +kernel
theorem dA_55 : decode method_2_code 55 = .ok (.new 7, 3) := by decide +kernel
theorem dA_58 : decode method_2_code 58 = .ok (.dup, 1) := by decide +kernel
theorem dA_59 : decode method_2_code 59 = .ok (.aload_n 2, 1) := by decide +kernel
theorem dA_60 : decode method_2_code 60 = .ok (.invokespecial 9, 3) := by decide +kernel
theorem dA_63 : decode method_2_code 63 = .ok (.areturn, 1) := by decide +kernel
set_option maxRecDepth 65536 in
set_option maxHeartbeats 80000000 in
theorem m_mk (l : Launch) (Z : State) (a0 : Array Value) {z0 : Int32} (hw : ∀ d ∈ tables_1, d.before a0 Z = true) (S0 : Sta Z Z.heap "java/lang/String" "COMPACT_STRINGS" "Z" (.int z0)) (hz0 : ¬ z0 = 0) {u1 u2 u3 u4 : Addr} (S1 : Sta Z Z.heap "com/example/libcloak/libcloak/core/Level" "UNCLASSIFIED" "Lcom/example/libcloak/libcloak/core/Level;" (.ref u1)) (S2 : Sta Z Z.heap "com/example/libcloak/libcloak/core/Level" "CONFIDENTIAL" "Lcom/example/libcloak/libcloak/core/Level;" (.ref u2)) (S3 : Sta Z Z.heap "com/example/libcloak/libcloak/core/Level" "SECRET" "Lcom/example/libcloak/libcloak/core/Level;" (.ref u3)) (S4 : Sta Z Z.heap "com/example/libcloak/libcloak/core/Level" "TOP_SECRET" "Lcom/example/libcloak/libcloak/core/Level;" (.ref u4)) (n b : Int32) (h : Heap) :
    MetW true l Z [("java/lang/String", 7)] (⟨"com/example/libcloak/libcloak/core/CatalogGroupEqualsPinLaw", "mk", "(II)Ljava/lang/String;"⟩ : MethodName) method_2_code 3 (Option.some (Jvm.ClassFile.FieldType.object "java/lang/String")) [] ({ frames := 4, cells := 6, slots := 12, locals := 66 } : Room) #[(.int n), (.int b)] [] h (fun v h' => ∃ s t : Addr, v = some (.ref s) ∧ h.size ≤ s ∧ t < h'.size ∧ Str Z h' s t (mkL n b)) := by
  refine MetW.of (Ls := #[.val (.int n), .val (.int b), .unset]) (a0 := a0) (by first | (simp [plainName, overriddenIn]; done) | decide +kernel) (fun m => by first | (simp [entryFrame, mkF, argsToLocals, Value.category]; done) | rfl) (own_EW hw) (fun q => nomatch q) (fun p e s m below meth c hs0 C => ?_)
  refine g_iloadN C dA_0 rfl ?_
  by_cases cc1 : n = (0 : Int32)
  · skip
    refine g_ifF C dA_1 (show n = (0 : Int32) from cc1) ?_
    refine g_new_ C dA_4 (hw _ (List.mem_of_getElem? (i := 5) rfl)) (hw _ (List.mem_of_getElem? (i := 6) rfl)) (hw _ (List.mem_of_getElem? (i := 7) rfl)) (by decide) (by decide) (fun a2 h3 e4 E5 l6 f7 D8 => ?_)
    have K9 := keep_ext E5
    have f10 : Fld Z h3 a2 "java/lang/String" "value" "[B" .null := D8 (Or.inr (hw _ (List.mem_of_getElem? (i := 21) rfl))) (ty := (.array .byte)) (by decide)
    have f11 : Fld Z h3 a2 "java/lang/String" "coder" "B" (.int (0 : Int32)) := D8 (Or.inr (hw _ (List.mem_of_getElem? (i := 22) rfl))) (ty := .byte) (by decide)
    refine g_dup C dA_7 rfl ?_
    refine g_iconst (0 : Int32) C dA_8 (by decide) ?_
    refine g_newarray_ (ad := "[C") 0 [] C dA_9 (hw _ (List.mem_of_getElem? (i := 8) rfl)) (by decide) (by decide) (by decide) (by decide) (by decide) (by decide) (by decide) (fun a12 h13 e14 E15 l16 f17 f18 => ?_)
    have K19 := keep_ext E15
    have f24 := (f7.keep K19)
    have f25 := (f10.keep K19 nin0)
    have f26 := (f11.keep K19 nin0)
    refine g_invokespecial [(.ref a12)] [(.ref a2)] 1 C dA_11 rfl (hw _ (List.mem_of_getElem? (i := 9) rfl)) (hw _ (List.mem_of_getElem? (i := 10) rfl)) (hw _ (List.mem_of_getElem? (i := 7) rfl)) (hw _ (List.mem_of_getElem? (i := 11) rfl)) (by decide) (m_str1 l Z a0 hw S0 hz0 S1 S2 S3 S4 a2 a12 _ f24 f25 f26 f18) (lenOf pd4 rfl) rfl rfl (Nat.le_of_ble_eq_true rfl) (by decide) (by decide) (by decide) (by decide) (allS (List.mem_of_getElem? (i := 1) rfl) all0) (fun v27 h28 L29 q30 K31 => ?_)
    obtain ⟨rfl, t20, l21, n22, f23⟩ := q30
    show Go _ _ _ _ _ _ _ _ _ _ _ _ _ _ _ _ _ _ _ _ _ _ (mkF _ 14 #[.val (.int n), .val (.int b), .unset] [(.ref a2)])
    have f32 := f23.1
    have hcs : mkL n b = [] := by simp [mkL, cc1]
    exact g_retA C dA_14 rfl rfl ⟨a2, t20, rfl, Nat.le_trans (Nat.le_refl _) (Nat.le_of_eq e4.symm), l21, hcs ▸ f23⟩ (by decide) (by decide)
  · skip
    refine g_ifT 15 C dA_1 (show ¬ n = (0 : Int32) from cc1) (by decide) (by decide) ?_
    refine g_iloadN C dA_15 rfl ?_
    refine g_iconst (1 : Int32) C dA_16 (by decide) ?_
    by_cases cc33 : n = (1 : Int32)
    · skip
      refine g_icmpF C dA_17 (show n = (1 : Int32) from cc33) ?_
      refine g_iloadN C dA_20 rfl ?_
      refine g_sipush (255 : Int32) C dA_21 (by decide) ?_
      refine g_iand _ C dA_24 rfl ?_
      refine g_i2c (b &&& (255 : Int32)) C dA_25 (i2c_mask _) ?_
      refine g_invokestatic [(.int (b &&& (255 : Int32)))] [] 0 C dA_26 (hw _ (List.mem_of_getElem? (i := 85) rfl)) (hw _ (List.mem_of_getElem? (i := 86) rfl)) (hw _ (List.mem_of_getElem? (i := 7) rfl)) (hw _ (List.mem_of_getElem? (i := 87) rfl)) (by decide) (m_valueOf l Z a0 hw S0 hz0 S1 S2 S3 S4 (b &&& (255 : Int32)) (own_mask255 _) _) (lenOf pd5 rfl) rfl rfl (Nat.le_of_ble_eq_true rfl) (by decide) (by decide) (by decide) (by decide) all0 (fun v39 h40 L41 q42 K43 => ?_)
      obtain ⟨a34, t35, rfl, g36, l37, f38⟩ := q42
      have f44 := f38.1
      show Go _ _ _ _ _ _ _ _ _ _ _ _ _ _ _ _ _ _ _ _ _ _ (mkF _ 29 #[.val (.int n), .val (.int b), .unset] [(.ref a34)])
      have hcs : mkL n b = [(b &&& (255 : Int32))] := by simp [mkL, cc1, cc33]
      exact g_retA C dA_29 rfl rfl ⟨a34, t35, rfl, Nat.le_trans (Nat.le_refl _) g36, l37, hcs ▸ f38⟩ (by decide) (by decide)
    · skip
      refine g_icmpT 30 C dA_17 (show ¬ n = (1 : Int32) from cc33) (by decide) (by decide) ?_
      refine g_iconst (2 : Int32) C dA_30 (by decide) ?_
      refine g_newarray_ (ad := "[C") 2 [(.int (0 : Int32)), (.int (0 : Int32))] C dA_31 (hw _ (List.mem_of_getElem? (i := 8) rfl)) (by decide) (by decide) (by decide) (by decide) (by decide) (by decide) (by decide) (fun a45 h46 e47 E48 l49 f50 f51 => ?_)
      have K52 := keep_ext E48
      refine g_astoreN #[.val (.int n), .val (.int b), .val (.ref a45)] C dA_33 rfl rfl ?_
      refine g_aloadN C dA_34 rfl rfl ?_
      refine g_iconst (0 : Int32) C dA_35 (by decide) ?_
      refine g_iloadN C dA_36 rfl ?_
      refine g_sipush (255 : Int32) C dA_37 (by decide) ?_
      refine g_iand _ C dA_40 rfl ?_
      refine g_i2c (b &&& (255 : Int32)) C dA_41 (i2c_mask _) ?_
      refine g_castore 0 C dA_42 f51 (by decide) (by decide) (Nat.le_of_ble_eq_true rfl) (List.mem_of_getElem? (i := 0) rfl) (fun h53 K54 z55 f56 => ?_)
      have f57 : Av Z h53 a45 .char [(.int (b &&& (255 : Int32))), (.int (0 : Int32))] := (show nar .char (b &&& (255 : Int32)) = (b &&& (255 : Int32)) from i2c_mask _) ▸ f56
      refine g_aloadN C dA_43 rfl rfl ?_
      refine g_iconst (1 : Int32) C dA_44 (by decide) ?_
      refine g_iloadN C dA_45 rfl ?_
      refine g_bipush (8 : Int32) C dA_46 (by decide) ?_
      refine g_iushr _ C dA_48 rfl ?_
      refine g_sipush (255 : Int32) C dA_49 (by decide) ?_
      refine g_iand _ C dA_52 rfl ?_
      refine g_i2c ((XT.ushr b (8 : Int32)) &&& (255 : Int32)) C dA_53 (i2c_mask _) ?_
      refine g_castore 1 C dA_54 f57 (by decide) (by decide) (Nat.le_of_ble_eq_true rfl) (List.mem_of_getElem? (i := 0) rfl) (fun h58 K59 z60 f61 => ?_)
      have f62 : Av Z h58 a45 .char [(.int (b &&& (255 : Int32))), (.int ((XT.ushr b (8 : Int32)) &&& (255 : Int32)))] := (show nar .char ((XT.ushr b (8 : Int32)) &&& (255 : Int32)) = ((XT.ushr b (8 : Int32)) &&& (255 : Int32)) from i2c_mask _) ▸ f61
      refine g_new_ C dA_55 (hw _ (List.mem_of_getElem? (i := 5) rfl)) (hw _ (List.mem_of_getElem? (i := 6) rfl)) (hw _ (List.mem_of_getElem? (i := 7) rfl)) (by decide) (by decide) (fun a63 h64 e65 E66 l67 f68 D69 => ?_)
      have K70 := keep_ext E66
      have f71 : Fld Z h64 a63 "java/lang/String" "value" "[B" .null := D69 (Or.inr (hw _ (List.mem_of_getElem? (i := 21) rfl))) (ty := (.array .byte)) (by decide)
      have f72 : Fld Z h64 a63 "java/lang/String" "coder" "B" (.int (0 : Int32)) := D69 (Or.inr (hw _ (List.mem_of_getElem? (i := 22) rfl))) (ty := .byte) (by decide)
      refine g_dup C dA_58 rfl ?_
      refine g_aloadN C dA_59 rfl rfl ?_
      have f80 := (f62.keep K70 nin0)
      refine g_newStr (cs := [(b &&& (255 : Int32)), ((XT.ushr b (8 : Int32)) &&& (255 : Int32))]) 2 [(.ref a63)] 1 C dA_60 (own_hws hw) (hw _ (List.mem_of_getElem? (i := 6) rfl)) (hw _ (List.mem_of_getElem? (i := 9) rfl)) (hw _ (List.mem_of_getElem? (i := 10) rfl)) (hw _ (List.mem_of_getElem? (i := 11) rfl)) f68 f71 f72 f80 S0 hz0 rfl (by decide) (by decide) (own_allS (own_mask255 _) (own_allS (own_mask255 _) own_all0)) rfl (Nat.le_of_ble_eq_true rfl) (by decide) (by decide) (by decide) (by decide) (List.mem_of_getElem? (i := 0) rfl) (fun t73 h74 L75 g76 l77 f78 K79 => ?_)
      have f81 := f78.1
      have hcs : mkL n b = [(b &&& (255 : Int32)), ((XT.ushr b (8 : Int32)) &&& (255 : Int32))] := by simp [mkL, cc1, cc33]
      exact g_retA C dA_63 rfl rfl ⟨a63, t73, rfl, Nat.le_trans (Nat.le_trans (Nat.le_trans K52.1 K54.1) K59.1) (Nat.le_of_eq e65.symm), l77, hcs ▸ f78⟩ (by decide) (by decide)
theorem dB_0 : decode method_4_code 0 = .ok (.iload_n 0, 1) := by decide +kernel
theorem dB_1 : decode method_4_code 1 = .ok (.ifCond .ne 7, 3) := by decide +kernel
theorem dB_4 : decode method_4_code 4 = .ok (.getstatic 16, 3) := by decide +kernel
theorem dB_7 : decode method_4_code 7 = .ok (.areturn, 1) := by decide +kernel
theorem dB_8 : decode method_4_code 8 = .ok (.iload_n 0, 1) := by decide +kernel
theorem dB_9 : decode method_4_code 9 = .ok (.iconst 1, 1) := by decide +kernel
theorem dB_10 : decode method_4_code 10 = .ok (.if_icmp .ne 7, 3) := by decide +kernel
theorem dB_13 : decode method_4_code 13 = .ok (.getstatic 22, 3) := by decide +kernel
theorem dB_16 : decode method_4_code 16 = .ok (.areturn, 1) := by decide +kernel
theorem dB_17 : decode method_4_code 17 = .ok (.iload_n 0, 1) := by decide +kernel
theorem dB_18 : decode method_4_code 18 = .ok (.iconst 2, 1) := by decide +kernel
theorem dB_19 : decode method_4_code 19 = .ok (.if_icmp .ne 7, 3) := by decide +kernel
theorem dB_22 : decode method_4_code 22 = .ok (.getstatic 25, 3) := by decide +kernel
theorem dB_25 : decode method_4_code 25 = .ok (.areturn, 1) := by decide +kernel
theorem dB_26 : decode method_4_code 26 = .ok (.getstatic 28, 3) := by decide +kernel
theorem dB_29 : decode method_4_code 29 = .ok (.areturn, 1) := by decide +kernel
set_option maxRecDepth 65536 in
set_option maxHeartbeats 80000000 in
theorem m_lvl (l : Launch) (Z : State) (a0 : Array Value) {z0 : Int32} (hw : ∀ d ∈ tables_1, d.before a0 Z = true) (S0 : Sta Z Z.heap "java/lang/String" "COMPACT_STRINGS" "Z" (.int z0)) (hz0 : ¬ z0 = 0) {u1 u2 u3 u4 : Addr} (S1 : Sta Z Z.heap "com/example/libcloak/libcloak/core/Level" "UNCLASSIFIED" "Lcom/example/libcloak/libcloak/core/Level;" (.ref u1)) (S2 : Sta Z Z.heap "com/example/libcloak/libcloak/core/Level" "CONFIDENTIAL" "Lcom/example/libcloak/libcloak/core/Level;" (.ref u2)) (S3 : Sta Z Z.heap "com/example/libcloak/libcloak/core/Level" "SECRET" "Lcom/example/libcloak/libcloak/core/Level;" (.ref u3)) (S4 : Sta Z Z.heap "com/example/libcloak/libcloak/core/Level" "TOP_SECRET" "Lcom/example/libcloak/libcloak/core/Level;" (.ref u4)) (n : Int32) (h : Heap) :
    MetW true l Z [("java/lang/String", 7)] (⟨"com/example/libcloak/libcloak/core/CatalogGroupEqualsPinLaw", "lvl", "(I)Lcom/example/libcloak/libcloak/core/Level;"⟩ : MethodName) method_4_code 1 (Option.some (Jvm.ClassFile.FieldType.object "com/example/libcloak/libcloak/core/Level")) [] ({ frames := 0, cells := 0, slots := 0, locals := 0 } : Room) #[(.int n)] [] h (fun v h' => v = some (.ref (lvA n u1 u2 u3 u4))) := by
  refine MetW.of (Ls := #[.val (.int n)]) (a0 := a0) (by first | (simp [plainName, overriddenIn]; done) | decide +kernel) (fun m => by first | (simp [entryFrame, mkF, argsToLocals, Value.category]; done) | rfl) (own_EW hw) (fun q => nomatch q) (fun p e s m below meth c hs0 C => ?_)
  refine g_iloadN C dB_0 rfl ?_
  by_cases cc1 : n = (0 : Int32)
  · skip
    refine g_ifF C dB_1 (show n = (0 : Int32) from cc1) ?_
    refine g_getstatic (host := "") C dB_4 (Or.inl (hw _ (List.mem_of_getElem? (i := 33) rfl))) Via.refl S1 ?_
    exact g_retA C dB_7 rfl rfl (by simp [lvA, cc1]) (by decide) (by decide)
  · skip
    refine g_ifT 8 C dB_1 (show ¬ n = (0 : Int32) from cc1) (by decide) (by decide) ?_
    refine g_iloadN C dB_8 rfl ?_
    refine g_iconst (1 : Int32) C dB_9 (by decide) ?_
    by_cases cc2 : n = (1 : Int32)
    · skip
      refine g_icmpF C dB_10 (show n = (1 : Int32) from cc2) ?_
      refine g_getstatic (host := "") C dB_13 (Or.inl (hw _ (List.mem_of_getElem? (i := 69) rfl))) Via.refl S2 ?_
      exact g_retA C dB_16 rfl rfl (by simp [lvA, cc1, cc2]) (by decide) (by decide)
    · skip
      refine g_icmpT 17 C dB_10 (show ¬ n = (1 : Int32) from cc2) (by decide) (by decide) ?_
      refine g_iloadN C dB_17 rfl ?_
      refine g_iconst (2 : Int32) C dB_18 (by decide) ?_
      by_cases cc3 : n = (2 : Int32)
      · skip
        refine g_icmpF C dB_19 (show n = (2 : Int32) from cc3) ?_
        refine g_getstatic (host := "") C dB_22 (Or.inl (hw _ (List.mem_of_getElem? (i := 71) rfl))) Via.refl S3 ?_
        exact g_retA C dB_25 rfl rfl (by simp [lvA, cc1, cc2, cc3]) (by decide) (by decide)
      · skip
        refine g_icmpT 26 C dB_19 (show ¬ n = (2 : Int32) from cc3) (by decide) (by decide) ?_
        refine g_getstatic (host := "") C dB_26 (Or.inl (hw _ (List.mem_of_getElem? (i := 83) rfl))) Via.refl S4 ?_
        exact g_retA C dB_29 rfl rfl (by simp [lvA, cc1, cc2, cc3]) (by decide) (by decide)
theorem dC_0 : decode method_3_code 0 = .ok (.iload_n 0, 1) := by decide +kernel
theorem dC_1 : decode method_3_code 1 = .ok (.iload_n 2, 1) := by decide +kernel
theorem dC_2 : decode method_3_code 2 = .ok (.if_icmp .eq 5, 3) := by decide +kernel
theorem dC_5 : decode method_3_code 5 = .ok (.iconst 0, 1) := by decide +kernel
theorem dC_6 : decode method_3_code 6 = .ok (.ireturn, 1) := by decide +kernel
theorem dC_7 : decode method_3_code 7 = .ok (.iload_n 0, 1) := by decide +kernel
theorem dC_8 : decode method_3_code 8 = .ok (.ifCond .ne 5, 3) := by decide +kernel
theorem dC_11 : decode method_3_code 11 = .ok (.iconst 1, 1) := by decide +kernel
theorem dC_12 : decode method_3_code 12 = .ok (.ireturn, 1) := by decide +kernel
theorem dC_13 : decode method_3_code 13 = .ok (.iload_n 1, 1) := by decide +kernel
theorem dC_14 : decode method_3_code 14 = .ok (.sipush 255, 3) := by decide +kernel
theorem dC_17 : decode method_3_code 17 = .ok (.iand, 1) := by decide +kernel
theorem dC_18 : decode method_3_code 18 = .ok (.iload_n 3, 1) := by decide +kernel
theorem dC_19 : decode method_3_code 19 = .ok (.sipush 255, 3) := by decide +kernel
theorem dC_22 : decode method_3_code 22 = .ok (.iand, 1) := by decide +kernel
theorem dC_23 : decode method_3_code 23 = .ok (.if_icmp .eq 5, 3) := by decide +kernel
theorem dC_26 : decode method_3_code 26 = .ok (.iconst 0, 1) := by decide +kernel
theorem dC_27 : decode method_3_code 27 = .ok (.ireturn, 1) := by decide +kernel
theorem dC_28 : decode method_3_code 28 = .ok (.iload_n 0, 1) := by decide +kernel
theorem dC_29 : decode method_3_code 29 = .ok (.iconst 1, 1) := by decide +kernel
theorem dC_30 : decode method_3_code 30 = .ok (.if_icmp .ne 5, 3) := by decide +kernel
theorem dC_33 : decode method_3_code 33 = .ok (.iconst 1, 1) := by decide +kernel
theorem dC_34 : decode method_3_code 34 = .ok (.ireturn, 1) := by decide +kernel
theorem dC_35 : decode method_3_code 35 = .ok (.iload_n 1, 1) := by decide +kernel
theorem dC_36 : decode method_3_code 36 = .ok (.bipush 8, 2) := by decide +kernel
theorem dC_38 : decode method_3_code 38 = .ok (.iushr, 1) := by decide +kernel
theorem dC_39 : decode method_3_code 39 = .ok (.sipush 255, 3) := by decide +kernel
theorem dC_42 : decode method_3_code 42 = .ok (.iand, 1) := by decide +kernel
theorem dC_43 : decode method_3_code 43 = .ok (.iload_n 3, 1) := by decide +kernel
theorem dC_44 : decode method_3_code 44 = .ok (.bipush 8, 2) := by decide +kernel
theorem dC_46 : decode method_3_code 46 = .ok (.iushr, 1) := by decide +kernel
theorem dC_47 : decode method_3_code 47 = .ok (.sipush 255, 3) := by decide +kernel
theorem dC_50 : decode method_3_code 50 = .ok (.iand, 1) := by decide +kernel
theorem dC_51 : decode method_3_code 51 = .ok (.if_icmp .ne 7, 3) := by decide +kernel
theorem dC_54 : decode method_3_code 54 = .ok (.iconst 1, 1) := by decide +kernel
theorem dC_55 : decode method_3_code 55 = .ok (.goto 4, 3) := by decide +kernel
theorem dC_58 : decode method_3_code 58 = .ok (.iconst 0, 1) := by decide +kernel
theorem dC_59 : decode method_3_code 59 = .ok (.ireturn, 1) := by decide +kernel
set_option maxRecDepth 65536 in
set_option maxHeartbeats 80000000 in
theorem m_same (l : Launch) (Z : State) (a0 : Array Value) {z0 : Int32} (hw : ∀ d ∈ tables_1, d.before a0 Z = true) (S0 : Sta Z Z.heap "java/lang/String" "COMPACT_STRINGS" "Z" (.int z0)) (hz0 : ¬ z0 = 0) {u1 u2 u3 u4 : Addr} (S1 : Sta Z Z.heap "com/example/libcloak/libcloak/core/Level" "UNCLASSIFIED" "Lcom/example/libcloak/libcloak/core/Level;" (.ref u1)) (S2 : Sta Z Z.heap "com/example/libcloak/libcloak/core/Level" "CONFIDENTIAL" "Lcom/example/libcloak/libcloak/core/Level;" (.ref u2)) (S3 : Sta Z Z.heap "com/example/libcloak/libcloak/core/Level" "SECRET" "Lcom/example/libcloak/libcloak/core/Level;" (.ref u3)) (S4 : Sta Z Z.heap "com/example/libcloak/libcloak/core/Level" "TOP_SECRET" "Lcom/example/libcloak/libcloak/core/Level;" (.ref u4)) (n1 b1 n2 b2 : Int32) (h1 : n1 = 0 ∨ n1 = 1 ∨ n1 = 2) (h2 : n2 = 0 ∨ n2 = 1 ∨ n2 = 2) (h : Heap) :
    MetW true l Z [("java/lang/String", 7)] (⟨"com/example/libcloak/libcloak/core/CatalogGroupEqualsPinLaw", "sameStr", "(IIII)Z"⟩ : MethodName) method_3_code 4 (Option.some Jvm.ClassFile.FieldType.boolean) [] ({ frames := 0, cells := 0, slots := 0, locals := 0 } : Room) #[(.int n1), (.int b1), (.int n2), (.int b2)] [] h (fun v h' => v = some (.int (if mkL n1 b1 = mkL n2 b2 then 1 else 0))) := by
  refine MetW.of (Ls := #[.val (.int n1), .val (.int b1), .val (.int n2), .val (.int b2)]) (a0 := a0) (by first | (simp [plainName, overriddenIn]; done) | decide +kernel) (fun m => by first | (simp [entryFrame, mkF, argsToLocals, Value.category]; done) | rfl) (own_EW hw) (fun q => nomatch q) (fun p e s m below meth c hs0 C => ?_)
  refine g_iloadN C dC_0 rfl ?_
  refine g_iloadN C dC_1 rfl ?_
  by_cases cc1 : n1 = n2
  · skip
    refine g_icmpT 7 C dC_2 (show n1 = n2 from cc1) (by decide) (by decide) ?_
    refine g_iloadN C dC_7 rfl ?_
    by_cases cc2 : n1 = (0 : Int32)
    · skip
      refine g_ifF C dC_8 (show n1 = (0 : Int32) from cc2) ?_
      refine g_iconst (1 : Int32) C dC_11 (by decide) ?_
      have hq : (if mkL n1 b1 = mkL n2 b2 then (1 : Int32) else 0) = (1 : Int32) := by
        simp only [mkL_eq h1 h2]
        simp_all
      exact g_retN C dC_12 (by simp) (by rw [hq]; rfl) (by decide) (by decide)
    · skip
      refine g_ifT 13 C dC_8 (show ¬ n1 = (0 : Int32) from cc2) (by decide) (by decide) ?_
      refine g_iloadN C dC_13 rfl ?_
      refine g_sipush (255 : Int32) C dC_14 (by decide) ?_
      refine g_iand _ C dC_17 rfl ?_
      refine g_iloadN C dC_18 rfl ?_
      refine g_sipush (255 : Int32) C dC_19 (by decide) ?_
      refine g_iand _ C dC_22 rfl ?_
      by_cases cc3 : (b1 &&& (255 : Int32)) = (b2 &&& (255 : Int32))
      · skip
        refine g_icmpT 28 C dC_23 (show (b1 &&& (255 : Int32)) = (b2 &&& (255 : Int32)) from cc3) (by decide) (by decide) ?_
        refine g_iloadN C dC_28 rfl ?_
        refine g_iconst (1 : Int32) C dC_29 (by decide) ?_
        by_cases cc4 : n1 = (1 : Int32)
        · skip
          refine g_icmpF C dC_30 (show n1 = (1 : Int32) from cc4) ?_
          refine g_iconst (1 : Int32) C dC_33 (by decide) ?_
          have hq : (if mkL n1 b1 = mkL n2 b2 then (1 : Int32) else 0) = (1 : Int32) := by
            simp only [mkL_eq h1 h2]
            simp_all
          exact g_retN C dC_34 (by simp) (by rw [hq]; rfl) (by decide) (by decide)
        · skip
          refine g_icmpT 35 C dC_30 (show ¬ n1 = (1 : Int32) from cc4) (by decide) (by decide) ?_
          refine g_iloadN C dC_35 rfl ?_
          refine g_bipush (8 : Int32) C dC_36 (by decide) ?_
          refine g_iushr _ C dC_38 rfl ?_
          refine g_sipush (255 : Int32) C dC_39 (by decide) ?_
          refine g_iand _ C dC_42 rfl ?_
          refine g_iloadN C dC_43 rfl ?_
          refine g_bipush (8 : Int32) C dC_44 (by decide) ?_
          refine g_iushr _ C dC_46 rfl ?_
          refine g_sipush (255 : Int32) C dC_47 (by decide) ?_
          refine g_iand _ C dC_50 rfl ?_
          by_cases cc5 : ((XT.ushr b1 (8 : Int32)) &&& (255 : Int32)) = ((XT.ushr b2 (8 : Int32)) &&& (255 : Int32))
          · skip
            refine g_icmpF C dC_51 (show ((XT.ushr b1 (8 : Int32)) &&& (255 : Int32)) = ((XT.ushr b2 (8 : Int32)) &&& (255 : Int32)) from cc5) ?_
            refine g_iconst (1 : Int32) C dC_54 (by decide) ?_
            refine g_goto 59 C dC_55 (by decide) (by decide) ?_
            have hq : (if mkL n1 b1 = mkL n2 b2 then (1 : Int32) else 0) = (1 : Int32) := by
              simp only [mkL_eq h1 h2]
              simp_all
            exact g_retN C dC_59 (by simp) (by rw [hq]; rfl) (by decide) (by decide)
          · skip
            refine g_icmpT 58 C dC_51 (show ¬ ((XT.ushr b1 (8 : Int32)) &&& (255 : Int32)) = ((XT.ushr b2 (8 : Int32)) &&& (255 : Int32)) from cc5) (by decide) (by decide) ?_
            refine g_iconst (0 : Int32) C dC_58 (by decide) ?_
            have hq : (if mkL n1 b1 = mkL n2 b2 then (1 : Int32) else 0) = (0 : Int32) := by
              simp only [mkL_eq h1 h2]
              simp_all
            exact g_retN C dC_59 (by simp) (by rw [hq]; rfl) (by decide) (by decide)
      · skip
        refine g_icmpF C dC_23 (show ¬ (b1 &&& (255 : Int32)) = (b2 &&& (255 : Int32)) from cc3) ?_
        refine g_iconst (0 : Int32) C dC_26 (by decide) ?_
        have hq : (if mkL n1 b1 = mkL n2 b2 then (1 : Int32) else 0) = (0 : Int32) := by
          simp only [mkL_eq h1 h2]
          simp_all
        exact g_retN C dC_27 (by simp) (by rw [hq]; rfl) (by decide) (by decide)
  · skip
    refine g_icmpF C dC_2 (show ¬ n1 = n2 from cc1) ?_
    refine g_iconst (0 : Int32) C dC_5 (by decide) ?_
    have hq : (if mkL n1 b1 = mkL n2 b2 then (1 : Int32) else 0) = (0 : Int32) := by
      simp only [mkL_eq h1 h2]
      simp_all
    exact g_retN C dC_6 (by simp) (by rw [hq]; rfl) (by decide) (by decide)
theorem dD_0 : decode prog_9_method_3_code 0 = .ok (.aload_n 0, 1) := by decide +kernel
theorem dD_1 : decode prog_9_method_3_code 1 = .ok (.invokespecial 16, 3) := by decide +kernel
theorem dD_4 : decode prog_9_method_3_code 4 = .ok (.aload_n 0, 1) := by decide +kernel
theorem dD_5 : decode prog_9_method_3_code 5 = .ok (.aload_n 1, 1) := by decide +kernel
theorem dD_6 : decode prog_9_method_3_code 6 = .ok (.putfield 21, 3) := by decide +kernel
theorem dD_9 : decode prog_9_method_3_code 9 = .ok (.aload_n 0, 1) := by decide +kernel
theorem dD_10 : decode prog_9_method_3_code 10 = .ok (.aload_n 2, 1) := by decide +kernel
theorem dD_11 : decode prog_9_method_3_code 11 = .ok (.putfield 25, 3) := by decide +kernel
theorem dD_14 : decode prog_9_method_3_code 14 = .ok (.aload_n 0, 1) := by decide +kernel
theorem dD_15 : decode prog_9_method_3_code 15 = .ok (.aload_n 3, 1) := by decide +kernel
theorem dD_16 : decode prog_9_method_3_code 16 = .ok (.putfield 28, 3) := by decide +kernel
theorem dD_19 : decode prog_9_method_3_code 19 = .ok (.aload_n 0, 1) := by decide +kernel
theorem dD_20 : decode prog_9_method_3_code 20 = .ok (.iload 4, 2) := by decide +kernel
theorem dD_22 : decode prog_9_method_3_code 22 = .ok (.putfield 31, 3) := by decide +kernel
theorem dD_25 : decode prog_9_method_3_code 25 = .ok (.return_, 1) := by decide +kernel
set_option maxRecDepth 65536 in
set_option maxHeartbeats 80000000 in
theorem m_ctor (l : Launch) (Z : State) (a0 : Array Value) {z0 : Int32} (hw : ∀ d ∈ tables_1, d.before a0 Z = true) (S0 : Sta Z Z.heap "java/lang/String" "COMPACT_STRINGS" "Z" (.int z0)) (hz0 : ¬ z0 = 0) {u1 u2 u3 u4 : Addr} (S1 : Sta Z Z.heap "com/example/libcloak/libcloak/core/Level" "UNCLASSIFIED" "Lcom/example/libcloak/libcloak/core/Level;" (.ref u1)) (S2 : Sta Z Z.heap "com/example/libcloak/libcloak/core/Level" "CONFIDENTIAL" "Lcom/example/libcloak/libcloak/core/Level;" (.ref u2)) (S3 : Sta Z Z.heap "com/example/libcloak/libcloak/core/Level" "SECRET" "Lcom/example/libcloak/libcloak/core/Level;" (.ref u3)) (S4 : Sta Z Z.heap "com/example/libcloak/libcloak/core/Level" "TOP_SECRET" "Lcom/example/libcloak/libcloak/core/Level;" (.ref u4)) (a n lv d : Addr) (k : Int32) (hk : k = 0 ∨ k = 1) (h : Heap) (E : Exa Z h a "com/example/libcloak/libcloak/core/CatalogGroup") (F1 : Fld Z h a "com/example/libcloak/libcloak/core/CatalogGroup" "name" "Ljava/lang/String;" .null) (F2 : Fld Z h a "com/example/libcloak/libcloak/core/CatalogGroup" "level" "Lcom/example/libcloak/libcloak/core/Level;" .null) (F3 : Fld Z h a "com/example/libcloak/libcloak/core/CatalogGroup" "node" "Ljava/lang/String;" .null) (F4 : Fld Z h a "com/example/libcloak/libcloak/core/CatalogGroup" "carried" "Z" (.int (0 : Int32))) :
    MetW true l Z [("java/lang/String", 7)] (⟨"com/example/libcloak/libcloak/core/CatalogGroup", "<init>", "(Ljava/lang/String;Lcom/example/libcloak/libcloak/core/Level;Ljava/lang/String;Z)V"⟩ : MethodName) prog_9_method_3_code 5 none [] ({ frames := 1, cells := 0, slots := 0, locals := 12 } : Room) #[(.ref a), (.ref n), (.ref lv), (.ref d), (.int k)] [a] h (fun v h' => v = none ∧ Exa Z h' a "com/example/libcloak/libcloak/core/CatalogGroup" ∧ Fld Z h' a "com/example/libcloak/libcloak/core/CatalogGroup" "name" "Ljava/lang/String;" (.ref n) ∧ Fld Z h' a "com/example/libcloak/libcloak/core/CatalogGroup" "level" "Lcom/example/libcloak/libcloak/core/Level;" (.ref lv) ∧ Fld Z h' a "com/example/libcloak/libcloak/core/CatalogGroup" "node" "Ljava/lang/String;" (.ref d) ∧ Fld Z h' a "com/example/libcloak/libcloak/core/CatalogGroup" "carried" "Z" (.int k)) := by
  refine MetW.of (Ls := #[.val (.ref a), .val (.ref n), .val (.ref lv), .val (.ref d), .val (.int k)]) (a0 := a0) (by first | (simp [plainName, overriddenIn]; done) | decide +kernel) (fun m => by first | (simp [entryFrame, mkF, argsToLocals, Value.category]; done) | rfl) (own_EW hw) (fun q => nomatch q) (fun p e s m below meth c hs0 C => ?_)
  refine g_aloadN C dD_0 rfl rfl ?_
  refine g_objInit C dD_1 (hw _ (List.mem_of_getElem? (i := 39) rfl)) (hw _ (List.mem_of_getElem? (i := 17) rfl)) (hw _ (List.mem_of_getElem? (i := 18) rfl)) rfl (by decide) (Nat.le_of_ble_eq_true rfl) ?_
  refine g_aloadN C dD_4 rfl rfl ?_
  refine g_aloadN C dD_5 rfl rfl ?_
  refine g_putfield (host := "") C dD_6 (Or.inl (hw _ (List.mem_of_getElem? (i := 40) rfl))) Via.refl F1 E (Or.inr ⟨(hw _ (List.mem_of_getElem? (i := 41) rfl)), rfl, rfl⟩) (hw _ (List.mem_of_getElem? (i := 28) rfl)) (ty := (.object "java/lang/String")) (by decide) rfl rfl (List.mem_of_getElem? (i := 0) rfl) (fun h1 W2 K3 => ?_)
  have f4 := Fld.same W2 F1
  have f5 := Fld.other W2 F2 (Or.inr (slot_ne (Or.inr (hw _ (List.mem_of_getElem? (i := 43) rfl))) (Or.inr (hw _ (List.mem_of_getElem? (i := 41) rfl))) (by decide) (t := (.object "com/example/libcloak/libcloak/core/Level")) (t' := (.object "java/lang/String")) (by decide) (by decide)))
  have f6 := Fld.other W2 F3 (Or.inr (slot_ne (Or.inr (hw _ (List.mem_of_getElem? (i := 45) rfl))) (Or.inr (hw _ (List.mem_of_getElem? (i := 41) rfl))) (by decide) (t := (.object "java/lang/String")) (t' := (.object "java/lang/String")) (by decide) (by decide)))
  have f7 := Fld.other W2 F4 (Or.inr (slot_ne (Or.inr (hw _ (List.mem_of_getElem? (i := 47) rfl))) (Or.inr (hw _ (List.mem_of_getElem? (i := 41) rfl))) (by decide) (t := .boolean) (t' := (.object "java/lang/String")) (by decide) (by decide)))
  refine g_aloadN C dD_9 rfl rfl ?_
  refine g_aloadN C dD_10 rfl rfl ?_
  have f8 := (E.keep K3)
  refine g_putfield (host := "") C dD_11 (Or.inl (hw _ (List.mem_of_getElem? (i := 42) rfl))) Via.refl f5 f8 (Or.inr ⟨(hw _ (List.mem_of_getElem? (i := 43) rfl)), rfl, rfl⟩) (hw _ (List.mem_of_getElem? (i := 28) rfl)) (ty := (.object "com/example/libcloak/libcloak/core/Level")) (by decide) rfl rfl (List.mem_of_getElem? (i := 0) rfl) (fun h9 W10 K11 => ?_)
  have f12 := Fld.same W10 f5
  have f13 := Fld.other W10 f4 (Or.inr (slot_ne (Or.inr (hw _ (List.mem_of_getElem? (i := 41) rfl))) (Or.inr (hw _ (List.mem_of_getElem? (i := 43) rfl))) (by decide) (t := (.object "java/lang/String")) (t' := (.object "com/example/libcloak/libcloak/core/Level")) (by decide) (by decide)))
  have f14 := Fld.other W10 f6 (Or.inr (slot_ne (Or.inr (hw _ (List.mem_of_getElem? (i := 45) rfl))) (Or.inr (hw _ (List.mem_of_getElem? (i := 43) rfl))) (by decide) (t := (.object "java/lang/String")) (t' := (.object "com/example/libcloak/libcloak/core/Level")) (by decide) (by decide)))
  have f15 := Fld.other W10 f7 (Or.inr (slot_ne (Or.inr (hw _ (List.mem_of_getElem? (i := 47) rfl))) (Or.inr (hw _ (List.mem_of_getElem? (i := 43) rfl))) (by decide) (t := .boolean) (t' := (.object "com/example/libcloak/libcloak/core/Level")) (by decide) (by decide)))
  refine g_aloadN C dD_14 rfl rfl ?_
  refine g_aloadN C dD_15 rfl rfl ?_
  have f16 := (f8.keep K11)
  refine g_putfield (host := "") C dD_16 (Or.inl (hw _ (List.mem_of_getElem? (i := 44) rfl))) Via.refl f14 f16 (Or.inr ⟨(hw _ (List.mem_of_getElem? (i := 45) rfl)), rfl, rfl⟩) (hw _ (List.mem_of_getElem? (i := 28) rfl)) (ty := (.object "java/lang/String")) (by decide) rfl rfl (List.mem_of_getElem? (i := 0) rfl) (fun h17 W18 K19 => ?_)
  have f20 := Fld.same W18 f14
  have f21 := Fld.other W18 f13 (Or.inr (slot_ne (Or.inr (hw _ (List.mem_of_getElem? (i := 41) rfl))) (Or.inr (hw _ (List.mem_of_getElem? (i := 45) rfl))) (by decide) (t := (.object "java/lang/String")) (t' := (.object "java/lang/String")) (by decide) (by decide)))
  have f22 := Fld.other W18 f12 (Or.inr (slot_ne (Or.inr (hw _ (List.mem_of_getElem? (i := 43) rfl))) (Or.inr (hw _ (List.mem_of_getElem? (i := 45) rfl))) (by decide) (t := (.object "com/example/libcloak/libcloak/core/Level")) (t' := (.object "java/lang/String")) (by decide) (by decide)))
  have f23 := Fld.other W18 f15 (Or.inr (slot_ne (Or.inr (hw _ (List.mem_of_getElem? (i := 47) rfl))) (Or.inr (hw _ (List.mem_of_getElem? (i := 45) rfl))) (by decide) (t := .boolean) (t' := (.object "java/lang/String")) (by decide) (by decide)))
  refine g_aloadN C dD_19 rfl rfl ?_
  refine g_iload C dD_20 rfl ?_
  have f24 := (f16.keep K19)
  refine g_putfield (host := "") C dD_22 (Or.inl (hw _ (List.mem_of_getElem? (i := 46) rfl))) Via.refl f23 f24 (Or.inr ⟨(hw _ (List.mem_of_getElem? (i := 47) rfl)), rfl, rfl⟩) (hw _ (List.mem_of_getElem? (i := 28) rfl)) (ty := .boolean) (by decide) (by rcases hk with rfl | rfl <;> rfl) (by rcases hk with rfl | rfl <;> rfl) (List.mem_of_getElem? (i := 0) rfl) (fun h25 W26 K27 => ?_)
  have f28 := Fld.same W26 f23
  have f29 := Fld.other W26 f21 (Or.inr (slot_ne (Or.inr (hw _ (List.mem_of_getElem? (i := 41) rfl))) (Or.inr (hw _ (List.mem_of_getElem? (i := 47) rfl))) (by decide) (t := (.object "java/lang/String")) (t' := .boolean) (by decide) (by decide)))
  have f30 := Fld.other W26 f22 (Or.inr (slot_ne (Or.inr (hw _ (List.mem_of_getElem? (i := 43) rfl))) (Or.inr (hw _ (List.mem_of_getElem? (i := 47) rfl))) (by decide) (t := (.object "com/example/libcloak/libcloak/core/Level")) (t' := .boolean) (by decide) (by decide)))
  have f31 := Fld.other W26 f20 (Or.inr (slot_ne (Or.inr (hw _ (List.mem_of_getElem? (i := 45) rfl))) (Or.inr (hw _ (List.mem_of_getElem? (i := 47) rfl))) (by decide) (t := (.object "java/lang/String")) (t' := .boolean) (by decide) (by decide)))
  have f32 := (f24.keep K27)
  exact g_retU C dD_25 ⟨rfl, f32, f29, f30, f31, f28⟩ (by decide) (by decide)
theorem dE_0 : decode prog_9_method_9_code 0 = .ok (.aload_n 1, 1) := by decide +kernel
theorem dE_1 : decode prog_9_method_9_code 1 = .ok (.instanceof 8, 3) := by decide +kernel
theorem dE_4 : decode prog_9_method_9_code 4 = .ok (.ifCond .eq 62, 3) := by decide +kernel
theorem dE_7 : decode prog_9_method_9_code 7 = .ok (.aload_n 1, 1) := by decide +kernel
theorem dE_8 : decode prog_9_method_9_code 8 = .ok (.checkcast 8, 3) := by decide +kernel
theorem dE_11 : decode prog_9_method_9_code 11 = .ok (.astore_n 2, 1) := by decide +kernel
theorem dE_12 : decode prog_9_method_9_code 12 = .ok (.aload_n 0, 1) := by decide +kernel
theorem dE_13 : decode prog_9_method_9_code 13 = .ok (.getfield 21, 3) := by decide +kernel
theorem dE_16 : decode prog_9_method_9_code 16 = .ok (.aload_n 2, 1) := by decide +kernel
theorem dE_17 : decode prog_9_method_9_code 17 = .ok (.getfield 21, 3) := by decide +kernel
theorem dE_20 : decode prog_9_method_9_code 20 = .ok (.invokevirtual 35, 3) := by decide +kernel
theorem dE_23 : decode prog_9_method_9_code 23 = .ok (.ifCond .eq 43, 3) := by decide +kernel
theorem dE_26 : decode prog_9_method_9_code 26 = .ok (.aload_n 0, 1) := by decide +kernel
theorem dE_27 : decode prog_9_method_9_code 27 = .ok (.getfield 25, 3) := by decide +kernel
theorem dE_30 : decode prog_9_method_9_code 30 = .ok (.aload_n 2, 1) := by decide +kernel
theorem dE_31 : decode prog_9_method_9_code 31 = .ok (.getfield 25, 3) := by decide +kernel
theorem dE_34 : decode prog_9_method_9_code 34 = .ok (.if_acmp .ne 32, 3) := by decide +kernel
theorem dE_37 : decode prog_9_method_9_code 37 = .ok (.aload_n 0, 1) := by decide +kernel
theorem dE_38 : decode prog_9_method_9_code 38 = .ok (.getfield 28, 3) := by decide +kernel
theorem dE_41 : decode prog_9_method_9_code 41 = .ok (.aload_n 2, 1) := by decide +kernel
theorem dE_42 : decode prog_9_method_9_code 42 = .ok (.getfield 28, 3) := by decide +kernel
theorem dE_45 : decode prog_9_method_9_code 45 = .ok (.invokevirtual 35, 3) := by decide +kernel
theorem dE_48 : decode prog_9_method_9_code 48 = .ok (.ifCond .eq 18, 3) := by decide +kernel
theorem dE_51 : decode prog_9_method_9_code 51 = .ok (.aload_n 0, 1) := by decide +kernel
theorem dE_52 : decode prog_9_method_9_code 52 = .ok (.getfield 31, 3) := by decide +kernel
theorem dE_55 : decode prog_9_method_9_code 55 = .ok (.aload_n 2, 1) := by decide +kernel
theorem dE_56 : decode prog_9_method_9_code 56 = .ok (.getfield 31, 3) := by decide +kernel
theorem dE_59 : decode prog_9_method_9_code 59 = .ok (.if_icmp .ne 7, 3) := by decide +kernel
theorem dE_62 : decode prog_9_method_9_code 62 = .ok (.iconst 1, 1) := by decide +kernel
theorem dE_63 : decode prog_9_method_9_code 63 = .ok (.goto 4, 3) := by decide +kernel
theorem dE_66 : decode prog_9_method_9_code 66 = .ok (.iconst 0, 1) := by decide +kernel
theorem dE_67 : decode prog_9_method_9_code 67 = .ok (.ireturn, 1) := by decide +kernel
set_option maxRecDepth 65536 in
set_option maxHeartbeats 80000000 in
theorem m_eq (l : Launch) (Z : State) (a0 : Array Value) {z0 : Int32} (hw : ∀ d ∈ tables_1, d.before a0 Z = true) (S0 : Sta Z Z.heap "java/lang/String" "COMPACT_STRINGS" "Z" (.int z0)) (hz0 : ¬ z0 = 0) {u1 u2 u3 u4 : Addr} (S1 : Sta Z Z.heap "com/example/libcloak/libcloak/core/Level" "UNCLASSIFIED" "Lcom/example/libcloak/libcloak/core/Level;" (.ref u1)) (S2 : Sta Z Z.heap "com/example/libcloak/libcloak/core/Level" "CONFIDENTIAL" "Lcom/example/libcloak/libcloak/core/Level;" (.ref u2)) (S3 : Sta Z Z.heap "com/example/libcloak/libcloak/core/Level" "SECRET" "Lcom/example/libcloak/libcloak/core/Level;" (.ref u3)) (S4 : Sta Z Z.heap "com/example/libcloak/libcloak/core/Level" "TOP_SECRET" "Lcom/example/libcloak/libcloak/core/Level;" (.ref u4)) (a b s1 l1 d1 t_s1 t_d1 s2 l2 d2 t_s2 t_d2 : Addr) (k1 k2 : Int32) (cs1 cs2 ds1 ds2 : List Int32) (h : Heap) (F1_name : Fld Z h a "com/example/libcloak/libcloak/core/CatalogGroup" "name" "Ljava/lang/String;" (.ref s1)) (F1_level : Fld Z h a "com/example/libcloak/libcloak/core/CatalogGroup" "level" "Lcom/example/libcloak/libcloak/core/Level;" (.ref l1)) (F1_node : Fld Z h a "com/example/libcloak/libcloak/core/CatalogGroup" "node" "Ljava/lang/String;" (.ref d1)) (F1_carried : Fld Z h a "com/example/libcloak/libcloak/core/CatalogGroup" "carried" "Z" (.int k1)) (F2_name : Fld Z h b "com/example/libcloak/libcloak/core/CatalogGroup" "name" "Ljava/lang/String;" (.ref s2)) (F2_level : Fld Z h b "com/example/libcloak/libcloak/core/CatalogGroup" "level" "Lcom/example/libcloak/libcloak/core/Level;" (.ref l2)) (F2_node : Fld Z h b "com/example/libcloak/libcloak/core/CatalogGroup" "node" "Ljava/lang/String;" (.ref d2)) (F2_carried : Fld Z h b "com/example/libcloak/libcloak/core/CatalogGroup" "carried" "Z" (.int k2)) (Eb : Exa Z h b "com/example/libcloak/libcloak/core/CatalogGroup") (G_s1 : Str Z h s1 t_s1 cs1) (L_s1 : cs1.length ≤ 4000) (B_s1 : ∀ c ∈ cs1, ¬ c < 0 ∧ ¬ (255 : Int32) < c) (G_d1 : Str Z h d1 t_d1 ds1) (L_d1 : ds1.length ≤ 4000) (B_d1 : ∀ c ∈ ds1, ¬ c < 0 ∧ ¬ (255 : Int32) < c) (G_s2 : Str Z h s2 t_s2 cs2) (L_s2 : cs2.length ≤ 4000) (B_s2 : ∀ c ∈ cs2, ¬ c < 0 ∧ ¬ (255 : Int32) < c) (G_d2 : Str Z h d2 t_d2 ds2) (L_d2 : ds2.length ≤ 4000) (B_d2 : ∀ c ∈ ds2, ¬ c < 0 ∧ ¬ (255 : Int32) < c) :
    MetW true l Z [("java/lang/String", 7)] (⟨"com/example/libcloak/libcloak/core/CatalogGroup", "equals", "(Ljava/lang/Object;)Z"⟩ : MethodName) prog_9_method_9_code 3 (Option.some Jvm.ClassFile.FieldType.boolean) [] ({ frames := 2, cells := 0, slots := 0, locals := 28 } : Room) #[(.ref a), (.ref b)] [] h (fun v h' => v = some (.int (if cs1 = cs2 ∧ l1 = l2 ∧ ds1 = ds2 ∧ k1 = k2 then 1 else 0))) := by
  refine MetW.of (Ls := #[.val (.ref a), .val (.ref b), .unset]) (a0 := a0) (by first | (simp [plainName, overriddenIn]; done) | decide +kernel) (fun m => by first | (simp [entryFrame, mkF, argsToLocals, Value.category]; done) | rfl) (own_EW hw) (fun q => nomatch q) (fun p e s m below meth c hs0 C => ?_)
  refine g_aloadN C dE_0 rfl rfl ?_
  refine g_instY C dE_1 (hw _ (List.mem_of_getElem? (i := 56) rfl)) (Ins.self Eb) ?_
  refine g_ifF C dE_4 (show ¬ (1 : Int32) = (0 : Int32) by decide) ?_
  refine g_aloadN C dE_7 rfl rfl ?_
  refine g_castY C dE_8 (hw _ (List.mem_of_getElem? (i := 56) rfl)) (Ins.self Eb) ?_
  refine g_astoreN #[.val (.ref a), .val (.ref b), .val (.ref b)] C dE_11 rfl rfl ?_
  refine g_aloadN C dE_12 rfl rfl ?_
  refine g_getfield (host := "") C dE_13 (Or.inl (hw _ (List.mem_of_getElem? (i := 40) rfl))) Via.refl F1_name ?_
  refine g_aloadN C dE_16 rfl rfl ?_
  refine g_getfield (host := "") C dE_17 (Or.inl (hw _ (List.mem_of_getElem? (i := 40) rfl))) Via.refl F2_name ?_
  refine g_strEq (cs := cs1) (ds := cs2) [] 0 C dE_20 (own_hwe hw) (hw _ (List.mem_of_getElem? (i := 6) rfl)) (hw _ (List.mem_of_getElem? (i := 58) rfl)) (hw _ (List.mem_of_getElem? (i := 59) rfl)) (hw _ (List.mem_of_getElem? (i := 61) rfl)) (hw _ (List.mem_of_getElem? (i := 60) rfl)) G_s1 G_s2 S0 hz0 L_s1 L_s2 B_s1 B_s2 rfl (Nat.le_of_ble_eq_true rfl) (by decide) (by decide) (by decide) (by decide) (fun q1 => ?_) (fun q1 => ?_)
  · skip
    show Go _ _ _ _ _ _ _ _ _ _ _ _ _ _ _ _ _ _ _ _ _ _ (mkF _ 23 #[.val (.ref a), .val (.ref b), .val (.ref b)] [(.int (1 : Int32))])
    refine g_ifF C dE_23 (show ¬ (1 : Int32) = (0 : Int32) by decide) ?_
    refine g_aloadN C dE_26 rfl rfl ?_
    refine g_getfield (host := "") C dE_27 (Or.inl (hw _ (List.mem_of_getElem? (i := 42) rfl))) Via.refl F1_level ?_
    refine g_aloadN C dE_30 rfl rfl ?_
    refine g_getfield (host := "") C dE_31 (Or.inl (hw _ (List.mem_of_getElem? (i := 42) rfl))) Via.refl F2_level ?_
    by_cases cc2 : l1 = l2
    · skip
      refine g_acmpF C dE_34 rfl rfl (congrArg Value.ref cc2) ?_
      refine g_aloadN C dE_37 rfl rfl ?_
      refine g_getfield (host := "") C dE_38 (Or.inl (hw _ (List.mem_of_getElem? (i := 44) rfl))) Via.refl F1_node ?_
      refine g_aloadN C dE_41 rfl rfl ?_
      refine g_getfield (host := "") C dE_42 (Or.inl (hw _ (List.mem_of_getElem? (i := 44) rfl))) Via.refl F2_node ?_
      refine g_strEq (cs := ds1) (ds := ds2) [] 0 C dE_45 (own_hwe hw) (hw _ (List.mem_of_getElem? (i := 6) rfl)) (hw _ (List.mem_of_getElem? (i := 58) rfl)) (hw _ (List.mem_of_getElem? (i := 59) rfl)) (hw _ (List.mem_of_getElem? (i := 61) rfl)) (hw _ (List.mem_of_getElem? (i := 60) rfl)) G_d1 G_d2 S0 hz0 L_d1 L_d2 B_d1 B_d2 rfl (Nat.le_of_ble_eq_true rfl) (by decide) (by decide) (by decide) (by decide) (fun q3 => ?_) (fun q3 => ?_)
      · skip
        show Go _ _ _ _ _ _ _ _ _ _ _ _ _ _ _ _ _ _ _ _ _ _ (mkF _ 48 #[.val (.ref a), .val (.ref b), .val (.ref b)] [(.int (1 : Int32))])
        refine g_ifF C dE_48 (show ¬ (1 : Int32) = (0 : Int32) by decide) ?_
        refine g_aloadN C dE_51 rfl rfl ?_
        refine g_getfield (host := "") C dE_52 (Or.inl (hw _ (List.mem_of_getElem? (i := 46) rfl))) Via.refl F1_carried ?_
        refine g_aloadN C dE_55 rfl rfl ?_
        refine g_getfield (host := "") C dE_56 (Or.inl (hw _ (List.mem_of_getElem? (i := 46) rfl))) Via.refl F2_carried ?_
        by_cases cc4 : k1 = k2
        · skip
          refine g_icmpF C dE_59 (show k1 = k2 from cc4) ?_
          refine g_iconst (1 : Int32) C dE_62 (by decide) ?_
          refine g_goto 67 C dE_63 (by decide) (by decide) ?_
          have hq : (if cs1 = cs2 ∧ l1 = l2 ∧ ds1 = ds2 ∧ k1 = k2 then (1 : Int32) else 0) = (1 : Int32) := by simp [q1, cc2, q3, cc4]
          exact g_retN C dE_67 (by simp) (by rw [hq]; rfl) (by decide) (by decide)
        · skip
          refine g_icmpT 66 C dE_59 (show ¬ k1 = k2 from cc4) (by decide) (by decide) ?_
          refine g_iconst (0 : Int32) C dE_66 (by decide) ?_
          have hq : (if cs1 = cs2 ∧ l1 = l2 ∧ ds1 = ds2 ∧ k1 = k2 then (1 : Int32) else 0) = (0 : Int32) := by simp [q1, cc2, q3, cc4]
          exact g_retN C dE_67 (by simp) (by rw [hq]; rfl) (by decide) (by decide)
      · skip
        show Go _ _ _ _ _ _ _ _ _ _ _ _ _ _ _ _ _ _ _ _ _ _ (mkF _ 48 #[.val (.ref a), .val (.ref b), .val (.ref b)] [(.int (0 : Int32))])
        refine g_ifT 66 C dE_48 (show (0 : Int32) = (0 : Int32) by decide) (by decide) (by decide) ?_
        refine g_iconst (0 : Int32) C dE_66 (by decide) ?_
        have hq : (if cs1 = cs2 ∧ l1 = l2 ∧ ds1 = ds2 ∧ k1 = k2 then (1 : Int32) else 0) = (0 : Int32) := by simp [q1, cc2, q3]
        exact g_retN C dE_67 (by simp) (by rw [hq]; rfl) (by decide) (by decide)
    · skip
      refine g_acmpT 66 C dE_34 rfl rfl (fun q => cc2 (by cases q; rfl)) (by decide) (by decide) ?_
      refine g_iconst (0 : Int32) C dE_66 (by decide) ?_
      have hq : (if cs1 = cs2 ∧ l1 = l2 ∧ ds1 = ds2 ∧ k1 = k2 then (1 : Int32) else 0) = (0 : Int32) := by simp [q1, cc2]
      exact g_retN C dE_67 (by simp) (by rw [hq]; rfl) (by decide) (by decide)
  · skip
    show Go _ _ _ _ _ _ _ _ _ _ _ _ _ _ _ _ _ _ _ _ _ _ (mkF _ 23 #[.val (.ref a), .val (.ref b), .val (.ref b)] [(.int (0 : Int32))])
    refine g_ifT 66 C dE_23 (show (0 : Int32) = (0 : Int32) by decide) (by decide) (by decide) ?_
    refine g_iconst (0 : Int32) C dE_66 (by decide) ?_
    have hq : (if cs1 = cs2 ∧ l1 = l2 ∧ ds1 = ds2 ∧ k1 = k2 then (1 : Int32) else 0) = (0 : Int32) := by simp [q1]
    exact g_retN C dE_67 (by simp) (by rw [hq]; rfl) (by decide) (by decide)
set_option maxRecDepth 65536 in
set_option maxHeartbeats 80000000 in
theorem m_eqN (l : Launch) (Z : State) (a0 : Array Value) {z0 : Int32} (hw : ∀ d ∈ tables_1, d.before a0 Z = true) (S0 : Sta Z Z.heap "java/lang/String" "COMPACT_STRINGS" "Z" (.int z0)) (hz0 : ¬ z0 = 0) {u1 u2 u3 u4 : Addr} (S1 : Sta Z Z.heap "com/example/libcloak/libcloak/core/Level" "UNCLASSIFIED" "Lcom/example/libcloak/libcloak/core/Level;" (.ref u1)) (S2 : Sta Z Z.heap "com/example/libcloak/libcloak/core/Level" "CONFIDENTIAL" "Lcom/example/libcloak/libcloak/core/Level;" (.ref u2)) (S3 : Sta Z Z.heap "com/example/libcloak/libcloak/core/Level" "SECRET" "Lcom/example/libcloak/libcloak/core/Level;" (.ref u3)) (S4 : Sta Z Z.heap "com/example/libcloak/libcloak/core/Level" "TOP_SECRET" "Lcom/example/libcloak/libcloak/core/Level;" (.ref u4)) (a : Addr) (h : Heap) :
    MetW true l Z [("java/lang/String", 7)] (⟨"com/example/libcloak/libcloak/core/CatalogGroup", "equals", "(Ljava/lang/Object;)Z"⟩ : MethodName) prog_9_method_9_code 3 (Option.some Jvm.ClassFile.FieldType.boolean) [] ({ frames := 0, cells := 0, slots := 0, locals := 0 } : Room) #[(.ref a), .null] [] h (fun v h' => v = some (.int (0 : Int32))) := by
  refine MetW.of (Ls := #[.val (.ref a), .val .null, .unset]) (a0 := a0) (by first | (simp [plainName, overriddenIn]; done) | decide +kernel) (fun m => by first | (simp [entryFrame, mkF, argsToLocals, Value.category]; done) | rfl) (own_EW hw) (fun q => nomatch q) (fun p e s m below meth c hs0 C => ?_)
  refine g_aloadN C dE_0 rfl rfl ?_
  refine g_instNull C dE_1 ?_
  refine g_ifT 66 C dE_4 (show (0 : Int32) = (0 : Int32) by decide) (by decide) (by decide) ?_
  refine g_iconst (0 : Int32) C dE_66 (by decide) ?_
  exact g_retN C dE_67 (by simp) rfl (by decide) (by decide)
set_option maxRecDepth 65536 in
set_option maxHeartbeats 80000000 in
theorem m_eqS (l : Launch) (Z : State) (a0 : Array Value) {z0 : Int32} (hw : ∀ d ∈ tables_1, d.before a0 Z = true) (S0 : Sta Z Z.heap "java/lang/String" "COMPACT_STRINGS" "Z" (.int z0)) (hz0 : ¬ z0 = 0) {u1 u2 u3 u4 : Addr} (S1 : Sta Z Z.heap "com/example/libcloak/libcloak/core/Level" "UNCLASSIFIED" "Lcom/example/libcloak/libcloak/core/Level;" (.ref u1)) (S2 : Sta Z Z.heap "com/example/libcloak/libcloak/core/Level" "CONFIDENTIAL" "Lcom/example/libcloak/libcloak/core/Level;" (.ref u2)) (S3 : Sta Z Z.heap "com/example/libcloak/libcloak/core/Level" "SECRET" "Lcom/example/libcloak/libcloak/core/Level;" (.ref u3)) (S4 : Sta Z Z.heap "com/example/libcloak/libcloak/core/Level" "TOP_SECRET" "Lcom/example/libcloak/libcloak/core/Level;" (.ref u4)) (a b : Addr) (h : Heap) (Eb : Exa Z h b "java/lang/String") :
    MetW true l Z [("java/lang/String", 7)] (⟨"com/example/libcloak/libcloak/core/CatalogGroup", "equals", "(Ljava/lang/Object;)Z"⟩ : MethodName) prog_9_method_9_code 3 (Option.some Jvm.ClassFile.FieldType.boolean) [] ({ frames := 0, cells := 0, slots := 0, locals := 0 } : Room) #[(.ref a), (.ref b)] [] h (fun v h' => v = some (.int (0 : Int32))) := by
  refine MetW.of (Ls := #[.val (.ref a), .val (.ref b), .unset]) (a0 := a0) (by first | (simp [plainName, overriddenIn]; done) | decide +kernel) (fun m => by first | (simp [entryFrame, mkF, argsToLocals, Value.category]; done) | rfl) (own_EW hw) (fun q => nomatch q) (fun p e s m below meth c hs0 C => ?_)
  refine g_aloadN C dE_0 rfl rfl ?_
  refine g_instNo C dE_1 (hw _ (List.mem_of_getElem? (i := 56) rfl)) (ins_no (t := ["java/lang/Object"]) Eb (fun d hd => hw d ((by decide +kernel : ∀ d ∈ Cond.chainWords ["java/lang/String", "java/lang/Object"], d ∈ tables_1) d hd)) (hw _ (List.mem_of_getElem? (i := 28) rfl)) (by decide)) Eb ?_
  refine g_ifT 66 C dE_4 (show (0 : Int32) = (0 : Int32) by decide) (by decide) (by decide) ?_
  refine g_iconst (0 : Int32) C dE_66 (by decide) ?_
  exact g_retN C dE_67 (by simp) rfl (by decide) (by decide)
set_option maxRecDepth 65536 in
set_option maxHeartbeats 80000000 in
theorem m_law (l : Launch) (Z : State) (a0 : Array Value) {z0 : Int32} (hw : ∀ d ∈ tables_1, d.before a0 Z = true) (S0 : Sta Z Z.heap "java/lang/String" "COMPACT_STRINGS" "Z" (.int z0)) (hz0 : ¬ z0 = 0) {u1 u2 u3 u4 : Addr} (S1 : Sta Z Z.heap "com/example/libcloak/libcloak/core/Level" "UNCLASSIFIED" "Lcom/example/libcloak/libcloak/core/Level;" (.ref u1)) (S2 : Sta Z Z.heap "com/example/libcloak/libcloak/core/Level" "CONFIDENTIAL" "Lcom/example/libcloak/libcloak/core/Level;" (.ref u2)) (S3 : Sta Z Z.heap "com/example/libcloak/libcloak/core/Level" "SECRET" "Lcom/example/libcloak/libcloak/core/Level;" (.ref u3)) (S4 : Sta Z Z.heap "com/example/libcloak/libcloak/core/Level" "TOP_SECRET" "Lcom/example/libcloak/libcloak/core/Level;" (.ref u4)) (n1 : u1 ≠ u2) (n2 : u1 ≠ u3) (n3 : u1 ≠ u4) (n4 : u2 ≠ u3) (n5 : u2 ≠ u4) (n6 : u3 ≠ u4) (p0 : Int32) (p1 : Int32) (p2 : Int32) (p3 : Int32) (p4 : Int32) (h : Heap) :
    MetW true l Z [("java/lang/String", 7)] x code maxLocals ret tables_1 room_1 #[.int p0, .int p1, .int p2, .int p3, .int p4] [] h (fun v _ => v = some (.int (1 : Int32))) := by
  refine MetW.of (y := x) (Ls := #[.val (.int p0), .val (.int p1), .val (.int p2), .val (.int p3), .val (.int p4), .unset, .unset, .unset, .unset, .unset, .unset, .unset, .unset, .unset, .unset, .unset, .unset, .unset, .unset, .unset, .unset, .unset, .unset, .unset, .unset, .unset, .unset]) (a0 := a0) (by first | (simp [x, plainName, overriddenIn]; done) | decide +kernel) (fun m => by first | (simp [entryFrame, mkF, argsToLocals, Value.category, maxLocals]; done) | rfl) (own_EW hw) (fun q => nomatch q) (fun p e s m below meth c hs0 C => ?_)
  refine Go.join (α := {z : Int32 // z = 0 ∨ z = 1}) (P := fun q => mkF m 12 #[.val (.int p0), .val (.int p1), .val (.int p2), .val (.int p3), .val (.int p4), .unset, .unset, .unset, .unset, .unset, .unset, .unset, .unset, .unset, .unset, .unset, .unset, .unset, .unset, .unset, .unset, .unset, .unset, .unset, .unset, .unset, .unset] [.int q.1]) (fun q => ?_) (fun J => ?_)
  · obtain ⟨e5_1, he5_1⟩ := q
    show Go _ _ _ _ _ _ _ _ _ _ _ _ _ _ _ _ _ _ _ _ _ _ (mkF _ 12 #[.val (.int p0), .val (.int p1), .val (.int p2), .val (.int p3), .val (.int p4), .unset, .unset, .unset, .unset, .unset, .unset, .unset, .unset, .unset, .unset, .unset, .unset, .unset, .unset, .unset, .unset, .unset, .unset, .unset, .unset, .unset, .unset] [(.int e5_1)])
    refine g_istore #[.val (.int p0), .val (.int p1), .val (.int p2), .val (.int p3), .val (.int p4), .val (.int e5_1), .unset, .unset, .unset, .unset, .unset, .unset, .unset, .unset, .unset, .unset, .unset, .unset, .unset, .unset, .unset, .unset, .unset, .unset, .unset, .unset, .unset] C at_12 rfl ?_
    refine Go.join (α := {z : Int32 // z = 0 ∨ z = 1}) (P := fun q => mkF m 26 #[.val (.int p0), .val (.int p1), .val (.int p2), .val (.int p3), .val (.int p4), .val (.int e5_1), .unset, .unset, .unset, .unset, .unset, .unset, .unset, .unset, .unset, .unset, .unset, .unset, .unset, .unset, .unset, .unset, .unset, .unset, .unset, .unset, .unset] [.int q.1]) (fun q => ?_) (fun J => ?_)
    · obtain ⟨e6_2, he6_2⟩ := q
      show Go _ _ _ _ _ _ _ _ _ _ _ _ _ _ _ _ _ _ _ _ _ _ (mkF _ 26 #[.val (.int p0), .val (.int p1), .val (.int p2), .val (.int p3), .val (.int p4), .val (.int e5_1), .unset, .unset, .unset, .unset, .unset, .unset, .unset, .unset, .unset, .unset, .unset, .unset, .unset, .unset, .unset, .unset, .unset, .unset, .unset, .unset, .unset] [(.int e6_2)])
      refine g_istore #[.val (.int p0), .val (.int p1), .val (.int p2), .val (.int p3), .val (.int p4), .val (.int e5_1), .val (.int e6_2), .unset, .unset, .unset, .unset, .unset, .unset, .unset, .unset, .unset, .unset, .unset, .unset, .unset, .unset, .unset, .unset, .unset, .unset, .unset, .unset] C at_26 rfl ?_
      refine g_iload C at_28 rfl ?_
      refine g_iconst (2 : Int32) C at_30 (by decide) ?_
      refine g_iushr _ C at_31 rfl ?_
      refine g_iconst (3 : Int32) C at_32 (by decide) ?_
      refine g_iand _ C at_33 rfl ?_
      obtain ⟨v7_3, hv7_3⟩ : ∃ z : Int32, z = ((XT.ushr p4 (2 : Int32)) &&& (3 : Int32)) := ⟨_, rfl⟩
      rw [← hv7_3]
      refine g_istore #[.val (.int p0), .val (.int p1), .val (.int p2), .val (.int p3), .val (.int p4), .val (.int e5_1), .val (.int e6_2), .val (.int v7_3), .unset, .unset, .unset, .unset, .unset, .unset, .unset, .unset, .unset, .unset, .unset, .unset, .unset, .unset, .unset, .unset, .unset, .unset, .unset] C at_34 rfl ?_
      refine g_iload C at_36 rfl ?_
      refine g_iconst (4 : Int32) C at_38 (by decide) ?_
      refine g_iushr _ C at_39 rfl ?_
      refine g_iconst (3 : Int32) C at_40 (by decide) ?_
      refine g_iand _ C at_41 rfl ?_
      obtain ⟨v8_4, hv8_4⟩ : ∃ z : Int32, z = ((XT.ushr p4 (4 : Int32)) &&& (3 : Int32)) := ⟨_, rfl⟩
      rw [← hv8_4]
      refine g_istore #[.val (.int p0), .val (.int p1), .val (.int p2), .val (.int p3), .val (.int p4), .val (.int e5_1), .val (.int e6_2), .val (.int v7_3), .val (.int v8_4), .unset, .unset, .unset, .unset, .unset, .unset, .unset, .unset, .unset, .unset, .unset, .unset, .unset, .unset, .unset, .unset, .unset, .unset] C at_42 rfl ?_
      refine Go.join (α := {z : Int32 // z = 0 ∨ z = 1}) (P := fun q => mkF m 57 #[.val (.int p0), .val (.int p1), .val (.int p2), .val (.int p3), .val (.int p4), .val (.int e5_1), .val (.int e6_2), .val (.int v7_3), .val (.int v8_4), .unset, .unset, .unset, .unset, .unset, .unset, .unset, .unset, .unset, .unset, .unset, .unset, .unset, .unset, .unset, .unset, .unset, .unset] [.int q.1]) (fun q => ?_) (fun J => ?_)
      · obtain ⟨e9_5, he9_5⟩ := q
        show Go _ _ _ _ _ _ _ _ _ _ _ _ _ _ _ _ _ _ _ _ _ _ (mkF _ 57 #[.val (.int p0), .val (.int p1), .val (.int p2), .val (.int p3), .val (.int p4), .val (.int e5_1), .val (.int e6_2), .val (.int v7_3), .val (.int v8_4), .unset, .unset, .unset, .unset, .unset, .unset, .unset, .unset, .unset, .unset, .unset, .unset, .unset, .unset, .unset, .unset, .unset, .unset] [(.int e9_5)])
        refine g_istore #[.val (.int p0), .val (.int p1), .val (.int p2), .val (.int p3), .val (.int p4), .val (.int e5_1), .val (.int e6_2), .val (.int v7_3), .val (.int v8_4), .val (.int e9_5), .unset, .unset, .unset, .unset, .unset, .unset, .unset, .unset, .unset, .unset, .unset, .unset, .unset, .unset, .unset, .unset, .unset] C at_57 rfl ?_
        refine Go.join (α := {z : Int32 // z = 0 ∨ z = 1}) (P := fun q => mkF m 73 #[.val (.int p0), .val (.int p1), .val (.int p2), .val (.int p3), .val (.int p4), .val (.int e5_1), .val (.int e6_2), .val (.int v7_3), .val (.int v8_4), .val (.int e9_5), .unset, .unset, .unset, .unset, .unset, .unset, .unset, .unset, .unset, .unset, .unset, .unset, .unset, .unset, .unset, .unset, .unset] [.int q.1]) (fun q => ?_) (fun J => ?_)
        · obtain ⟨e10_6, he10_6⟩ := q
          show Go _ _ _ _ _ _ _ _ _ _ _ _ _ _ _ _ _ _ _ _ _ _ (mkF _ 73 #[.val (.int p0), .val (.int p1), .val (.int p2), .val (.int p3), .val (.int p4), .val (.int e5_1), .val (.int e6_2), .val (.int v7_3), .val (.int v8_4), .val (.int e9_5), .unset, .unset, .unset, .unset, .unset, .unset, .unset, .unset, .unset, .unset, .unset, .unset, .unset, .unset, .unset, .unset, .unset] [(.int e10_6)])
          refine g_istore #[.val (.int p0), .val (.int p1), .val (.int p2), .val (.int p3), .val (.int p4), .val (.int e5_1), .val (.int e6_2), .val (.int v7_3), .val (.int v8_4), .val (.int e9_5), .val (.int e10_6), .unset, .unset, .unset, .unset, .unset, .unset, .unset, .unset, .unset, .unset, .unset, .unset, .unset, .unset, .unset, .unset] C at_73 rfl ?_
          refine g_iload C at_75 rfl ?_
          refine g_bipush (8 : Int32) C at_77 (by decide) ?_
          refine g_iushr _ C at_79 rfl ?_
          refine g_iconst (3 : Int32) C at_80 (by decide) ?_
          refine g_iand _ C at_81 rfl ?_
          obtain ⟨v11_7, hv11_7⟩ : ∃ z : Int32, z = ((XT.ushr p4 (8 : Int32)) &&& (3 : Int32)) := ⟨_, rfl⟩
          rw [← hv11_7]
          refine g_istore #[.val (.int p0), .val (.int p1), .val (.int p2), .val (.int p3), .val (.int p4), .val (.int e5_1), .val (.int e6_2), .val (.int v7_3), .val (.int v8_4), .val (.int e9_5), .val (.int e10_6), .val (.int v11_7), .unset, .unset, .unset, .unset, .unset, .unset, .unset, .unset, .unset, .unset, .unset, .unset, .unset, .unset, .unset] C at_82 rfl ?_
          refine g_iloadN C at_84 rfl ?_
          refine g_bipush (16 : Int32) C at_85 (by decide) ?_
          refine g_iushr _ C at_87 rfl ?_
          refine g_ldcInt (65535 : Int32) C at_88 (hw _ (List.mem_of_getElem? (i := 0) rfl)) ?_
          refine g_iand _ C at_90 rfl ?_
          refine g_iconst (3 : Int32) C at_91 (by decide) ?_
          refine g_irem _ C at_92 (by decide) rfl ?_
          obtain ⟨v12_8, hv12_8⟩ : ∃ z : Int32, z = (((XT.ushr p0 (16 : Int32)) &&& (65535 : Int32)) - (((XT.ushr p0 (16 : Int32)) &&& (65535 : Int32)) / (3 : Int32)) * (3 : Int32)) := ⟨_, rfl⟩
          rw [← hv12_8]
          refine g_istore #[.val (.int p0), .val (.int p1), .val (.int p2), .val (.int p3), .val (.int p4), .val (.int e5_1), .val (.int e6_2), .val (.int v7_3), .val (.int v8_4), .val (.int e9_5), .val (.int e10_6), .val (.int v11_7), .val (.int v12_8), .unset, .unset, .unset, .unset, .unset, .unset, .unset, .unset, .unset, .unset, .unset, .unset, .unset, .unset] C at_93 rfl ?_
          have hl12 : v12_8 = 0 ∨ v12_8 = 1 ∨ v12_8 = 2 := by rw [hv12_8]; exact own_rem3 _
          refine g_iloadN C at_95 rfl ?_
          refine g_ldcInt (65535 : Int32) C at_96 (hw _ (List.mem_of_getElem? (i := 0) rfl)) ?_
          refine g_iand _ C at_98 rfl ?_
          obtain ⟨v13_9, hv13_9⟩ : ∃ z : Int32, z = (p0 &&& (65535 : Int32)) := ⟨_, rfl⟩
          rw [← hv13_9]
          refine g_istore #[.val (.int p0), .val (.int p1), .val (.int p2), .val (.int p3), .val (.int p4), .val (.int e5_1), .val (.int e6_2), .val (.int v7_3), .val (.int v8_4), .val (.int e9_5), .val (.int e10_6), .val (.int v11_7), .val (.int v12_8), .val (.int v13_9), .unset, .unset, .unset, .unset, .unset, .unset, .unset, .unset, .unset, .unset, .unset, .unset, .unset] C at_99 rfl ?_
          refine g_iloadN C at_101 rfl ?_
          refine g_bipush (16 : Int32) C at_102 (by decide) ?_
          refine g_iushr _ C at_104 rfl ?_
          refine g_ldcInt (65535 : Int32) C at_105 (hw _ (List.mem_of_getElem? (i := 0) rfl)) ?_
          refine g_iand _ C at_107 rfl ?_
          refine g_iconst (3 : Int32) C at_108 (by decide) ?_
          refine g_irem _ C at_109 (by decide) rfl ?_
          obtain ⟨v14_10, hv14_10⟩ : ∃ z : Int32, z = (((XT.ushr p1 (16 : Int32)) &&& (65535 : Int32)) - (((XT.ushr p1 (16 : Int32)) &&& (65535 : Int32)) / (3 : Int32)) * (3 : Int32)) := ⟨_, rfl⟩
          rw [← hv14_10]
          refine g_istore #[.val (.int p0), .val (.int p1), .val (.int p2), .val (.int p3), .val (.int p4), .val (.int e5_1), .val (.int e6_2), .val (.int v7_3), .val (.int v8_4), .val (.int e9_5), .val (.int e10_6), .val (.int v11_7), .val (.int v12_8), .val (.int v13_9), .val (.int v14_10), .unset, .unset, .unset, .unset, .unset, .unset, .unset, .unset, .unset, .unset, .unset, .unset] C at_110 rfl ?_
          have hl14 : v14_10 = 0 ∨ v14_10 = 1 ∨ v14_10 = 2 := by rw [hv14_10]; exact own_rem3 _
          refine g_iloadN C at_112 rfl ?_
          refine g_ldcInt (65535 : Int32) C at_113 (hw _ (List.mem_of_getElem? (i := 0) rfl)) ?_
          refine g_iand _ C at_115 rfl ?_
          obtain ⟨v15_11, hv15_11⟩ : ∃ z : Int32, z = (p1 &&& (65535 : Int32)) := ⟨_, rfl⟩
          rw [← hv15_11]
          refine g_istore #[.val (.int p0), .val (.int p1), .val (.int p2), .val (.int p3), .val (.int p4), .val (.int e5_1), .val (.int e6_2), .val (.int v7_3), .val (.int v8_4), .val (.int e9_5), .val (.int e10_6), .val (.int v11_7), .val (.int v12_8), .val (.int v13_9), .val (.int v14_10), .val (.int v15_11), .unset, .unset, .unset, .unset, .unset, .unset, .unset, .unset, .unset, .unset, .unset] C at_116 rfl ?_
          refine Go.join (α := {z : Int32 // z = 0 ∨ z = 1 ∨ z = 2}) (P := fun q => mkF m 137 #[.val (.int p0), .val (.int p1), .val (.int p2), .val (.int p3), .val (.int p4), .val (.int e5_1), .val (.int e6_2), .val (.int v7_3), .val (.int v8_4), .val (.int e9_5), .val (.int e10_6), .val (.int v11_7), .val (.int v12_8), .val (.int v13_9), .val (.int v14_10), .val (.int v15_11), .unset, .unset, .unset, .unset, .unset, .unset, .unset, .unset, .unset, .unset, .unset] [.int q.1]) (fun q => ?_) (fun J => ?_)
          · obtain ⟨e16_12, he16_12⟩ := q
            show Go _ _ _ _ _ _ _ _ _ _ _ _ _ _ _ _ _ _ _ _ _ _ (mkF _ 137 #[.val (.int p0), .val (.int p1), .val (.int p2), .val (.int p3), .val (.int p4), .val (.int e5_1), .val (.int e6_2), .val (.int v7_3), .val (.int v8_4), .val (.int e9_5), .val (.int e10_6), .val (.int v11_7), .val (.int v12_8), .val (.int v13_9), .val (.int v14_10), .val (.int v15_11), .unset, .unset, .unset, .unset, .unset, .unset, .unset, .unset, .unset, .unset, .unset] [(.int e16_12)])
            refine g_istore #[.val (.int p0), .val (.int p1), .val (.int p2), .val (.int p3), .val (.int p4), .val (.int e5_1), .val (.int e6_2), .val (.int v7_3), .val (.int v8_4), .val (.int e9_5), .val (.int e10_6), .val (.int v11_7), .val (.int v12_8), .val (.int v13_9), .val (.int v14_10), .val (.int v15_11), .val (.int e16_12), .unset, .unset, .unset, .unset, .unset, .unset, .unset, .unset, .unset, .unset] C at_137 rfl ?_
            refine Go.join (α := {z : Int32 // z = z}) (P := fun q => mkF m 153 #[.val (.int p0), .val (.int p1), .val (.int p2), .val (.int p3), .val (.int p4), .val (.int e5_1), .val (.int e6_2), .val (.int v7_3), .val (.int v8_4), .val (.int e9_5), .val (.int e10_6), .val (.int v11_7), .val (.int v12_8), .val (.int v13_9), .val (.int v14_10), .val (.int v15_11), .val (.int e16_12), .unset, .unset, .unset, .unset, .unset, .unset, .unset, .unset, .unset, .unset] [.int q.1]) (fun q => ?_) (fun J => ?_)
            · obtain ⟨e17_13, he17_13⟩ := q
              show Go _ _ _ _ _ _ _ _ _ _ _ _ _ _ _ _ _ _ _ _ _ _ (mkF _ 153 #[.val (.int p0), .val (.int p1), .val (.int p2), .val (.int p3), .val (.int p4), .val (.int e5_1), .val (.int e6_2), .val (.int v7_3), .val (.int v8_4), .val (.int e9_5), .val (.int e10_6), .val (.int v11_7), .val (.int v12_8), .val (.int v13_9), .val (.int v14_10), .val (.int v15_11), .val (.int e16_12), .unset, .unset, .unset, .unset, .unset, .unset, .unset, .unset, .unset, .unset] [(.int e17_13)])
              refine g_istore #[.val (.int p0), .val (.int p1), .val (.int p2), .val (.int p3), .val (.int p4), .val (.int e5_1), .val (.int e6_2), .val (.int v7_3), .val (.int v8_4), .val (.int e9_5), .val (.int e10_6), .val (.int v11_7), .val (.int v12_8), .val (.int v13_9), .val (.int v14_10), .val (.int v15_11), .val (.int e16_12), .val (.int e17_13), .unset, .unset, .unset, .unset, .unset, .unset, .unset, .unset, .unset] C at_153 rfl ?_
              refine Go.join (α := {z : Int32 // z = 0 ∨ z = 1 ∨ z = 2}) (P := fun q => mkF m 174 #[.val (.int p0), .val (.int p1), .val (.int p2), .val (.int p3), .val (.int p4), .val (.int e5_1), .val (.int e6_2), .val (.int v7_3), .val (.int v8_4), .val (.int e9_5), .val (.int e10_6), .val (.int v11_7), .val (.int v12_8), .val (.int v13_9), .val (.int v14_10), .val (.int v15_11), .val (.int e16_12), .val (.int e17_13), .unset, .unset, .unset, .unset, .unset, .unset, .unset, .unset, .unset] [.int q.1]) (fun q => ?_) (fun J => ?_)
              · obtain ⟨e18_14, he18_14⟩ := q
                show Go _ _ _ _ _ _ _ _ _ _ _ _ _ _ _ _ _ _ _ _ _ _ (mkF _ 174 #[.val (.int p0), .val (.int p1), .val (.int p2), .val (.int p3), .val (.int p4), .val (.int e5_1), .val (.int e6_2), .val (.int v7_3), .val (.int v8_4), .val (.int e9_5), .val (.int e10_6), .val (.int v11_7), .val (.int v12_8), .val (.int v13_9), .val (.int v14_10), .val (.int v15_11), .val (.int e16_12), .val (.int e17_13), .unset, .unset, .unset, .unset, .unset, .unset, .unset, .unset, .unset] [(.int e18_14)])
                refine g_istore #[.val (.int p0), .val (.int p1), .val (.int p2), .val (.int p3), .val (.int p4), .val (.int e5_1), .val (.int e6_2), .val (.int v7_3), .val (.int v8_4), .val (.int e9_5), .val (.int e10_6), .val (.int v11_7), .val (.int v12_8), .val (.int v13_9), .val (.int v14_10), .val (.int v15_11), .val (.int e16_12), .val (.int e17_13), .val (.int e18_14), .unset, .unset, .unset, .unset, .unset, .unset, .unset, .unset] C at_174 rfl ?_
                refine Go.join (α := {z : Int32 // z = z}) (P := fun q => mkF m 190 #[.val (.int p0), .val (.int p1), .val (.int p2), .val (.int p3), .val (.int p4), .val (.int e5_1), .val (.int e6_2), .val (.int v7_3), .val (.int v8_4), .val (.int e9_5), .val (.int e10_6), .val (.int v11_7), .val (.int v12_8), .val (.int v13_9), .val (.int v14_10), .val (.int v15_11), .val (.int e16_12), .val (.int e17_13), .val (.int e18_14), .unset, .unset, .unset, .unset, .unset, .unset, .unset, .unset] [.int q.1]) (fun q => ?_) (fun J => ?_)
                · obtain ⟨e19_15, he19_15⟩ := q
                  show Go _ _ _ _ _ _ _ _ _ _ _ _ _ _ _ _ _ _ _ _ _ _ (mkF _ 190 #[.val (.int p0), .val (.int p1), .val (.int p2), .val (.int p3), .val (.int p4), .val (.int e5_1), .val (.int e6_2), .val (.int v7_3), .val (.int v8_4), .val (.int e9_5), .val (.int e10_6), .val (.int v11_7), .val (.int v12_8), .val (.int v13_9), .val (.int v14_10), .val (.int v15_11), .val (.int e16_12), .val (.int e17_13), .val (.int e18_14), .unset, .unset, .unset, .unset, .unset, .unset, .unset, .unset] [(.int e19_15)])
                  refine g_istore #[.val (.int p0), .val (.int p1), .val (.int p2), .val (.int p3), .val (.int p4), .val (.int e5_1), .val (.int e6_2), .val (.int v7_3), .val (.int v8_4), .val (.int e9_5), .val (.int e10_6), .val (.int v11_7), .val (.int v12_8), .val (.int v13_9), .val (.int v14_10), .val (.int v15_11), .val (.int e16_12), .val (.int e17_13), .val (.int e18_14), .val (.int e19_15), .unset, .unset, .unset, .unset, .unset, .unset, .unset] C at_190 rfl ?_
                  refine g_iload C at_192 rfl ?_
                  refine g_iload C at_194 rfl ?_
                  refine g_invokestatic [(.int v12_8), (.int v13_9)] [] 0 C at_196 (hw _ (List.mem_of_getElem? (i := 1) rfl)) (hw _ (List.mem_of_getElem? (i := 2) rfl)) (hw _ (List.mem_of_getElem? (i := 3) rfl)) (hw _ (List.mem_of_getElem? (i := 4) rfl)) (by decide) (m_mk l Z a0 hw S0 hz0 S1 S2 S3 S4 _ _ _) (lenOf pd6 rfl) rfl rfl (Nat.le_of_ble_eq_true rfl) (by decide) (by decide) (by decide) (by decide) all0 (fun v21 h22 L23 q24 K25 => ?_)
                  obtain ⟨s16, t17, rfl, g18, l19, f20⟩ := q24
                  have f26 := f20.1
                  show Go _ _ _ _ _ _ _ _ _ _ _ _ _ _ _ _ _ _ _ _ _ _ (mkF _ 199 #[.val (.int p0), .val (.int p1), .val (.int p2), .val (.int p3), .val (.int p4), .val (.int e5_1), .val (.int e6_2), .val (.int v7_3), .val (.int v8_4), .val (.int e9_5), .val (.int e10_6), .val (.int v11_7), .val (.int v12_8), .val (.int v13_9), .val (.int v14_10), .val (.int v15_11), .val (.int e16_12), .val (.int e17_13), .val (.int e18_14), .val (.int e19_15), .unset, .unset, .unset, .unset, .unset, .unset, .unset] [(.ref s16)])
                  refine g_astore #[.val (.int p0), .val (.int p1), .val (.int p2), .val (.int p3), .val (.int p4), .val (.int e5_1), .val (.int e6_2), .val (.int v7_3), .val (.int v8_4), .val (.int e9_5), .val (.int e10_6), .val (.int v11_7), .val (.int v12_8), .val (.int v13_9), .val (.int v14_10), .val (.int v15_11), .val (.int e16_12), .val (.int e17_13), .val (.int e18_14), .val (.int e19_15), .val (.ref s16), .unset, .unset, .unset, .unset, .unset, .unset] C at_199 rfl rfl ?_
                  refine g_iload C at_201 rfl ?_
                  refine g_iload C at_203 rfl ?_
                  refine g_invokestatic [(.int v14_10), (.int v15_11)] [] 0 C at_205 (hw _ (List.mem_of_getElem? (i := 1) rfl)) (hw _ (List.mem_of_getElem? (i := 2) rfl)) (hw _ (List.mem_of_getElem? (i := 3) rfl)) (hw _ (List.mem_of_getElem? (i := 4) rfl)) (by decide) (m_mk l Z a0 hw S0 hz0 S1 S2 S3 S4 _ _ _) (lenOf pd6 rfl) rfl rfl (Nat.le_of_ble_eq_true rfl) (by decide) (by decide) (by decide) (by decide) all0 (fun v32 h33 L34 q35 K36 => ?_)
                  obtain ⟨s27, t28, rfl, g29, l30, f31⟩ := q35
                  have f37 := f31.1
                  show Go _ _ _ _ _ _ _ _ _ _ _ _ _ _ _ _ _ _ _ _ _ _ (mkF _ 208 #[.val (.int p0), .val (.int p1), .val (.int p2), .val (.int p3), .val (.int p4), .val (.int e5_1), .val (.int e6_2), .val (.int v7_3), .val (.int v8_4), .val (.int e9_5), .val (.int e10_6), .val (.int v11_7), .val (.int v12_8), .val (.int v13_9), .val (.int v14_10), .val (.int v15_11), .val (.int e16_12), .val (.int e17_13), .val (.int e18_14), .val (.int e19_15), .val (.ref s16), .unset, .unset, .unset, .unset, .unset, .unset] [(.ref s27)])
                  refine g_astore #[.val (.int p0), .val (.int p1), .val (.int p2), .val (.int p3), .val (.int p4), .val (.int e5_1), .val (.int e6_2), .val (.int v7_3), .val (.int v8_4), .val (.int e9_5), .val (.int e10_6), .val (.int v11_7), .val (.int v12_8), .val (.int v13_9), .val (.int v14_10), .val (.int v15_11), .val (.int e16_12), .val (.int e17_13), .val (.int e18_14), .val (.int e19_15), .val (.ref s16), .val (.ref s27), .unset, .unset, .unset, .unset, .unset] C at_208 rfl rfl ?_
                  refine g_iload C at_210 rfl ?_
                  refine g_iload C at_212 rfl ?_
                  refine g_invokestatic [(.int e16_12), (.int e17_13)] [] 0 C at_214 (hw _ (List.mem_of_getElem? (i := 1) rfl)) (hw _ (List.mem_of_getElem? (i := 2) rfl)) (hw _ (List.mem_of_getElem? (i := 3) rfl)) (hw _ (List.mem_of_getElem? (i := 4) rfl)) (by decide) (m_mk l Z a0 hw S0 hz0 S1 S2 S3 S4 _ _ _) (lenOf pd6 rfl) rfl rfl (Nat.le_of_ble_eq_true rfl) (by decide) (by decide) (by decide) (by decide) all0 (fun v43 h44 L45 q46 K47 => ?_)
                  obtain ⟨s38, t39, rfl, g40, l41, f42⟩ := q46
                  have f48 := f42.1
                  show Go _ _ _ _ _ _ _ _ _ _ _ _ _ _ _ _ _ _ _ _ _ _ (mkF _ 217 #[.val (.int p0), .val (.int p1), .val (.int p2), .val (.int p3), .val (.int p4), .val (.int e5_1), .val (.int e6_2), .val (.int v7_3), .val (.int v8_4), .val (.int e9_5), .val (.int e10_6), .val (.int v11_7), .val (.int v12_8), .val (.int v13_9), .val (.int v14_10), .val (.int v15_11), .val (.int e16_12), .val (.int e17_13), .val (.int e18_14), .val (.int e19_15), .val (.ref s16), .val (.ref s27), .unset, .unset, .unset, .unset, .unset] [(.ref s38)])
                  refine g_astore #[.val (.int p0), .val (.int p1), .val (.int p2), .val (.int p3), .val (.int p4), .val (.int e5_1), .val (.int e6_2), .val (.int v7_3), .val (.int v8_4), .val (.int e9_5), .val (.int e10_6), .val (.int v11_7), .val (.int v12_8), .val (.int v13_9), .val (.int v14_10), .val (.int v15_11), .val (.int e16_12), .val (.int e17_13), .val (.int e18_14), .val (.int e19_15), .val (.ref s16), .val (.ref s27), .val (.ref s38), .unset, .unset, .unset, .unset] C at_217 rfl rfl ?_
                  refine g_iload C at_219 rfl ?_
                  refine g_iload C at_221 rfl ?_
                  refine g_invokestatic [(.int e18_14), (.int e19_15)] [] 0 C at_223 (hw _ (List.mem_of_getElem? (i := 1) rfl)) (hw _ (List.mem_of_getElem? (i := 2) rfl)) (hw _ (List.mem_of_getElem? (i := 3) rfl)) (hw _ (List.mem_of_getElem? (i := 4) rfl)) (by decide) (m_mk l Z a0 hw S0 hz0 S1 S2 S3 S4 _ _ _) (lenOf pd6 rfl) rfl rfl (Nat.le_of_ble_eq_true rfl) (by decide) (by decide) (by decide) (by decide) all0 (fun v54 h55 L56 q57 K58 => ?_)
                  obtain ⟨s49, t50, rfl, g51, l52, f53⟩ := q57
                  have f59 := f53.1
                  show Go _ _ _ _ _ _ _ _ _ _ _ _ _ _ _ _ _ _ _ _ _ _ (mkF _ 226 #[.val (.int p0), .val (.int p1), .val (.int p2), .val (.int p3), .val (.int p4), .val (.int e5_1), .val (.int e6_2), .val (.int v7_3), .val (.int v8_4), .val (.int e9_5), .val (.int e10_6), .val (.int v11_7), .val (.int v12_8), .val (.int v13_9), .val (.int v14_10), .val (.int v15_11), .val (.int e16_12), .val (.int e17_13), .val (.int e18_14), .val (.int e19_15), .val (.ref s16), .val (.ref s27), .val (.ref s38), .unset, .unset, .unset, .unset] [(.ref s49)])
                  refine g_astore #[.val (.int p0), .val (.int p1), .val (.int p2), .val (.int p3), .val (.int p4), .val (.int e5_1), .val (.int e6_2), .val (.int v7_3), .val (.int v8_4), .val (.int e9_5), .val (.int e10_6), .val (.int v11_7), .val (.int v12_8), .val (.int v13_9), .val (.int v14_10), .val (.int v15_11), .val (.int e16_12), .val (.int e17_13), .val (.int e18_14), .val (.int e19_15), .val (.ref s16), .val (.ref s27), .val (.ref s38), .val (.ref s49), .unset, .unset, .unset] C at_226 rfl rfl ?_
                  refine g_new_ C at_228 (hw _ (List.mem_of_getElem? (i := 27) rfl)) (hw _ (List.mem_of_getElem? (i := 28) rfl)) (hw _ (List.mem_of_getElem? (i := 29) rfl)) (by decide) (by decide) (fun a60 h61 e62 E63 l64 f65 D66 => ?_)
                  have K67 := keep_ext E63
                  have f68 : Fld Z h61 a60 "com/example/libcloak/libcloak/core/CatalogGroup" "name" "Ljava/lang/String;" .null := D66 (Or.inr (hw _ (List.mem_of_getElem? (i := 41) rfl))) (ty := (.object "java/lang/String")) (by decide)
                  have f69 : Fld Z h61 a60 "com/example/libcloak/libcloak/core/CatalogGroup" "level" "Lcom/example/libcloak/libcloak/core/Level;" .null := D66 (Or.inr (hw _ (List.mem_of_getElem? (i := 43) rfl))) (ty := (.object "com/example/libcloak/libcloak/core/Level")) (by decide)
                  have f70 : Fld Z h61 a60 "com/example/libcloak/libcloak/core/CatalogGroup" "node" "Ljava/lang/String;" .null := D66 (Or.inr (hw _ (List.mem_of_getElem? (i := 45) rfl))) (ty := (.object "java/lang/String")) (by decide)
                  have f71 : Fld Z h61 a60 "com/example/libcloak/libcloak/core/CatalogGroup" "carried" "Z" (.int (0 : Int32)) := D66 (Or.inr (hw _ (List.mem_of_getElem? (i := 47) rfl))) (ty := .boolean) (by decide)
                  refine g_dup C at_231 rfl ?_
                  refine g_aload C at_232 rfl rfl ?_
                  refine g_iload C at_234 rfl ?_
                  refine g_invokestatic [(.int v7_3)] [(.ref s16), (.ref a60), (.ref a60)] 3 C at_236 (hw _ (List.mem_of_getElem? (i := 30) rfl)) (hw _ (List.mem_of_getElem? (i := 31) rfl)) (hw _ (List.mem_of_getElem? (i := 3) rfl)) (hw _ (List.mem_of_getElem? (i := 32) rfl)) (by decide) (m_lvl l Z a0 hw S0 hz0 S1 S2 S3 S4 _ _) (lenOf pd7 rfl) rfl rfl (Nat.le_of_ble_eq_true rfl) (by decide) (by decide) (by decide) (by decide) all0 (fun v72 h73 L74 q75 K76 => ?_)
                  obtain rfl := q75
                  show Go _ _ _ _ _ _ _ _ _ _ _ _ _ _ _ _ _ _ _ _ _ _ (mkF _ 239 #[.val (.int p0), .val (.int p1), .val (.int p2), .val (.int p3), .val (.int p4), .val (.int e5_1), .val (.int e6_2), .val (.int v7_3), .val (.int v8_4), .val (.int e9_5), .val (.int e10_6), .val (.int v11_7), .val (.int v12_8), .val (.int v13_9), .val (.int v14_10), .val (.int v15_11), .val (.int e16_12), .val (.int e17_13), .val (.int e18_14), .val (.int e19_15), .val (.ref s16), .val (.ref s27), .val (.ref s38), .val (.ref s49), .unset, .unset, .unset] [(.ref (lvA v7_3 u1 u2 u3 u4)), (.ref s16), (.ref a60), (.ref a60)])
                  refine g_aload C at_239 rfl rfl ?_
                  refine g_iload C at_241 rfl ?_
                  have f82 := (f65.keep K76)
                  have f83 := (f68.keep K76 nin0)
                  have f84 := (f69.keep K76 nin0)
                  have f85 := (f70.keep K76 nin0)
                  have f86 := (f71.keep K76 nin0)
                  refine g_invokespecial [(.ref s16), (.ref (lvA v7_3 u1 u2 u3 u4)), (.ref s27), (.int e9_5)] [(.ref a60)] 1 C at_243 rfl (hw _ (List.mem_of_getElem? (i := 36) rfl)) (hw _ (List.mem_of_getElem? (i := 37) rfl)) (hw _ (List.mem_of_getElem? (i := 29) rfl)) (hw _ (List.mem_of_getElem? (i := 38) rfl)) (by decide) (m_ctor l Z a0 hw S0 hz0 S1 S2 S3 S4 a60 s16 (lvA v7_3 u1 u2 u3 u4) s27 e9_5 he9_5 _ f82 f83 f84 f85 f86) (lenOf pd8 rfl) rfl rfl (Nat.le_of_ble_eq_true rfl) (by decide) (by decide) (by decide) (by decide) (allS (List.mem_of_getElem? (i := 0) rfl) all0) (fun v87 h88 L89 q90 K91 => ?_)
                  obtain ⟨rfl, f77, f78, f79, f80, f81⟩ := q90
                  show Go _ _ _ _ _ _ _ _ _ _ _ _ _ _ _ _ _ _ _ _ _ _ (mkF _ 246 #[.val (.int p0), .val (.int p1), .val (.int p2), .val (.int p3), .val (.int p4), .val (.int e5_1), .val (.int e6_2), .val (.int v7_3), .val (.int v8_4), .val (.int e9_5), .val (.int e10_6), .val (.int v11_7), .val (.int v12_8), .val (.int v13_9), .val (.int v14_10), .val (.int v15_11), .val (.int e16_12), .val (.int e17_13), .val (.int e18_14), .val (.int e19_15), .val (.ref s16), .val (.ref s27), .val (.ref s38), .val (.ref s49), .unset, .unset, .unset] [(.ref a60)])
                  refine g_astore #[.val (.int p0), .val (.int p1), .val (.int p2), .val (.int p3), .val (.int p4), .val (.int e5_1), .val (.int e6_2), .val (.int v7_3), .val (.int v8_4), .val (.int e9_5), .val (.int e10_6), .val (.int v11_7), .val (.int v12_8), .val (.int v13_9), .val (.int v14_10), .val (.int v15_11), .val (.int e16_12), .val (.int e17_13), .val (.int e18_14), .val (.int e19_15), .val (.ref s16), .val (.ref s27), .val (.ref s38), .val (.ref s49), .val (.ref a60), .unset, .unset] C at_246 rfl rfl ?_
                  have hv7 : v7_3 = 0 ∨ v7_3 = 1 ∨ v7_3 = 2 ∨ v7_3 = 3 := by rw [hv7_3]; exact own_and3 _
                  have hv8 : v8_4 = 0 ∨ v8_4 = 1 ∨ v8_4 = 2 ∨ v8_4 = 3 := by rw [hv8_4]; exact own_and3 _
                  rcases own_and3 (XT.ushr p4 (8 : Int32)) with r1 | r1 | r1 | r1 <;> rw [r1] at hv11_7 <;> subst hv11_7
                  · skip
                    refine g_iload C at_248 rfl ?_
                    refine g_ifF C at_250 (show (0 : Int32) = (0 : Int32) by decide) ?_
                    refine g_new_ C at_253 (hw _ (List.mem_of_getElem? (i := 27) rfl)) (hw _ (List.mem_of_getElem? (i := 28) rfl)) (hw _ (List.mem_of_getElem? (i := 29) rfl)) (by decide) (by decide) (fun a92 h93 e94 E95 l96 f97 D98 => ?_)
                    have K99 := keep_ext E95
                    have f100 : Fld Z h93 a92 "com/example/libcloak/libcloak/core/CatalogGroup" "name" "Ljava/lang/String;" .null := D98 (Or.inr (hw _ (List.mem_of_getElem? (i := 41) rfl))) (ty := (.object "java/lang/String")) (by decide)
                    have f101 : Fld Z h93 a92 "com/example/libcloak/libcloak/core/CatalogGroup" "level" "Lcom/example/libcloak/libcloak/core/Level;" .null := D98 (Or.inr (hw _ (List.mem_of_getElem? (i := 43) rfl))) (ty := (.object "com/example/libcloak/libcloak/core/Level")) (by decide)
                    have f102 : Fld Z h93 a92 "com/example/libcloak/libcloak/core/CatalogGroup" "node" "Ljava/lang/String;" .null := D98 (Or.inr (hw _ (List.mem_of_getElem? (i := 45) rfl))) (ty := (.object "java/lang/String")) (by decide)
                    have f103 : Fld Z h93 a92 "com/example/libcloak/libcloak/core/CatalogGroup" "carried" "Z" (.int (0 : Int32)) := D98 (Or.inr (hw _ (List.mem_of_getElem? (i := 47) rfl))) (ty := .boolean) (by decide)
                    refine g_dup C at_256 rfl ?_
                    refine g_aload C at_257 rfl rfl ?_
                    refine g_iload C at_259 rfl ?_
                    refine g_invokestatic [(.int v8_4)] [(.ref s38), (.ref a92), (.ref a92)] 3 C at_261 (hw _ (List.mem_of_getElem? (i := 30) rfl)) (hw _ (List.mem_of_getElem? (i := 31) rfl)) (hw _ (List.mem_of_getElem? (i := 3) rfl)) (hw _ (List.mem_of_getElem? (i := 32) rfl)) (by decide) (m_lvl l Z a0 hw S0 hz0 S1 S2 S3 S4 _ _) (lenOf pd7 rfl) rfl rfl (Nat.le_of_ble_eq_true rfl) (by decide) (by decide) (by decide) (by decide) all0 (fun v104 h105 L106 q107 K108 => ?_)
                    obtain rfl := q107
                    show Go _ _ _ _ _ _ _ _ _ _ _ _ _ _ _ _ _ _ _ _ _ _ (mkF _ 264 #[.val (.int p0), .val (.int p1), .val (.int p2), .val (.int p3), .val (.int p4), .val (.int e5_1), .val (.int e6_2), .val (.int v7_3), .val (.int v8_4), .val (.int e9_5), .val (.int e10_6), .val (.int (0 : Int32)), .val (.int v12_8), .val (.int v13_9), .val (.int v14_10), .val (.int v15_11), .val (.int e16_12), .val (.int e17_13), .val (.int e18_14), .val (.int e19_15), .val (.ref s16), .val (.ref s27), .val (.ref s38), .val (.ref s49), .val (.ref a60), .unset, .unset] [(.ref (lvA v8_4 u1 u2 u3 u4)), (.ref s38), (.ref a92), (.ref a92)])
                    refine g_aload C at_264 rfl rfl ?_
                    refine g_iload C at_266 rfl ?_
                    have f114 := (f97.keep K108)
                    have f115 := (f100.keep K108 nin0)
                    have f116 := (f101.keep K108 nin0)
                    have f117 := (f102.keep K108 nin0)
                    have f118 := (f103.keep K108 nin0)
                    refine g_invokespecial [(.ref s38), (.ref (lvA v8_4 u1 u2 u3 u4)), (.ref s49), (.int e10_6)] [(.ref a92)] 1 C at_268 rfl (hw _ (List.mem_of_getElem? (i := 36) rfl)) (hw _ (List.mem_of_getElem? (i := 37) rfl)) (hw _ (List.mem_of_getElem? (i := 29) rfl)) (hw _ (List.mem_of_getElem? (i := 38) rfl)) (by decide) (m_ctor l Z a0 hw S0 hz0 S1 S2 S3 S4 a92 s38 (lvA v8_4 u1 u2 u3 u4) s49 e10_6 he10_6 _ f114 f115 f116 f117 f118) (lenOf pd8 rfl) rfl rfl (Nat.le_of_ble_eq_true rfl) (by decide) (by decide) (by decide) (by decide) (allS (List.mem_of_getElem? (i := 0) rfl) all0) (fun v119 h120 L121 q122 K123 => ?_)
                    obtain ⟨rfl, f109, f110, f111, f112, f113⟩ := q122
                    show Go _ _ _ _ _ _ _ _ _ _ _ _ _ _ _ _ _ _ _ _ _ _ (mkF _ 271 #[.val (.int p0), .val (.int p1), .val (.int p2), .val (.int p3), .val (.int p4), .val (.int e5_1), .val (.int e6_2), .val (.int v7_3), .val (.int v8_4), .val (.int e9_5), .val (.int e10_6), .val (.int (0 : Int32)), .val (.int v12_8), .val (.int v13_9), .val (.int v14_10), .val (.int v15_11), .val (.int e16_12), .val (.int e17_13), .val (.int e18_14), .val (.int e19_15), .val (.ref s16), .val (.ref s27), .val (.ref s38), .val (.ref s49), .val (.ref a60), .unset, .unset] [(.ref a92)])
                    refine g_astore #[.val (.int p0), .val (.int p1), .val (.int p2), .val (.int p3), .val (.int p4), .val (.int e5_1), .val (.int e6_2), .val (.int v7_3), .val (.int v8_4), .val (.int e9_5), .val (.int e10_6), .val (.int (0 : Int32)), .val (.int v12_8), .val (.int v13_9), .val (.int v14_10), .val (.int v15_11), .val (.int e16_12), .val (.int e17_13), .val (.int e18_14), .val (.int e19_15), .val (.ref s16), .val (.ref s27), .val (.ref s38), .val (.ref s49), .val (.ref a60), .val (.ref a92), .unset] C at_271 rfl rfl ?_
                    refine g_iload C at_273 rfl ?_
                    refine g_iload C at_275 rfl ?_
                    refine g_iload C at_277 rfl ?_
                    refine g_iload C at_279 rfl ?_
                    refine g_invokestatic [(.int v12_8), (.int v13_9), (.int e16_12), (.int e17_13)] [] 0 C at_281 (hw _ (List.mem_of_getElem? (i := 48) rfl)) (hw _ (List.mem_of_getElem? (i := 49) rfl)) (hw _ (List.mem_of_getElem? (i := 3) rfl)) (hw _ (List.mem_of_getElem? (i := 50) rfl)) (by decide) (m_same l Z a0 hw S0 hz0 S1 S2 S3 S4 _ _ _ _ hl12 he16_12 _) (lenOf pd9 rfl) rfl rfl (Nat.le_of_ble_eq_true rfl) (by decide) (by decide) (by decide) (by decide) all0 (fun v124 h125 L126 q127 K128 => ?_)
                    obtain rfl := q127
                    by_cases cc129 : mkL v12_8 v13_9 = mkL e16_12 e17_13
                    · rw [if_pos cc129]
                      show Go _ _ _ _ _ _ _ _ _ _ _ _ _ _ _ _ _ _ _ _ _ _ (mkF _ 284 #[.val (.int p0), .val (.int p1), .val (.int p2), .val (.int p3), .val (.int p4), .val (.int e5_1), .val (.int e6_2), .val (.int v7_3), .val (.int v8_4), .val (.int e9_5), .val (.int e10_6), .val (.int (0 : Int32)), .val (.int v12_8), .val (.int v13_9), .val (.int v14_10), .val (.int v15_11), .val (.int e16_12), .val (.int e17_13), .val (.int e18_14), .val (.int e19_15), .val (.ref s16), .val (.ref s27), .val (.ref s38), .val (.ref s49), .val (.ref a60), .val (.ref a92), .unset] [(.int (1 : Int32))])
                      refine g_ifF C at_284 (show ¬ (1 : Int32) = (0 : Int32) by decide) ?_
                      refine g_iload C at_287 rfl ?_
                      refine g_iload C at_289 rfl ?_
                      by_cases cc130 : v7_3 = v8_4
                      · skip
                        refine g_icmpF C at_291 (show v7_3 = v8_4 from cc130) ?_
                        refine g_iload C at_294 rfl ?_
                        refine g_iload C at_296 rfl ?_
                        refine g_iload C at_298 rfl ?_
                        refine g_iload C at_300 rfl ?_
                        refine g_invokestatic [(.int v14_10), (.int v15_11), (.int e18_14), (.int e19_15)] [] 0 C at_302 (hw _ (List.mem_of_getElem? (i := 48) rfl)) (hw _ (List.mem_of_getElem? (i := 49) rfl)) (hw _ (List.mem_of_getElem? (i := 3) rfl)) (hw _ (List.mem_of_getElem? (i := 50) rfl)) (by decide) (m_same l Z a0 hw S0 hz0 S1 S2 S3 S4 _ _ _ _ hl14 he18_14 _) (lenOf pd9 rfl) rfl rfl (Nat.le_of_ble_eq_true rfl) (by decide) (by decide) (by decide) (by decide) all0 (fun v131 h132 L133 q134 K135 => ?_)
                        obtain rfl := q134
                        by_cases cc136 : mkL v14_10 v15_11 = mkL e18_14 e19_15
                        · rw [if_pos cc136]
                          show Go _ _ _ _ _ _ _ _ _ _ _ _ _ _ _ _ _ _ _ _ _ _ (mkF _ 305 #[.val (.int p0), .val (.int p1), .val (.int p2), .val (.int p3), .val (.int p4), .val (.int e5_1), .val (.int e6_2), .val (.int v7_3), .val (.int v8_4), .val (.int e9_5), .val (.int e10_6), .val (.int (0 : Int32)), .val (.int v12_8), .val (.int v13_9), .val (.int v14_10), .val (.int v15_11), .val (.int e16_12), .val (.int e17_13), .val (.int e18_14), .val (.int e19_15), .val (.ref s16), .val (.ref s27), .val (.ref s38), .val (.ref s49), .val (.ref a60), .val (.ref a92), .unset] [(.int (1 : Int32))])
                          refine g_ifF C at_305 (show ¬ (1 : Int32) = (0 : Int32) by decide) ?_
                          refine g_iload C at_308 rfl ?_
                          refine g_iload C at_310 rfl ?_
                          by_cases cc137 : e9_5 = e10_6
                          · skip
                            refine g_icmpF C at_312 (show e9_5 = e10_6 from cc137) ?_
                            refine g_iconst (1 : Int32) C at_315 (by decide) ?_
                            refine g_goto 320 C at_316 (by decide) (by decide) ?_
                            refine g_istore #[.val (.int p0), .val (.int p1), .val (.int p2), .val (.int p3), .val (.int p4), .val (.int e5_1), .val (.int e6_2), .val (.int v7_3), .val (.int v8_4), .val (.int e9_5), .val (.int e10_6), .val (.int (0 : Int32)), .val (.int v12_8), .val (.int v13_9), .val (.int v14_10), .val (.int v15_11), .val (.int e16_12), .val (.int e17_13), .val (.int e18_14), .val (.int e19_15), .val (.ref s16), .val (.ref s27), .val (.ref s38), .val (.ref s49), .val (.ref a60), .val (.ref a92), .val (.int (1 : Int32))] C at_320 rfl ?_
                            refine g_goto 363 C at_322 (by decide) (by decide) ?_
                            refine g_aload C at_363 rfl rfl ?_
                            refine g_aload C at_365 rfl rfl ?_
                            have f138 := (((((f78.keep K99 nin0).keep K108 nin0).keep K123 (ninS (Nat.ne_of_lt (Nat.lt_of_lt_of_le (Nat.lt_of_lt_of_le l64 (Nat.le_trans K76.1 K91.1)) (Nat.le_of_eq e94.symm))) nin0)).keep K128 nin0).keep K135 nin0)
                            have f139 := (((((f79.keep K99 nin0).keep K108 nin0).keep K123 (ninS (Nat.ne_of_lt (Nat.lt_of_lt_of_le (Nat.lt_of_lt_of_le l64 (Nat.le_trans K76.1 K91.1)) (Nat.le_of_eq e94.symm))) nin0)).keep K128 nin0).keep K135 nin0)
                            have f140 := (((((f80.keep K99 nin0).keep K108 nin0).keep K123 (ninS (Nat.ne_of_lt (Nat.lt_of_lt_of_le (Nat.lt_of_lt_of_le l64 (Nat.le_trans K76.1 K91.1)) (Nat.le_of_eq e94.symm))) nin0)).keep K128 nin0).keep K135 nin0)
                            have f141 := (((((f81.keep K99 nin0).keep K108 nin0).keep K123 (ninS (Nat.ne_of_lt (Nat.lt_of_lt_of_le (Nat.lt_of_lt_of_le l64 (Nat.le_trans K76.1 K91.1)) (Nat.le_of_eq e94.symm))) nin0)).keep K128 nin0).keep K135 nin0)
                            have f142 := ((f110.keep K128 nin0).keep K135 nin0)
                            have f143 := ((f111.keep K128 nin0).keep K135 nin0)
                            have f144 := ((f112.keep K128 nin0).keep K135 nin0)
                            have f145 := ((f113.keep K128 nin0).keep K135 nin0)
                            have f146 := (((((((((((f20.keep K36 nin0 nin0).keep K47 nin0 nin0).keep K58 nin0 nin0).keep K67 nin0 nin0).keep K76 nin0 nin0).keep K91 (ninS (Nat.ne_of_lt (Nat.lt_of_lt_of_le (Nat.lt_of_lt_of_le f26.lt (Nat.le_trans (Nat.le_trans K36.1 K47.1) K58.1)) (Nat.le_of_eq e62.symm))) nin0) (ninS (Nat.ne_of_lt (Nat.lt_of_lt_of_le (Nat.lt_of_lt_of_le l19 (Nat.le_trans (Nat.le_trans K36.1 K47.1) K58.1)) (Nat.le_of_eq e62.symm))) nin0)).keep K99 nin0 nin0).keep K108 nin0 nin0).keep K123 (ninS (Nat.ne_of_lt (Nat.lt_of_lt_of_le (Nat.lt_of_lt_of_le f26.lt (Nat.le_trans (Nat.le_trans (Nat.le_trans (Nat.le_trans (Nat.le_trans K36.1 K47.1) K58.1) K67.1) K76.1) K91.1)) (Nat.le_of_eq e94.symm))) nin0) (ninS (Nat.ne_of_lt (Nat.lt_of_lt_of_le (Nat.lt_of_lt_of_le l19 (Nat.le_trans (Nat.le_trans (Nat.le_trans (Nat.le_trans (Nat.le_trans K36.1 K47.1) K58.1) K67.1) K76.1) K91.1)) (Nat.le_of_eq e94.symm))) nin0)).keep K128 nin0 nin0).keep K135 nin0 nin0)
                            have f147 := ((((((((((f31.keep K47 nin0 nin0).keep K58 nin0 nin0).keep K67 nin0 nin0).keep K76 nin0 nin0).keep K91 (ninS (Nat.ne_of_lt (Nat.lt_of_lt_of_le (Nat.lt_of_lt_of_le f37.lt (Nat.le_trans K47.1 K58.1)) (Nat.le_of_eq e62.symm))) nin0) (ninS (Nat.ne_of_lt (Nat.lt_of_lt_of_le (Nat.lt_of_lt_of_le l30 (Nat.le_trans K47.1 K58.1)) (Nat.le_of_eq e62.symm))) nin0)).keep K99 nin0 nin0).keep K108 nin0 nin0).keep K123 (ninS (Nat.ne_of_lt (Nat.lt_of_lt_of_le (Nat.lt_of_lt_of_le f37.lt (Nat.le_trans (Nat.le_trans (Nat.le_trans (Nat.le_trans K47.1 K58.1) K67.1) K76.1) K91.1)) (Nat.le_of_eq e94.symm))) nin0) (ninS (Nat.ne_of_lt (Nat.lt_of_lt_of_le (Nat.lt_of_lt_of_le l30 (Nat.le_trans (Nat.le_trans (Nat.le_trans (Nat.le_trans K47.1 K58.1) K67.1) K76.1) K91.1)) (Nat.le_of_eq e94.symm))) nin0)).keep K128 nin0 nin0).keep K135 nin0 nin0)
                            have f148 := (((((((((f42.keep K58 nin0 nin0).keep K67 nin0 nin0).keep K76 nin0 nin0).keep K91 (ninS (Nat.ne_of_lt (Nat.lt_of_lt_of_le (Nat.lt_of_lt_of_le f48.lt K58.1) (Nat.le_of_eq e62.symm))) nin0) (ninS (Nat.ne_of_lt (Nat.lt_of_lt_of_le (Nat.lt_of_lt_of_le l41 K58.1) (Nat.le_of_eq e62.symm))) nin0)).keep K99 nin0 nin0).keep K108 nin0 nin0).keep K123 (ninS (Nat.ne_of_lt (Nat.lt_of_lt_of_le (Nat.lt_of_lt_of_le f48.lt (Nat.le_trans (Nat.le_trans (Nat.le_trans K58.1 K67.1) K76.1) K91.1)) (Nat.le_of_eq e94.symm))) nin0) (ninS (Nat.ne_of_lt (Nat.lt_of_lt_of_le (Nat.lt_of_lt_of_le l41 (Nat.le_trans (Nat.le_trans (Nat.le_trans K58.1 K67.1) K76.1) K91.1)) (Nat.le_of_eq e94.symm))) nin0)).keep K128 nin0 nin0).keep K135 nin0 nin0)
                            have f149 := ((((((((f53.keep K67 nin0 nin0).keep K76 nin0 nin0).keep K91 (ninS (Nat.ne_of_lt (Nat.lt_of_lt_of_le f59.lt (Nat.le_of_eq e62.symm))) nin0) (ninS (Nat.ne_of_lt (Nat.lt_of_lt_of_le l52 (Nat.le_of_eq e62.symm))) nin0)).keep K99 nin0 nin0).keep K108 nin0 nin0).keep K123 (ninS (Nat.ne_of_lt (Nat.lt_of_lt_of_le (Nat.lt_of_lt_of_le f59.lt (Nat.le_trans (Nat.le_trans K67.1 K76.1) K91.1)) (Nat.le_of_eq e94.symm))) nin0) (ninS (Nat.ne_of_lt (Nat.lt_of_lt_of_le (Nat.lt_of_lt_of_le l52 (Nat.le_trans (Nat.le_trans K67.1 K76.1) K91.1)) (Nat.le_of_eq e94.symm))) nin0)).keep K128 nin0 nin0).keep K135 nin0 nin0)
                            have f150 := ((f109.keep K128).keep K135)
                            have f156 := (((((f77.keep K99).keep K108).keep K123).keep K128).keep K135)
                            refine g_invokevirtual [(.ref a92)] [] 0 C at_367 (hw _ (List.mem_of_getElem? (i := 51) rfl)) (hw _ (List.mem_of_getElem? (i := 52) rfl)) (hw _ (List.mem_of_getElem? (i := 54) rfl)) (hw _ (List.mem_of_getElem? (i := 53) rfl)) (hw _ (List.mem_of_getElem? (i := 29) rfl)) (hw _ (List.mem_of_getElem? (i := 55) rfl)) (fun _ hZ => notFace_of_selects (args := #[]) (mvT hZ (hw _ (List.mem_of_getElem? (i := 54) rfl)))) (by decide) f156 (m_eq l Z a0 hw S0 hz0 S1 S2 S3 S4 _ _ _ _ _ _ _ _ _ _ _ _ _ _ _ _ _ _ _ f138 f139 f140 f141 f142 f143 f144 f145 f150 f146 (mkL_len _ _) (mkL_bd _ _) f147 (mkL_len _ _) (mkL_bd _ _) f148 (mkL_len _ _) (mkL_bd _ _) f149 (mkL_len _ _) (mkL_bd _ _)) (lenOf pd10 rfl) rfl rfl (Nat.le_of_ble_eq_true rfl) (by decide) (by decide) (by decide) (by decide) all0 (fun v151 h152 L153 q154 K155 => ?_)
                            obtain rfl := q154
                            have q : mkL v12_8 v13_9 = mkL e16_12 e17_13 ∧ v7_3 = v8_4 ∧ mkL v14_10 v15_11 = mkL e18_14 e19_15 ∧ e9_5 = e10_6 := by simp [cc129, cc130, cc136, cc137]
                            rw [if_pos ⟨q.1, congrArg (fun z => lvA z u1 u2 u3 u4) q.2.1, q.2.2⟩]
                            show Go _ _ _ _ _ _ _ _ _ _ _ _ _ _ _ _ _ _ _ _ _ _ (mkF _ 370 #[.val (.int p0), .val (.int p1), .val (.int p2), .val (.int p3), .val (.int p4), .val (.int e5_1), .val (.int e6_2), .val (.int v7_3), .val (.int v8_4), .val (.int e9_5), .val (.int e10_6), .val (.int (0 : Int32)), .val (.int v12_8), .val (.int v13_9), .val (.int v14_10), .val (.int v15_11), .val (.int e16_12), .val (.int e17_13), .val (.int e18_14), .val (.int e19_15), .val (.ref s16), .val (.ref s27), .val (.ref s38), .val (.ref s49), .val (.ref a60), .val (.ref a92), .val (.int (1 : Int32))] [(.int (1 : Int32))])
                            refine g_iload C at_370 rfl ?_
                            refine g_icmpF C at_372 (show (1 : Int32) = (1 : Int32) by decide) ?_
                            refine g_iconst (1 : Int32) C at_375 (by decide) ?_
                            refine g_goto 380 C at_376 (by decide) (by decide) ?_
                            exact g_retN C at_380 (by simp) rfl (by decide) (by decide)
                          · skip
                            refine g_icmpT 319 C at_312 (show ¬ e9_5 = e10_6 from cc137) (by decide) (by decide) ?_
                            refine g_iconst (0 : Int32) C at_319 (by decide) ?_
                            refine g_istore #[.val (.int p0), .val (.int p1), .val (.int p2), .val (.int p3), .val (.int p4), .val (.int e5_1), .val (.int e6_2), .val (.int v7_3), .val (.int v8_4), .val (.int e9_5), .val (.int e10_6), .val (.int (0 : Int32)), .val (.int v12_8), .val (.int v13_9), .val (.int v14_10), .val (.int v15_11), .val (.int e16_12), .val (.int e17_13), .val (.int e18_14), .val (.int e19_15), .val (.ref s16), .val (.ref s27), .val (.ref s38), .val (.ref s49), .val (.ref a60), .val (.ref a92), .val (.int (0 : Int32))] C at_320 rfl ?_
                            refine g_goto 363 C at_322 (by decide) (by decide) ?_
                            refine g_aload C at_363 rfl rfl ?_
                            refine g_aload C at_365 rfl rfl ?_
                            have f157 := (((((f78.keep K99 nin0).keep K108 nin0).keep K123 (ninS (Nat.ne_of_lt (Nat.lt_of_lt_of_le (Nat.lt_of_lt_of_le l64 (Nat.le_trans K76.1 K91.1)) (Nat.le_of_eq e94.symm))) nin0)).keep K128 nin0).keep K135 nin0)
                            have f158 := (((((f79.keep K99 nin0).keep K108 nin0).keep K123 (ninS (Nat.ne_of_lt (Nat.lt_of_lt_of_le (Nat.lt_of_lt_of_le l64 (Nat.le_trans K76.1 K91.1)) (Nat.le_of_eq e94.symm))) nin0)).keep K128 nin0).keep K135 nin0)
                            have f159 := (((((f80.keep K99 nin0).keep K108 nin0).keep K123 (ninS (Nat.ne_of_lt (Nat.lt_of_lt_of_le (Nat.lt_of_lt_of_le l64 (Nat.le_trans K76.1 K91.1)) (Nat.le_of_eq e94.symm))) nin0)).keep K128 nin0).keep K135 nin0)
                            have f160 := (((((f81.keep K99 nin0).keep K108 nin0).keep K123 (ninS (Nat.ne_of_lt (Nat.lt_of_lt_of_le (Nat.lt_of_lt_of_le l64 (Nat.le_trans K76.1 K91.1)) (Nat.le_of_eq e94.symm))) nin0)).keep K128 nin0).keep K135 nin0)
                            have f161 := ((f110.keep K128 nin0).keep K135 nin0)
                            have f162 := ((f111.keep K128 nin0).keep K135 nin0)
                            have f163 := ((f112.keep K128 nin0).keep K135 nin0)
                            have f164 := ((f113.keep K128 nin0).keep K135 nin0)
                            have f165 := (((((((((((f20.keep K36 nin0 nin0).keep K47 nin0 nin0).keep K58 nin0 nin0).keep K67 nin0 nin0).keep K76 nin0 nin0).keep K91 (ninS (Nat.ne_of_lt (Nat.lt_of_lt_of_le (Nat.lt_of_lt_of_le f26.lt (Nat.le_trans (Nat.le_trans K36.1 K47.1) K58.1)) (Nat.le_of_eq e62.symm))) nin0) (ninS (Nat.ne_of_lt (Nat.lt_of_lt_of_le (Nat.lt_of_lt_of_le l19 (Nat.le_trans (Nat.le_trans K36.1 K47.1) K58.1)) (Nat.le_of_eq e62.symm))) nin0)).keep K99 nin0 nin0).keep K108 nin0 nin0).keep K123 (ninS (Nat.ne_of_lt (Nat.lt_of_lt_of_le (Nat.lt_of_lt_of_le f26.lt (Nat.le_trans (Nat.le_trans (Nat.le_trans (Nat.le_trans (Nat.le_trans K36.1 K47.1) K58.1) K67.1) K76.1) K91.1)) (Nat.le_of_eq e94.symm))) nin0) (ninS (Nat.ne_of_lt (Nat.lt_of_lt_of_le (Nat.lt_of_lt_of_le l19 (Nat.le_trans (Nat.le_trans (Nat.le_trans (Nat.le_trans (Nat.le_trans K36.1 K47.1) K58.1) K67.1) K76.1) K91.1)) (Nat.le_of_eq e94.symm))) nin0)).keep K128 nin0 nin0).keep K135 nin0 nin0)
                            have f166 := ((((((((((f31.keep K47 nin0 nin0).keep K58 nin0 nin0).keep K67 nin0 nin0).keep K76 nin0 nin0).keep K91 (ninS (Nat.ne_of_lt (Nat.lt_of_lt_of_le (Nat.lt_of_lt_of_le f37.lt (Nat.le_trans K47.1 K58.1)) (Nat.le_of_eq e62.symm))) nin0) (ninS (Nat.ne_of_lt (Nat.lt_of_lt_of_le (Nat.lt_of_lt_of_le l30 (Nat.le_trans K47.1 K58.1)) (Nat.le_of_eq e62.symm))) nin0)).keep K99 nin0 nin0).keep K108 nin0 nin0).keep K123 (ninS (Nat.ne_of_lt (Nat.lt_of_lt_of_le (Nat.lt_of_lt_of_le f37.lt (Nat.le_trans (Nat.le_trans (Nat.le_trans (Nat.le_trans K47.1 K58.1) K67.1) K76.1) K91.1)) (Nat.le_of_eq e94.symm))) nin0) (ninS (Nat.ne_of_lt (Nat.lt_of_lt_of_le (Nat.lt_of_lt_of_le l30 (Nat.le_trans (Nat.le_trans (Nat.le_trans (Nat.le_trans K47.1 K58.1) K67.1) K76.1) K91.1)) (Nat.le_of_eq e94.symm))) nin0)).keep K128 nin0 nin0).keep K135 nin0 nin0)
                            have f167 := (((((((((f42.keep K58 nin0 nin0).keep K67 nin0 nin0).keep K76 nin0 nin0).keep K91 (ninS (Nat.ne_of_lt (Nat.lt_of_lt_of_le (Nat.lt_of_lt_of_le f48.lt K58.1) (Nat.le_of_eq e62.symm))) nin0) (ninS (Nat.ne_of_lt (Nat.lt_of_lt_of_le (Nat.lt_of_lt_of_le l41 K58.1) (Nat.le_of_eq e62.symm))) nin0)).keep K99 nin0 nin0).keep K108 nin0 nin0).keep K123 (ninS (Nat.ne_of_lt (Nat.lt_of_lt_of_le (Nat.lt_of_lt_of_le f48.lt (Nat.le_trans (Nat.le_trans (Nat.le_trans K58.1 K67.1) K76.1) K91.1)) (Nat.le_of_eq e94.symm))) nin0) (ninS (Nat.ne_of_lt (Nat.lt_of_lt_of_le (Nat.lt_of_lt_of_le l41 (Nat.le_trans (Nat.le_trans (Nat.le_trans K58.1 K67.1) K76.1) K91.1)) (Nat.le_of_eq e94.symm))) nin0)).keep K128 nin0 nin0).keep K135 nin0 nin0)
                            have f168 := ((((((((f53.keep K67 nin0 nin0).keep K76 nin0 nin0).keep K91 (ninS (Nat.ne_of_lt (Nat.lt_of_lt_of_le f59.lt (Nat.le_of_eq e62.symm))) nin0) (ninS (Nat.ne_of_lt (Nat.lt_of_lt_of_le l52 (Nat.le_of_eq e62.symm))) nin0)).keep K99 nin0 nin0).keep K108 nin0 nin0).keep K123 (ninS (Nat.ne_of_lt (Nat.lt_of_lt_of_le (Nat.lt_of_lt_of_le f59.lt (Nat.le_trans (Nat.le_trans K67.1 K76.1) K91.1)) (Nat.le_of_eq e94.symm))) nin0) (ninS (Nat.ne_of_lt (Nat.lt_of_lt_of_le (Nat.lt_of_lt_of_le l52 (Nat.le_trans (Nat.le_trans K67.1 K76.1) K91.1)) (Nat.le_of_eq e94.symm))) nin0)).keep K128 nin0 nin0).keep K135 nin0 nin0)
                            have f169 := ((f109.keep K128).keep K135)
                            have f175 := (((((f77.keep K99).keep K108).keep K123).keep K128).keep K135)
                            refine g_invokevirtual [(.ref a92)] [] 0 C at_367 (hw _ (List.mem_of_getElem? (i := 51) rfl)) (hw _ (List.mem_of_getElem? (i := 52) rfl)) (hw _ (List.mem_of_getElem? (i := 54) rfl)) (hw _ (List.mem_of_getElem? (i := 53) rfl)) (hw _ (List.mem_of_getElem? (i := 29) rfl)) (hw _ (List.mem_of_getElem? (i := 55) rfl)) (fun _ hZ => notFace_of_selects (args := #[]) (mvT hZ (hw _ (List.mem_of_getElem? (i := 54) rfl)))) (by decide) f175 (m_eq l Z a0 hw S0 hz0 S1 S2 S3 S4 _ _ _ _ _ _ _ _ _ _ _ _ _ _ _ _ _ _ _ f157 f158 f159 f160 f161 f162 f163 f164 f169 f165 (mkL_len _ _) (mkL_bd _ _) f166 (mkL_len _ _) (mkL_bd _ _) f167 (mkL_len _ _) (mkL_bd _ _) f168 (mkL_len _ _) (mkL_bd _ _)) (lenOf pd10 rfl) rfl rfl (Nat.le_of_ble_eq_true rfl) (by decide) (by decide) (by decide) (by decide) all0 (fun v170 h171 L172 q173 K174 => ?_)
                            obtain rfl := q173
                            have q : ¬ (mkL v12_8 v13_9 = mkL e16_12 e17_13 ∧ v7_3 = v8_4 ∧ mkL v14_10 v15_11 = mkL e18_14 e19_15 ∧ e9_5 = e10_6) := by simp [cc129, cc130, cc136, cc137]
                            rw [if_neg (fun z => q ⟨z.1, (lvA_eq hv7 hv8 n1 n2 n3 n4 n5 n6).mp z.2.1, z.2.2⟩)]
                            show Go _ _ _ _ _ _ _ _ _ _ _ _ _ _ _ _ _ _ _ _ _ _ (mkF _ 370 #[.val (.int p0), .val (.int p1), .val (.int p2), .val (.int p3), .val (.int p4), .val (.int e5_1), .val (.int e6_2), .val (.int v7_3), .val (.int v8_4), .val (.int e9_5), .val (.int e10_6), .val (.int (0 : Int32)), .val (.int v12_8), .val (.int v13_9), .val (.int v14_10), .val (.int v15_11), .val (.int e16_12), .val (.int e17_13), .val (.int e18_14), .val (.int e19_15), .val (.ref s16), .val (.ref s27), .val (.ref s38), .val (.ref s49), .val (.ref a60), .val (.ref a92), .val (.int (0 : Int32))] [(.int (0 : Int32))])
                            refine g_iload C at_370 rfl ?_
                            refine g_icmpF C at_372 (show (0 : Int32) = (0 : Int32) by decide) ?_
                            refine g_iconst (1 : Int32) C at_375 (by decide) ?_
                            refine g_goto 380 C at_376 (by decide) (by decide) ?_
                            exact g_retN C at_380 (by simp) rfl (by decide) (by decide)
                        · rw [if_neg cc136]
                          show Go _ _ _ _ _ _ _ _ _ _ _ _ _ _ _ _ _ _ _ _ _ _ (mkF _ 305 #[.val (.int p0), .val (.int p1), .val (.int p2), .val (.int p3), .val (.int p4), .val (.int e5_1), .val (.int e6_2), .val (.int v7_3), .val (.int v8_4), .val (.int e9_5), .val (.int e10_6), .val (.int (0 : Int32)), .val (.int v12_8), .val (.int v13_9), .val (.int v14_10), .val (.int v15_11), .val (.int e16_12), .val (.int e17_13), .val (.int e18_14), .val (.int e19_15), .val (.ref s16), .val (.ref s27), .val (.ref s38), .val (.ref s49), .val (.ref a60), .val (.ref a92), .unset] [(.int (0 : Int32))])
                          refine g_ifT 319 C at_305 (show (0 : Int32) = (0 : Int32) by decide) (by decide) (by decide) ?_
                          refine g_iconst (0 : Int32) C at_319 (by decide) ?_
                          refine g_istore #[.val (.int p0), .val (.int p1), .val (.int p2), .val (.int p3), .val (.int p4), .val (.int e5_1), .val (.int e6_2), .val (.int v7_3), .val (.int v8_4), .val (.int e9_5), .val (.int e10_6), .val (.int (0 : Int32)), .val (.int v12_8), .val (.int v13_9), .val (.int v14_10), .val (.int v15_11), .val (.int e16_12), .val (.int e17_13), .val (.int e18_14), .val (.int e19_15), .val (.ref s16), .val (.ref s27), .val (.ref s38), .val (.ref s49), .val (.ref a60), .val (.ref a92), .val (.int (0 : Int32))] C at_320 rfl ?_
                          refine g_goto 363 C at_322 (by decide) (by decide) ?_
                          refine g_aload C at_363 rfl rfl ?_
                          refine g_aload C at_365 rfl rfl ?_
                          have f176 := (((((f78.keep K99 nin0).keep K108 nin0).keep K123 (ninS (Nat.ne_of_lt (Nat.lt_of_lt_of_le (Nat.lt_of_lt_of_le l64 (Nat.le_trans K76.1 K91.1)) (Nat.le_of_eq e94.symm))) nin0)).keep K128 nin0).keep K135 nin0)
                          have f177 := (((((f79.keep K99 nin0).keep K108 nin0).keep K123 (ninS (Nat.ne_of_lt (Nat.lt_of_lt_of_le (Nat.lt_of_lt_of_le l64 (Nat.le_trans K76.1 K91.1)) (Nat.le_of_eq e94.symm))) nin0)).keep K128 nin0).keep K135 nin0)
                          have f178 := (((((f80.keep K99 nin0).keep K108 nin0).keep K123 (ninS (Nat.ne_of_lt (Nat.lt_of_lt_of_le (Nat.lt_of_lt_of_le l64 (Nat.le_trans K76.1 K91.1)) (Nat.le_of_eq e94.symm))) nin0)).keep K128 nin0).keep K135 nin0)
                          have f179 := (((((f81.keep K99 nin0).keep K108 nin0).keep K123 (ninS (Nat.ne_of_lt (Nat.lt_of_lt_of_le (Nat.lt_of_lt_of_le l64 (Nat.le_trans K76.1 K91.1)) (Nat.le_of_eq e94.symm))) nin0)).keep K128 nin0).keep K135 nin0)
                          have f180 := ((f110.keep K128 nin0).keep K135 nin0)
                          have f181 := ((f111.keep K128 nin0).keep K135 nin0)
                          have f182 := ((f112.keep K128 nin0).keep K135 nin0)
                          have f183 := ((f113.keep K128 nin0).keep K135 nin0)
                          have f184 := (((((((((((f20.keep K36 nin0 nin0).keep K47 nin0 nin0).keep K58 nin0 nin0).keep K67 nin0 nin0).keep K76 nin0 nin0).keep K91 (ninS (Nat.ne_of_lt (Nat.lt_of_lt_of_le (Nat.lt_of_lt_of_le f26.lt (Nat.le_trans (Nat.le_trans K36.1 K47.1) K58.1)) (Nat.le_of_eq e62.symm))) nin0) (ninS (Nat.ne_of_lt (Nat.lt_of_lt_of_le (Nat.lt_of_lt_of_le l19 (Nat.le_trans (Nat.le_trans K36.1 K47.1) K58.1)) (Nat.le_of_eq e62.symm))) nin0)).keep K99 nin0 nin0).keep K108 nin0 nin0).keep K123 (ninS (Nat.ne_of_lt (Nat.lt_of_lt_of_le (Nat.lt_of_lt_of_le f26.lt (Nat.le_trans (Nat.le_trans (Nat.le_trans (Nat.le_trans (Nat.le_trans K36.1 K47.1) K58.1) K67.1) K76.1) K91.1)) (Nat.le_of_eq e94.symm))) nin0) (ninS (Nat.ne_of_lt (Nat.lt_of_lt_of_le (Nat.lt_of_lt_of_le l19 (Nat.le_trans (Nat.le_trans (Nat.le_trans (Nat.le_trans (Nat.le_trans K36.1 K47.1) K58.1) K67.1) K76.1) K91.1)) (Nat.le_of_eq e94.symm))) nin0)).keep K128 nin0 nin0).keep K135 nin0 nin0)
                          have f185 := ((((((((((f31.keep K47 nin0 nin0).keep K58 nin0 nin0).keep K67 nin0 nin0).keep K76 nin0 nin0).keep K91 (ninS (Nat.ne_of_lt (Nat.lt_of_lt_of_le (Nat.lt_of_lt_of_le f37.lt (Nat.le_trans K47.1 K58.1)) (Nat.le_of_eq e62.symm))) nin0) (ninS (Nat.ne_of_lt (Nat.lt_of_lt_of_le (Nat.lt_of_lt_of_le l30 (Nat.le_trans K47.1 K58.1)) (Nat.le_of_eq e62.symm))) nin0)).keep K99 nin0 nin0).keep K108 nin0 nin0).keep K123 (ninS (Nat.ne_of_lt (Nat.lt_of_lt_of_le (Nat.lt_of_lt_of_le f37.lt (Nat.le_trans (Nat.le_trans (Nat.le_trans (Nat.le_trans K47.1 K58.1) K67.1) K76.1) K91.1)) (Nat.le_of_eq e94.symm))) nin0) (ninS (Nat.ne_of_lt (Nat.lt_of_lt_of_le (Nat.lt_of_lt_of_le l30 (Nat.le_trans (Nat.le_trans (Nat.le_trans (Nat.le_trans K47.1 K58.1) K67.1) K76.1) K91.1)) (Nat.le_of_eq e94.symm))) nin0)).keep K128 nin0 nin0).keep K135 nin0 nin0)
                          have f186 := (((((((((f42.keep K58 nin0 nin0).keep K67 nin0 nin0).keep K76 nin0 nin0).keep K91 (ninS (Nat.ne_of_lt (Nat.lt_of_lt_of_le (Nat.lt_of_lt_of_le f48.lt K58.1) (Nat.le_of_eq e62.symm))) nin0) (ninS (Nat.ne_of_lt (Nat.lt_of_lt_of_le (Nat.lt_of_lt_of_le l41 K58.1) (Nat.le_of_eq e62.symm))) nin0)).keep K99 nin0 nin0).keep K108 nin0 nin0).keep K123 (ninS (Nat.ne_of_lt (Nat.lt_of_lt_of_le (Nat.lt_of_lt_of_le f48.lt (Nat.le_trans (Nat.le_trans (Nat.le_trans K58.1 K67.1) K76.1) K91.1)) (Nat.le_of_eq e94.symm))) nin0) (ninS (Nat.ne_of_lt (Nat.lt_of_lt_of_le (Nat.lt_of_lt_of_le l41 (Nat.le_trans (Nat.le_trans (Nat.le_trans K58.1 K67.1) K76.1) K91.1)) (Nat.le_of_eq e94.symm))) nin0)).keep K128 nin0 nin0).keep K135 nin0 nin0)
                          have f187 := ((((((((f53.keep K67 nin0 nin0).keep K76 nin0 nin0).keep K91 (ninS (Nat.ne_of_lt (Nat.lt_of_lt_of_le f59.lt (Nat.le_of_eq e62.symm))) nin0) (ninS (Nat.ne_of_lt (Nat.lt_of_lt_of_le l52 (Nat.le_of_eq e62.symm))) nin0)).keep K99 nin0 nin0).keep K108 nin0 nin0).keep K123 (ninS (Nat.ne_of_lt (Nat.lt_of_lt_of_le (Nat.lt_of_lt_of_le f59.lt (Nat.le_trans (Nat.le_trans K67.1 K76.1) K91.1)) (Nat.le_of_eq e94.symm))) nin0) (ninS (Nat.ne_of_lt (Nat.lt_of_lt_of_le (Nat.lt_of_lt_of_le l52 (Nat.le_trans (Nat.le_trans K67.1 K76.1) K91.1)) (Nat.le_of_eq e94.symm))) nin0)).keep K128 nin0 nin0).keep K135 nin0 nin0)
                          have f188 := ((f109.keep K128).keep K135)
                          have f194 := (((((f77.keep K99).keep K108).keep K123).keep K128).keep K135)
                          refine g_invokevirtual [(.ref a92)] [] 0 C at_367 (hw _ (List.mem_of_getElem? (i := 51) rfl)) (hw _ (List.mem_of_getElem? (i := 52) rfl)) (hw _ (List.mem_of_getElem? (i := 54) rfl)) (hw _ (List.mem_of_getElem? (i := 53) rfl)) (hw _ (List.mem_of_getElem? (i := 29) rfl)) (hw _ (List.mem_of_getElem? (i := 55) rfl)) (fun _ hZ => notFace_of_selects (args := #[]) (mvT hZ (hw _ (List.mem_of_getElem? (i := 54) rfl)))) (by decide) f194 (m_eq l Z a0 hw S0 hz0 S1 S2 S3 S4 _ _ _ _ _ _ _ _ _ _ _ _ _ _ _ _ _ _ _ f176 f177 f178 f179 f180 f181 f182 f183 f188 f184 (mkL_len _ _) (mkL_bd _ _) f185 (mkL_len _ _) (mkL_bd _ _) f186 (mkL_len _ _) (mkL_bd _ _) f187 (mkL_len _ _) (mkL_bd _ _)) (lenOf pd10 rfl) rfl rfl (Nat.le_of_ble_eq_true rfl) (by decide) (by decide) (by decide) (by decide) all0 (fun v189 h190 L191 q192 K193 => ?_)
                          obtain rfl := q192
                          have q : ¬ (mkL v12_8 v13_9 = mkL e16_12 e17_13 ∧ v7_3 = v8_4 ∧ mkL v14_10 v15_11 = mkL e18_14 e19_15 ∧ e9_5 = e10_6) := by simp [cc129, cc130, cc136]
                          rw [if_neg (fun z => q ⟨z.1, (lvA_eq hv7 hv8 n1 n2 n3 n4 n5 n6).mp z.2.1, z.2.2⟩)]
                          show Go _ _ _ _ _ _ _ _ _ _ _ _ _ _ _ _ _ _ _ _ _ _ (mkF _ 370 #[.val (.int p0), .val (.int p1), .val (.int p2), .val (.int p3), .val (.int p4), .val (.int e5_1), .val (.int e6_2), .val (.int v7_3), .val (.int v8_4), .val (.int e9_5), .val (.int e10_6), .val (.int (0 : Int32)), .val (.int v12_8), .val (.int v13_9), .val (.int v14_10), .val (.int v15_11), .val (.int e16_12), .val (.int e17_13), .val (.int e18_14), .val (.int e19_15), .val (.ref s16), .val (.ref s27), .val (.ref s38), .val (.ref s49), .val (.ref a60), .val (.ref a92), .val (.int (0 : Int32))] [(.int (0 : Int32))])
                          refine g_iload C at_370 rfl ?_
                          refine g_icmpF C at_372 (show (0 : Int32) = (0 : Int32) by decide) ?_
                          refine g_iconst (1 : Int32) C at_375 (by decide) ?_
                          refine g_goto 380 C at_376 (by decide) (by decide) ?_
                          exact g_retN C at_380 (by simp) rfl (by decide) (by decide)
                      · skip
                        refine g_icmpT 319 C at_291 (show ¬ v7_3 = v8_4 from cc130) (by decide) (by decide) ?_
                        refine g_iconst (0 : Int32) C at_319 (by decide) ?_
                        refine g_istore #[.val (.int p0), .val (.int p1), .val (.int p2), .val (.int p3), .val (.int p4), .val (.int e5_1), .val (.int e6_2), .val (.int v7_3), .val (.int v8_4), .val (.int e9_5), .val (.int e10_6), .val (.int (0 : Int32)), .val (.int v12_8), .val (.int v13_9), .val (.int v14_10), .val (.int v15_11), .val (.int e16_12), .val (.int e17_13), .val (.int e18_14), .val (.int e19_15), .val (.ref s16), .val (.ref s27), .val (.ref s38), .val (.ref s49), .val (.ref a60), .val (.ref a92), .val (.int (0 : Int32))] C at_320 rfl ?_
                        refine g_goto 363 C at_322 (by decide) (by decide) ?_
                        refine g_aload C at_363 rfl rfl ?_
                        refine g_aload C at_365 rfl rfl ?_
                        have f195 := ((((f78.keep K99 nin0).keep K108 nin0).keep K123 (ninS (Nat.ne_of_lt (Nat.lt_of_lt_of_le (Nat.lt_of_lt_of_le l64 (Nat.le_trans K76.1 K91.1)) (Nat.le_of_eq e94.symm))) nin0)).keep K128 nin0)
                        have f196 := ((((f79.keep K99 nin0).keep K108 nin0).keep K123 (ninS (Nat.ne_of_lt (Nat.lt_of_lt_of_le (Nat.lt_of_lt_of_le l64 (Nat.le_trans K76.1 K91.1)) (Nat.le_of_eq e94.symm))) nin0)).keep K128 nin0)
                        have f197 := ((((f80.keep K99 nin0).keep K108 nin0).keep K123 (ninS (Nat.ne_of_lt (Nat.lt_of_lt_of_le (Nat.lt_of_lt_of_le l64 (Nat.le_trans K76.1 K91.1)) (Nat.le_of_eq e94.symm))) nin0)).keep K128 nin0)
                        have f198 := ((((f81.keep K99 nin0).keep K108 nin0).keep K123 (ninS (Nat.ne_of_lt (Nat.lt_of_lt_of_le (Nat.lt_of_lt_of_le l64 (Nat.le_trans K76.1 K91.1)) (Nat.le_of_eq e94.symm))) nin0)).keep K128 nin0)
                        have f199 := (f110.keep K128 nin0)
                        have f200 := (f111.keep K128 nin0)
                        have f201 := (f112.keep K128 nin0)
                        have f202 := (f113.keep K128 nin0)
                        have f203 := ((((((((((f20.keep K36 nin0 nin0).keep K47 nin0 nin0).keep K58 nin0 nin0).keep K67 nin0 nin0).keep K76 nin0 nin0).keep K91 (ninS (Nat.ne_of_lt (Nat.lt_of_lt_of_le (Nat.lt_of_lt_of_le f26.lt (Nat.le_trans (Nat.le_trans K36.1 K47.1) K58.1)) (Nat.le_of_eq e62.symm))) nin0) (ninS (Nat.ne_of_lt (Nat.lt_of_lt_of_le (Nat.lt_of_lt_of_le l19 (Nat.le_trans (Nat.le_trans K36.1 K47.1) K58.1)) (Nat.le_of_eq e62.symm))) nin0)).keep K99 nin0 nin0).keep K108 nin0 nin0).keep K123 (ninS (Nat.ne_of_lt (Nat.lt_of_lt_of_le (Nat.lt_of_lt_of_le f26.lt (Nat.le_trans (Nat.le_trans (Nat.le_trans (Nat.le_trans (Nat.le_trans K36.1 K47.1) K58.1) K67.1) K76.1) K91.1)) (Nat.le_of_eq e94.symm))) nin0) (ninS (Nat.ne_of_lt (Nat.lt_of_lt_of_le (Nat.lt_of_lt_of_le l19 (Nat.le_trans (Nat.le_trans (Nat.le_trans (Nat.le_trans (Nat.le_trans K36.1 K47.1) K58.1) K67.1) K76.1) K91.1)) (Nat.le_of_eq e94.symm))) nin0)).keep K128 nin0 nin0)
                        have f204 := (((((((((f31.keep K47 nin0 nin0).keep K58 nin0 nin0).keep K67 nin0 nin0).keep K76 nin0 nin0).keep K91 (ninS (Nat.ne_of_lt (Nat.lt_of_lt_of_le (Nat.lt_of_lt_of_le f37.lt (Nat.le_trans K47.1 K58.1)) (Nat.le_of_eq e62.symm))) nin0) (ninS (Nat.ne_of_lt (Nat.lt_of_lt_of_le (Nat.lt_of_lt_of_le l30 (Nat.le_trans K47.1 K58.1)) (Nat.le_of_eq e62.symm))) nin0)).keep K99 nin0 nin0).keep K108 nin0 nin0).keep K123 (ninS (Nat.ne_of_lt (Nat.lt_of_lt_of_le (Nat.lt_of_lt_of_le f37.lt (Nat.le_trans (Nat.le_trans (Nat.le_trans (Nat.le_trans K47.1 K58.1) K67.1) K76.1) K91.1)) (Nat.le_of_eq e94.symm))) nin0) (ninS (Nat.ne_of_lt (Nat.lt_of_lt_of_le (Nat.lt_of_lt_of_le l30 (Nat.le_trans (Nat.le_trans (Nat.le_trans (Nat.le_trans K47.1 K58.1) K67.1) K76.1) K91.1)) (Nat.le_of_eq e94.symm))) nin0)).keep K128 nin0 nin0)
                        have f205 := ((((((((f42.keep K58 nin0 nin0).keep K67 nin0 nin0).keep K76 nin0 nin0).keep K91 (ninS (Nat.ne_of_lt (Nat.lt_of_lt_of_le (Nat.lt_of_lt_of_le f48.lt K58.1) (Nat.le_of_eq e62.symm))) nin0) (ninS (Nat.ne_of_lt (Nat.lt_of_lt_of_le (Nat.lt_of_lt_of_le l41 K58.1) (Nat.le_of_eq e62.symm))) nin0)).keep K99 nin0 nin0).keep K108 nin0 nin0).keep K123 (ninS (Nat.ne_of_lt (Nat.lt_of_lt_of_le (Nat.lt_of_lt_of_le f48.lt (Nat.le_trans (Nat.le_trans (Nat.le_trans K58.1 K67.1) K76.1) K91.1)) (Nat.le_of_eq e94.symm))) nin0) (ninS (Nat.ne_of_lt (Nat.lt_of_lt_of_le (Nat.lt_of_lt_of_le l41 (Nat.le_trans (Nat.le_trans (Nat.le_trans K58.1 K67.1) K76.1) K91.1)) (Nat.le_of_eq e94.symm))) nin0)).keep K128 nin0 nin0)
                        have f206 := (((((((f53.keep K67 nin0 nin0).keep K76 nin0 nin0).keep K91 (ninS (Nat.ne_of_lt (Nat.lt_of_lt_of_le f59.lt (Nat.le_of_eq e62.symm))) nin0) (ninS (Nat.ne_of_lt (Nat.lt_of_lt_of_le l52 (Nat.le_of_eq e62.symm))) nin0)).keep K99 nin0 nin0).keep K108 nin0 nin0).keep K123 (ninS (Nat.ne_of_lt (Nat.lt_of_lt_of_le (Nat.lt_of_lt_of_le f59.lt (Nat.le_trans (Nat.le_trans K67.1 K76.1) K91.1)) (Nat.le_of_eq e94.symm))) nin0) (ninS (Nat.ne_of_lt (Nat.lt_of_lt_of_le (Nat.lt_of_lt_of_le l52 (Nat.le_trans (Nat.le_trans K67.1 K76.1) K91.1)) (Nat.le_of_eq e94.symm))) nin0)).keep K128 nin0 nin0)
                        have f207 := (f109.keep K128)
                        have f213 := ((((f77.keep K99).keep K108).keep K123).keep K128)
                        refine g_invokevirtual [(.ref a92)] [] 0 C at_367 (hw _ (List.mem_of_getElem? (i := 51) rfl)) (hw _ (List.mem_of_getElem? (i := 52) rfl)) (hw _ (List.mem_of_getElem? (i := 54) rfl)) (hw _ (List.mem_of_getElem? (i := 53) rfl)) (hw _ (List.mem_of_getElem? (i := 29) rfl)) (hw _ (List.mem_of_getElem? (i := 55) rfl)) (fun _ hZ => notFace_of_selects (args := #[]) (mvT hZ (hw _ (List.mem_of_getElem? (i := 54) rfl)))) (by decide) f213 (m_eq l Z a0 hw S0 hz0 S1 S2 S3 S4 _ _ _ _ _ _ _ _ _ _ _ _ _ _ _ _ _ _ _ f195 f196 f197 f198 f199 f200 f201 f202 f207 f203 (mkL_len _ _) (mkL_bd _ _) f204 (mkL_len _ _) (mkL_bd _ _) f205 (mkL_len _ _) (mkL_bd _ _) f206 (mkL_len _ _) (mkL_bd _ _)) (lenOf pd10 rfl) rfl rfl (Nat.le_of_ble_eq_true rfl) (by decide) (by decide) (by decide) (by decide) all0 (fun v208 h209 L210 q211 K212 => ?_)
                        obtain rfl := q211
                        have q : ¬ (mkL v12_8 v13_9 = mkL e16_12 e17_13 ∧ v7_3 = v8_4 ∧ mkL v14_10 v15_11 = mkL e18_14 e19_15 ∧ e9_5 = e10_6) := by simp [cc129, cc130]
                        rw [if_neg (fun z => q ⟨z.1, (lvA_eq hv7 hv8 n1 n2 n3 n4 n5 n6).mp z.2.1, z.2.2⟩)]
                        show Go _ _ _ _ _ _ _ _ _ _ _ _ _ _ _ _ _ _ _ _ _ _ (mkF _ 370 #[.val (.int p0), .val (.int p1), .val (.int p2), .val (.int p3), .val (.int p4), .val (.int e5_1), .val (.int e6_2), .val (.int v7_3), .val (.int v8_4), .val (.int e9_5), .val (.int e10_6), .val (.int (0 : Int32)), .val (.int v12_8), .val (.int v13_9), .val (.int v14_10), .val (.int v15_11), .val (.int e16_12), .val (.int e17_13), .val (.int e18_14), .val (.int e19_15), .val (.ref s16), .val (.ref s27), .val (.ref s38), .val (.ref s49), .val (.ref a60), .val (.ref a92), .val (.int (0 : Int32))] [(.int (0 : Int32))])
                        refine g_iload C at_370 rfl ?_
                        refine g_icmpF C at_372 (show (0 : Int32) = (0 : Int32) by decide) ?_
                        refine g_iconst (1 : Int32) C at_375 (by decide) ?_
                        refine g_goto 380 C at_376 (by decide) (by decide) ?_
                        exact g_retN C at_380 (by simp) rfl (by decide) (by decide)
                    · rw [if_neg cc129]
                      show Go _ _ _ _ _ _ _ _ _ _ _ _ _ _ _ _ _ _ _ _ _ _ (mkF _ 284 #[.val (.int p0), .val (.int p1), .val (.int p2), .val (.int p3), .val (.int p4), .val (.int e5_1), .val (.int e6_2), .val (.int v7_3), .val (.int v8_4), .val (.int e9_5), .val (.int e10_6), .val (.int (0 : Int32)), .val (.int v12_8), .val (.int v13_9), .val (.int v14_10), .val (.int v15_11), .val (.int e16_12), .val (.int e17_13), .val (.int e18_14), .val (.int e19_15), .val (.ref s16), .val (.ref s27), .val (.ref s38), .val (.ref s49), .val (.ref a60), .val (.ref a92), .unset] [(.int (0 : Int32))])
                      refine g_ifT 319 C at_284 (show (0 : Int32) = (0 : Int32) by decide) (by decide) (by decide) ?_
                      refine g_iconst (0 : Int32) C at_319 (by decide) ?_
                      refine g_istore #[.val (.int p0), .val (.int p1), .val (.int p2), .val (.int p3), .val (.int p4), .val (.int e5_1), .val (.int e6_2), .val (.int v7_3), .val (.int v8_4), .val (.int e9_5), .val (.int e10_6), .val (.int (0 : Int32)), .val (.int v12_8), .val (.int v13_9), .val (.int v14_10), .val (.int v15_11), .val (.int e16_12), .val (.int e17_13), .val (.int e18_14), .val (.int e19_15), .val (.ref s16), .val (.ref s27), .val (.ref s38), .val (.ref s49), .val (.ref a60), .val (.ref a92), .val (.int (0 : Int32))] C at_320 rfl ?_
                      refine g_goto 363 C at_322 (by decide) (by decide) ?_
                      refine g_aload C at_363 rfl rfl ?_
                      refine g_aload C at_365 rfl rfl ?_
                      have f214 := ((((f78.keep K99 nin0).keep K108 nin0).keep K123 (ninS (Nat.ne_of_lt (Nat.lt_of_lt_of_le (Nat.lt_of_lt_of_le l64 (Nat.le_trans K76.1 K91.1)) (Nat.le_of_eq e94.symm))) nin0)).keep K128 nin0)
                      have f215 := ((((f79.keep K99 nin0).keep K108 nin0).keep K123 (ninS (Nat.ne_of_lt (Nat.lt_of_lt_of_le (Nat.lt_of_lt_of_le l64 (Nat.le_trans K76.1 K91.1)) (Nat.le_of_eq e94.symm))) nin0)).keep K128 nin0)
                      have f216 := ((((f80.keep K99 nin0).keep K108 nin0).keep K123 (ninS (Nat.ne_of_lt (Nat.lt_of_lt_of_le (Nat.lt_of_lt_of_le l64 (Nat.le_trans K76.1 K91.1)) (Nat.le_of_eq e94.symm))) nin0)).keep K128 nin0)
                      have f217 := ((((f81.keep K99 nin0).keep K108 nin0).keep K123 (ninS (Nat.ne_of_lt (Nat.lt_of_lt_of_le (Nat.lt_of_lt_of_le l64 (Nat.le_trans K76.1 K91.1)) (Nat.le_of_eq e94.symm))) nin0)).keep K128 nin0)
                      have f218 := (f110.keep K128 nin0)
                      have f219 := (f111.keep K128 nin0)
                      have f220 := (f112.keep K128 nin0)
                      have f221 := (f113.keep K128 nin0)
                      have f222 := ((((((((((f20.keep K36 nin0 nin0).keep K47 nin0 nin0).keep K58 nin0 nin0).keep K67 nin0 nin0).keep K76 nin0 nin0).keep K91 (ninS (Nat.ne_of_lt (Nat.lt_of_lt_of_le (Nat.lt_of_lt_of_le f26.lt (Nat.le_trans (Nat.le_trans K36.1 K47.1) K58.1)) (Nat.le_of_eq e62.symm))) nin0) (ninS (Nat.ne_of_lt (Nat.lt_of_lt_of_le (Nat.lt_of_lt_of_le l19 (Nat.le_trans (Nat.le_trans K36.1 K47.1) K58.1)) (Nat.le_of_eq e62.symm))) nin0)).keep K99 nin0 nin0).keep K108 nin0 nin0).keep K123 (ninS (Nat.ne_of_lt (Nat.lt_of_lt_of_le (Nat.lt_of_lt_of_le f26.lt (Nat.le_trans (Nat.le_trans (Nat.le_trans (Nat.le_trans (Nat.le_trans K36.1 K47.1) K58.1) K67.1) K76.1) K91.1)) (Nat.le_of_eq e94.symm))) nin0) (ninS (Nat.ne_of_lt (Nat.lt_of_lt_of_le (Nat.lt_of_lt_of_le l19 (Nat.le_trans (Nat.le_trans (Nat.le_trans (Nat.le_trans (Nat.le_trans K36.1 K47.1) K58.1) K67.1) K76.1) K91.1)) (Nat.le_of_eq e94.symm))) nin0)).keep K128 nin0 nin0)
                      have f223 := (((((((((f31.keep K47 nin0 nin0).keep K58 nin0 nin0).keep K67 nin0 nin0).keep K76 nin0 nin0).keep K91 (ninS (Nat.ne_of_lt (Nat.lt_of_lt_of_le (Nat.lt_of_lt_of_le f37.lt (Nat.le_trans K47.1 K58.1)) (Nat.le_of_eq e62.symm))) nin0) (ninS (Nat.ne_of_lt (Nat.lt_of_lt_of_le (Nat.lt_of_lt_of_le l30 (Nat.le_trans K47.1 K58.1)) (Nat.le_of_eq e62.symm))) nin0)).keep K99 nin0 nin0).keep K108 nin0 nin0).keep K123 (ninS (Nat.ne_of_lt (Nat.lt_of_lt_of_le (Nat.lt_of_lt_of_le f37.lt (Nat.le_trans (Nat.le_trans (Nat.le_trans (Nat.le_trans K47.1 K58.1) K67.1) K76.1) K91.1)) (Nat.le_of_eq e94.symm))) nin0) (ninS (Nat.ne_of_lt (Nat.lt_of_lt_of_le (Nat.lt_of_lt_of_le l30 (Nat.le_trans (Nat.le_trans (Nat.le_trans (Nat.le_trans K47.1 K58.1) K67.1) K76.1) K91.1)) (Nat.le_of_eq e94.symm))) nin0)).keep K128 nin0 nin0)
                      have f224 := ((((((((f42.keep K58 nin0 nin0).keep K67 nin0 nin0).keep K76 nin0 nin0).keep K91 (ninS (Nat.ne_of_lt (Nat.lt_of_lt_of_le (Nat.lt_of_lt_of_le f48.lt K58.1) (Nat.le_of_eq e62.symm))) nin0) (ninS (Nat.ne_of_lt (Nat.lt_of_lt_of_le (Nat.lt_of_lt_of_le l41 K58.1) (Nat.le_of_eq e62.symm))) nin0)).keep K99 nin0 nin0).keep K108 nin0 nin0).keep K123 (ninS (Nat.ne_of_lt (Nat.lt_of_lt_of_le (Nat.lt_of_lt_of_le f48.lt (Nat.le_trans (Nat.le_trans (Nat.le_trans K58.1 K67.1) K76.1) K91.1)) (Nat.le_of_eq e94.symm))) nin0) (ninS (Nat.ne_of_lt (Nat.lt_of_lt_of_le (Nat.lt_of_lt_of_le l41 (Nat.le_trans (Nat.le_trans (Nat.le_trans K58.1 K67.1) K76.1) K91.1)) (Nat.le_of_eq e94.symm))) nin0)).keep K128 nin0 nin0)
                      have f225 := (((((((f53.keep K67 nin0 nin0).keep K76 nin0 nin0).keep K91 (ninS (Nat.ne_of_lt (Nat.lt_of_lt_of_le f59.lt (Nat.le_of_eq e62.symm))) nin0) (ninS (Nat.ne_of_lt (Nat.lt_of_lt_of_le l52 (Nat.le_of_eq e62.symm))) nin0)).keep K99 nin0 nin0).keep K108 nin0 nin0).keep K123 (ninS (Nat.ne_of_lt (Nat.lt_of_lt_of_le (Nat.lt_of_lt_of_le f59.lt (Nat.le_trans (Nat.le_trans K67.1 K76.1) K91.1)) (Nat.le_of_eq e94.symm))) nin0) (ninS (Nat.ne_of_lt (Nat.lt_of_lt_of_le (Nat.lt_of_lt_of_le l52 (Nat.le_trans (Nat.le_trans K67.1 K76.1) K91.1)) (Nat.le_of_eq e94.symm))) nin0)).keep K128 nin0 nin0)
                      have f226 := (f109.keep K128)
                      have f232 := ((((f77.keep K99).keep K108).keep K123).keep K128)
                      refine g_invokevirtual [(.ref a92)] [] 0 C at_367 (hw _ (List.mem_of_getElem? (i := 51) rfl)) (hw _ (List.mem_of_getElem? (i := 52) rfl)) (hw _ (List.mem_of_getElem? (i := 54) rfl)) (hw _ (List.mem_of_getElem? (i := 53) rfl)) (hw _ (List.mem_of_getElem? (i := 29) rfl)) (hw _ (List.mem_of_getElem? (i := 55) rfl)) (fun _ hZ => notFace_of_selects (args := #[]) (mvT hZ (hw _ (List.mem_of_getElem? (i := 54) rfl)))) (by decide) f232 (m_eq l Z a0 hw S0 hz0 S1 S2 S3 S4 _ _ _ _ _ _ _ _ _ _ _ _ _ _ _ _ _ _ _ f214 f215 f216 f217 f218 f219 f220 f221 f226 f222 (mkL_len _ _) (mkL_bd _ _) f223 (mkL_len _ _) (mkL_bd _ _) f224 (mkL_len _ _) (mkL_bd _ _) f225 (mkL_len _ _) (mkL_bd _ _)) (lenOf pd10 rfl) rfl rfl (Nat.le_of_ble_eq_true rfl) (by decide) (by decide) (by decide) (by decide) all0 (fun v227 h228 L229 q230 K231 => ?_)
                      obtain rfl := q230
                      have q : ¬ (mkL v12_8 v13_9 = mkL e16_12 e17_13 ∧ v7_3 = v8_4 ∧ mkL v14_10 v15_11 = mkL e18_14 e19_15 ∧ e9_5 = e10_6) := by simp [cc129]
                      rw [if_neg (fun z => q ⟨z.1, (lvA_eq hv7 hv8 n1 n2 n3 n4 n5 n6).mp z.2.1, z.2.2⟩)]
                      show Go _ _ _ _ _ _ _ _ _ _ _ _ _ _ _ _ _ _ _ _ _ _ (mkF _ 370 #[.val (.int p0), .val (.int p1), .val (.int p2), .val (.int p3), .val (.int p4), .val (.int e5_1), .val (.int e6_2), .val (.int v7_3), .val (.int v8_4), .val (.int e9_5), .val (.int e10_6), .val (.int (0 : Int32)), .val (.int v12_8), .val (.int v13_9), .val (.int v14_10), .val (.int v15_11), .val (.int e16_12), .val (.int e17_13), .val (.int e18_14), .val (.int e19_15), .val (.ref s16), .val (.ref s27), .val (.ref s38), .val (.ref s49), .val (.ref a60), .val (.ref a92), .val (.int (0 : Int32))] [(.int (0 : Int32))])
                      refine g_iload C at_370 rfl ?_
                      refine g_icmpF C at_372 (show (0 : Int32) = (0 : Int32) by decide) ?_
                      refine g_iconst (1 : Int32) C at_375 (by decide) ?_
                      refine g_goto 380 C at_376 (by decide) (by decide) ?_
                      exact g_retN C at_380 (by simp) rfl (by decide) (by decide)
                  · skip
                    refine g_iload C at_248 rfl ?_
                    refine g_ifT 325 C at_250 (show ¬ (1 : Int32) = (0 : Int32) by decide) (by decide) (by decide) ?_
                    refine g_iload C at_325 rfl ?_
                    refine g_iconst (1 : Int32) C at_327 (by decide) ?_
                    refine g_icmpF C at_328 (show (1 : Int32) = (1 : Int32) by decide) ?_
                    refine g_aconstNull C at_331 ?_
                    refine g_astore #[.val (.int p0), .val (.int p1), .val (.int p2), .val (.int p3), .val (.int p4), .val (.int e5_1), .val (.int e6_2), .val (.int v7_3), .val (.int v8_4), .val (.int e9_5), .val (.int e10_6), .val (.int (1 : Int32)), .val (.int v12_8), .val (.int v13_9), .val (.int v14_10), .val (.int v15_11), .val (.int e16_12), .val (.int e17_13), .val (.int e18_14), .val (.int e19_15), .val (.ref s16), .val (.ref s27), .val (.ref s38), .val (.ref s49), .val (.ref a60), .val .null, .unset] C at_332 rfl rfl ?_
                    refine g_iconst (0 : Int32) C at_334 (by decide) ?_
                    refine g_istore #[.val (.int p0), .val (.int p1), .val (.int p2), .val (.int p3), .val (.int p4), .val (.int e5_1), .val (.int e6_2), .val (.int v7_3), .val (.int v8_4), .val (.int e9_5), .val (.int e10_6), .val (.int (1 : Int32)), .val (.int v12_8), .val (.int v13_9), .val (.int v14_10), .val (.int v15_11), .val (.int e16_12), .val (.int e17_13), .val (.int e18_14), .val (.int e19_15), .val (.ref s16), .val (.ref s27), .val (.ref s38), .val (.ref s49), .val (.ref a60), .val .null, .val (.int (0 : Int32))] C at_335 rfl ?_
                    refine g_goto 363 C at_337 (by decide) (by decide) ?_
                    refine g_aload C at_363 rfl rfl ?_
                    refine g_aload C at_365 rfl rfl ?_
                    refine g_invokevirtual [.null] [] 0 C at_367 (hw _ (List.mem_of_getElem? (i := 51) rfl)) (hw _ (List.mem_of_getElem? (i := 52) rfl)) (hw _ (List.mem_of_getElem? (i := 54) rfl)) (hw _ (List.mem_of_getElem? (i := 53) rfl)) (hw _ (List.mem_of_getElem? (i := 29) rfl)) (hw _ (List.mem_of_getElem? (i := 55) rfl)) (fun _ hZ => notFace_of_selects (args := #[]) (mvT hZ (hw _ (List.mem_of_getElem? (i := 54) rfl)))) (by decide) f77 (m_eqN l Z a0 hw S0 hz0 S1 S2 S3 S4 _ _) (lenOf pd10 rfl) rfl rfl (Nat.le_of_ble_eq_true rfl) (by decide) (by decide) (by decide) (by decide) all0 (fun v233 h234 L235 q236 K237 => ?_)
                    obtain rfl := q236
                    show Go _ _ _ _ _ _ _ _ _ _ _ _ _ _ _ _ _ _ _ _ _ _ (mkF _ 370 #[.val (.int p0), .val (.int p1), .val (.int p2), .val (.int p3), .val (.int p4), .val (.int e5_1), .val (.int e6_2), .val (.int v7_3), .val (.int v8_4), .val (.int e9_5), .val (.int e10_6), .val (.int (1 : Int32)), .val (.int v12_8), .val (.int v13_9), .val (.int v14_10), .val (.int v15_11), .val (.int e16_12), .val (.int e17_13), .val (.int e18_14), .val (.int e19_15), .val (.ref s16), .val (.ref s27), .val (.ref s38), .val (.ref s49), .val (.ref a60), .val .null, .val (.int (0 : Int32))] [(.int (0 : Int32))])
                    refine g_iload C at_370 rfl ?_
                    refine g_icmpF C at_372 (show (0 : Int32) = (0 : Int32) by decide) ?_
                    refine g_iconst (1 : Int32) C at_375 (by decide) ?_
                    refine g_goto 380 C at_376 (by decide) (by decide) ?_
                    exact g_retN C at_380 (by simp) rfl (by decide) (by decide)
                  · skip
                    refine g_iload C at_248 rfl ?_
                    refine g_ifT 325 C at_250 (show ¬ (2 : Int32) = (0 : Int32) by decide) (by decide) (by decide) ?_
                    refine g_iload C at_325 rfl ?_
                    refine g_iconst (1 : Int32) C at_327 (by decide) ?_
                    refine g_icmpT 340 C at_328 (show ¬ (2 : Int32) = (1 : Int32) by decide) (by decide) (by decide) ?_
                    refine g_iload C at_340 rfl ?_
                    refine g_iconst (2 : Int32) C at_342 (by decide) ?_
                    refine g_icmpF C at_343 (show (2 : Int32) = (2 : Int32) by decide) ?_
                    refine g_aload C at_346 rfl rfl ?_
                    refine g_astore #[.val (.int p0), .val (.int p1), .val (.int p2), .val (.int p3), .val (.int p4), .val (.int e5_1), .val (.int e6_2), .val (.int v7_3), .val (.int v8_4), .val (.int e9_5), .val (.int e10_6), .val (.int (2 : Int32)), .val (.int v12_8), .val (.int v13_9), .val (.int v14_10), .val (.int v15_11), .val (.int e16_12), .val (.int e17_13), .val (.int e18_14), .val (.int e19_15), .val (.ref s16), .val (.ref s27), .val (.ref s38), .val (.ref s49), .val (.ref a60), .val (.ref s38), .unset] C at_348 rfl rfl ?_
                    refine g_iconst (0 : Int32) C at_350 (by decide) ?_
                    refine g_istore #[.val (.int p0), .val (.int p1), .val (.int p2), .val (.int p3), .val (.int p4), .val (.int e5_1), .val (.int e6_2), .val (.int v7_3), .val (.int v8_4), .val (.int e9_5), .val (.int e10_6), .val (.int (2 : Int32)), .val (.int v12_8), .val (.int v13_9), .val (.int v14_10), .val (.int v15_11), .val (.int e16_12), .val (.int e17_13), .val (.int e18_14), .val (.int e19_15), .val (.ref s16), .val (.ref s27), .val (.ref s38), .val (.ref s49), .val (.ref a60), .val (.ref s38), .val (.int (0 : Int32))] C at_351 rfl ?_
                    refine g_goto 363 C at_353 (by decide) (by decide) ?_
                    refine g_aload C at_363 rfl rfl ?_
                    refine g_aload C at_365 rfl rfl ?_
                    have f238 := ((((f48.keep K58).keep K67).keep K76).keep K91)
                    refine g_invokevirtual [(.ref s38)] [] 0 C at_367 (hw _ (List.mem_of_getElem? (i := 51) rfl)) (hw _ (List.mem_of_getElem? (i := 52) rfl)) (hw _ (List.mem_of_getElem? (i := 54) rfl)) (hw _ (List.mem_of_getElem? (i := 53) rfl)) (hw _ (List.mem_of_getElem? (i := 29) rfl)) (hw _ (List.mem_of_getElem? (i := 55) rfl)) (fun _ hZ => notFace_of_selects (args := #[]) (mvT hZ (hw _ (List.mem_of_getElem? (i := 54) rfl)))) (by decide) f77 (m_eqS l Z a0 hw S0 hz0 S1 S2 S3 S4 _ _ _ f238) (lenOf pd10 rfl) rfl rfl (Nat.le_of_ble_eq_true rfl) (by decide) (by decide) (by decide) (by decide) all0 (fun v239 h240 L241 q242 K243 => ?_)
                    obtain rfl := q242
                    show Go _ _ _ _ _ _ _ _ _ _ _ _ _ _ _ _ _ _ _ _ _ _ (mkF _ 370 #[.val (.int p0), .val (.int p1), .val (.int p2), .val (.int p3), .val (.int p4), .val (.int e5_1), .val (.int e6_2), .val (.int v7_3), .val (.int v8_4), .val (.int e9_5), .val (.int e10_6), .val (.int (2 : Int32)), .val (.int v12_8), .val (.int v13_9), .val (.int v14_10), .val (.int v15_11), .val (.int e16_12), .val (.int e17_13), .val (.int e18_14), .val (.int e19_15), .val (.ref s16), .val (.ref s27), .val (.ref s38), .val (.ref s49), .val (.ref a60), .val (.ref s38), .val (.int (0 : Int32))] [(.int (0 : Int32))])
                    refine g_iload C at_370 rfl ?_
                    refine g_icmpF C at_372 (show (0 : Int32) = (0 : Int32) by decide) ?_
                    refine g_iconst (1 : Int32) C at_375 (by decide) ?_
                    refine g_goto 380 C at_376 (by decide) (by decide) ?_
                    exact g_retN C at_380 (by simp) rfl (by decide) (by decide)
                  · skip
                    refine g_iload C at_248 rfl ?_
                    refine g_ifT 325 C at_250 (show ¬ (3 : Int32) = (0 : Int32) by decide) (by decide) (by decide) ?_
                    refine g_iload C at_325 rfl ?_
                    refine g_iconst (1 : Int32) C at_327 (by decide) ?_
                    refine g_icmpT 340 C at_328 (show ¬ (3 : Int32) = (1 : Int32) by decide) (by decide) (by decide) ?_
                    refine g_iload C at_340 rfl ?_
                    refine g_iconst (2 : Int32) C at_342 (by decide) ?_
                    refine g_icmpT 356 C at_343 (show ¬ (3 : Int32) = (2 : Int32) by decide) (by decide) (by decide) ?_
                    refine g_aload C at_356 rfl rfl ?_
                    refine g_astore #[.val (.int p0), .val (.int p1), .val (.int p2), .val (.int p3), .val (.int p4), .val (.int e5_1), .val (.int e6_2), .val (.int v7_3), .val (.int v8_4), .val (.int e9_5), .val (.int e10_6), .val (.int (3 : Int32)), .val (.int v12_8), .val (.int v13_9), .val (.int v14_10), .val (.int v15_11), .val (.int e16_12), .val (.int e17_13), .val (.int e18_14), .val (.int e19_15), .val (.ref s16), .val (.ref s27), .val (.ref s38), .val (.ref s49), .val (.ref a60), .val (.ref a60), .unset] C at_358 rfl rfl ?_
                    refine g_iconst (1 : Int32) C at_360 (by decide) ?_
                    refine g_istore #[.val (.int p0), .val (.int p1), .val (.int p2), .val (.int p3), .val (.int p4), .val (.int e5_1), .val (.int e6_2), .val (.int v7_3), .val (.int v8_4), .val (.int e9_5), .val (.int e10_6), .val (.int (3 : Int32)), .val (.int v12_8), .val (.int v13_9), .val (.int v14_10), .val (.int v15_11), .val (.int e16_12), .val (.int e17_13), .val (.int e18_14), .val (.int e19_15), .val (.ref s16), .val (.ref s27), .val (.ref s38), .val (.ref s49), .val (.ref a60), .val (.ref a60), .val (.int (1 : Int32))] C at_361 rfl ?_
                    refine g_aload C at_363 rfl rfl ?_
                    refine g_aload C at_365 rfl rfl ?_
                    have f244 := ((((((f20.keep K36 nin0 nin0).keep K47 nin0 nin0).keep K58 nin0 nin0).keep K67 nin0 nin0).keep K76 nin0 nin0).keep K91 (ninS (Nat.ne_of_lt (Nat.lt_of_lt_of_le (Nat.lt_of_lt_of_le f26.lt (Nat.le_trans (Nat.le_trans K36.1 K47.1) K58.1)) (Nat.le_of_eq e62.symm))) nin0) (ninS (Nat.ne_of_lt (Nat.lt_of_lt_of_le (Nat.lt_of_lt_of_le l19 (Nat.le_trans (Nat.le_trans K36.1 K47.1) K58.1)) (Nat.le_of_eq e62.symm))) nin0))
                    have f245 := (((((f31.keep K47 nin0 nin0).keep K58 nin0 nin0).keep K67 nin0 nin0).keep K76 nin0 nin0).keep K91 (ninS (Nat.ne_of_lt (Nat.lt_of_lt_of_le (Nat.lt_of_lt_of_le f37.lt (Nat.le_trans K47.1 K58.1)) (Nat.le_of_eq e62.symm))) nin0) (ninS (Nat.ne_of_lt (Nat.lt_of_lt_of_le (Nat.lt_of_lt_of_le l30 (Nat.le_trans K47.1 K58.1)) (Nat.le_of_eq e62.symm))) nin0))
                    refine g_invokevirtual [(.ref a60)] [] 0 C at_367 (hw _ (List.mem_of_getElem? (i := 51) rfl)) (hw _ (List.mem_of_getElem? (i := 52) rfl)) (hw _ (List.mem_of_getElem? (i := 54) rfl)) (hw _ (List.mem_of_getElem? (i := 53) rfl)) (hw _ (List.mem_of_getElem? (i := 29) rfl)) (hw _ (List.mem_of_getElem? (i := 55) rfl)) (fun _ hZ => notFace_of_selects (args := #[]) (mvT hZ (hw _ (List.mem_of_getElem? (i := 54) rfl)))) (by decide) f77 (m_eq l Z a0 hw S0 hz0 S1 S2 S3 S4 _ _ _ _ _ _ _ _ _ _ _ _ _ _ _ _ _ _ _ f78 f79 f80 f81 f78 f79 f80 f81 f77 f244 (mkL_len _ _) (mkL_bd _ _) f245 (mkL_len _ _) (mkL_bd _ _) f244 (mkL_len _ _) (mkL_bd _ _) f245 (mkL_len _ _) (mkL_bd _ _)) (lenOf pd10 rfl) rfl rfl (Nat.le_of_ble_eq_true rfl) (by decide) (by decide) (by decide) (by decide) all0 (fun v246 h247 L248 q249 K250 => ?_)
                    obtain rfl := q249
                    rw [if_pos ⟨rfl, rfl, rfl, rfl⟩]
                    show Go _ _ _ _ _ _ _ _ _ _ _ _ _ _ _ _ _ _ _ _ _ _ (mkF _ 370 #[.val (.int p0), .val (.int p1), .val (.int p2), .val (.int p3), .val (.int p4), .val (.int e5_1), .val (.int e6_2), .val (.int v7_3), .val (.int v8_4), .val (.int e9_5), .val (.int e10_6), .val (.int (3 : Int32)), .val (.int v12_8), .val (.int v13_9), .val (.int v14_10), .val (.int v15_11), .val (.int e16_12), .val (.int e17_13), .val (.int e18_14), .val (.int e19_15), .val (.ref s16), .val (.ref s27), .val (.ref s38), .val (.ref s49), .val (.ref a60), .val (.ref a60), .val (.int (1 : Int32))] [(.int (1 : Int32))])
                    refine g_iload C at_370 rfl ?_
                    refine g_icmpF C at_372 (show (1 : Int32) = (1 : Int32) by decide) ?_
                    refine g_iconst (1 : Int32) C at_375 (by decide) ?_
                    refine g_goto 380 C at_376 (by decide) (by decide) ?_
                    exact g_retN C at_380 (by simp) rfl (by decide) (by decide)
                · skip
                  refine g_iload C at_176 rfl ?_
                  by_cases cc251 : e6_2 = (0 : Int32)
                  · skip
                    refine g_ifT 186 C at_178 (show e6_2 = (0 : Int32) from cc251) (by decide) (by decide) ?_
                    refine g_iloadN C at_186 rfl ?_
                    refine g_ldcInt (65535 : Int32) C at_187 (hw _ (List.mem_of_getElem? (i := 0) rfl)) ?_
                    refine g_iand _ C at_189 rfl ?_
                    exact J ⟨_, rfl⟩
                  · skip
                    refine g_ifF C at_178 (show ¬ e6_2 = (0 : Int32) from cc251) ?_
                    refine g_iload C at_181 rfl ?_
                    refine g_goto 190 C at_183 (by decide) (by decide) ?_
                    exact J ⟨_, rfl⟩
              · skip
                refine g_iload C at_155 rfl ?_
                by_cases cc252 : e6_2 = (0 : Int32)
                · skip
                  refine g_ifT 165 C at_157 (show e6_2 = (0 : Int32) from cc252) (by decide) (by decide) ?_
                  refine g_iloadN C at_165 rfl ?_
                  refine g_bipush (16 : Int32) C at_166 (by decide) ?_
                  refine g_iushr _ C at_168 rfl ?_
                  refine g_ldcInt (65535 : Int32) C at_169 (hw _ (List.mem_of_getElem? (i := 0) rfl)) ?_
                  refine g_iand _ C at_171 rfl ?_
                  refine g_iconst (3 : Int32) C at_172 (by decide) ?_
                  refine g_irem _ C at_173 (by decide) rfl ?_
                  exact J ⟨_, own_rem3 _⟩
                · skip
                  refine g_ifF C at_157 (show ¬ e6_2 = (0 : Int32) from cc252) ?_
                  refine g_iload C at_160 rfl ?_
                  refine g_goto 174 C at_162 (by decide) (by decide) ?_
                  exact J ⟨_, hl14⟩
            · skip
              refine g_iload C at_139 rfl ?_
              by_cases cc253 : e5_1 = (0 : Int32)
              · skip
                refine g_ifT 149 C at_141 (show e5_1 = (0 : Int32) from cc253) (by decide) (by decide) ?_
                refine g_iloadN C at_149 rfl ?_
                refine g_ldcInt (65535 : Int32) C at_150 (hw _ (List.mem_of_getElem? (i := 0) rfl)) ?_
                refine g_iand _ C at_152 rfl ?_
                exact J ⟨_, rfl⟩
              · skip
                refine g_ifF C at_141 (show ¬ e5_1 = (0 : Int32) from cc253) ?_
                refine g_iload C at_144 rfl ?_
                refine g_goto 153 C at_146 (by decide) (by decide) ?_
                exact J ⟨_, rfl⟩
          · skip
            refine g_iload C at_118 rfl ?_
            by_cases cc254 : e5_1 = (0 : Int32)
            · skip
              refine g_ifT 128 C at_120 (show e5_1 = (0 : Int32) from cc254) (by decide) (by decide) ?_
              refine g_iloadN C at_128 rfl ?_
              refine g_bipush (16 : Int32) C at_129 (by decide) ?_
              refine g_iushr _ C at_131 rfl ?_
              refine g_ldcInt (65535 : Int32) C at_132 (hw _ (List.mem_of_getElem? (i := 0) rfl)) ?_
              refine g_iand _ C at_134 rfl ?_
              refine g_iconst (3 : Int32) C at_135 (by decide) ?_
              refine g_irem _ C at_136 (by decide) rfl ?_
              exact J ⟨_, own_rem3 _⟩
            · skip
              refine g_ifF C at_120 (show ¬ e5_1 = (0 : Int32) from cc254) ?_
              refine g_iload C at_123 rfl ?_
              refine g_goto 137 C at_125 (by decide) (by decide) ?_
              exact J ⟨_, hl12⟩
        · skip
          refine g_iload C at_59 rfl ?_
          refine g_sipush (128 : Int32) C at_61 (by decide) ?_
          refine g_iand _ C at_64 rfl ?_
          by_cases cc255 : (p4 &&& (128 : Int32)) = (0 : Int32)
          · skip
            refine g_ifT 72 C at_65 (show (p4 &&& (128 : Int32)) = (0 : Int32) from cc255) (by decide) (by decide) ?_
            refine g_iconst (0 : Int32) C at_72 (by decide) ?_
            exact J ⟨_, Or.inl rfl⟩
          · skip
            refine g_ifF C at_65 (show ¬ (p4 &&& (128 : Int32)) = (0 : Int32) from cc255) ?_
            refine g_iconst (1 : Int32) C at_68 (by decide) ?_
            refine g_goto 73 C at_69 (by decide) (by decide) ?_
            exact J ⟨_, Or.inr rfl⟩
      · skip
        refine g_iload C at_44 rfl ?_
        refine g_bipush (64 : Int32) C at_46 (by decide) ?_
        refine g_iand _ C at_48 rfl ?_
        by_cases cc256 : (p4 &&& (64 : Int32)) = (0 : Int32)
        · skip
          refine g_ifT 56 C at_49 (show (p4 &&& (64 : Int32)) = (0 : Int32) from cc256) (by decide) (by decide) ?_
          refine g_iconst (0 : Int32) C at_56 (by decide) ?_
          exact J ⟨_, Or.inl rfl⟩
        · skip
          refine g_ifF C at_49 (show ¬ (p4 &&& (64 : Int32)) = (0 : Int32) from cc256) ?_
          refine g_iconst (1 : Int32) C at_52 (by decide) ?_
          refine g_goto 57 C at_53 (by decide) (by decide) ?_
          exact J ⟨_, Or.inr rfl⟩
    · skip
      refine g_iload C at_14 rfl ?_
      refine g_iconst (2 : Int32) C at_16 (by decide) ?_
      refine g_iand _ C at_17 rfl ?_
      by_cases cc257 : (p4 &&& (2 : Int32)) = (0 : Int32)
      · skip
        refine g_ifT 25 C at_18 (show (p4 &&& (2 : Int32)) = (0 : Int32) from cc257) (by decide) (by decide) ?_
        refine g_iconst (0 : Int32) C at_25 (by decide) ?_
        exact J ⟨_, Or.inl rfl⟩
      · skip
        refine g_ifF C at_18 (show ¬ (p4 &&& (2 : Int32)) = (0 : Int32) from cc257) ?_
        refine g_iconst (1 : Int32) C at_21 (by decide) ?_
        refine g_goto 26 C at_22 (by decide) (by decide) ?_
        exact J ⟨_, Or.inr rfl⟩
  · skip
    refine g_iload C at_0 rfl ?_
    refine g_iconst (1 : Int32) C at_2 (by decide) ?_
    refine g_iand _ C at_3 rfl ?_
    by_cases cc258 : (p4 &&& (1 : Int32)) = (0 : Int32)
    · skip
      refine g_ifT 11 C at_4 (show (p4 &&& (1 : Int32)) = (0 : Int32) from cc258) (by decide) (by decide) ?_
      refine g_iconst (0 : Int32) C at_11 (by decide) ?_
      exact J ⟨_, Or.inl rfl⟩
    · skip
      refine g_ifF C at_4 (show ¬ (p4 &&& (1 : Int32)) = (0 : Int32) from cc258) ?_
      refine g_iconst (1 : Int32) C at_7 (by decide) ?_
      refine g_goto 12 C at_8 (by decide) (by decide) ?_
      exact J ⟨_, Or.inr rfl⟩
set_option maxRecDepth 65536 in
set_option maxHeartbeats 40000000 in
theorem comes_1 {Post : Tables → Env → Array Value → State → Outcome → State → Prop} (hpost : ∀ tb e args s v u, (limb_1_1.after args s (.returned v) u = true ∧ limb_1_2.after args s (.returned v) u = true ∧ True) → ReturnedEndW s (.returned v) u (Jvm.fieldLocs frame_1_writes args s ++ Jvm.arrayLocs frame_1_arrays args s ++ Jvm.staticLocs frame_1_statics s) 40 1216 → Post tb e args s (.returned v) u) :
    ArmFor flags0 classFile x code maxLocals ret World_1 tables_1 room_1 Calls_1 rest_1 Pre_1 Post := by
  intro l hfl _ _ p e ha hc hk s m args below hf hA hF happ hP
  obtain ⟨hcalls, hrest, hpre⟩ := hP
  obtain ⟨-, -, -, hnamed, -, -, -, hat⟩ := (Spec.applies_iff hf).mp happ
  obtain ⟨hg, hn⟩ := and_e (Cond.before_iff.mp (show (Jvm.Cond.and given_1 narrow_1).before args s = true from hpre))
  obtain ⟨h1, h2⟩ := and_e hg
  obtain ⟨g0, h2⟩ := and_e h2
  obtain ⟨g1, h2⟩ := and_e h2
  obtain ⟨g2, h2⟩ := and_e h2
  obtain ⟨g3, g4⟩ := and_e h2
  obtain ⟨w0, w1, w2, w3, w4, rfl⟩ : ∃ w0 w1 w2 w3 w4 : Value, args = #[w0, w1, w2, w3, w4] := by
    have hs : args.size = 5 := by simpa [Cond.value, given_1] using h1
    obtain ⟨L⟩ := args
    match L, hs with
    | [w0, w1, w2, w3, w4], _ => exact ⟨w0, w1, w2, w3, w4, rfl⟩
  have hw := fun d (hd : d ∈ tables_1) => atoms_spec (ws := Jvm.Cond.code x code maxLocals ret :: tables_1) hat d (List.mem_cons_of_mem _ hd)
  obtain ⟨i0, e0⟩ := is_v g0
  obtain rfl : w0 = (.int i0) := Option.some.inj e0
  obtain ⟨i1, e1⟩ := is_v g1
  obtain rfl : w1 = (.int i1) := Option.some.inj e1
  obtain ⟨i2, e2⟩ := is_v g2
  obtain rfl : w2 = (.int i2) := Option.some.inj e2
  obtain ⟨i3, e3⟩ := is_v g3
  obtain rfl : w3 = (.int i3) := Option.some.inj e3
  obtain ⟨i4, e4⟩ := is_v g4
  obtain rfl : w4 = (.int i4) := Option.some.inj e4
  obtain ⟨hsets, hown0⟩ := atoms_of _ (rest_1_c_eq ▸ (show rest_1_c.before _ s = true from hrest))
  have n5 := not_v (Cond.before_iff.mp (hsets _ (List.mem_of_getElem? (i := 2) rfl)))
  obtain ⟨i11, e10⟩ := is_v (Cond.before_iff.mp (hsets _ (List.mem_of_getElem? (i := 1) rfl)))
  have S0 : Sta s s.heap "java/lang/String" "COMPACT_STRINGS" "Z" (.int i11) := Sta.start e10 (Or.inl (hsets _ (List.mem_of_getElem? (i := 0) rfl)))
  have c17 : ¬ (i11 = (0 : Int32)) := gotF (Cond.eq_ints e10 (Term.int_eval (0))) n5
  obtain ⟨m0, hn⟩ := and_e hn
  obtain ⟨m1, hn⟩ := and_e hn
  obtain ⟨o1, hn⟩ := and_e hn
  obtain ⟨o0, hn⟩ := and_e hn
  obtain ⟨m2, hn⟩ := and_e hn
  obtain ⟨m3, hn⟩ := and_e hn
  obtain ⟨o3, o2⟩ := and_e hn
  obtain ⟨q0, _, _, _, d0, -⟩ := Cond.exactly_spec (Cond.before_iff.mpr m0)
  have T0 : Sta s s.heap "com/example/libcloak/libcloak/core/Level" "UNCLASSIFIED" "Lcom/example/libcloak/libcloak/core/Level;" (.ref q0) := Sta.start d0 (Or.inr ⟨(hw _ (List.mem_of_getElem? (i := 34) rfl)), (hw _ (List.mem_of_getElem? (i := 35) rfl))⟩)
  have F0 : Fld s s.heap q0 "java/lang/Enum" "ordinal" "I" (.int 0) := Fld.start ((fld_at d0).symm.trans (eqv_i (Term.int_eval (0)) o0))
  obtain ⟨q1, _, _, _, d1, -⟩ := Cond.exactly_spec (Cond.before_iff.mpr m1)
  have T1 : Sta s s.heap "com/example/libcloak/libcloak/core/Level" "CONFIDENTIAL" "Lcom/example/libcloak/libcloak/core/Level;" (.ref q1) := Sta.start d1 (Or.inr ⟨(hw _ (List.mem_of_getElem? (i := 34) rfl)), (hw _ (List.mem_of_getElem? (i := 70) rfl))⟩)
  have F1 : Fld s s.heap q1 "java/lang/Enum" "ordinal" "I" (.int 1) := Fld.start ((fld_at d1).symm.trans (eqv_i (Term.int_eval (1)) o1))
  obtain ⟨q2, _, _, _, d2, -⟩ := Cond.exactly_spec (Cond.before_iff.mpr m2)
  have T2 : Sta s s.heap "com/example/libcloak/libcloak/core/Level" "SECRET" "Lcom/example/libcloak/libcloak/core/Level;" (.ref q2) := Sta.start d2 (Or.inr ⟨(hw _ (List.mem_of_getElem? (i := 34) rfl)), (hw _ (List.mem_of_getElem? (i := 72) rfl))⟩)
  have F2 : Fld s s.heap q2 "java/lang/Enum" "ordinal" "I" (.int 2) := Fld.start ((fld_at d2).symm.trans (eqv_i (Term.int_eval (2)) o2))
  obtain ⟨q3, _, _, _, d3, -⟩ := Cond.exactly_spec (Cond.before_iff.mpr m3)
  have T3 : Sta s s.heap "com/example/libcloak/libcloak/core/Level" "TOP_SECRET" "Lcom/example/libcloak/libcloak/core/Level;" (.ref q3) := Sta.start d3 (Or.inr ⟨(hw _ (List.mem_of_getElem? (i := 34) rfl)), (hw _ (List.mem_of_getElem? (i := 84) rfl))⟩)
  have F3 : Fld s s.heap q3 "java/lang/Enum" "ordinal" "I" (.int 3) := Fld.start ((fld_at d3).symm.trans (eqv_i (Term.int_eval (3)) o3))
  have hheld : CHv s [("java/lang/String", 7)] s.vm s.heap := CHv.start (own_EW hw) (fun q hq => hcalls.1 q ((by decide : ∀ q ∈ ([("java/lang/String", 7)] : List (String × Nat)), q ∈ consts_1) q hq)) (hsets _ (List.mem_of_getElem? (i := 2) rfl)) (hw _ (List.mem_of_getElem? (i := 20) rfl)) (hw _ (List.mem_of_getElem? (i := 6) rfl))
  obtain ⟨n, o, h1, h2, h3, _, L, rfl, rfl, -, hfin, -, -, N⟩ := m_law l s _ hw S0 c17 T0 T1 T2 T3 (F0.ne F1 (by decide)) (F0.ne F2 (by decide)) (F0.ne F3 (by decide)) (F1.ne F2 (by decide)) (F1.ne F3 (by decide)) (F2.ne F3 (by decide)) i0 i1 i2 i3 i4 s.heap p e ha hc hk s m _ below hf ((Spec.applies_iff_loose hf).mp happ).1 ⟨rfl, State.Warmed39.refl s, rfl, hheld, all0, ⟨Nat.le_refl _, fun _ _ q => q⟩⟩ trivial
  have hq := hfin.2
  refine ⟨n, _, h1, h2, h3, hpost _ _ _ _ _ _ ⟨Cond.after_iff.mpr rfl, Cond.after_iff.mpr (eq_i res_at (Term.int_eval (1)) rfl), trivial⟩ ⟨hq.1, hq.2.1, hq.2.2.1, (hq.2.2.2.sift fun y hy => Or.inr (N y hy)).mono (by decide) (by decide)⟩⟩
theorem main_1_1 : Claimed_1_1 := comes_1 fun _ _ _ _ _ _ h hF => ⟨h.1, hF⟩
theorem main_1_2 : Claimed_1_2 := comes_1 fun _ _ _ _ _ _ h hF => ⟨h.2.1, hF⟩
end Jvm.Pilot.@@N@@
namespace Jvm.Pilot.@@N@@
open Jvm Jvm.ClassFile Sem Op Lib Jvm.Free Jvm.Stand Jvm.Pilot.@@N@@.Jvm.D
/-! MADE BY PROGRAM (witnessworld.py) out of the Statement's table words and the real class files: 22 classes; the members and pool entries that the words name. The judged class is class 1, her method 4. -/
namespace start1
open Jvm.ClassFile
def u (s : String) : CpInfo := .utf8 (stringToUtf16 s)
/-- a pool by its gaps: so many unusable entries, then the entry; so many at the end -/
def gap : Nat → List CpInfo → List CpInfo
  | 0, r => r
  | n + 1, r => .unusable :: gap n r
def poolList (es : List (Nat × CpInfo)) (last : Nat) : List CpInfo := es.foldr (fun e r => gap e.1 (e.2 :: r)) (gap last [])
def pool (es : List (Nat × CpInfo)) (last : Nat) : Array CpInfo := ⟨poolList es last⟩
def fileOf (pool : Array CpInfo) (this : Nat) (attrs : Array Attribute := #[]) (ms : Array MethodInfo := #[]) (fl : Nat := 33) (sup : Nat := 0) (ifs : Array Nat := #[]) (fds : Array FieldInfo := #[]) : ClassFile where
  minorVersion := 0
  majorVersion := 65
  constantPool := pool
  accessFlags := fl
  thisClass := this
  superClass := sup
  interfaces := ifs
  fields := fds
  methods := ms
  attributes := attrs
def plain (name : String) (sup : Option ClassId) : Class where
  name := name
  kind := .ordinary
  loader := none
  accessFlags := 33
  super := sup
  interfaces := #[]
  cf := none
  fields := #[]
  methods := #[]
  instanceTypes := #[]
  staticTypes := #[]
  resolved := #[]
  callSites := []
  init := .initialized
  statics := none
  mirror := none

def pool0 : Array CpInfo := pool [(5, u "<init>"), (0, u "()V"), (1, .class_ 10), (1, u "java/lang/Object")] 113

def k0c0 : Code := { maxStack := 0, maxLocals := 1, code := object_method_1_code, exceptionTable := #[], attributes := #[] }
def k0m0 : Method := { name := "<init>", desc := "()V", sig := { parameters := [], returnType := none }, accessFlags := 1, code := some k0c0 }
/-- java/lang/Object -/
def k0 : Class := { plain "java/lang/Object" none with
  accessFlags := 33
  interfaces := #[]
  cf := some (fileOf pool0 8 #[] #[{ accessFlags := 1, nameIndex := 5, descriptorIndex := 6, attributes := #[] }] 33 0 #[] #[])
  fields := #[]
  methods := #[k0m0]
  instanceTypes := #[]
  staticTypes := #[]
  resolved := Array.replicate 124 none
  statics := none }

def pool1 : Array CpInfo := pool [(2, .class_ 4), (1, u "java/lang/Object"), (0, u "<init>"), (0, u "()V"), (0, .class_ 8), (0, u "java/lang/String"), (0, .methodref 7 10), (0, .nameAndType 5 11), (0, u "([C)V"), (0, .methodref 7 13), (0, .nameAndType 14 15), (0, u "valueOf"), (0, u "(C)Ljava/lang/String;"), (0, .fieldref 17 18), (0, .class_ 19), (0, .nameAndType 20 21), (0, u "com/example/libcloak/libcloak/core/Level"), (0, u "UNCLASSIFIED"), (0, u "Lcom/example/libcloak/libcloak/core/Level;"), (0, .fieldref 17 23), (0, .nameAndType 24 21), (0, u "CONFIDENTIAL"), (0, .fieldref 17 26), (0, .nameAndType 27 21), (0, u "SECRET"), (0, .fieldref 17 29), (0, .nameAndType 30 21), (0, u "TOP_SECRET"), (0, .integer 65535), (0, .methodref 33 34), (0, .class_ 35), (0, .nameAndType 36 37), (0, u "com/example/libcloak/libcloak/core/CatalogGroupEqualsPinLaw"), (0, u "mk"), (0, u "(II)Ljava/lang/String;"), (0, .class_ 39), (0, u "com/example/libcloak/libcloak/core/CatalogGroup"), (0, .methodref 33 41), (0, .nameAndType 42 43), (0, u "lvl"), (0, u "(I)Lcom/example/libcloak/libcloak/core/Level;"), (0, .methodref 38 45), (0, .nameAndType 5 46), (0, u "(Ljava/lang/String;Lcom/example/libcloak/libcloak/core/Level;Ljava/lang/String;Z)V"), (0, .methodref 33 48), (0, .nameAndType 49 50), (0, u "sameStr"), (0, u "(IIII)Z"), (0, .methodref 38 52), (0, .nameAndType 53 54), (0, u "equals"), (0, u "(Ljava/lang/Object;)Z"), (3, u "law"), (0, u "(IIIII)Z")] 2

def k1m0 : Method := { name := "<init>", desc := "()V", sig := { parameters := [], returnType := none }, accessFlags := 1, code := none }
def k1c1 : Code := { maxStack := 4, maxLocals := 3, code := method_2_code, exceptionTable := #[], attributes := #[] }
def k1m1 : Method := { name := "mk", desc := "(II)Ljava/lang/String;", sig := { parameters := [.int, .int], returnType := some (.object "java/lang/String") }, accessFlags := 10, code := some k1c1 }
def k1c2 : Code := { maxStack := 3, maxLocals := 4, code := method_3_code, exceptionTable := #[], attributes := #[] }
def k1m2 : Method := { name := "sameStr", desc := "(IIII)Z", sig := { parameters := [.int, .int, .int, .int], returnType := some .boolean }, accessFlags := 10, code := some k1c2 }
def k1c3 : Code := { maxStack := 2, maxLocals := 1, code := method_4_code, exceptionTable := #[], attributes := #[] }
def k1m3 : Method := { name := "lvl", desc := "(I)Lcom/example/libcloak/libcloak/core/Level;", sig := { parameters := [.int], returnType := some (.object "com/example/libcloak/libcloak/core/Level") }, accessFlags := 10, code := some k1c3 }
def k1c4 : Code := { maxStack := 6, maxLocals := 27, code := code, exceptionTable := #[], attributes := #[] }
def k1m4 : Method := { name := "law", desc := "(IIIII)Z", sig := { parameters := [.int, .int, .int, .int, .int], returnType := some .boolean }, accessFlags := 9, code := some k1c4 }
/-- com/example/libcloak/libcloak/core/CatalogGroupEqualsPinLaw -/
def k1 : Class := { plain "com/example/libcloak/libcloak/core/CatalogGroupEqualsPinLaw" (some 0) with
  accessFlags := 49
  interfaces := #[]
  cf := some (fileOf pool1 33 #[] #[{ accessFlags := 1, nameIndex := 5, descriptorIndex := 6, attributes := #[] }, { accessFlags := 10, nameIndex := 36, descriptorIndex := 37, attributes := #[] }, { accessFlags := 10, nameIndex := 49, descriptorIndex := 50, attributes := #[] }, { accessFlags := 10, nameIndex := 42, descriptorIndex := 43, attributes := #[] }, { accessFlags := 9, nameIndex := 58, descriptorIndex := 59, attributes := #[] }] 49 2 #[] #[])
  fields := #[]
  methods := #[k1m0, k1m1, k1m2, k1m3, k1m4]
  instanceTypes := #[]
  staticTypes := #[]
  resolved := Array.replicate 62 none
  statics := none }

def pool2 : Array CpInfo := pool [(1, .class_ 2), (0, u "java/io/Serializable"), (0, .class_ 4), (0, u "java/lang/Object")] 2

/-- java/io/Serializable -/
def k2 : Class := { plain "java/io/Serializable" (some 0) with
  accessFlags := 1537
  interfaces := #[]
  cf := some (fileOf pool2 1 #[] #[] 1537 3 #[] #[])
  fields := #[]
  methods := #[]
  instanceTypes := #[]
  staticTypes := #[]
  resolved := Array.replicate 7 none
  statics := none }

def pool3 : Array CpInfo := pool [(1, .class_ 2), (0, u "java/lang/Comparable"), (0, .class_ 4), (0, u "java/lang/Object")] 7

/-- java/lang/Comparable -/
def k3 : Class := { plain "java/lang/Comparable" (some 0) with
  accessFlags := 1537
  interfaces := #[]
  cf := some (fileOf pool3 1 #[] #[] 1537 3 #[] #[])
  fields := #[]
  methods := #[]
  instanceTypes := #[]
  staticTypes := #[]
  resolved := Array.replicate 12 none
  statics := none }

def pool4 : Array CpInfo := pool [(2, .class_ 4), (1, u "java/lang/CharSequence"), (42, .class_ 48), (0, u "java/lang/CharSequence$1CodePointIterator"), (10, .class_ 60), (0, u "java/lang/CharSequence$1CharIterator"), (5, .class_ 67), (0, u "java/lang/Object")] 63

/-- java/lang/CharSequence -/
def k4 : Class := { plain "java/lang/CharSequence" (some 0) with
  accessFlags := 1537
  interfaces := #[]
  cf := some (fileOf pool4 2 #[.nestMembers #[47, 59]] #[] 1537 66 #[] #[])
  fields := #[]
  methods := #[]
  instanceTypes := #[]
  staticTypes := #[]
  resolved := Array.replicate 131 none
  statics := none }

def pool5 : Array CpInfo := pool [(1, .class_ 2), (0, u "java/lang/constant/Constable"), (0, .class_ 4), (0, u "java/lang/Object")] 6

/-- java/lang/constant/Constable -/
def k5 : Class := { plain "java/lang/constant/Constable" (some 0) with
  accessFlags := 1537
  interfaces := #[]
  cf := some (fileOf pool5 1 #[] #[] 1537 3 #[] #[])
  fields := #[]
  methods := #[]
  instanceTypes := #[]
  staticTypes := #[]
  resolved := Array.replicate 11 none
  statics := none }

def pool6 : Array CpInfo := pool [(1, .class_ 2), (0, u "java/lang/constant/ConstantDesc"), (0, .class_ 4), (0, u "java/lang/Object")] 32

/-- java/lang/constant/ConstantDesc -/
def k6 : Class := { plain "java/lang/constant/ConstantDesc" (some 0) with
  accessFlags := 1537
  interfaces := #[]
  cf := some (fileOf pool6 1 #[] #[] 1537 3 #[] #[])
  fields := #[]
  methods := #[]
  instanceTypes := #[]
  staticTypes := #[]
  resolved := Array.replicate 37 none
  statics := none }

def pool7 : Array CpInfo := pool [(1, .methodref 2 3), (0, .class_ 4), (0, .nameAndType 5 6), (0, u "java/lang/Object"), (0, u "<init>"), (0, u "()V"), (0, .string 8), (0, u ""), (0, .fieldref 10 11), (0, .class_ 12), (0, .nameAndType 13 14), (0, u "java/lang/String"), (0, u "value"), (0, u "[B"), (0, .fieldref 10 16), (0, .nameAndType 17 18), (0, u "coder"), (0, u "B"), (2, u "hash"), (0, u "I"), (2, u "hashIsZero"), (0, u "Z"), (0, .methodref 10 28), (0, .nameAndType 5 29), (0, u "([CIILjava/lang/Void;)V"), (8, .fieldref 10 39), (0, .nameAndType 40 26), (0, u "COMPACT_STRINGS"), (1, .class_ 44), (1, u "java/lang/StringUTF16"), (0, u "compress"), (1, .methodref 42 48), (0, .nameAndType 49 50), (0, u "coderFromArrayLen"), (0, u "([BI)B"), (2, u "toBytes"), (53, .class_ 109), (1, u "java/lang/StringLatin1"), (67, .methodref 42 178), (0, .nameAndType 45 179), (0, u "([CII)[B"), (29, .methodref 10 210), (0, .nameAndType 5 211), (0, u "([BB)V"), (157, u "(C)Z"), (171, .methodref 107 542), (0, .nameAndType 543 544), (0, u "equals"), (0, u "([B[B)Z"), (28, u "(Ljava/lang/Object;)Z"), (1, .class_ 576), (0, u "java/lang/CharSequence"), (22, u "CASE_INSENSITIVE_ORDER"), (0, u "Ljava/util/Comparator;"), (181, u "valueOf"), (0, u "(C)Ljava/lang/String;"), (226, u "([C)V"), (4, .methodref 107 1016), (0, .nameAndType 1017 369), (0, u "canEncode"), (0, .methodref 107 1019), (0, .nameAndType 53 1020), (0, u "(C)[B"), (80, u "serialPersistentFields"), (0, u "[Ljava/io/ObjectStreamField;"), (0, .class_ 1104), (0, u "java/lang/String$CaseInsensitiveComparator"), (1, .class_ 1107), (0, u "java/io/Serializable"), (0, .class_ 1109), (0, u "java/lang/Comparable"), (0, .class_ 1111), (0, u "java/lang/constant/Constable"), (0, .class_ 1113), (0, u "java/lang/constant/ConstantDesc"), (2, u "serialVersionUID"), (0, u "J"), (3, u "REPL"), (0, u "C"), (2, u "LATIN1"), (1, u "UTF16")] 323

def k7m0 : Method := { name := "<init>", desc := "()V", sig := { parameters := [], returnType := none }, accessFlags := 1, code := none }
def k7c1 : Code := { maxStack := 5, maxLocals := 2, code := jdk_42_method_3_code, exceptionTable := #[], attributes := #[] }
def k7m1 : Method := { name := "<init>", desc := "([C)V", sig := { parameters := [(.array .char)], returnType := none }, accessFlags := 1, code := some k7c1 }
def k7c2 : Code := { maxStack := 2, maxLocals := 3, code := jdk_42_method_66_code, exceptionTable := #[], attributes := #[] }
def k7m2 : Method := { name := "equals", desc := "(Ljava/lang/Object;)Z", sig := { parameters := [(.object "java/lang/Object")], returnType := some .boolean }, accessFlags := 1, code := some k7c2 }
def k7c3 : Code := { maxStack := 4, maxLocals := 1, code := jdk_42_method_139_code, exceptionTable := #[], attributes := #[] }
def k7m3 : Method := { name := "valueOf", desc := "(C)Ljava/lang/String;", sig := { parameters := [.char], returnType := some (.object "java/lang/String") }, accessFlags := 9, code := some k7c3 }
def k7c4 : Code := { maxStack := 4, maxLocals := 6, code := jdk_42_method_149_code, exceptionTable := #[], attributes := #[] }
def k7m4 : Method := { name := "<init>", desc := "([CIILjava/lang/Void;)V", sig := { parameters := [(.array .char), .int, .int, (.object "java/lang/Void")], returnType := none }, accessFlags := 2, code := some k7c4 }
def k7c5 : Code := { maxStack := 2, maxLocals := 3, code := jdk_42_method_151_code, exceptionTable := #[], attributes := #[] }
def k7m5 : Method := { name := "<init>", desc := "([BB)V", sig := { parameters := [(.array .byte), .byte], returnType := none }, accessFlags := 0, code := some k7c5 }
/-- java/lang/String -/
def k7 : Class := { plain "java/lang/String" (some 0) with
  accessFlags := 49
  interfaces := #[2, 3, 4, 5, 6]
  cf := some (fileOf pool7 10 #[.nestMembers #[1103]] #[{ accessFlags := 1, nameIndex := 5, descriptorIndex := 6, attributes := #[] }, { accessFlags := 1, nameIndex := 5, descriptorIndex := 1010, attributes := #[] }, { accessFlags := 1, nameIndex := 543, descriptorIndex := 573, attributes := #[] }, { accessFlags := 9, nameIndex := 782, descriptorIndex := 783, attributes := #[] }, { accessFlags := 2, nameIndex := 5, descriptorIndex := 29, attributes := #[] }, { accessFlags := 0, nameIndex := 5, descriptorIndex := 211, attributes := #[] }] 49 2 #[1106, 1108, 575, 1110, 1112] #[{ accessFlags := 18, nameIndex := 13, descriptorIndex := 14, attributes := #[] }, { accessFlags := 18, nameIndex := 17, descriptorIndex := 18, attributes := #[] }, { accessFlags := 2, nameIndex := 21, descriptorIndex := 22, attributes := #[] }, { accessFlags := 2, nameIndex := 25, descriptorIndex := 26, attributes := #[] }, { accessFlags := 26, nameIndex := 1116, descriptorIndex := 1117, attributes := #[] }, { accessFlags := 24, nameIndex := 40, descriptorIndex := 26, attributes := #[] }, { accessFlags := 26, nameIndex := 1101, descriptorIndex := 1102, attributes := #[] }, { accessFlags := 26, nameIndex := 1121, descriptorIndex := 1122, attributes := #[] }, { accessFlags := 25, nameIndex := 599, descriptorIndex := 600, attributes := #[] }, { accessFlags := 24, nameIndex := 1125, descriptorIndex := 18, attributes := #[] }, { accessFlags := 24, nameIndex := 1127, descriptorIndex := 18, attributes := #[] }])
  fields := #[{ name := "value", type := (.array .byte), accessFlags := 18, slot := 0, constantValue := 0 }, { name := "coder", type := .byte, accessFlags := 18, slot := 1, constantValue := 0 }, { name := "hash", type := .int, accessFlags := 2, slot := 2, constantValue := 0 }, { name := "hashIsZero", type := .boolean, accessFlags := 2, slot := 3, constantValue := 0 }, { name := "serialVersionUID", type := .long, accessFlags := 26, slot := 0, constantValue := 0 }, { name := "COMPACT_STRINGS", type := .boolean, accessFlags := 24, slot := 1, constantValue := 0 }, { name := "serialPersistentFields", type := (.array (.object "java/io/ObjectStreamField")), accessFlags := 26, slot := 2, constantValue := 0 }, { name := "REPL", type := .char, accessFlags := 26, slot := 3, constantValue := 0 }, { name := "CASE_INSENSITIVE_ORDER", type := (.object "java/util/Comparator"), accessFlags := 25, slot := 4, constantValue := 0 }, { name := "LATIN1", type := .byte, accessFlags := 24, slot := 5, constantValue := 0 }, { name := "UTF16", type := .byte, accessFlags := 24, slot := 6, constantValue := 0 }]
  methods := #[k7m0, k7m1, k7m2, k7m3, k7m4, k7m5]
  instanceTypes := #[(.array .byte), .byte, .int, .boolean]
  staticTypes := #[.long, .boolean, (.array (.object "java/io/ObjectStreamField")), .char, (.object "java/util/Comparator"), .byte, .byte]
  resolved := Array.replicate 1451 none
  statics := some 0 }

def pool8 : Array CpInfo := pool [(6, u "Lcom/example/libcloak/libcloak/core/Level;"), (1, .class_ 10), (1, u "com/example/libcloak/libcloak/core/CatalogGroup"), (0, u "<init>"), (3, u "(Ljava/lang/String;Lcom/example/libcloak/libcloak/core/Level;Ljava/lang/String;Z)V"), (0, .methodref 17 18), (0, .class_ 19), (0, .nameAndType 11 20), (0, u "java/lang/Object"), (0, u "()V"), (0, .fieldref 8 22), (0, .nameAndType 23 24), (0, u "name"), (0, u "Ljava/lang/String;"), (0, .fieldref 8 26), (0, .nameAndType 27 6), (0, u "level"), (0, .fieldref 8 29), (0, .nameAndType 30 24), (0, u "node"), (0, .fieldref 8 32), (0, .nameAndType 33 34), (0, u "carried"), (0, u "Z"), (0, .methodref 36 37), (0, .class_ 38), (0, .nameAndType 39 40), (0, u "java/lang/String"), (0, u "equals"), (0, u "(Ljava/lang/Object;)Z")] 25

def k8c0 : Code := { maxStack := 2, maxLocals := 5, code := prog_9_method_3_code, exceptionTable := #[], attributes := #[] }
def k8m0 : Method := { name := "<init>", desc := "(Ljava/lang/String;Lcom/example/libcloak/libcloak/core/Level;Ljava/lang/String;Z)V", sig := { parameters := [(.object "java/lang/String"), (.object "com/example/libcloak/libcloak/core/Level"), (.object "java/lang/String"), .boolean], returnType := none }, accessFlags := 1, code := some k8c0 }
def k8c1 : Code := { maxStack := 2, maxLocals := 3, code := prog_9_method_9_code, exceptionTable := #[], attributes := #[] }
def k8m1 : Method := { name := "equals", desc := "(Ljava/lang/Object;)Z", sig := { parameters := [(.object "java/lang/Object")], returnType := some .boolean }, accessFlags := 1, code := some k8c1 }
/-- com/example/libcloak/libcloak/core/CatalogGroup -/
def k8 : Class := { plain "com/example/libcloak/libcloak/core/CatalogGroup" (some 0) with
  accessFlags := 49
  interfaces := #[]
  cf := some (fileOf pool8 8 #[] #[{ accessFlags := 1, nameIndex := 11, descriptorIndex := 15, attributes := #[] }, { accessFlags := 1, nameIndex := 39, descriptorIndex := 40, attributes := #[] }] 49 17 #[] #[{ accessFlags := 18, nameIndex := 23, descriptorIndex := 24, attributes := #[] }, { accessFlags := 18, nameIndex := 27, descriptorIndex := 6, attributes := #[] }, { accessFlags := 18, nameIndex := 30, descriptorIndex := 24, attributes := #[] }, { accessFlags := 18, nameIndex := 33, descriptorIndex := 34, attributes := #[] }])
  fields := #[{ name := "name", type := (.object "java/lang/String"), accessFlags := 18, slot := 0, constantValue := 0 }, { name := "level", type := (.object "com/example/libcloak/libcloak/core/Level"), accessFlags := 18, slot := 1, constantValue := 0 }, { name := "node", type := (.object "java/lang/String"), accessFlags := 18, slot := 2, constantValue := 0 }, { name := "carried", type := .boolean, accessFlags := 18, slot := 3, constantValue := 0 }]
  methods := #[k8m0, k8m1]
  instanceTypes := #[(.object "java/lang/String"), (.object "com/example/libcloak/libcloak/core/Level"), (.object "java/lang/String"), .boolean]
  staticTypes := #[]
  resolved := Array.replicate 66 none
  statics := none }

def pool9 : Array CpInfo := pool [(2, .class_ 4), (1, u "java/lang/Enum"), (0, u "name"), (0, u "Ljava/lang/String;"), (2, u "ordinal"), (0, u "I"), (1, .class_ 14), (1, u "java/lang/Object"), (4, u "hash"), (86, .class_ 108), (1, u "java/lang/Enum$EnumDesc"), (2, .class_ 112), (0, u "java/lang/constant/Constable"), (0, .class_ 114), (0, u "java/lang/Comparable"), (0, .class_ 116), (0, u "java/io/Serializable")] 87

/-- java/lang/Enum -/
def k9 : Class := { plain "java/lang/Enum" (some 0) with
  accessFlags := 1057
  interfaces := #[5, 3, 2]
  cf := some (fileOf pool9 2 #[.nestMembers #[106]] #[] 1057 12 #[111, 113, 115] #[{ accessFlags := 18, nameIndex := 5, descriptorIndex := 6, attributes := #[] }, { accessFlags := 18, nameIndex := 9, descriptorIndex := 10, attributes := #[] }, { accessFlags := 2, nameIndex := 19, descriptorIndex := 10, attributes := #[] }])
  fields := #[{ name := "name", type := (.object "java/lang/String"), accessFlags := 18, slot := 0, constantValue := 0 }, { name := "ordinal", type := .int, accessFlags := 18, slot := 1, constantValue := 0 }, { name := "hash", type := .int, accessFlags := 2, slot := 2, constantValue := 0 }]
  methods := #[]
  instanceTypes := #[(.object "java/lang/String"), .int, .int]
  staticTypes := #[]
  resolved := Array.replicate 204 none
  statics := none }

def pool10 : Array CpInfo := pool [(1, .class_ 2), (0, u "com/example/libcloak/libcloak/core/Level"), (2, u "UNCLASSIFIED"), (0, u "Lcom/example/libcloak/libcloak/core/Level;"), (2, u "CONFIDENTIAL"), (2, u "SECRET"), (2, u "TOP_SECRET"), (2, u "$VALUES"), (0, u "[Lcom/example/libcloak/libcloak/core/Level;"), (6, .class_ 28), (1, u "java/lang/Enum"), (8, u "word"), (0, u "Ljava/lang/String;")] 82

/-- com/example/libcloak/libcloak/core/Level -/
def k10 : Class := { plain "com/example/libcloak/libcloak/core/Level" (some 9) with
  accessFlags := 16433
  interfaces := #[]
  cf := some (fileOf pool10 1 #[] #[] 16433 26 #[] #[{ accessFlags := 16409, nameIndex := 5, descriptorIndex := 6, attributes := #[] }, { accessFlags := 16409, nameIndex := 9, descriptorIndex := 6, attributes := #[] }, { accessFlags := 16409, nameIndex := 12, descriptorIndex := 6, attributes := #[] }, { accessFlags := 16409, nameIndex := 15, descriptorIndex := 6, attributes := #[] }, { accessFlags := 18, nameIndex := 37, descriptorIndex := 38, attributes := #[] }, { accessFlags := 4122, nameIndex := 18, descriptorIndex := 19, attributes := #[] }])
  fields := #[{ name := "UNCLASSIFIED", type := (.object "com/example/libcloak/libcloak/core/Level"), accessFlags := 16409, slot := 0, constantValue := 0 }, { name := "CONFIDENTIAL", type := (.object "com/example/libcloak/libcloak/core/Level"), accessFlags := 16409, slot := 1, constantValue := 0 }, { name := "SECRET", type := (.object "com/example/libcloak/libcloak/core/Level"), accessFlags := 16409, slot := 2, constantValue := 0 }, { name := "TOP_SECRET", type := (.object "com/example/libcloak/libcloak/core/Level"), accessFlags := 16409, slot := 3, constantValue := 0 }, { name := "word", type := (.object "java/lang/String"), accessFlags := 18, slot := 3, constantValue := 0 }, { name := "$VALUES", type := (.array (.object "com/example/libcloak/libcloak/core/Level")), accessFlags := 4122, slot := 4, constantValue := 0 }]
  methods := #[]
  instanceTypes := #[(.object "java/lang/String"), .int, .int, (.object "java/lang/String")]
  staticTypes := #[(.object "com/example/libcloak/libcloak/core/Level"), (.object "com/example/libcloak/libcloak/core/Level"), (.object "com/example/libcloak/libcloak/core/Level"), (.object "com/example/libcloak/libcloak/core/Level"), (.array (.object "com/example/libcloak/libcloak/core/Level"))]
  resolved := Array.replicate 121 none
  statics := some 1 }

def pool11 : Array CpInfo := pool [(4, .class_ 6), (1, u "java/lang/Object"), (0, u "<init>"), (0, u "()V"), (5, .class_ 16), (1, u "java/lang/StringLatin1"), (73, u "canEncode"), (14, u "(C)Z"), (15, u "$assertionsDisabled"), (0, u "Z"), (98, .class_ 223), (1, u "java/lang/StringLatin1$LinesSpliterator"), (57, u "equals"), (0, u "([B[B)Z"), (97, u "toBytes"), (1, u "(C)[B"), (7, .class_ 391), (0, u "java/lang/StringLatin1$CharsSpliterator")] 3

def k11m0 : Method := { name := "<init>", desc := "()V", sig := { parameters := [], returnType := none }, accessFlags := 0, code := none }
def k11c1 : Code := { maxStack := 2, maxLocals := 1, code := jdk_43_method_3_code, exceptionTable := #[], attributes := #[] }
def k11m1 : Method := { name := "canEncode", desc := "(C)Z", sig := { parameters := [.char], returnType := some .boolean }, accessFlags := 9, code := some k11c1 }
def k11c2 : Code := { maxStack := 3, maxLocals := 3, code := jdk_43_method_13_code, exceptionTable := #[], attributes := #[] }
def k11m2 : Method := { name := "equals", desc := "([B[B)Z", sig := { parameters := [(.array .byte), (.array .byte)], returnType := some .boolean }, accessFlags := 9, code := some k11c2 }
def k11c3 : Code := { maxStack := 4, maxLocals := 1, code := jdk_43_method_46_code, exceptionTable := #[], attributes := #[] }
def k11m3 : Method := { name := "toBytes", desc := "(C)[B", sig := { parameters := [.char], returnType := some (.array .byte) }, accessFlags := 9, code := some k11c3 }
/-- java/lang/StringLatin1 -/
def k11 : Class := { plain "java/lang/StringLatin1" (some 0) with
  accessFlags := 48
  interfaces := #[]
  cf := some (fileOf pool11 14 #[.nestMembers #[390, 221]] #[{ accessFlags := 0, nameIndex := 7, descriptorIndex := 8, attributes := #[] }, { accessFlags := 9, nameIndex := 90, descriptorIndex := 105, attributes := #[] }, { accessFlags := 9, nameIndex := 281, descriptorIndex := 282, attributes := #[] }, { accessFlags := 9, nameIndex := 380, descriptorIndex := 382, attributes := #[] }] 48 4 #[] #[{ accessFlags := 4120, nameIndex := 121, descriptorIndex := 122, attributes := #[] }])
  fields := #[{ name := "$assertionsDisabled", type := .boolean, accessFlags := 4120, slot := 0, constantValue := 0 }]
  methods := #[k11m0, k11m1, k11m2, k11m3]
  instanceTypes := #[]
  staticTypes := #[.boolean]
  resolved := Array.replicate 395 none
  statics := none }

def pool12 : Array CpInfo := pool [(6, .class_ 8), (1, u "java/lang/Object"), (0, u "<init>"), (0, u "()V"), (1, .class_ 14), (1, u "java/lang/StringUTF16"), (31, u "$assertionsDisabled"), (0, u "Z"), (13, u "HI_BYTE_SHIFT"), (0, u "I"), (2, u "LO_BYTE_SHIFT"), (49, .methodref 12 116), (0, .nameAndType 117 118), (0, u "compress"), (0, u "([CI[BII)I"), (3, u "([CII)[B"), (138, u "coderFromArrayLen"), (0, u "([BI)B"), (106, .class_ 371), (1, u "java/lang/StringUTF16$LinesSpliterator"), (58, u "MAX_LENGTH"), (196, .class_ 628), (0, u "java/lang/StringUTF16$CodePointsSpliterator"), (0, .class_ 630), (0, u "java/lang/StringUTF16$CharsSpliterator")] 4

def k12m0 : Method := { name := "<init>", desc := "()V", sig := { parameters := [], returnType := none }, accessFlags := 0, code := none }
def k12c1 : Code := { maxStack := 2, maxLocals := 2, code := jdk_52_method_15_code, exceptionTable := #[], attributes := #[] }
def k12m1 : Method := { name := "coderFromArrayLen", desc := "([BI)B", sig := { parameters := [(.array .byte), .int], returnType := some .byte }, accessFlags := 8, code := some k12c1 }
def k12c2 : Code := { maxStack := 5, maxLocals := 6, code := jdk_52_method_16_code, exceptionTable := #[], attributes := #[] }
def k12m2 : Method := { name := "compress", desc := "([CII)[B", sig := { parameters := [(.array .char), .int, .int], returnType := some (.array .byte) }, accessFlags := 9, code := some k12c2 }
def k12c3 : Code := { maxStack := 3, maxLocals := 7, code := jdk_52_method_21_code, exceptionTable := #[], attributes := #[] }
def k12m3 : Method := { name := "compress", desc := "([CI[BII)I", sig := { parameters := [(.array .char), .int, (.array .byte), .int, .int], returnType := some .int }, accessFlags := 9, code := some k12c3 }
/-- java/lang/StringUTF16 -/
def k12 : Class := { plain "java/lang/StringUTF16" (some 0) with
  accessFlags := 48
  interfaces := #[]
  cf := some (fileOf pool12 12 #[.nestMembers #[627, 629, 369]] #[{ accessFlags := 0, nameIndex := 9, descriptorIndex := 10, attributes := #[] }, { accessFlags := 8, nameIndex := 261, descriptorIndex := 262, attributes := #[] }, { accessFlags := 9, nameIndex := 117, descriptorIndex := 122, attributes := #[] }, { accessFlags := 9, nameIndex := 117, descriptorIndex := 118, attributes := #[] }] 48 6 #[] #[{ accessFlags := 26, nameIndex := 61, descriptorIndex := 62, attributes := #[] }, { accessFlags := 26, nameIndex := 65, descriptorIndex := 62, attributes := #[] }, { accessFlags := 24, nameIndex := 430, descriptorIndex := 62, attributes := #[] }, { accessFlags := 4120, nameIndex := 46, descriptorIndex := 47, attributes := #[] }])
  fields := #[{ name := "HI_BYTE_SHIFT", type := .int, accessFlags := 26, slot := 0, constantValue := 0 }, { name := "LO_BYTE_SHIFT", type := .int, accessFlags := 26, slot := 1, constantValue := 0 }, { name := "MAX_LENGTH", type := .int, accessFlags := 24, slot := 2, constantValue := 0 }, { name := "$assertionsDisabled", type := .boolean, accessFlags := 4120, slot := 3, constantValue := 0 }]
  methods := #[k12m0, k12m1, k12m2, k12m3]
  instanceTypes := #[]
  staticTypes := #[.int, .int, .int, .boolean]
  resolved := Array.replicate 635 none
  statics := none }

def pool13 : Array CpInfo := pool [(2, .class_ 4), (1, u "java/lang/Object"), (0, u "<init>"), (0, u "()V"), (17, .class_ 26), (1, u "jdk/internal/util/Preconditions"), (28, .class_ 56), (0, u "jdk/internal/util/Preconditions$4"), (57, .class_ 115), (0, u "jdk/internal/util/Preconditions$1"), (7, u "SIOOBE_FORMATTER"), (0, u "Ljava/util/function/BiFunction;"), (0, .class_ 126), (0, u "jdk/internal/util/Preconditions$2"), (3, u "AIOOBE_FORMATTER"), (0, .class_ 132), (0, u "jdk/internal/util/Preconditions$3"), (3, u "IOOBE_FORMATTER")] 57

def k13m0 : Method := { name := "<init>", desc := "()V", sig := { parameters := [], returnType := none }, accessFlags := 1, code := none }
/-- jdk/internal/util/Preconditions -/
def k13 : Class := { plain "jdk/internal/util/Preconditions" (some 0) with
  accessFlags := 33
  interfaces := #[]
  cf := some (fileOf pool13 24 #[.nestMembers #[55, 131, 125, 114]] #[{ accessFlags := 1, nameIndex := 5, descriptorIndex := 6, attributes := #[] }] 33 2 #[] #[{ accessFlags := 25, nameIndex := 123, descriptorIndex := 124, attributes := #[] }, { accessFlags := 25, nameIndex := 130, descriptorIndex := 124, attributes := #[] }, { accessFlags := 25, nameIndex := 136, descriptorIndex := 124, attributes := #[] }])
  fields := #[{ name := "SIOOBE_FORMATTER", type := (.object "java/util/function/BiFunction"), accessFlags := 25, slot := 0, constantValue := 0 }, { name := "AIOOBE_FORMATTER", type := (.object "java/util/function/BiFunction"), accessFlags := 25, slot := 1, constantValue := 0 }, { name := "IOOBE_FORMATTER", type := (.object "java/util/function/BiFunction"), accessFlags := 25, slot := 2, constantValue := 0 }]
  methods := #[k13m0]
  instanceTypes := #[]
  staticTypes := #[(.object "java/util/function/BiFunction"), (.object "java/util/function/BiFunction"), (.object "java/util/function/BiFunction")]
  resolved := Array.replicate 194 none
  statics := some 2 }

def pool14 : Array CpInfo := pool [(9, u "<init>"), (6, .class_ 18), (1, u "java/lang/Object"), (0, u "()V"), (1, .class_ 23), (1, u "jdk/internal/util/ArraysSupport"), (0, u "LOG2_ARRAY_LONG_INDEX_SCALE"), (0, u "I"), (2, u "U"), (0, u "Ljdk/internal/misc/Unsafe;"), (8, u "BIG_ENDIAN"), (0, u "Z"), (8, u "LOG2_BYTE_BIT_SIZE"), (4, u "LOG2_ARRAY_INT_INDEX_SCALE"), (54, u "JLA"), (0, u "Ljdk/internal/access/JavaLangAccess;"), (11, u "LOG2_ARRAY_BOOLEAN_INDEX_SCALE"), (9, u "LOG2_ARRAY_BYTE_INDEX_SCALE"), (5, u "LOG2_ARRAY_CHAR_INDEX_SCALE"), (5, u "LOG2_ARRAY_SHORT_INDEX_SCALE"), (18, u "LOG2_ARRAY_FLOAT_INDEX_SCALE"), (24, u "LOG2_ARRAY_DOUBLE_INDEX_SCALE"), (89, u "T_BOOLEAN"), (2, u "T_CHAR"), (1, u "T_FLOAT"), (1, u "T_DOUBLE"), (1, u "T_BYTE"), (1, u "T_SHORT"), (1, u "T_INT"), (1, u "T_LONG"), (1, u "SOFT_MAX_ARRAY_LENGTH")] 83

def k14m0 : Method := { name := "<init>", desc := "()V", sig := { parameters := [], returnType := none }, accessFlags := 2, code := none }
/-- jdk/internal/util/ArraysSupport -/
def k14 : Class := { plain "jdk/internal/util/ArraysSupport" (some 0) with
  accessFlags := 33
  interfaces := #[]
  cf := some (fileOf pool14 21 #[] #[{ accessFlags := 2, nameIndex := 9, descriptorIndex := 19, attributes := #[] }] 33 16 #[] #[{ accessFlags := 24, nameIndex := 28, descriptorIndex := 29, attributes := #[] }, { accessFlags := 26, nameIndex := 38, descriptorIndex := 39, attributes := #[] }, { accessFlags := 25, nameIndex := 121, descriptorIndex := 25, attributes := #[] }, { accessFlags := 25, nameIndex := 131, descriptorIndex := 25, attributes := #[] }, { accessFlags := 25, nameIndex := 137, descriptorIndex := 25, attributes := #[] }, { accessFlags := 25, nameIndex := 143, descriptorIndex := 25, attributes := #[] }, { accessFlags := 25, nameIndex := 53, descriptorIndex := 25, attributes := #[] }, { accessFlags := 25, nameIndex := 24, descriptorIndex := 25, attributes := #[] }, { accessFlags := 25, nameIndex := 162, descriptorIndex := 25, attributes := #[] }, { accessFlags := 25, nameIndex := 187, descriptorIndex := 25, attributes := #[] }, { accessFlags := 26, nameIndex := 48, descriptorIndex := 25, attributes := #[] }, { accessFlags := 25, nameIndex := 277, descriptorIndex := 25, attributes := #[] }, { accessFlags := 25, nameIndex := 280, descriptorIndex := 25, attributes := #[] }, { accessFlags := 25, nameIndex := 282, descriptorIndex := 25, attributes := #[] }, { accessFlags := 25, nameIndex := 284, descriptorIndex := 25, attributes := #[] }, { accessFlags := 25, nameIndex := 286, descriptorIndex := 25, attributes := #[] }, { accessFlags := 25, nameIndex := 288, descriptorIndex := 25, attributes := #[] }, { accessFlags := 25, nameIndex := 290, descriptorIndex := 25, attributes := #[] }, { accessFlags := 25, nameIndex := 292, descriptorIndex := 25, attributes := #[] }, { accessFlags := 26, nameIndex := 108, descriptorIndex := 109, attributes := #[] }, { accessFlags := 25, nameIndex := 294, descriptorIndex := 25, attributes := #[] }])
  fields := #[{ name := "U", type := (.object "jdk/internal/misc/Unsafe"), accessFlags := 24, slot := 0, constantValue := 0 }, { name := "BIG_ENDIAN", type := .boolean, accessFlags := 26, slot := 1, constantValue := 0 }, { name := "LOG2_ARRAY_BOOLEAN_INDEX_SCALE", type := .int, accessFlags := 25, slot := 2, constantValue := 0 }, { name := "LOG2_ARRAY_BYTE_INDEX_SCALE", type := .int, accessFlags := 25, slot := 3, constantValue := 0 }, { name := "LOG2_ARRAY_CHAR_INDEX_SCALE", type := .int, accessFlags := 25, slot := 4, constantValue := 0 }, { name := "LOG2_ARRAY_SHORT_INDEX_SCALE", type := .int, accessFlags := 25, slot := 5, constantValue := 0 }, { name := "LOG2_ARRAY_INT_INDEX_SCALE", type := .int, accessFlags := 25, slot := 6, constantValue := 0 }, { name := "LOG2_ARRAY_LONG_INDEX_SCALE", type := .int, accessFlags := 25, slot := 7, constantValue := 0 }, { name := "LOG2_ARRAY_FLOAT_INDEX_SCALE", type := .int, accessFlags := 25, slot := 8, constantValue := 0 }, { name := "LOG2_ARRAY_DOUBLE_INDEX_SCALE", type := .int, accessFlags := 25, slot := 9, constantValue := 0 }, { name := "LOG2_BYTE_BIT_SIZE", type := .int, accessFlags := 26, slot := 10, constantValue := 0 }, { name := "T_BOOLEAN", type := .int, accessFlags := 25, slot := 11, constantValue := 0 }, { name := "T_CHAR", type := .int, accessFlags := 25, slot := 12, constantValue := 0 }, { name := "T_FLOAT", type := .int, accessFlags := 25, slot := 13, constantValue := 0 }, { name := "T_DOUBLE", type := .int, accessFlags := 25, slot := 14, constantValue := 0 }, { name := "T_BYTE", type := .int, accessFlags := 25, slot := 15, constantValue := 0 }, { name := "T_SHORT", type := .int, accessFlags := 25, slot := 16, constantValue := 0 }, { name := "T_INT", type := .int, accessFlags := 25, slot := 17, constantValue := 0 }, { name := "T_LONG", type := .int, accessFlags := 25, slot := 18, constantValue := 0 }, { name := "JLA", type := (.object "jdk/internal/access/JavaLangAccess"), accessFlags := 26, slot := 19, constantValue := 0 }, { name := "SOFT_MAX_ARRAY_LENGTH", type := .int, accessFlags := 25, slot := 20, constantValue := 0 }]
  methods := #[k14m0]
  instanceTypes := #[]
  staticTypes := #[(.object "jdk/internal/misc/Unsafe"), .boolean, .int, .int, .int, .int, .int, .int, .int, .int, .int, .int, .int, .int, .int, .int, .int, .int, .int, (.object "jdk/internal/access/JavaLangAccess"), .int]
  resolved := Array.replicate 378 none
  statics := none }

def pool15 : Array CpInfo := pool [(1, u "java/lang/Cloneable"), (0, .class_ 1), (0, u "java/lang/Object"), (0, .class_ 3)] 3

/-- java/lang/Cloneable -/
def k15 : Class := { plain "java/lang/Cloneable" (some 0) with
  accessFlags := 1537
  interfaces := #[]
  cf := some (fileOf pool15 2 #[] #[] 1537 4 #[] #[])
  fields := #[]
  methods := #[]
  instanceTypes := #[]
  staticTypes := #[]
  resolved := Array.replicate 8 none
  statics := none }

/-- the primitive byte -/
def k16 : Class := { plain "byte" none with kind := .primitive 'B', accessFlags := 0x411 }
/-- [B -/
def k17 : Class := { plain "[B" (some 0) with kind := .array 16 .byte, interfaces := #[15, 2], accessFlags := 1041 }

/-- the primitive char -/
def k18 : Class := { plain "char" none with kind := .primitive 'C', accessFlags := 0x411 }
/-- [C -/
def k19 : Class := { plain "[C" (some 0) with kind := .array 18 .char, interfaces := #[15, 2], accessFlags := 1041 }

/-- the primitive int -/
def k20 : Class := { plain "int" none with kind := .primitive 'I', accessFlags := 0x411 }
/-- [I -/
def k21 : Class := { plain "[I" (some 0) with kind := .array 20 .int, interfaces := #[15, 2], accessFlags := 1041 }

def heap : Heap := #[{ cls := 7, slots := #[.long 0, .int 1, .null, .int 0, .null, .int 0, .int 0], vm := .statics 7 },
  { cls := 10, slots := #[.ref 3, .ref 4, .ref 5, .ref 6, .null], vm := .statics 10 },
  { cls := 13, slots := #[.null, .null, .null], vm := .statics 13 },
  { cls := 10, slots := #[.null, .int 0, .int 0, .null], vm := .none },
  { cls := 10, slots := #[.null, .int 1, .int 0, .null], vm := .none },
  { cls := 10, slots := #[.null, .int 2, .int 0, .null], vm := .none },
  { cls := 10, slots := #[.null, .int 3, .int 0, .null], vm := .none }]
def classes : Array Class := #[k0, k1, k2, k3, k4, k5, k6, k7, k8, k9, k10, k11, k12, k13, k14, k15, k16, k17, k18, k19, k20, k21]
def interned : List (Array UInt16 × Addr) := []
def slotsUsed : Nat := 31
def theMethod : MethodId := ⟨1, 4⟩
def args0 : Array Value := #[.int 5, .int 6, .int 7, .int 8, .int 9]
def aboutOver (below : List Frame) : State where
  vm := { classes := classes, interned := interned.toArray }
  heap := heap
  slotsUsed := slotsUsed
  threads := #[{ frames := .invoking theMethod args0 :: below }]
def below0 : List Frame := [.native { method := ⟨0, 0⟩, args := #[] }]
def about1 : State := aboutOver below0
def p0 : Program := .bare "" "" ""
def e0 : Env := launch0.env 0 0 0
theorem w_frames : about1.frames = Frame.invoking theMethod args0 :: below0 := rfl
set_option maxRecDepth 65536 in
theorem w_args : argsFit about1.vm theMethod args0 = true := by decide +kernel
set_option maxRecDepth 65536 in
theorem w_heap : heapFits about1 = true := by decide +kernel
set_option maxRecDepth 65536 in
theorem w_runnable : about1.curStatus? = some .runnable := by decide +kernel
set_option maxRecDepth 65536 in
theorem w_alone : about1.alone = true := by decide +kernel
set_option maxRecDepth 65536 in
theorem w_named : about1.methodNamed? x = some theMethod := by decide +kernel
set_option maxRecDepth 65536 in
theorem w_hears : about1.hears theMethod below0 = true := by decide +kernel
set_option maxRecDepth 65536 in
theorem w_ripe : about1.ripe theMethod args0 below0 = true := by decide +kernel
theorem w_running : about1.status = .running := rfl
set_option maxRecDepth 65536 in
theorem w_room : about1.hasRoom e0.platform room_1 = true :=
  launch0.hasRoom_least _ room_1 (by decide +kernel) (by decide +kernel) (by decide +kernel) (by decide +kernel) (by decide +kernel) (by decide +kernel)
theorem allAtoms_all (ts : List Jvm.Cond) (a : Array Jvm.Value) (st : Jvm.State) : (allAtoms ts).before a st = ts.all (fun c => c.before a st) := by
  induction ts with
  | nil => rfl
  | cons c t ih =>
    show (Jvm.Cond.and c (allAtoms t)).before a st = _
    rw [Jvm.Cond.before_and, ih, List.all_cons]
def words1 : List Jvm.Cond := Jvm.Cond.code x code maxLocals ret :: tables_1
/-- a 'code' word, met by the world's own term for the bytes: nothing is compared byte by byte -/
theorem code_word {y : MethodName} {bytes : ByteArray} {mx : Nat} {rt : Option FieldType} {a : Array Value} {s : State} {m : MethodId} {meth : Method} {c : Code} (h1 : s.methodNamed? y = some m) (h2 : s.vm.method? m = some meth) (h3 : meth.code = some c) (h4 : c.code = bytes)
    (h5 : (c.maxLocals == mx && c.exceptionTable.isEmpty && decide (c.maxStack ≤ mostOperands) && decide (meth.sig.returnType = rt) && !meth.locks && decide (parseMethodDescriptor y.desc = some meth.sig)) = true) : (Jvm.Cond.code y bytes mx rt).before a s = true := by
  simp only [Bool.and_eq_true, beq_iff_eq, Bool.not_eq_true', decide_eq_true_eq] at h5
  obtain ⟨⟨⟨⟨⟨g1, g2⟩, g3⟩, g4⟩, g5⟩, g6⟩ := h5
  simp [Cond.before, Cond.holds, Cond.value, h1, h2, h3, h4, g1, g2, g3, g4, g5, g6]
def isCode : Jvm.Cond → Bool
  | .code _ _ _ _ => true
  | _ => false
theorem all_split {L : List Jvm.Cond} {P : Jvm.Cond → Bool} (h1 : L.all (fun c => isCode c || P c) = true) (h2 : ∀ c ∈ L.filter isCode, P c = true) : L.all P = true := by
  refine List.all_eq_true.mpr fun c hc => ?_
  have h := List.all_eq_true.mp h1 c hc
  rcases Bool.eq_false_or_eq_true (isCode c) with hi | hi
  · exact h2 c (List.mem_filter.mpr ⟨hc, hi⟩)
  · simpa [hi] using h
set_option maxRecDepth 65536 in
theorem w_c0 : (Jvm.Cond.code x code maxLocals ret).before args0 about1 = true := code_word (m := ⟨1, 4⟩) (meth := k1m4) (c := k1c4) (by decide +kernel) rfl rfl rfl (by decide +kernel)
set_option maxRecDepth 65536 in
theorem w_c1 : (Jvm.Cond.code ({ cls := "com/example/libcloak/libcloak/core/CatalogGroupEqualsPinLaw", name := "mk", desc := "(II)Ljava/lang/String;" } : Jvm.MethodName) method_2_code (3 : Nat) (Option.some (Jvm.ClassFile.FieldType.object "java/lang/String"))).before args0 about1 = true := code_word (m := ⟨1, 1⟩) (meth := k1m1) (c := k1c1) (by decide +kernel) rfl rfl rfl (by decide +kernel)
set_option maxRecDepth 65536 in
theorem w_c2 : (Jvm.Cond.code ({ cls := "java/lang/String", name := "<init>", desc := "([C)V" } : Jvm.MethodName) jdk_42_method_3_code (2 : Nat) (Option.none : Option Jvm.ClassFile.FieldType)).before args0 about1 = true := code_word (m := ⟨7, 1⟩) (meth := k7m1) (c := k7c1) (by decide +kernel) rfl rfl rfl (by decide +kernel)
set_option maxRecDepth 65536 in
theorem w_c3 : (Jvm.Cond.code ({ cls := "java/lang/String", name := "<init>", desc := "([CIILjava/lang/Void;)V" } : Jvm.MethodName) jdk_42_method_149_code (6 : Nat) (Option.none : Option Jvm.ClassFile.FieldType)).before args0 about1 = true := code_word (m := ⟨7, 4⟩) (meth := k7m4) (c := k7c4) (by decide +kernel) rfl rfl rfl (by decide +kernel)
set_option maxRecDepth 65536 in
theorem w_c4 : (Jvm.Cond.code ({ cls := "java/lang/Object", name := "<init>", desc := "()V" } : Jvm.MethodName) object_method_1_code (1 : Nat) (Option.none : Option Jvm.ClassFile.FieldType)).before args0 about1 = true := code_word (m := ⟨0, 0⟩) (meth := k0m0) (c := k0c0) (by decide +kernel) rfl rfl rfl (by decide +kernel)
set_option maxRecDepth 65536 in
theorem w_c5 : (Jvm.Cond.code ({ cls := "com/example/libcloak/libcloak/core/CatalogGroupEqualsPinLaw", name := "lvl", desc := "(I)Lcom/example/libcloak/libcloak/core/Level;" } : Jvm.MethodName) method_4_code (1 : Nat) (Option.some (Jvm.ClassFile.FieldType.object "com/example/libcloak/libcloak/core/Level"))).before args0 about1 = true := code_word (m := ⟨1, 3⟩) (meth := k1m3) (c := k1c3) (by decide +kernel) rfl rfl rfl (by decide +kernel)
set_option maxRecDepth 65536 in
theorem w_c6 : (Jvm.Cond.code ({ cls := "com/example/libcloak/libcloak/core/CatalogGroup", name := "<init>", desc := "(Ljava/lang/String;Lcom/example/libcloak/libcloak/core/Level;Ljava/lang/String;Z)V" } : Jvm.MethodName) prog_9_method_3_code (5 : Nat) (Option.none : Option Jvm.ClassFile.FieldType)).before args0 about1 = true := code_word (m := ⟨8, 0⟩) (meth := k8m0) (c := k8c0) (by decide +kernel) rfl rfl rfl (by decide +kernel)
set_option maxRecDepth 65536 in
theorem w_c7 : (Jvm.Cond.code ({ cls := "com/example/libcloak/libcloak/core/CatalogGroupEqualsPinLaw", name := "sameStr", desc := "(IIII)Z" } : Jvm.MethodName) method_3_code (4 : Nat) (Option.some Jvm.ClassFile.FieldType.boolean)).before args0 about1 = true := code_word (m := ⟨1, 2⟩) (meth := k1m2) (c := k1c2) (by decide +kernel) rfl rfl rfl (by decide +kernel)
set_option maxRecDepth 65536 in
theorem w_c8 : (Jvm.Cond.code ({ cls := "com/example/libcloak/libcloak/core/CatalogGroup", name := "equals", desc := "(Ljava/lang/Object;)Z" } : Jvm.MethodName) prog_9_method_9_code (3 : Nat) (Option.some Jvm.ClassFile.FieldType.boolean)).before args0 about1 = true := code_word (m := ⟨8, 1⟩) (meth := k8m1) (c := k8c1) (by decide +kernel) rfl rfl rfl (by decide +kernel)
set_option maxRecDepth 65536 in
theorem w_c9 : (Jvm.Cond.code ({ cls := "java/lang/String", name := "equals", desc := "(Ljava/lang/Object;)Z" } : Jvm.MethodName) jdk_42_method_66_code (3 : Nat) (Option.some Jvm.ClassFile.FieldType.boolean)).before args0 about1 = true := code_word (m := ⟨7, 2⟩) (meth := k7m2) (c := k7c2) (by decide +kernel) rfl rfl rfl (by decide +kernel)
set_option maxRecDepth 65536 in
theorem w_c10 : (Jvm.Cond.code ({ cls := "java/lang/StringLatin1", name := "equals", desc := "([B[B)Z" } : Jvm.MethodName) jdk_43_method_13_code (3 : Nat) (Option.some Jvm.ClassFile.FieldType.boolean)).before args0 about1 = true := code_word (m := ⟨11, 2⟩) (meth := k11m2) (c := k11c2) (by decide +kernel) rfl rfl rfl (by decide +kernel)
set_option maxRecDepth 65536 in
theorem w_c11 : (Jvm.Cond.code ({ cls := "java/lang/StringUTF16", name := "compress", desc := "([CII)[B" } : Jvm.MethodName) jdk_52_method_16_code (6 : Nat) (Option.some (Jvm.ClassFile.FieldType.array Jvm.ClassFile.FieldType.byte))).before args0 about1 = true := code_word (m := ⟨12, 2⟩) (meth := k12m2) (c := k12c2) (by decide +kernel) rfl rfl rfl (by decide +kernel)
set_option maxRecDepth 65536 in
theorem w_c12 : (Jvm.Cond.code ({ cls := "java/lang/StringUTF16", name := "compress", desc := "([CI[BII)I" } : Jvm.MethodName) jdk_52_method_21_code (7 : Nat) (Option.some Jvm.ClassFile.FieldType.int)).before args0 about1 = true := code_word (m := ⟨12, 3⟩) (meth := k12m3) (c := k12c3) (by decide +kernel) rfl rfl rfl (by decide +kernel)
set_option maxRecDepth 65536 in
theorem w_c13 : (Jvm.Cond.code ({ cls := "java/lang/StringUTF16", name := "coderFromArrayLen", desc := "([BI)B" } : Jvm.MethodName) jdk_52_method_15_code (2 : Nat) (Option.some Jvm.ClassFile.FieldType.byte)).before args0 about1 = true := code_word (m := ⟨12, 1⟩) (meth := k12m1) (c := k12c1) (by decide +kernel) rfl rfl rfl (by decide +kernel)
set_option maxRecDepth 65536 in
theorem w_c14 : (Jvm.Cond.code ({ cls := "java/lang/String", name := "valueOf", desc := "(C)Ljava/lang/String;" } : Jvm.MethodName) jdk_42_method_139_code (1 : Nat) (Option.some (Jvm.ClassFile.FieldType.object "java/lang/String"))).before args0 about1 = true := code_word (m := ⟨7, 3⟩) (meth := k7m3) (c := k7c3) (by decide +kernel) rfl rfl rfl (by decide +kernel)
set_option maxRecDepth 65536 in
theorem w_c15 : (Jvm.Cond.code ({ cls := "java/lang/StringLatin1", name := "canEncode", desc := "(C)Z" } : Jvm.MethodName) jdk_43_method_3_code (1 : Nat) (Option.some Jvm.ClassFile.FieldType.boolean)).before args0 about1 = true := code_word (m := ⟨11, 1⟩) (meth := k11m1) (c := k11c1) (by decide +kernel) rfl rfl rfl (by decide +kernel)
set_option maxRecDepth 65536 in
theorem w_c16 : (Jvm.Cond.code ({ cls := "java/lang/StringLatin1", name := "toBytes", desc := "(C)[B" } : Jvm.MethodName) jdk_43_method_46_code (1 : Nat) (Option.some (Jvm.ClassFile.FieldType.array Jvm.ClassFile.FieldType.byte))).before args0 about1 = true := code_word (m := ⟨11, 3⟩) (meth := k11m3) (c := k11c3) (by decide +kernel) rfl rfl rfl (by decide +kernel)
set_option maxRecDepth 65536 in
theorem w_c17 : (Jvm.Cond.code ({ cls := "java/lang/String", name := "<init>", desc := "([BB)V" } : Jvm.MethodName) jdk_42_method_151_code (3 : Nat) (Option.none : Option Jvm.ClassFile.FieldType)).before args0 about1 = true := code_word (m := ⟨7, 5⟩) (meth := k7m5) (c := k7c5) (by decide +kernel) rfl rfl rfl (by decide +kernel)
def codes1 : List Jvm.Cond := [Jvm.Cond.code x code maxLocals ret, Jvm.Cond.code ({ cls := "com/example/libcloak/libcloak/core/CatalogGroupEqualsPinLaw", name := "mk", desc := "(II)Ljava/lang/String;" } : Jvm.MethodName) method_2_code (3 : Nat) (Option.some (Jvm.ClassFile.FieldType.object "java/lang/String")), Jvm.Cond.code ({ cls := "java/lang/String", name := "<init>", desc := "([C)V" } : Jvm.MethodName) jdk_42_method_3_code (2 : Nat) (Option.none : Option Jvm.ClassFile.FieldType), Jvm.Cond.code ({ cls := "java/lang/String", name := "<init>", desc := "([CIILjava/lang/Void;)V" } : Jvm.MethodName) jdk_42_method_149_code (6 : Nat) (Option.none : Option Jvm.ClassFile.FieldType), Jvm.Cond.code ({ cls := "java/lang/Object", name := "<init>", desc := "()V" } : Jvm.MethodName) object_method_1_code (1 : Nat) (Option.none : Option Jvm.ClassFile.FieldType), Jvm.Cond.code ({ cls := "com/example/libcloak/libcloak/core/CatalogGroupEqualsPinLaw", name := "lvl", desc := "(I)Lcom/example/libcloak/libcloak/core/Level;" } : Jvm.MethodName) method_4_code (1 : Nat) (Option.some (Jvm.ClassFile.FieldType.object "com/example/libcloak/libcloak/core/Level")), Jvm.Cond.code ({ cls := "com/example/libcloak/libcloak/core/CatalogGroup", name := "<init>", desc := "(Ljava/lang/String;Lcom/example/libcloak/libcloak/core/Level;Ljava/lang/String;Z)V" } : Jvm.MethodName) prog_9_method_3_code (5 : Nat) (Option.none : Option Jvm.ClassFile.FieldType), Jvm.Cond.code ({ cls := "com/example/libcloak/libcloak/core/CatalogGroupEqualsPinLaw", name := "sameStr", desc := "(IIII)Z" } : Jvm.MethodName) method_3_code (4 : Nat) (Option.some Jvm.ClassFile.FieldType.boolean), Jvm.Cond.code ({ cls := "com/example/libcloak/libcloak/core/CatalogGroup", name := "equals", desc := "(Ljava/lang/Object;)Z" } : Jvm.MethodName) prog_9_method_9_code (3 : Nat) (Option.some Jvm.ClassFile.FieldType.boolean), Jvm.Cond.code ({ cls := "java/lang/String", name := "equals", desc := "(Ljava/lang/Object;)Z" } : Jvm.MethodName) jdk_42_method_66_code (3 : Nat) (Option.some Jvm.ClassFile.FieldType.boolean), Jvm.Cond.code ({ cls := "java/lang/StringLatin1", name := "equals", desc := "([B[B)Z" } : Jvm.MethodName) jdk_43_method_13_code (3 : Nat) (Option.some Jvm.ClassFile.FieldType.boolean), Jvm.Cond.code ({ cls := "java/lang/StringUTF16", name := "compress", desc := "([CII)[B" } : Jvm.MethodName) jdk_52_method_16_code (6 : Nat) (Option.some (Jvm.ClassFile.FieldType.array Jvm.ClassFile.FieldType.byte)), Jvm.Cond.code ({ cls := "java/lang/StringUTF16", name := "compress", desc := "([CI[BII)I" } : Jvm.MethodName) jdk_52_method_21_code (7 : Nat) (Option.some Jvm.ClassFile.FieldType.int), Jvm.Cond.code ({ cls := "java/lang/StringUTF16", name := "coderFromArrayLen", desc := "([BI)B" } : Jvm.MethodName) jdk_52_method_15_code (2 : Nat) (Option.some Jvm.ClassFile.FieldType.byte), Jvm.Cond.code ({ cls := "java/lang/String", name := "valueOf", desc := "(C)Ljava/lang/String;" } : Jvm.MethodName) jdk_42_method_139_code (1 : Nat) (Option.some (Jvm.ClassFile.FieldType.object "java/lang/String")), Jvm.Cond.code ({ cls := "java/lang/StringLatin1", name := "canEncode", desc := "(C)Z" } : Jvm.MethodName) jdk_43_method_3_code (1 : Nat) (Option.some Jvm.ClassFile.FieldType.boolean), Jvm.Cond.code ({ cls := "java/lang/StringLatin1", name := "toBytes", desc := "(C)[B" } : Jvm.MethodName) jdk_43_method_46_code (1 : Nat) (Option.some (Jvm.ClassFile.FieldType.array Jvm.ClassFile.FieldType.byte)), Jvm.Cond.code ({ cls := "java/lang/String", name := "<init>", desc := "([BB)V" } : Jvm.MethodName) jdk_42_method_151_code (3 : Nat) (Option.none : Option Jvm.ClassFile.FieldType)]
set_option maxRecDepth 65536 in
theorem codes_eq : words1.filter isCode = codes1 := rfl
theorem w_codes : ∀ c ∈ words1.filter isCode, c.before args0 about1 = true := by
  rw [codes_eq]
  intro c hc
  simp only [codes1, List.mem_cons, List.not_mem_nil, or_false] at hc
  rcases hc with rfl | rfl | rfl | rfl | rfl | rfl | rfl | rfl | rfl | rfl | rfl | rfl | rfl | rfl | rfl | rfl | rfl | rfl
  · exact w_c0
  · exact w_c1
  · exact w_c2
  · exact w_c3
  · exact w_c4
  · exact w_c5
  · exact w_c6
  · exact w_c7
  · exact w_c8
  · exact w_c9
  · exact w_c10
  · exact w_c11
  · exact w_c12
  · exact w_c13
  · exact w_c14
  · exact w_c15
  · exact w_c16
  · exact w_c17
set_option maxRecDepth 65536 in
theorem w_t1 : (words1.take 24).all (fun c => isCode c || c.before args0 about1) = true := by decide +kernel
set_option maxRecDepth 65536 in
theorem w_t2 : ((words1.drop 24).take 24).all (fun c => isCode c || c.before args0 about1) = true := by decide +kernel
set_option maxRecDepth 65536 in
theorem w_t3 : (((words1.drop 24).drop 24).take 24).all (fun c => isCode c || c.before args0 about1) = true := by decide +kernel
set_option maxRecDepth 65536 in
theorem w_t4 : ((((words1.drop 24).drop 24).drop 24).take 24).all (fun c => isCode c || c.before args0 about1) = true := by decide +kernel
set_option maxRecDepth 65536 in
theorem w_t5 : ((((words1.drop 24).drop 24).drop 24).drop 24).all (fun c => isCode c || c.before args0 about1) = true := by decide +kernel
theorem w_tables : (allAtoms (Jvm.Cond.code x code maxLocals ret :: tables_1)).before args0 about1 = true := by
  rw [allAtoms_all]
  show words1.all (fun c => c.before args0 about1) = true
  refine all_split ?_ w_codes
  rw [← List.take_append_drop 24 words1, List.all_append, w_t1, ← List.take_append_drop 24 (words1.drop 24), List.all_append, w_t2, ← List.take_append_drop 24 ((words1.drop 24).drop 24), List.all_append, w_t3, ← List.take_append_drop 24 (((words1.drop 24).drop 24).drop 24), List.all_append, w_t4, w_t5]
  rfl
set_option maxRecDepth 65536 in
theorem w_rest : rest_1_c.before args0 about1 = true := by decide +kernel
set_option maxRecDepth 65536 in
theorem w_case : (Jvm.Cond.and given_1 narrow_1).before args0 about1 = true := by decide +kernel
set_option maxRecDepth 65536 in
theorem w_consts : constsHeld consts_1 about1 := Jvm.Lit.constsHeldB_iff.mp (by decide +kernel)
theorem w_applies : (headSpec (Jvm.Cond.code x code maxLocals ret :: tables_1) room_1).applies x e0.platform about1 = true :=
  (Spec.applies_iff w_frames).mpr ⟨w_running, w_runnable, w_alone, w_named, w_hears, w_ripe, w_room, w_tables⟩
theorem atStart : AtStart classFile x code maxLocals ret World_1 tables_1 room_1 Calls_1 rest_1 Pre_1 launch0 p0 e0 about1 theMethod args0 below0 :=
  ⟨lists_1, trivial, launch0.admits_env _ _ _, launch0.least_env, fairChoices_fair.cas, fairChoices_fair.clock, w_frames, w_args, w_heap, w_applies, ⟨w_consts, trivial⟩, w_rest, w_case⟩
end start1
theorem witness_1 : WitnessClaimed_1 := ⟨start1.p0, start1.e0, start1.about1, start1.theMethod, start1.args0, start1.below0, start1.atStart⟩
end Jvm.Pilot.@@N@@
